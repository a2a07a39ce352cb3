import PyProof.Rows.All
import Wide.All
import Open.Line
import OpenK.KMeth
import OpenK.KDict
import OpenK.KCls
import PyProof.CodeObjX
import PyProof.DefMake
import PySem.Challenge.RW_ta0106_01
open PySem PySem.W PyProof.Rows
set_option Elab.async false
set_option linter.all false
set_option maxRecDepth 100000
set_option genInjectivity false
set_option genSizeOf false
set_option compiler.extract_closed false
set_option maxHeartbeats 0
namespace Mine
def AA:=@List.length_map
def AB:=@List.map_map
def AD:=@Nat.le_trans
def AE:=@Nat.le_of_ble_eq_true
def AF:=@List.mem_map
def AG:=@List.mem_singleton
def AH:=@Heap.get?_push_size
def AI:=@List.map_cons
def AJ:=@List.mem_cons
def AK:=@List.lookup_cons
def AL:=@List.getElem?_map
def AM:=@List.length_drop
def AN:=@List.getD_eq_getElem?_getD
def AO:=@Heap.get?_push_of_some
def AP:=@List.getElem?_eq_some_iff
def AQ:=@List.mem_of_getElem?
def AR:=@Bool.false_eq_true
def AS:=@Option.map_eq_some_iff
def AU:=@List.getElem?_eq_getElem
def AV:=@List.length_filter_le
def AW:=@List.map_congr_left
def AX:=@List.flatMap_cons
def AY:=@List.size_toArray
def AZ:=@List.length_cons
def Aa:=@Nat.lt_irrefl
def Ab:=@List.mem_map_of_mem
def Ac:=@List.length_append
def Ad:=@Nat.le_refl
def Ae:=@List.length_take
def Af:=@List.map_append
def Ag:=@Heap.lt_size
def Ah:=@List.all_eq_true
def Ai:=@Nat.lt_of_lt_of_le
def Aj:=@List.mem_of_mem_drop
def Ak:=@List.flatMap_def
def Al:=@Nat.zero_le
def Am:=@List.mem_flatMap
def An:=@List.not_mem_nil
def Ao:=@wpAny_execs_cons
def Ap:=@typeLookup_type
def Aq:=@List.any_eq_true
def Ar:=@List.mem_append
def As:=@List.foldl_cons
def Au:=@List.length_reverse
def Av:=@beq_eq_false_iff_ne
def Aw:=@Nat.le_add_right_of_le
def Ax:=@PyProof.Rows.callWith_type1
def Ay:=@List.mem_of_mem_take
def Az:=@List.mem_filter
def A1:=@Nat.le_add_left
def A3:=@List.take_add_one
def A4:=@Nat.le_of_lt
def A5:=@Nat.le_of_succ_le
def A6:=@Option.isSome_iff_exists
def A7:=@codeAny_call_function
def A8:=@List.filter_cons
def A9:=@Nat.min_le_right
def BA:=@Nat.lt_of_le_of_lt
def BB:=@List.mem_range
def BC:=@List.sum_cons
def BD:=@Int.natCast_nonneg
def BE:=@Nat.lt_of_lt_of_eq
def BF:=@List.take_length
def BG:=@PyProof.Rows.callWith_def
def BH:=@List.foldl_append
def BI:=@PyProof.Rows.callWith_method1
def BJ:=@Heap.get?_update_self
def BK:=@List.getElem?_toArray
def BL:=@Nat.eq_of_beq_eq_true
def BM:=@Nat.le_of_eq
def BN:=@Nat.sub_le
def BO:=@List.drop_eq_nil_iff
def BP:=@List.map_flatMap
def BQ:=@PyProof.Rows.Attribute_any_
def BR:=@List.length_flatMap
def BS:=@List.length_nil
def BT:=@List.nil_append
def BU:=@Nat.min_le_left
def BV:=@Option.some.inj
def BW:=@Array.getElem?_eq_getElem
abbrev BZ:=List Nat
abbrev CH:=Value->Shared->Prop
abbrev DW:=List Value
abbrev Cy:=List Expr
abbrev B3:=List Str
abbrev CG:=Addr->Prop
abbrev Eo:=Heap->Prop
abbrev Ct:=Value->Heap->Prop
abbrev Di:=List (Str×Value)
abbrev Ci:=List (Str×Str)
abbrev EU:=Unit->Shared->Prop
abbrev EB:=List (Nat×List Nat)
abbrev Ed:=List Comprehension
abbrev Dy:=List Stmt
abbrev Hx:=Str->Option Value
variable {w:World}{k:Nat}{X X' W:CG}{x:Str}{e l r o:Expr}{s:Shared}{A:Around}{E Q:CH}{α:Type}{a:Addr}{v:Value}{vs:DW}{scope:Scope}{cs:BZ}{pos:Pos}{m:Hx}{h h':Heap}
@[elab_as_elim] theorem ou{α:Sort _}{a b:α}{p:α->Prop}(h:a=b)(m:p b):p a:=h▸m
@[elab_as_elim] theorem vr{α:Sort _}{a b:α}{p:α->Prop}(h:a=b)(m:p a):p b:=h▸m
theorem Fo{α:Type _}{xs ys:List α}(is:BZ)(h:is.map (λi=>ys[i]?)=xs.map some):∀p,p∈xs->p∈ys:=λp hp=>
 have q:some p∈is.map (λi=>ys[i]?):=h▸AF.mpr ⟨p,hp,rfl⟩;(AF.mp q).elim λV z=>AQ z.2
theorem c9{α:Type _}{p:α->Prop}:∀x,x∈[]->p x:=λV h=>absurd h An
theorem Ia{α:Type _}{p:α->Prop}{a:α}{l:List α}(h:p a)(k:∀x,x∈l->p x):∀x,x∈a::l->p x:=List.forall_mem_cons.mpr ⟨h,k⟩
theorem lb{a b c:Nat}(h:a<=b)(k:Nat.ble b c=true):a<=c:=AD h (AE k)
theorem Je{a b d c:Nat}(e:a=d)(h:d<=b)(k:Nat.ble b c=true):a<=c:=e▸lb h k
theorem dj{a b c n:Nat}(h:a<=b)(k:Nat.ble b c=true):a-n<=c:=AD (BN _ _) (lb h k)
theorem uy{a b c:Nat}(h:a<=b)(k:Nat.blt b c=true):a<c:=BA h (AE k)
theorem kD{a b c:Nat}(h:a<b)(k:Nat.ble b c=true):a<c:=AD h (AE k)
theorem qq{a b c n:Nat}(h:a<=b)(k:Nat.ble b c=true):min a n<=c:=AD (BU _ _) (lb h k)
theorem u7{a b c n:Nat}(h:a<=b)(k:Nat.ble b c=true):min n a<=c:=AD (A9 _ _) (lb h k)
theorem iD{a b c n:Nat}(h:a<=b)(k:Nat.ble (n*b) c=true):n*a<=c:=AD (Nat.mul_le_mul_left n h) (AE k)
theorem qn{a b:Nat}{c:Int}(h:a<=b)(k:decide ((b:Int)<c)=true):(a:Int)<c:=Int.lt_of_le_of_lt (Int.ofNat_le.mpr h) (of_decide_eq_true k)
theorem qo{a b:Nat}{c:Int}(h:a<=b)(k:decide ((b:Int)<c)=true):¬(a:Int)≥c:=Int.not_le.mpr (qn h k)
theorem u5{x a b c:Int}(h:0<=x/\x<a)(k:decide (b<0/\a<=c)=true):b<x/\x<c:=⟨Int.lt_of_lt_of_le (of_decide_eq_true k).1 h.1,Int.lt_of_lt_of_le h.2 (of_decide_eq_true k).2⟩
theorem u6{x a c:Int}(h:0<=x/\x<a)(k:decide (a<=c)=true):0<=x/\x<c:=⟨h.1,Int.lt_of_lt_of_le h.2 (of_decide_eq_true k)⟩
theorem g9{a b c d n:Nat}(h:a<=n)(h':b<=d)(k:Nat.ble (n+d) c=true):a+b<=c:=AD (Nat.add_le_add h h') (AE k)
theorem dh{a n m:Nat}(k:Nat.blt n m=true):a+n<a+m:=Nat.add_lt_add_left (AE k) a
theorem w2{a b:Nat}(k:Nat.ble a b=true):a<=b:=AE k
theorem YL{a b d c:Nat}(e:a+1=d)(h:d<=b)(k:Nat.ble b (c+1)=true):a<=c:=Nat.le_of_succ_le_succ (show a+1<=c+1 from e.symm▸lb h k)
theorem qu{a b n:Nat}(h:a<=k)(i:b<=k*n):a+b<=k*(n+1):=Nat.add_comm a b▸Nat.add_le_add i h
theorem iI{α:Type _}{a:α}{l:List α}(i:Nat)(h:l[i]? = some a):a∈l:=AQ h
@[elab_as_elim] theorem Sd{α:Type _}{p:α->Prop}{x a0 a1:α}(hb:x∈[a0,a1])(h0:p a0)(h1:p a1):p x:=(Ia h0 (Ia h1 c9)) x hb
@[elab_as_elim] theorem lE{α:Type _}{p:α->Prop}{x a0 a1 a2:α}(hb:x∈[a0,a1,a2])(h0:p a0)(h1:p a1)(h2:p a2):p x:=(Ia h0 (Ia h1 (Ia h2 c9))) x hb
@[elab_as_elim] theorem dA{α:Type _}{p:α->Prop}{x a0 a1 a2 a3:α}(hb:x∈[a0,a1,a2,a3])(h0:p a0)(h1:p a1)(h2:p a2)(h3:p a3):p x:=(Ia h0 (Ia h1 (Ia h2 (Ia h3 c9)))) x hb
@[elab_as_elim] theorem eN{α:Type _}{p:α->Prop}{x a0 a1 a2 a3 a4:α}(hb:x∈[a0,a1,a2,a3,a4])(h0:p a0)(h1:p a1)(h2:p a2)(h3:p a3)(h4:p a4):p x:=(Ia h0 (Ia h1 (Ia h2 (Ia h3 (Ia h4 c9))))) x hb
@[elab_as_elim] theorem sF{α:Type _}{p:α->Prop}{x a0 a1 a2 a3 a4 a5:α}(hb:x∈[a0,a1,a2,a3,a4,a5])(h0:p a0)(h1:p a1)(h2:p a2)(h3:p a3)(h4:p a4)(h5:p a5):p x:=(Ia h0 (Ia h1 (Ia h2 (Ia h3 (Ia h4 (Ia h5 c9)))))) x hb
@[elab_as_elim] theorem pI{α:Type _}{p:α->Prop}{x a0 a1 a2 a3 a4 a5 a6:α}(hb:x∈[a0,a1,a2,a3,a4,a5,a6])(h0:p a0)(h1:p a1)(h2:p a2)(h3:p a3)(h4:p a4)(h5:p a5)(h6:p a6):p x:=(Ia h0 (Ia h1 (Ia h2 (Ia h3 (Ia h4 (Ia h5 (Ia h6 c9))))))) x hb
theorem CC{p0 p1:Prop}{G:Prop}(h:p0/\p1)(k:p0->p1->G):G:=by obtain⟨h0,h1⟩:=h;exact k h0 h1
theorem FP{p0 p1 p2:Prop}{G:Prop}(h:p0/\p1/\p2)(k:p0->p1->p2->G):G:=by obtain⟨h0,h1,h2⟩:=h;exact k h0 h1 h2
theorem Hv{p0 p1 p2 p3:Prop}{G:Prop}(h:p0/\p1/\p2/\p3)(k:p0->p1->p2->p3->G):G:=by obtain⟨h0,h1,h2,h3⟩:=h;exact k h0 h1 h2 h3
theorem oL{p0 p1 p2 p3 p4:Prop}{G:Prop}(h:p0/\p1/\p2/\p3/\p4)(k:p0->p1->p2->p3->p4->G):G:=by obtain⟨h0,h1,h2,h3,h4⟩:=h;exact k h0 h1 h2 h3 h4
theorem oM{p0 p1 p2 p3 p4 p5:Prop}{G:Prop}(h:p0/\p1/\p2/\p3/\p4/\p5)(k:p0->p1->p2->p3->p4->p5->G):G:=by obtain⟨h0,h1,h2,h3,h4,h5⟩:=h;exact k h0 h1 h2 h3 h4 h5
theorem B6{α0:Sort _}{p0:α0->Prop}{G:Prop}(h:∃x0,p0 x0)(k:∀x0,p0 x0->G):G:=by obtain⟨x0,h0⟩:=h;exact k x0 h0
theorem Bi{α0:Sort _}{p0 p1:α0->Prop}{G:Prop}(h:∃x0,p0 x0/\p1 x0)(k:∀x0,p0 x0->p1 x0->G):G:=by obtain⟨x0,h0,h1⟩:=h;exact k x0 h0 h1
theorem EJ{α0:Sort _}{p0 p1 p2:α0->Prop}{G:Prop}(h:∃x0,p0 x0/\p1 x0/\p2 x0)(k:∀x0,p0 x0->p1 x0->p2 x0->G):G:=by obtain⟨x0,h0,h1,h2⟩:=h;exact k x0 h0 h1 h2
theorem UI{α0:Sort _}{p0 p1 p2 p3:α0->Prop}{G:Prop}(h:∃x0,p0 x0/\p1 x0/\p2 x0/\p3 x0)(k:∀x0,p0 x0->p1 x0->p2 x0->p3 x0->G):G:=by obtain⟨x0,h0,h1,h2,h3⟩:=h;exact k x0 h0 h1 h2 h3
theorem XA{α0:Sort _}{p0 p1 p2 p3 p4:α0->Prop}{G:Prop}(h:∃x0,p0 x0/\p1 x0/\p2 x0/\p3 x0/\p4 x0)(k:∀x0,p0 x0->p1 x0->p2 x0->p3 x0->p4 x0->G):G:=by obtain⟨x0,h0,h1,h2,h3,h4⟩:=h;exact k x0 h0 h1 h2 h3 h4
theorem rA{α0:Sort _}{p0 p1 p2 p3 p4 p5 p6:α0->Prop}{G:Prop}(h:∃x0,p0 x0/\p1 x0/\p2 x0/\p3 x0/\p4 x0/\p5 x0/\p6 x0)(k:∀x0,p0 x0->p1 x0->p2 x0->p3 x0->p4 x0->p5 x0->p6 x0->G):G:=by obtain⟨x0,h0,h1,h2,h3,h4,h5,h6⟩:=h;exact k x0 h0 h1 h2 h3 h4 h5 h6
theorem oO{α0:Sort _}{p0 p1 p2 p3 p4 p5 p6 p7:α0->Prop}{G:Prop}(h:∃x0,p0 x0/\p1 x0/\p2 x0/\p3 x0/\p4 x0/\p5 x0/\p6 x0/\p7 x0)(k:∀x0,p0 x0->p1 x0->p2 x0->p3 x0->p4 x0->p5 x0->p6 x0->p7 x0->G):G:=by obtain⟨x0,h0,h1,h2,h3,h4,h5,h6,h7⟩:=h;exact k x0 h0 h1 h2 h3 h4 h5 h6 h7
theorem MC{α0:Sort _}{α1:Sort _}{p0:α0->α1->Prop}{G:Prop}(h:∃x0 x1,p0 x0 x1)(k:∀x0 x1,p0 x0 x1->G):G:=by obtain⟨x0,x1,h0⟩:=h;exact k x0 x1 h0
theorem Fq{α0:Sort _}{α1:Sort _}{p0 p1:α0->α1->Prop}{G:Prop}(h:∃x0 x1,p0 x0 x1/\p1 x0 x1)(k:∀x0 x1,p0 x0 x1->p1 x0 x1->G):G:=by obtain⟨x0,x1,h0,h1⟩:=h;exact k x0 x1 h0 h1
theorem Du{α0:Sort _}{α1:Sort _}{p0 p1 p2:α0->α1->Prop}{G:Prop}(h:∃x0 x1,p0 x0 x1/\p1 x0 x1/\p2 x0 x1)(k:∀x0 x1,p0 x0 x1->p1 x0 x1->p2 x0 x1->G):G:=by obtain⟨x0,x1,h0,h1,h2⟩:=h;exact k x0 x1 h0 h1 h2
theorem dw{α0:Sort _}{α1:Sort _}{p0 p1 p2 p3:α0->α1->Prop}{G:Prop}(h:∃x0 x1,p0 x0 x1/\p1 x0 x1/\p2 x0 x1/\p3 x0 x1)(k:∀x0 x1,p0 x0 x1->p1 x0 x1->p2 x0 x1->p3 x0 x1->G):G:=by obtain⟨x0,x1,h0,h1,h2,h3⟩:=h;exact k x0 x1 h0 h1 h2 h3
theorem Qg{α0:Sort _}{α1:Sort _}{p0 p1 p2 p3 p4:α0->α1->Prop}{G:Prop}(h:∃x0 x1,p0 x0 x1/\p1 x0 x1/\p2 x0 x1/\p3 x0 x1/\p4 x0 x1)(k:∀x0 x1,p0 x0 x1->p1 x0 x1->p2 x0 x1->p3 x0 x1->p4 x0 x1->G):G:=by obtain⟨x0,x1,h0,h1,h2,h3,h4⟩:=h;exact k x0 x1 h0 h1 h2 h3 h4
theorem V8{α0:Sort _}{α1:Sort _}{p0 p1 p2 p3 p4 p5:α0->α1->Prop}{G:Prop}(h:∃x0 x1,p0 x0 x1/\p1 x0 x1/\p2 x0 x1/\p3 x0 x1/\p4 x0 x1/\p5 x0 x1)(k:∀x0 x1,p0 x0 x1->p1 x0 x1->p2 x0 x1->p3 x0 x1->p4 x0 x1->p5 x0 x1->G):G:=by obtain⟨x0,x1,h0,h1,h2,h3,h4,h5⟩:=h;exact k x0 x1 h0 h1 h2 h3 h4 h5
theorem kI{α0:Sort _}{α1:Sort _}{p0 p1 p2 p3 p4 p5 p6:α0->α1->Prop}{G:Prop}(h:∃x0 x1,p0 x0 x1/\p1 x0 x1/\p2 x0 x1/\p3 x0 x1/\p4 x0 x1/\p5 x0 x1/\p6 x0 x1)(k:∀x0 x1,p0 x0 x1->p1 x0 x1->p2 x0 x1->p3 x0 x1->p4 x0 x1->p5 x0 x1->p6 x0 x1->G):G:=by obtain⟨x0,x1,h0,h1,h2,h3,h4,h5,h6⟩:=h;exact k x0 x1 h0 h1 h2 h3 h4 h5 h6
theorem rB{α0:Sort _}{α1:Sort _}{p0 p1 p2 p3 p4 p5 p6 p7:α0->α1->Prop}{G:Prop}(h:∃x0 x1,p0 x0 x1/\p1 x0 x1/\p2 x0 x1/\p3 x0 x1/\p4 x0 x1/\p5 x0 x1/\p6 x0 x1/\p7 x0 x1)(k:∀x0 x1,p0 x0 x1->p1 x0 x1->p2 x0 x1->p3 x0 x1->p4 x0 x1->p5 x0 x1->p6 x0 x1->p7 x0 x1->G):G:=by obtain⟨x0,x1,h0,h1,h2,h3,h4,h5,h6,h7⟩:=h;exact k x0 x1 h0 h1 h2 h3 h4 h5 h6 h7
theorem bo{α0:Sort _}{α1:Sort _}{p0 p1 p2 p3 p4 p5 p6 p7 p8 p9:α0->α1->Prop}{G:Prop}(h:∃x0 x1,p0 x0 x1/\p1 x0 x1/\p2 x0 x1/\p3 x0 x1/\p4 x0 x1/\p5 x0 x1/\p6 x0 x1/\p7 x0 x1/\p8 x0 x1/\p9 x0 x1)(k:∀x0 x1,p0 x0 x1->p1 x0 x1->p2 x0 x1->p3 x0 x1->p4 x0 x1->p5 x0 x1->p6 x0 x1->p7 x0 x1->p8 x0 x1->p9 x0 x1->G):G:=by obtain⟨x0,x1,h0,h1,h2,h3,h4,h5,h6,h7,h8,h9⟩:=h;exact k x0 x1 h0 h1 h2 h3 h4 h5 h6 h7 h8 h9
theorem bq{α0:Sort _}{α1:Sort _}{α2:Sort _}{p0:α0->α1->α2->Prop}{G:Prop}(h:∃x0 x1 x2,p0 x0 x1 x2)(k:∀x0 x1 x2,p0 x0 x1 x2->G):G:=by obtain⟨x0,x1,x2,h0⟩:=h;exact k x0 x1 x2 h0
theorem Ju{α0:Sort _}{α1:Sort _}{α2:Sort _}{p0 p1:α0->α1->α2->Prop}{G:Prop}(h:∃x0 x1 x2,p0 x0 x1 x2/\p1 x0 x1 x2)(k:∀x0 x1 x2,p0 x0 x1 x2->p1 x0 x1 x2->G):G:=by obtain⟨x0,x1,x2,h0,h1⟩:=h;exact k x0 x1 x2 h0 h1
theorem Mo{α0:Sort _}{α1:Sort _}{α2:Sort _}{p0 p1 p2:α0->α1->α2->Prop}{G:Prop}(h:∃x0 x1 x2,p0 x0 x1 x2/\p1 x0 x1 x2/\p2 x0 x1 x2)(k:∀x0 x1 x2,p0 x0 x1 x2->p1 x0 x1 x2->p2 x0 x1 x2->G):G:=by obtain⟨x0,x1,x2,h0,h1,h2⟩:=h;exact k x0 x1 x2 h0 h1 h2
theorem V9{α0:Sort _}{α1:Sort _}{α2:Sort _}{p0 p1 p2 p3:α0->α1->α2->Prop}{G:Prop}(h:∃x0 x1 x2,p0 x0 x1 x2/\p1 x0 x1 x2/\p2 x0 x1 x2/\p3 x0 x1 x2)(k:∀x0 x1 x2,p0 x0 x1 x2->p1 x0 x1 x2->p2 x0 x1 x2->p3 x0 x1 x2->G):G:=by obtain⟨x0,x1,x2,h0,h1,h2,h3⟩:=h;exact k x0 x1 x2 h0 h1 h2 h3
theorem rC{α0:Sort _}{α1:Sort _}{α2:Sort _}{p0 p1 p2 p3 p4:α0->α1->α2->Prop}{G:Prop}(h:∃x0 x1 x2,p0 x0 x1 x2/\p1 x0 x1 x2/\p2 x0 x1 x2/\p3 x0 x1 x2/\p4 x0 x1 x2)(k:∀x0 x1 x2,p0 x0 x1 x2->p1 x0 x1 x2->p2 x0 x1 x2->p3 x0 x1 x2->p4 x0 x1 x2->G):G:=by obtain⟨x0,x1,x2,h0,h1,h2,h3,h4⟩:=h;exact k x0 x1 x2 h0 h1 h2 h3 h4
theorem Zh{α0:Sort _}{α1:Sort _}{α2:Sort _}{p0 p1 p2 p3 p4 p5:α0->α1->α2->Prop}{G:Prop}(h:∃x0 x1 x2,p0 x0 x1 x2/\p1 x0 x1 x2/\p2 x0 x1 x2/\p3 x0 x1 x2/\p4 x0 x1 x2/\p5 x0 x1 x2)(k:∀x0 x1 x2,p0 x0 x1 x2->p1 x0 x1 x2->p2 x0 x1 x2->p3 x0 x1 x2->p4 x0 x1 x2->p5 x0 x1 x2->G):G:=by obtain⟨x0,x1,x2,h0,h1,h2,h3,h4,h5⟩:=h;exact k x0 x1 x2 h0 h1 h2 h3 h4 h5
theorem rD{α0:Sort _}{α1:Sort _}{α2:Sort _}{α3:Sort _}{p0:α0->α1->α2->α3->Prop}{G:Prop}(h:∃x0 x1 x2 x3,p0 x0 x1 x2 x3)(k:∀x0 x1 x2 x3,p0 x0 x1 x2 x3->G):G:=by obtain⟨x0,x1,x2,x3,h0⟩:=h;exact k x0 x1 x2 x3 h0
theorem kJ{α0:Sort _}{α1:Sort _}{α2:Sort _}{α3:Sort _}{p0 p1:α0->α1->α2->α3->Prop}{G:Prop}(h:∃x0 x1 x2 x3,p0 x0 x1 x2 x3/\p1 x0 x1 x2 x3)(k:∀x0 x1 x2 x3,p0 x0 x1 x2 x3->p1 x0 x1 x2 x3->G):G:=by obtain⟨x0,x1,x2,x3,h0,h1⟩:=h;exact k x0 x1 x2 x3 h0 h1
theorem iX{α0:Sort _}{α1:Sort _}{α2:Sort _}{α3:Sort _}{p0 p1 p2:α0->α1->α2->α3->Prop}{G:Prop}(h:∃x0 x1 x2 x3,p0 x0 x1 x2 x3/\p1 x0 x1 x2 x3/\p2 x0 x1 x2 x3)(k:∀x0 x1 x2 x3,p0 x0 x1 x2 x3->p1 x0 x1 x2 x3->p2 x0 x1 x2 x3->G):G:=by obtain⟨x0,x1,x2,x3,h0,h1,h2⟩:=h;exact k x0 x1 x2 x3 h0 h1 h2
theorem Yb{α0:Sort _}{α1:Sort _}{α2:Sort _}{α3:Sort _}{p0 p1 p2 p3:α0->α1->α2->α3->Prop}{G:Prop}(h:∃x0 x1 x2 x3,p0 x0 x1 x2 x3/\p1 x0 x1 x2 x3/\p2 x0 x1 x2 x3/\p3 x0 x1 x2 x3)(k:∀x0 x1 x2 x3,p0 x0 x1 x2 x3->p1 x0 x1 x2 x3->p2 x0 x1 x2 x3->p3 x0 x1 x2 x3->G):G:=by obtain⟨x0,x1,x2,x3,h0,h1,h2,h3⟩:=h;exact k x0 x1 x2 x3 h0 h1 h2 h3
theorem kK{α0:Sort _}{α1:Sort _}{α2:Sort _}{α3:Sort _}{p0 p1 p2 p3 p4:α0->α1->α2->α3->Prop}{G:Prop}(h:∃x0 x1 x2 x3,p0 x0 x1 x2 x3/\p1 x0 x1 x2 x3/\p2 x0 x1 x2 x3/\p3 x0 x1 x2 x3/\p4 x0 x1 x2 x3)(k:∀x0 x1 x2 x3,p0 x0 x1 x2 x3->p1 x0 x1 x2 x3->p2 x0 x1 x2 x3->p3 x0 x1 x2 x3->p4 x0 x1 x2 x3->G):G:=by obtain⟨x0,x1,x2,x3,h0,h1,h2,h3,h4⟩:=h;exact k x0 x1 x2 x3 h0 h1 h2 h3 h4
theorem rE{α0:Sort _}{α1:Sort _}{α2:Sort _}{α3:Sort _}{p0 p1 p2 p3 p4 p5:α0->α1->α2->α3->Prop}{G:Prop}(h:∃x0 x1 x2 x3,p0 x0 x1 x2 x3/\p1 x0 x1 x2 x3/\p2 x0 x1 x2 x3/\p3 x0 x1 x2 x3/\p4 x0 x1 x2 x3/\p5 x0 x1 x2 x3)(k:∀x0 x1 x2 x3,p0 x0 x1 x2 x3->p1 x0 x1 x2 x3->p2 x0 x1 x2 x3->p3 x0 x1 x2 x3->p4 x0 x1 x2 x3->p5 x0 x1 x2 x3->G):G:=by obtain⟨x0,x1,x2,x3,h0,h1,h2,h3,h4,h5⟩:=h;exact k x0 x1 x2 x3 h0 h1 h2 h3 h4 h5
theorem rF{α0:Sort _}{α1:Sort _}{α2:Sort _}{α3:Sort _}{p0 p1 p2 p3 p4 p5 p6 p7:α0->α1->α2->α3->Prop}{G:Prop}(h:∃x0 x1 x2 x3,p0 x0 x1 x2 x3/\p1 x0 x1 x2 x3/\p2 x0 x1 x2 x3/\p3 x0 x1 x2 x3/\p4 x0 x1 x2 x3/\p5 x0 x1 x2 x3/\p6 x0 x1 x2 x3/\p7 x0 x1 x2 x3)(k:∀x0 x1 x2 x3,p0 x0 x1 x2 x3->p1 x0 x1 x2 x3->p2 x0 x1 x2 x3->p3 x0 x1 x2 x3->p4 x0 x1 x2 x3->p5 x0 x1 x2 x3->p6 x0 x1 x2 x3->p7 x0 x1 x2 x3->G):G:=by obtain⟨x0,x1,x2,x3,h0,h1,h2,h3,h4,h5,h6,h7⟩:=h;exact k x0 x1 x2 x3 h0 h1 h2 h3 h4 h5 h6 h7
theorem iY{α0:Sort _}{α1:Sort _}{α2:Sort _}{α3:Sort _}{α4:Sort _}{p0:α0->α1->α2->α3->α4->Prop}{G:Prop}(h:∃x0 x1 x2 x3 x4,p0 x0 x1 x2 x3 x4)(k:∀x0 x1 x2 x3 x4,p0 x0 x1 x2 x3 x4->G):G:=by obtain⟨x0,x1,x2,x3,x4,h0⟩:=h;exact k x0 x1 x2 x3 x4 h0
theorem Mp{α0:Sort _}{α1:Sort _}{α2:Sort _}{α3:Sort _}{α4:Sort _}{α5:Sort _}{α6:Sort _}{p0:α0->α1->α2->α3->α4->α5->α6->Prop}{G:Prop}(h:∃x0 x1 x2 x3 x4 x5 x6,p0 x0 x1 x2 x3 x4 x5 x6)(k:∀x0 x1 x2 x3 x4 x5 x6,p0 x0 x1 x2 x3 x4 x5 x6->G):G:=by obtain⟨x0,x1,x2,x3,x4,x5,x6,h0⟩:=h;exact k x0 x1 x2 x3 x4 x5 x6 h0
theorem vS{α0:Sort _}{α1:Sort _}{α2:Sort _}{α3:Sort _}{α4:Sort _}{α5:Sort _}{α6:Sort _}{p0 p1 p2 p3 p4:α0->α1->α2->α3->α4->α5->α6->Prop}{G:Prop}(h:∃x0 x1 x2 x3 x4 x5 x6,p0 x0 x1 x2 x3 x4 x5 x6/\p1 x0 x1 x2 x3 x4 x5 x6/\p2 x0 x1 x2 x3 x4 x5 x6/\p3 x0 x1 x2 x3 x4 x5 x6/\p4 x0 x1 x2 x3 x4 x5 x6)(k:∀x0 x1 x2 x3 x4 x5 x6,p0 x0 x1 x2 x3 x4 x5 x6->p1 x0 x1 x2 x3 x4 x5 x6->p2 x0 x1 x2 x3 x4 x5 x6->p3 x0 x1 x2 x3 x4 x5 x6->p4 x0 x1 x2 x3 x4 x5 x6->G):G:=by obtain⟨x0,x1,x2,x3,x4,x5,x6,h0,h1,h2,h3,h4⟩:=h;exact k x0 x1 x2 x3 x4 x5 x6 h0 h1 h2 h3 h4
theorem vR{α0:Sort _}{p0 p1 p2 p3 p4 p5:α0->Prop}{G:Prop}(h:∃x0,p0 x0/\p1 x0/\p2 x0/\p3 x0/\p4 x0/\p5 x0)(k:∀x0,p0 x0->p1 x0->p2 x0->p3 x0->p4 x0->p5 x0->G):G:=by obtain⟨x0,h0,h1,h2,h3,h4,h5⟩:=h;exact k x0 h0 h1 h2 h3 h4 h5
theorem je{a b:Nat}:min (a-b) a=a-b:=Nat.min_eq_left (BN a b)
theorem pJ{a b c d:Nat}(h:a<=d):min c (a-b)<=d:=AD (A9 _ _) (AD (BN _ _) h)
theorem pK{l p i:Nat}(h:i<l-p):p+(l-p-1-i)=l-1-i:=by
 rw[Nat.sub_right_comm l p 1,Nat.sub_right_comm (l-1) p i];exact Nat.add_sub_of_le (Nat.le_sub_of_add_le (Nat.le_sub_one_of_lt (Nat.add_lt_of_lt_sub' h)))
theorem pL{a i:Nat}(h:i<a):a-1-i<a:=BA (BN _ _) (Nat.sub_lt (Nat.zero_lt_of_lt h) Nat.one_pos)
theorem sG{a b p i:Nat}(h:i<min a b-p):i<a:=Ai h (AD (BN _ _) (BU _ _))
theorem sH{a b p i:Nat}(h:i<min a b-p):i<b:=Ai h (AD (BN _ _) (A9 _ _))
theorem sI{a b p i:Nat}(h:i<min a b-p):i<a-p:=Ai h (Nat.sub_le_sub_right (BU _ _) _)
theorem sJ{a b p i:Nat}(h:i<min a b-p):i<b-p:=Ai h (Nat.sub_le_sub_right (A9 _ _) _)
theorem pM{l p q i:Nat}(h:i<l-p-q):p+i<l:=Nat.add_lt_of_lt_sub' (Ai h (BN _ _))
theorem lF{n:Nat}(h:k<n):k+(n-(k+1))=n-1:=by
 rw[Nat.add_comm k 1,Nat.sub_add_eq];exact Nat.add_sub_of_le (Nat.le_sub_one_of_lt h)
theorem XI{n m p l:Nat}(h:k+m+41<=n)(q:p<=k)(e:l=n):m<l-p:=e▸Nat.lt_sub_of_add_lt (BA (AD (Nat.add_le_add_left q m) (BM (Nat.add_comm m k))) (Ai (Nat.lt_add_of_pos_right (Nat.succ_pos 40)) h))
theorem eO{n m p q x:Nat}(h:k+m+41<=n)(p1:p<=k)(p2:q<=m)(e:x=n-p-q):40<x:=by
 rw[e,Nat.sub_sub];exact Nat.le_sub_of_add_le (AD (AD (Nat.add_le_add_left (Nat.add_le_add p1 p2) 41) (BM (Nat.add_comm _ _))) h)
theorem lG{j c i:Nat}:c<=(j+1)*c+i:=Nat.succ_mul j c▸AD (A1 _ _) (Nat.le_add_right _ _)
theorem lH{j c i:Nat}:(j+1)*c+i-c=j*c+i:=by rw[Nat.succ_mul,Nat.add_right_comm,Nat.add_sub_cancel]
theorem XJ{n i:Nat}(hn:n=3\/n=4)(h:i<n):i<20*n/\n-1-i<20*n/\i+(n-1-i)+41<=20*n/\20*n-1-(n-1-i)=19*n+i:=by
 rcases hn with rfl|rfl<;>revert i<;>decide
theorem lI{n m i:Nat}(e:n-i=m+1):n-(i+1)=m:=by rw[Nat.sub_add_eq,e,Nat.add_sub_cancel]
theorem XK{n i:Nat}(h:i<n):n-i=n-i-1+1:=(Nat.sub_add_cancel (Nat.sub_pos_of_lt h)).symm
theorem Zz{m j:Nat}(h:j<=m)(k:m-j<m):j-1<j/\j-1<=m/\m-(j-1)=m-j+1:=by
 cases j with
 |zero=>exact absurd k (Aa _)
 |succ j=>exact⟨Nat.lt_succ_self j,A5 h,XK h⟩
theorem lJ{m j:Nat}(k:¬m-j<m):m-j=m:=Nat.le_antisymm (BN _ _) (Nat.le_of_not_lt k)
theorem lK{A O L D:Nat}(h:D<=O):A+O+L-D=A+(O-D)+L:=by
 refine(Nat.le.dest h).elim λx hx=>?_;subst hx;rw[Nat.add_sub_cancel_left,Nat.add_left_comm,Nat.add_assoc D,Nat.add_sub_cancel_left]
@[elab_as_elim] theorem w3{p:Nat->Prop}{i:Nat}(h:i<4)(h0:p 0)(h1:p 1)(h2:p 2)(h3:p 3):p i:=dA (show i∈[0,1,2,3]from(BB.mpr h:i∈List.range 4)) h0 h1 h2 h3
@[elab_as_elim] theorem n9{p:Nat->Prop}{i:Nat}(h:i<5)(h0:p 0)(h1:p 1)(h2:p 2)(h3:p 3)(h4:p 4):p i:=eN (show i∈[0,1,2,3,4]from(BB.mpr h:i∈List.range 5)) h0 h1 h2 h3 h4
@[elab_as_elim] theorem u9{p:Nat->Prop}{i:Nat}(h:i<6)(h0:p 0)(h1:p 1)(h2:p 2)(h3:p 3)(h4:p 4)(h5:p 5):p i:=sF (show i∈[0,1,2,3,4,5]from(BB.mpr h:i∈List.range 6)) h0 h1 h2 h3 h4 h5
theorem lL{n j:Nat}:n-1-j=(-(j:Int)-1+n).toNat:=by
 rw[show -(j:Int)-1+n=(n:Int)-((1+j:Nat):Int)by
  show -(j:Int)-1+n=(n:Int)-(1+j);rw[Int.add_comm,Int.sub_eq_add_neg,Int.sub_eq_add_neg,Int.neg_add,Int.add_comm (-1:Int)],Int.toNat_sub,Nat.sub_sub]
theorem eQ{i n:Nat}(h:i<n) : -(n:Int)<=-(i:Int)-1:=Int.le_trans (Int.neg_le_neg (Int.ofNat_le.mpr h)) (Int.le_of_eq (Int.neg_add (a:=(i:Int)) (b:=1)))
theorem eR{i:Nat} : -(i:Int)-1<0:=Int.lt_of_le_of_lt (Int.le_of_eq (Int.neg_add (a:=(i:Int)) (b:=1)).symm) (Int.negSucc_lt_zero i)
theorem eS{α:Type _}{a:List α}{i:Nat}(h:i<a.length):(a.take (a.length-i)).isEmpty=false:=by
 rw[List.isEmpty_eq_false_iff];intro z;have z:=congrArg List.length z;rw[Ae,BS,Nat.min_eq_left (BN _ _)]at z;exact absurd (Nat.sub_pos_of_lt h) (z▸Aa 0)
theorem eU{i n:Nat}(h:0<min (n-i) n):i<n:=Nat.sub_pos_iff_lt.mp (Ai h (BU _ _))
local macro_rules
  | `(tactic| rw [$h:rwRule, $rs,*]) => `(tactic| (rewrite [$h]; rw [$rs,*]))
  | `(tactic| rewrite [$h:term]) => `(tactic| first | with_reducible_and_instances (first | refine Mine.ou $h ?_ | refine Mine.ou ($h _) ?_ | refine Mine.ou ($h _ _) ?_) | rewrite [$h:term] at ⊢)
  | `(tactic| rewrite [← $h:term]) => `(tactic| first | with_reducible_and_instances refine Mine.vr $h ?_ | rewrite [← $h:term] at ⊢)
  | `(tactic| cases $x:term) => `(tactic| first | subst $x | (injection $x with h g i; (try clear $x); cases h; cases g; cases i) | (injection $x with h g; (try clear $x); cases h; cases g) | (injection $x with h; (try clear $x); cases h) | (injection $x; done) | fail "no")
noncomputable abbrev S(x:String):Str:=Str.ofString x
noncomputable def Ba(i:Nat):Stmt:=(PySem.Challenge.pw_ta0106_01.main.body[i]?).getD (.Pass ⟨0,0,0,0⟩)
noncomputable def Bv(i:Nat):Stmt:=match Ba 12 with
 |.ClassDef _ _ _ b _ _ _ _ _ _ _=>(b[i]?).getD (.Pass ⟨0,0,0,0⟩)
 |s=>s
noncomputable def defName:Stmt->Str
 |.FunctionDef n _ _ _ _ _ _ _ _ _=>n
 |_=>Str.empty
noncomputable def J9:Stmt->Arguments
 |.FunctionDef _ a _ _ _ _ _ _ _ _=>a
 |_=>⟨[],[],none,[],[],none,[]⟩
noncomputable def Bt:Stmt->List Stmt
 |.FunctionDef _ _ b _ _ _ _ _ _ _=>b
 |_=>[]
noncomputable def BY:Stmt->Scope
 |.FunctionDef _ _ _ _ _ _ s _ _ _=>s
 |_=>⟨.function,[],false,false,[]⟩
noncomputable def EW(st:Stmt)(qual:Str)(dflt mod code:Value):FuncData:=
 {name:=defName st,qualname:=qual,params:=J9 st,body:=.stmts (Bt st),scope:=BY st,globals:=3,closure:=[],
  defaults:=dflt,kwdefaults:=.none,doc:=.none,pyModule:=mod,annotations:=none,code:=code,closureTuple:=.none,builtins:=0}
noncomputable def Eu(st:Stmt)(qual:Str)(dflt mod code:Value):Obj:={cls:=.type "function",data:=.func (EW st qual dflt mod code)}
noncomputable def ent(P:Params)(n:String)(t:Nat)(v:Value):DictEntry:=⟨PyData.keyHash P (Str.ofString n),.str (Str.ofString n) t,v⟩
noncomputable def JB:ClassData:={name:=S "Headers",bases:=[.type "object"],mro:=[.ref 189,.type "object"],ns:=188,qualname:=S "Headers"}
noncomputable def qw:Value:=.str (S "cpy313.traceback") 282
noncomputable def V0:Value:=.str (S "cpy313.wsgiref.headers") 318
noncomputable def bQ:Value:=.str (S "cpy313.xml.etree.ElementTree") 582
noncomputable def W8:Value:=.str (S "law_ta0106_01") 646
noncomputable def Hz(n q:String)(t:Nat)(ln a k fl:Int)(r:Nat)(x y:Value)(z u:Nat):Obj:={cls:=.type "code",data:=.fields ⟨[.str (Str.ofString n) t,.str (Str.ofString q) (t+1),.str (S "/claim/cut.py") (t+2),.int ln 0,.int a 0,.int 0 0,.int k 0,.int fl 0,
 .ref r,.bool true,.int 276 0,.ref (r+1),.none,x,y,.ref (r+z),.int u 0,.int ln 0,.str (S "/claim/cut.py") (u+1)]⟩}
noncomputable def Kx(P:Params):Frag:=[
 (4,{cls:=.type "module",dict:=some 0,data:=.plain}),
 (37,Hz "_substitution_cost" "_substitution_cost" 290 6 2 0 3 32 (.ref 34) (.ref 35) 4 295),
 (38,Eu (Ba 5) (S "_substitution_cost") .none qw (.ref 37)),
 (44,Hz "_levenshtein_distance" "_levenshtein_distance" 298 12 3 0 3 39 (.ref 41) (.ref 42) 4 315),
 (45,Eu (Ba 6) (S "_levenshtein_distance") .none qw (.ref 44)),
 (54,{cls:=.type "tuple",data:=.seq (List.map (λn:Int=>Value.int n 0) [14,10,4,1,1,22,0,31,16,127,0,13,7,22,0,31,16,127,0,1]).toArray 0}),
 (55,{cls:=.type "re.Pattern",data:=.fields #[(.str (S "[\\x00-\\x1F\\x7F]") 355:Value),(.int 32 378:Value),(.int 0 0:Value),(.none:Value),(.none:Value),(.ref 54:Value),(.int 0 0:Value)]}),
 (59,{cls:=.type "tuple",data:=.seq (List.map (λn:Int=>Value.int n 0) [14,14,4,1,1,9,4294966783,0,0,2147483648,0,0,0,0,0,13,11,9,4294966783,0,0,2147483648,0,0,0,0,0,1]).toArray 0}),
 (60,{cls:=.type "re.Pattern",data:=.fields #[(.str (S "[\\x00-\\x08\\x0A-\\x1F\\x7F]") 381:Value),(.int 32 412:Value),(.int 0 0:Value),(.none:Value),(.none:Value),(.ref 59:Value),(.int 0 0:Value)]}),
 (76,{cls:=.type "tuple",data:=.seq #[(.none:Value)] 0}),
 (82,Hz "__init__" "Headers.__init__" 436 65 2 0 3 77 (.ref 79) (.ref 80) 4 443),
 (83,Eu (Bv 0) (S "Headers.__init__") (.ref 76) V0 (.ref 82)),
 (89,Hz "_convert_string_type" "Headers._convert_string_type" 446 75 2 1 3 84 (.ref 86) (.ref 87) 4 453),
 (90,Eu (Bv 1) (S "Headers._convert_string_type") .none V0 (.ref 89)),
 (103,Hz "__setitem__" "Headers.__setitem__" 463 86 3 0 3 98 (.ref 100) (.ref 101) 4 469),
 (104,Eu (Bv 3) (S "Headers.__setitem__") .none V0 (.ref 103)),
 (108,Hz "__delitem__" "Headers.__delitem__" 472 90 2 0 3 105 .none .none 2 475),
 (109,Eu (Bv 4) (S "Headers.__delitem__") .none V0 (.ref 108)),
 (127,Hz "get_all" "Headers.get_all" 494 100 2 0 3 124 .none .none 2 497),
 (128,Eu (Bv 7) (S "Headers.get_all") .none V0 (.ref 127)),
 (129,{cls:=.type "tuple",data:=.seq #[(.none:Value)] 0}),
 (135,Hz "get" "Headers.get" 500 104 3 0 3 130 (.ref 132) (.ref 133) 4 508),
 (136,Eu (Bv 8) (S "Headers.get") (.ref 129) V0 (.ref 135)),
 (140,Hz "keys" "Headers.keys" 511 111 1 0 3 137 .none .none 2 514),
 (141,Eu (Bv 9) (S "Headers.keys") .none V0 (.ref 140)),
 (152,Hz "items" "Headers.items" 523 117 1 0 3 147 (.ref 149) (.ref 150) 4 527),
 (153,Eu (Bv 11) (S "Headers.items") .none V0 (.ref 152)),
 (178,Hz "setdefault" "Headers.setdefault" 550 129 3 0 3 173 (.ref 175) (.ref 176) 4 557),
 (179,Eu (Bv 15) (S "Headers.setdefault") .none V0 (.ref 178)),
 (185,Hz "add_header" "Headers.add_header" 560 137 3 0 11 180 (.ref 182) (.ref 183) 4 570),
 (186,Eu (Bv 16) (S "Headers.add_header") .none V0 (.ref 185)),
 (188,{cls:=.type "dict",data:=.dict #[ent P "__module__" 431 V0,
  ent P "__firstlineno__" 435 (.int 63 434),
  ent P "__init__" 445 (.ref 83),
  ent P "_convert_string_type" 455 (.ref 90),
  ent P "__len__" 462 (.ref 97),
  ent P "__setitem__" 471 (.ref 104),
  ent P "__delitem__" 477 (.ref 109),
  ent P "__getitem__" 485 (.ref 116),
  ent P "__contains__" 493 (.ref 123),
  ent P "get_all" 499 (.ref 128),
  ent P "get" 510 (.ref 136),
  ent P "keys" 516 (.ref 141),
  ent P "values" 522 (.ref 146),
  ent P "items" 529 (.ref 153),
  ent P "__repr__" 536 (.ref 160),
  ent P "__str__" 542 (.ref 165),
  ent P "__bytes__" 549 (.ref 172),
  ent P "setdefault" 559 (.ref 179),
  ent P "add_header" 572 (.ref 186),
  ent P "__static_attributes__" 574 (.ref 187),
  ent P "__dict__" 576 (.ref 190),
  ent P "__weakref__" 578 (.ref 191),
  ent P "__doc__" 579 (.none)] 4}),
 (189,{cls:=.type "type",data:=.cls JB,slots:=#[none,none,some (.str (S "Headers") 424),some (.str (S "Headers") 432),some (.builtin "object.__new__"),some (.bool true)]}),
 (194,{cls:=.type "dict",data:=.dict #[] 0}),
 (195,{cls:=.type "tuple",data:=.seq #[(.ref 194:Value)] 0}),
 (201,Hz "SubElement" "SubElement" 584 151 3 0 11 196 (.ref 198) (.ref 199) 4 592),
 (202,Eu (Ba 14) (S "SubElement") (.ref 195) bQ (.ref 201)),
 (208,Hz "_serialize_text" "_serialize_text" 595 156 2 0 3 203 (.ref 205) (.ref 206) 4 601),
 (209,Eu (Ba 15) (S "_serialize_text") .none bQ (.ref 208)),
 (222,Hz "_escape_cdata" "_escape_cdata" 611 163 1 0 3 217 (.ref 219) (.ref 220) 4 615),
 (223,Eu (Ba 17) (S "_escape_cdata") .none bQ (.ref 222)),
 (229,Hz "_escape_attrib" "_escape_attrib" 618 174 1 0 3 224 (.ref 226) (.ref 227) 4 622),
 (230,Eu (Ba 18) (S "_escape_attrib") .none bQ (.ref 229)),
 (236,Hz "_escape_attrib_html" "_escape_attrib_html" 625 193 1 0 3 231 (.ref 233) (.ref 234) 4 629),
 (237,Eu (Ba 19) (S "_escape_attrib_html") .none bQ (.ref 236)),
 (243,Hz "_escape_cdata_c14n" "_escape_cdata_c14n" 632 204 1 0 3 238 (.ref 240) (.ref 241) 4 636),
 (244,Eu (Ba 20) (S "_escape_cdata_c14n") .none bQ (.ref 243)),
 (250,Hz "_escape_attrib_c14n" "_escape_attrib_c14n" 639 217 1 0 3 245 (.ref 247) (.ref 248) 4 643),
 (251,Eu (Ba 21) (S "_escape_attrib_c14n") .none bQ (.ref 250)),
 (255,Hz "_law_ties" "_law_ties" 648 235 3 0 3 252 .none .none 2 651),
 (256,Eu (Ba 23) (S "_law_ties") .none W8 (.ref 255)),
 (260,Hz "_law_steps" "_law_steps" 654 238 2 0 3 257 .none .none 2 657),
 (261,Eu (Ba 24) (S "_law_steps") .none W8 (.ref 260)),
 (267,Hz "_law_thing" "_law_thing" 660 243 2 0 3 262 (.ref 264) (.ref 265) 4 668),
 (268,Eu (Ba 25) (S "_law_thing") .none W8 (.ref 267)),
 (272,Hz "_law_tree" "_law_tree" 671 251 5 0 3 269 .none .none 2 674),
 (273,Eu (Ba 26) (S "_law_tree") .none W8 (.ref 272)),
 (277,Hz "_law_spelled" "_law_spelled" 677 274 2 0 3 274 .none .none 2 680),
 (278,Eu (Ba 27) (S "_law_spelled") .none W8 (.ref 277)),
 (282,Hz "_law_lacks" "_law_lacks" 683 278 3 0 3 279 .none .none 2 686),
 (283,Eu (Ba 28) (S "_law_lacks") .none W8 (.ref 282)),
 (289,Hz "_law_address" "_law_address" 689 284 5 0 3 284 (.ref 286) (.ref 287) 4 703),
 (290,Eu (Ba 29) (S "_law_address") .none W8 (.ref 289)),
 (294,Hz "_law_book" "_law_book" 706 292 3 0 3 291 .none .none 2 709),
 (295,Eu (Ba 30) (S "_law_book") .none W8 (.ref 294)),
 (299,Hz "_law_prices" "_law_prices" 712 306 4 0 3 296 .none .none 2 715),
 (300,Eu (Ba 31) (S "_law_prices") .none W8 (.ref 299)),
 (304,Hz "_law_holds" "_law_holds" 718 317 2 0 3 301 .none .none 2 721),
 (305,Eu (Ba 32) (S "_law_holds") .none W8 (.ref 304))]
noncomputable def Vi:List Addr:=[4,37,38,44,45,54,55,59,60,76,82,83,89,90,103,104,108,109,127,128,129,135,136,140,141,152,153,178,179,185,186,188,189,194,195,201,202,208,209,222,223,229,230,236,237,243,244,250,251,255,256,260,261,267,268,272,273,277,278,282,283,289,290,294,295,299,300,304,305]
noncomputable def KI(n:String)(a:Addr):Str×Option Value:=(Str.ofString n,some (.ref a))
noncomputable def QH(n:String):Str×Option Value:=(Str.ofString n,none)
noncomputable def W5:List (Str×Option Value):=[
 KI "__builtins__" 4,(S "_MAX_STRING_SIZE",some (.int 40 284)),(S "_MOVE_COST",some (.int 2 286)),(S "_CASE_COST",some (.int 1 288)),KI "_substitution_cost" 38,KI "_levenshtein_distance" 45,KI "_name_disallowed_re" 55,KI "_value_disallowed_re" 60,KI "Headers" 189,KI "SubElement" 202,KI "_serialize_text" 209,KI "_escape_cdata" 223,KI "_escape_attrib" 230,KI "_escape_attrib_html" 237,KI "_escape_cdata_c14n" 244,KI "_escape_attrib_c14n" 251,KI "_law_ties" 256,KI "_law_steps" 261,KI "_law_thing" 268,KI "_law_tree" 273,KI "_law_spelled" 278,KI "_law_lacks" 283,KI "_law_address" 290,KI "_law_book" 295,KI "_law_prices" 300,KI "_law_holds" 305,KI "law" 310,QH "len",QH "range",QH "enumerate",QH "zip",QH "sum",QH "min",QH "sorted",QH "list",QH "str",QH "type",QH "ValueError",QH "TypeError",QH "AttributeError",QH "AssertionError",QH "repr"]
noncomputable def ah(o:Obj)(n:Str):Option Value:=match o.data with
 |.dict es _=>nsFind es n
 |_=>none
noncomputable def hook:Hook where
 α:=List (Option Obj)×Option (List (Option Value))×Option Obj
 obs:=λs=>(Vi.map s.heap.get?,(s.heap.get? 3).map λo=>W5.map λp=>ah o p.1,s.heap.get? 263)
 val:=λw=>((Kx w.params).map λp=>some p.2,some (W5.map λp=>p.2),some {cls:=.none,data:=.fields #[]})
 says:=λw h=>(Kx w.params).In h/\(∃o,h.get? 3=some o/\∀p∈W5,ah o p.1=p.2)/\h.get? 263=some {cls:=.none,data:=.fields #[]}
 of:=λw s x=>by
  obtain⟨x1,x2,x3⟩:=(Prod.mk.inj x).1,(Prod.mk.inj (Prod.mk.inj x).2).1,(Prod.mk.inj (Prod.mk.inj x).2).2;refine⟨Frag.in_of (as:=Vi) rfl x1,?_,x3⟩;cases h3:s.heap.get? 3 with
  |none=>rw[h3]at x2;cases x2
  |some o=>
   rw[h3]at x2;refine⟨o,rfl,?_⟩;exact List.map_inj_left.mp (BV x2)
 keeps:=λw h h' x k=>⟨x.1.keeps k,let⟨o,ho,r⟩:=x.2.1;⟨o,k _ _ ho,r⟩,k _ _ x.2.2⟩
noncomputable abbrev G7:OpenRow:=PySem.Challenge.rw_ta0106_01.row
noncomputable def vw:Program:={G7.toRowW.prog with main:={G7.toRowW.prog.main with body:=[0,2,3,4,5,6,8,9,10,12,15,16,17,18,19,20,21,23,24,25,26,27,28,29,30,31,32,33].filterMap λi=>G7.toRowW.prog.main.body[i]?}}
noncomputable def iE:List Str:=[S "tspecials",S "_name_disallowed_re",S "_value_disallowed_re",S "_formatparam",S "SubElement"]
noncomputable def Pb:=openSeen vw iE (importedModules G7.prog.main.body) (λs=>xlAt vw [] s&&recOk (RowW.records G7.toRowW) s) true
noncomputable abbrev Zq(w:World):=openEnds treeTable G7.prog w 3456
theorem hU(w:World):(Zq w).map (λs=>((Pb s).1,(Pb s).2.1,(Pb s).2.2.1))=some (expectedOf vw,bltViewBooted,true):=by kernel_rfl
theorem hV(w:World):(Zq w).map (λs=>((Pb s).2.2.2,hook.obs s))=some ((true,pinGoodD (drecsOf vw),plainGoodE vw (looseW vw iE),plainGoodD vw iE,wideGood vw,clsGoodW vw iE),hook.val w):=by kernel_rfl
theorem b6{β γ σ:Type}{o:Option σ}{p:σ->α}{q:σ->β}{a:α}{b:β}(m:α->β->γ)(h:o.map p=some a)(i:o.map q=some b):o.map (λs=>m (p s) (q s))=some (m a b):=
 Exists.elim (AS.mp h) λs e=>by
  rw[e.1]at i ⊢;rw[<- e.2,<- BV i];rfl
theorem Yd{β γ δ ε σ:Type}{o:Option σ}{f:σ->α×β×γ×δ}{g:σ->ε}{a:α}{b:β}{c:γ}{d:δ}{y:ε}(h:o.map (λs=>((f s).1,(f s).2.1,(f s).2.2.1))=some (a,b,c))(i:o.map (λs=>((f s).2.2.2,g s))=some (d,y)):o.map (λs=>(f s,g s))=some ((a,b,c,d),y):=
 b6 (λx y=>((x.1,x.2.1,x.2.2,y.1),y.2)) h i
theorem hO:LeftO G7.prog vw iE (λs=>xlAt vw [] s&&recOk (RowW.records G7.toRowW) s) hook.obs hook.val 3456:=λw=>Yd (f:=Pb) (hU w) (hV w)
theorem cI:PySem.Challenge.rw_ta0106_01.wellSaid=true:=by
 delta OpenLaw.wellSaid OpenRow.wellSaid OpenRow.partSaid looksOpen
 with_reducible repeat' refine look_both ?_ ?_
 all_goals decide +kernel
theorem top(k:∀ {q:Program}{loose:B3}{XP:(Str->Option Value)->Heap->Prop}{d:DefRec}{gu:List (Str×Expr)},d.name=S "law"->d.params=J9 (Ba 33)->d.body=Bt (Ba 33)->d.scope=BY (Ba 33)->gu=[]->
  WalkO q loose XP hook.says PySem.Challenge.rw_ta0106_01.row.toRowW d gu λf vs=>PySem.call f vs):PySem.Challenge.rw_ta0106_01.Holds:=by
 w_on
 refine holds_law cI λoy=>?_;exact holds_open (q:=vw) hO hook.of hook.keeps (λs e=>xl_of s (Bool.and_eq_true_iff.mp e).1) XL.keeps (by rfl) (by rfl) (by rfl) (λs e=>recFacts_of (Bool.and_eq_true_iff.mp e).2) rfl oy (by decide +kernel) ⟨rfl,rfl,rfl,rfl,rfl,by decide +kernel⟩ (by w_witness2) (k rfl rfl rfl rfl rfl)
section
variable {X X' W:CG}{w:World}{h h':Heap}
variable {α β:Type}{w:World}{A:Around}{W W':CG}{s:Shared}
def Bd:Lean.Syntax:=Lean.Unhygienic.run `(Lean.Parser.Tactic.tacticSeq| rfl)
def Dz:Lean.Syntax:=Lean.Unhygienic.run `(Lean.Parser.Tactic.tacticSeq| with_unfolding_all rfl)
def Fj:Lean.Syntax:=Lean.Unhygienic.run `(Lean.Parser.Tactic.tacticSeq| decide)
def Go:Lean.Syntax:=Lean.Unhygienic.run `(Lean.Parser.Tactic.tacticSeq| intros;rfl)
def Ng:Lean.Syntax:=Lean.Unhygienic.run `(Lean.Parser.Tactic.tacticSeq| intros;with_unfolding_all rfl)
noncomputable abbrev prog:Program:=PySem.Challenge.pw_ta0106_01
noncomputable abbrev TP:Addr:=263
noncomputable abbrev KS(w:World):=PySem.strKind prog w
noncomputable abbrev QW:Str:=Str.ofString "_law_thing.<locals>.<lambda>"
def Cd(o:Obj):Prop:=∃vs t,o.data=.fields vs/\vs[1]? = some (.str QW t)
def OF(h:Heap)(v:Value):Prop:=∃c o,v=.ref c/\c≠TP/\h.get? c=some o/\Cd o
def Tab(h:Heap):Prop:=∃ps:Array Value,h.get? TP=some {cls:=.none,data:=.fields ps}/\TriplesOk ps.toList/\∀pos v,codeAmong pos ps.toList=some v->OF h v
theorem Tab.keep(t:Tab h)(k1:∀o,h.get? TP=some o->h'.get? TP=some o)(k2:∀c o,c≠TP->h.get? c=some o->Cd o->h'.get? c=some o):Tab h':=
 by refine EJ t ?_;clear t;intro ps e r l;exact⟨ps,k1 _ e,r,λpos v hv=>by refine dw (l pos v hv) ?_;intro c o e1 e2 e3 e4;exact⟨c,o,e1,e2,k2 c o e2 e3 e4,e4⟩⟩
structure Bu(W:CG)(h h':Heap):Prop where
 keep:∀b o,b≠TP->¬W b->h.get? b=some o->h'.get? b=some o
 live:∀b o,b≠TP->W b->h.get? b=some o->∃o',h'.get? b=some o'
 tab:Tab h->Tab h'
 code:∀b o,h.get? b=some o->Cd o->h'.get? b=some o
noncomputable abbrev Hw:Addr->Prop:=λV=>False
noncomputable abbrev Le:Heap->Heap->Prop:=Bu Hw
theorem Bu.refl(h:Heap):Bu W h h:=⟨λV V V V e=>e,λV o V V e=>⟨o,e⟩,id,λV V e V=>e⟩
theorem Bu.trans{Hj:Heap}(x:Bu W h h')(y:Bu W h' Hj):Bu W h Hj:=
 ⟨λb o n nw e=>y.keep b o n nw (x.keep b o n nw e),λb o n w e=>by refine B6 (x.live b o n w e) ?_;intro o' e';exact y.live b o' n w e',λt=>y.tab (x.tab t),λb o e z=>y.code b o (x.code b o e z) z⟩
theorem Bu.any{W':CG}(x:Bu W h h')(s:∀a,W a->W' a):Bu W' h h':=
 ⟨λb o n nw e=>x.keep b o n (λq=>nw (s b q)) e,λb o n V e=>by
  by_cases q:W b
  .exact x.live b o n q e
  .exact ⟨o,x.keep b o n q e⟩,x.tab,x.code⟩
theorem Bu.alive(x:Bu W h h'){b:Addr}{o:Obj}(n:b≠TP)(e:h.get? b=some o):∃o',h'.get? b=some o':=by
 by_cases q:W b
 .exact x.live b o n q e
 .exact ⟨o,x.keep b o n q e⟩
theorem Bu.at(x:Bu W h h'){b:Addr}{o:Obj}(n:b≠TP)(e:h.get? b=some o)(q:W b->Cd o):h'.get? b=some o:=by
 by_cases w:W b
 .exact x.code b o e (q w)
 .exact x.keep b o n w e
theorem Bu.of(k:∀b o,¬W b->h.get? b=some o->h'.get? b=some o)(l:∀b o,W b->h.get? b=some o->∃o',h'.get? b=some o')(nt:¬W TP)(nc:∀b o,W b->h.get? b=some o->¬Cd o):Bu W h h':=
 ⟨λb o V nw e=>k b o nw e,λb o V w e=>l b o w e,λt=>t.keep (λo e=>k _ o nt e) λc o V e hc=>k c o (λw=>nc c o w e hc) e,λb o e z=>k b o (λw=>nc b o w e z) e⟩
theorem Le.of(k:∀b o,h.get? b=some o->h'.get? b=some o):Le h h':=Bu.of (λb o V e=>k b o e) (λV V w=>w.elim) id λV V w=>w.elim
theorem Cd.fd{o:Obj}{a:Array Value}(e:o.data=.fields a)(h:∀t,a[1]?≠some (.str QW t)):¬Cd o:=λzz=>by refine Fq zz ?_;clear zz;intro vs t z q;rw[e]at z;cases z;exact h t q
theorem Cd.cell{o:Obj}{v:Option Value}(e:o.data=.cell v):¬Cd o:=λzz=>by refine Fq zz ?_;clear zz;intro V V z V;rw[e]at z;cases z
theorem Cd.seq{o:Obj}{a:Array Value}{n:Nat}(e:o.data=.seq a n):¬Cd o:=λzz=>by refine Fq zz ?_;clear zz;intro V V z V;rw[e]at z;cases z
theorem Cd.dict{o:Obj}{a:Array DictEntry}{n:Nat}(e:o.data=.dict a n):¬Cd o:=λzz=>by refine Fq zz ?_;clear zz;intro V V z V;rw[e]at z;cases z
theorem Le.push(h:Heap)(o:Obj):Le h (h.push o):=Le.of λV V e=>AO o e
theorem Bu.fresh{W':CG}(x:Bu W' h h')(s:∀a,W' a->W a\/h.get? a=none):Bu W h h':=
 ⟨λb o n nw e=>x.keep b o n (λq=>(s b q).elim nw λz=>by rw[z]at e;cases e) e,λb o n V e=>x.alive n e,x.tab,x.code⟩
theorem Le.to(x:Le h h'):Bu W h h':=x.any λV q=>q.elim
inductive D where
 |none
 |bool (b:Bool)
 |int (i:Int)
 |str (s:Str)
 |obj (v:Value)
 |list (ds:List D)
 |tup (ds:List D)
 |dict (es:List (Str×D))
abbrev B4:=List (Str×D)
abbrev Cs:=List D
mutual
inductive B9(X:CG)(w:World)(h:Heap):Value->D->Prop
 |none:B9 X w h .none .none
 |bool (b:Bool):B9 X w h (.bool b) (.bool b)
 |int (i:Int) (t:Tok):B9 X w h (.int i t) (.int i)
 |str (s:Str) (t:Tok):B9 X w h (.str s t) (.str s)
 |obj (v:Value):B9 X w h v (.obj v)
 |list {a:Addr}{vs:DW}{ds:Cs}:¬X a->a≠TP->h.PlainList a vs.toArray->Bf X w h vs ds->B9 X w h (.ref a) (.list ds)
 |tup {a:Addr}{vs:DW}{ds:Cs}:¬X a->a≠TP->h.IsTuple a vs.toArray->Bf X w h vs ds->B9 X w h (.ref a) (.tup ds)
 |dict {a:Addr}{kvs:Di}{es:B4}:¬X a->a≠TP->(a==sysModules)=false->h.DictOf (KS w) a kvs->Cc X w h kvs es->B9 X w h (.ref a) (.dict es)
inductive Bf(X:CG)(w:World)(h:Heap):List Value->List D->Prop
 |nil:Bf X w h [] []
 |cons {v:Value}{vs:DW}{d:D}{ds:Cs}:B9 X w h v d->Bf X w h vs ds->Bf X w h (v::vs) (d::ds)
inductive Cc(X:CG)(w:World)(h:Heap):List (Str×Value)->List (Str×D)->Prop
 |nil:Cc X w h [] []
 |cons {k:Str}{v:Value}{vs:Di}{d:D}{ds:B4}:B9 X w h v d->Cc X w h vs ds->Cc X w h ((k,v)::vs) ((k,d)::ds)
end
theorem B9.bg(r:B9 X w h v .none):v=.none:=by cases r;rfl
theorem B9.Z2{b:Bool}(r:B9 X w h v (.bool b)):v=.bool b:=by cases r;rfl
theorem B9.gc{i:Int}(r:B9 X w h v (.int i)):∃t,v=.int i t:=by cases r;exact⟨_,rfl⟩
theorem B9.jF{s:Str}(r:B9 X w h v (.str s)):∃t,v=.str s t:=by cases r;exact⟨_,rfl⟩
theorem B9.iZ{o:Value}(r:B9 X w h v (.obj o)):v=o:=by cases r;rfl
theorem B9.Hn{ds:Cs}(r:B9 X w h v (.list ds)):∃a vs,v=.ref a/\¬X a/\a≠TP/\h.PlainList a vs.toArray/\Bf X w h vs ds:=by cases r with|list a b c d=>exact⟨_,_,rfl,a,b,c,d⟩
theorem B9.M3{ds:Cs}(r:B9 X w h v (.tup ds)):∃a vs,v=.ref a/\¬X a/\a≠TP/\h.IsTuple a vs.toArray/\Bf X w h vs ds:=by cases r with|tup a b c d=>exact⟨_,_,rfl,a,b,c,d⟩
theorem B9.Iv{es:B4}(r:B9 X w h v (.dict es)):∃a kvs,v=.ref a/\¬X a/\a≠TP/\(a==sysModules)=false/\h.DictOf (KS w) a kvs/\Cc X w h kvs es:=by cases r with|dict a b c d e=>exact⟨_,_,rfl,a,b,c,d,e⟩
theorem Bf.HB(r:Bf X w h vs []):vs=[]:=by cases r;rfl
theorem Bf.Bp{d:D}{ds:Cs}(r:Bf X w h vs (d::ds)):∃v Wv,vs=v::Wv/\B9 X w h v d/\Bf X w h Wv ds:=by cases r with|cons a b=>exact⟨_,_,rfl,a,b⟩
theorem EY{gm:Array Value}(x:h.IsList a gm)(k:∀o,h.get? a=some o->h'.get? a=some o):h'.IsList a gm:=
 by refine Bi x ?_;clear x;intro o e r;exact⟨o,k o e,r⟩
theorem GP{gm:Array Value}(x:h.IsTuple a gm)(k:∀o,h.get? a=some o->h'.get? a=some o):h'.IsTuple a gm:=
 by refine Bi x ?_;clear x;intro o e r;exact⟨o,k o e,r⟩
theorem C2{kvs:Di}(x:h.DictOf (KS w) a kvs)(k:∀o,h.get? a=some o->h'.get? a=some o):h'.DictOf (KS w) a kvs:=
 by refine Ju x ?_;clear x;intro o es ep e r;exact⟨o,es,ep,k o e,r⟩
section
theorem B9.move(k:∀a o,¬X a->a≠TP->h.get? a=some o->h'.get? a=some o/\¬X' a){v d}(r:B9 X w h v d):B9 X' w h' v d:=
 @B9.rec X w h (λv d V=>B9 X' w h' v d) (λv d V=>Bf X' w h' v d) (λv d V=>Cc X' w h' v d) .none .bool .int .str .obj
  (λnx nt hl V r=>.list (B6 hl λV e=>(k _ _ nx nt e).2) nt (hl.at λo e=>(k _ o nx nt e).1) r)
  (λnx nt hl V r=>.tup (Bi hl λo e V=>(k _ o nx nt e).2) nt (GP hl λo e=>(k _ o nx nt e).1) r)
  (λnx nt ns hl V r=>.dict (Ju hl λo V V e V=>(k _ o nx nt e).2) nt ns (C2 hl λo e=>(k _ o nx nt e).1) r)
  .nil (λV V a b=>.cons a b) .nil (λV V a b=>.cons a b) v d r
theorem Bf.move(k:∀a o,¬X a->a≠TP->h.get? a=some o->h'.get? a=some o/\¬X' a){vs ds}(r:Bf X w h vs ds):Bf X' w h' vs ds:=by
 induction ds generalizing vs with
 |nil=>cases Bf.HB r;exact .nil
 |cons d ds ih=>refine Du (Bf.Bp r) ?_;rintro V V rfl a b;exact .cons (B9.move k a) (ih b)
theorem Cc.HB{vs}(r:Cc X w h vs []):vs=[]:=by cases r;rfl
theorem Cc.Bp{k d vs ds}(r:Cc X w h vs ((k,d)::ds)):∃v Wv,vs=(k,v)::Wv/\B9 X w h v d/\Cc X w h Wv ds:=by cases r with|cons a b=>exact⟨_,_,rfl,a,b⟩
theorem Cc.move(k:∀a o,¬X a->a≠TP->h.get? a=some o->h'.get? a=some o/\¬X' a){vs ds}(r:Cc X w h vs ds):Cc X' w h' vs ds:=by
 induction ds generalizing vs with
 |nil=>cases Cc.HB r;exact .nil
 |cons d ds ih=>refine Du (Cc.Bp r) ?_;rintro V V rfl a b;exact .cons (B9.move k a) (ih b)
theorem DR(x:Bu W h h')(s:∀a,W a->X a):∀a o,¬X a->a≠TP->h.get? a=some o->h'.get? a=some o/\¬X a:=
 λa o nx nt e=>⟨x.keep a o nt (λq=>nx (s a q)) e,nx⟩
theorem Ce(s:∀a,X' a->X a):∀a o,¬X a->a≠TP->h.get? a=some o->h.get? a=some o/\¬X' a:=
 λa V nx V e=>⟨e,λq=>nx (s a q)⟩
theorem ET(s:∀a,X' a->X a\/h.get? a=none):∀a o,¬X a->a≠TP->h.get? a=some o->h.get? a=some o/\¬X' a:=
 λa V nx V e=>⟨e,λq=>(s a q).elim nx λz=>by rw[z]at e;cases e⟩
theorem B9.le{v d}(r:B9 X w h v d)(x:Le h h'):B9 X w h' v d:=r.move (DR x λV q=>q.elim)
theorem Bf.le{v d}(r:Bf X w h v d)(x:Le h h'):Bf X w h' v d:=r.move (DR x λV q=>q.elim)
theorem Cc.le{v d}(r:Cc X w h v d)(x:Le h h'):Cc X w h' v d:=r.move (DR x λV q=>q.elim)
theorem Bf.length{vs ds}(r:Bf X w h vs ds):vs.length=ds.length:=by
 induction ds generalizing vs with
 |nil=>cases Bf.HB r;rfl
 |cons d ds ih=>refine Du (Bf.Bp r) ?_;rintro V V rfl a b;exact congrArg Nat.succ (ih b)
theorem Bf.get{ds:Cs}(r:Bf X w h vs ds):∀ {i:Nat}{d:D},ds[i]? = some d->∃v,vs[i]? = some v/\B9 X w h v d:=by
 induction ds generalizing vs with
 |nil=>intro i d e;cases e
 |cons d ds ih=>
  intro i d' e;refine Du (Bf.Bp r) ?_;rintro V V rfl a b;cases i with
  |zero=>cases e;exact⟨_,rfl,a⟩
  |succ i=>exact ih b (i:=i) e
theorem Bf.append{Wv:DW}{ds Ib:Cs}(r:Bf X w h vs ds)(r':Bf X w h Wv Ib):Bf X w h (vs++Wv) (ds++Ib):=by
 induction ds generalizing vs with
 |nil=>cases Bf.HB r;exact r'
 |cons d ds ih=>refine Du (Bf.Bp r) ?_;rintro V V rfl a b;exact .cons a (ih b)
theorem Bf.drop{ds:Cs}(r:Bf X w h vs ds)(n:Nat):Bf X w h (vs.drop n) (ds.drop n):=by
 induction n generalizing vs ds with
 |zero=>exact r
 |succ n ih=>cases r with|nil=>exact .nil|cons a b=>exact ih b
theorem Bf.take{ds:Cs}(r:Bf X w h vs ds)(n:Nat):Bf X w h (vs.take n) (ds.take n):=by
 induction n generalizing vs ds with
 |zero=>exact .nil
 |succ n ih=>cases r with|nil=>exact .nil|cons a b=>exact .cons a (ih b)
theorem Cc.keys{vs ds}(r:Cc X w h vs ds):vs.map (·.1)=ds.map (·.1):=by
 induction ds generalizing vs with
 |nil=>cases Cc.HB r;rfl
 |cons d ds ih=>refine Du (Cc.Bp r) ?_;rintro V V rfl a b;exact congrArg (_::·) (ih b)
end
structure CW(w:World)(h:Heap):Prop where
 k:(Kx w.params).In h
 gl:∃mg,h.Ns 3 mg/\∀p∈W5,mg p.1=p.2
 bt:∃mb,h.Ns 0 mb/\∀x,x≠Str.ofString "__name__"->mb x=bootBuiltins x
 lim:h.NoLimit
 tab:Tab h
theorem lookup_mem{β:Type}[BEq α][LawfulBEq α]{a:α}{b:β}:∀ {l:List (α×β)},l.lookup a=some b->(a,b)∈l
 |(x,y)::r,e=>by
  rw[AK]at e;cases q:a==x with
  |true=>rw[q]at e;cases e;rw[eq_of_beq q];exact .head _
  |false=>rw[q]at e;exact .tail _ (lookup_mem e)
theorem QU:∀a∈Vi,a<306:=by decide
theorem K8{P:Params}{o:Obj}(e:(Kx P).lookup a=some o):a<306:=
 QU a (by
  have:a∈(Kx P).map (·.1):=Ab (f:=(·.1)) (lookup_mem e);exact this)
theorem Za{P:Params}{o:Obj}(e:(Kx P).lookup a=some o):a≠TP:=λq=>by
 have:a∈Vi:=by
  have:a∈(Kx P).map (·.1):=Ab (f:=(·.1)) (lookup_mem e);exact this
 subst q;revert this;decide
def FU(X:CG)(h:Heap):Prop:=∀a,X a->306<=a/\∃o,h.get? a=some o
theorem FU.le(x:FU X h)(l:Bu W h h'):FU X h':=λa q=>
 by obtain⟨b,o,e⟩:=x a q;exact⟨b,l.alive (λt=>by subst t;exact absurd b (by decide)) e⟩
theorem FU.nt(x:FU X h):¬X TP:=λq=>absurd (x _ q).1 (by decide)
theorem Cm(x:h.Ns a m)(k:∀o,h.get? a=some o->h'.get? a=some o):h'.Ns a m:=x.at' k
theorem CW.le(B:CW w h)(l:Bu W h h')(s:∀a,W a->306<=a):CW w h' where
 k:=λa o e=>l.keep a o (Za e) (λq=>absurd (s a q) (Nat.not_le.mpr (K8 e))) (B.k a o e)
 gl:=by refine Bi B.gl ?_;intro mg n r;exact⟨mg,Cm n λo e=>l.keep _ o (by decide) (λq=>absurd (s _ q) (by decide)) e,r⟩
 bt:=by refine Bi B.bt ?_;intro mg n r;exact⟨mg,Cm n λo e=>l.keep _ o (by decide) (λq=>absurd (s _ q) (by decide)) e,r⟩
 lim:=by refine Bi B.lim ?_;intro mc n r;exact⟨mc,Cm n λo e=>l.keep _ o (by decide) (λq=>absurd (s _ q) (by decide)) e,r⟩
 tab:=l.tab B.tab
def Run(w:World)(A:Around)(W:CG)(t:Sem α)(s:Shared)(Φ:α->Heap->Prop):Prop:=
 ∀(Q:α->Shared->Prop) (E:CH),(∀a h' tk,Bu W s.heap h'->Φ a h'->Q a {s with heap:=h',toks:=tk})->wpAny (model prog w) A t Q E s
section
theorem Run.imp{t:Sem α}{Φ Ψ:α->Heap->Prop}(x:Run w A W t s Φ)(i:∀a h',Bu W s.heap h'->Φ a h'->Ψ a h'):Run w A W t s Ψ:=
 λQ E q=>x Q E λa h' tk l p=>q a h' tk l (i a h' l p)
theorem Run.any{t:Sem α}{Φ:α->Heap->Prop}(x:Run w A W t s Φ)(i:∀a,W a->W' a):Run w A W' t s Φ:=
 λQ E q=>x Q E λa h' tk l p=>q a h' tk (l.any i) p
end
structure E9(n:Nat)(A:Around):Prop where
 handled:A.handled=none
 depth:A.depth+2*n+2<=900
 units:A.units+10*n+80<=9000
 guards:A.guards=some []
theorem E9.CD{n m:Nat}(x:E9 n A)(h:m<=n):E9 m A:=⟨x.handled,by have:=x.depth;lia,by have:=x.units;lia,x.guards⟩
theorem E9.deeper{n:Nat}(x:E9 (n+1) A)(env:Env):E9 n (A.deeper env):=
 ⟨x.handled,by have:=x.depth;show A.depth+1+2*n+2<=900;lia,by have:=x.units;show A.units+3+10*n+80<=9000;lia,x.guards⟩
theorem E9.room{n:Nat}(x:E9 n A):A.depth<recursionLimit:=by
 have:=x.depth;show A.depth<1000;lia
theorem E9.line{n:Nat}(x:E9 n A):A.units+64<cLine:=by
 have:=x.units;show A.units+64<9900;lia
theorem O8:E9 40 callerA:=⟨rfl,by decide,by decide,rfl⟩
end
local macro_rules
  | `(tactic| cases $x:term) => `(tactic| first | (have h := (Mine.B9.iZ $x).symm; subst h) | (refine Exists.elim (Mine.B9.jF $x) ?_; intro _ h; subst h) | (refine Exists.elim (Mine.B9.gc $x) ?_; intro _ h; subst h) | (have h := (Mine.Bf.HB $x).symm; subst h) | (have h := (Mine.B9.bg $x).symm; subst h) | (have h := (Mine.B9.Z2 $x).symm; subst h) | fail "no")
variable {c cc:Cx}{J J' KU J0 es:B4}{N N':Eo}{R R':Ct}{d:D}{ds:Cs}
structure Res where
 fp:Addr->Prop
 P:World->(Addr->Prop)->Heap->Prop
 mv:∀ {w:World}{X X':CG}{h h':Heap},P w X h->(∀b o,(fp b\/¬X b\/Cd o)->b≠TP->h.get? b=some o->h'.get? b=some o/\(¬X b->¬X' b))->P w X' h'
noncomputable def Res.emp:Res:=⟨λV=>False,λV V V=>True,λV V=>trivial⟩
noncomputable def Res.star(r t:Res):Res where
 fp:=λb=>r.fp b\/t.fp b
 P:=λw X h=>r.P w X h/\t.P w X h/\∀b,r.fp b->t.fp b->False
 mv:=λzz k=>by refine FP zz ?_;clear zz;intro a b n;exact⟨r.mv a λx o q=>k x o (q.imp_left .inl),t.mv b λx o q=>k x o (q.imp_left .inr),n⟩
structure Cx where
 w:World
 A:Around
 env:Env
 k:Nat
 X:Addr->Prop
 G:Res
 own:Str->Prop
 h0:Heap
 M:Addr->Prop
 ro:Prop
abbrev D9(c:Cx)(e:Expr)(es:Cy):Prop:=starEach (e::es) c.env=(false,eval e c.env)::starEach es c.env
abbrev J8(a p:Pos):Prop:=(a.endLine==p.line)=true
abbrev XE(s:Expr)(o i:Value):Prop:=subscripted s false o i=operate [o,i] (getItem o i)
abbrev Q9(i:Expr)(env:Env)(x:Value):Prop:=foldedSetIterable i env x=pure x
abbrev UO(x:Str):Prop:=(x==("__debug__" : Str))=false
abbrev Zv(x:Str):Prop:=(x==("__classdict__" : Str))=false
abbrev ja(c:Cx)(o:Expr)(name:Str):Prop:=attributeBase o name c.env (eval o c.env)=eval o c.env
def Holds(env:Env)(h:Heap)(x:Str)(v:Value):Prop:=
 ((x==("__debug__" : Str))=false/\(x==("__classdict__" : Str))=false)/\
 ((env.kindOf x=some .local/\env.locals≠TP/\∃m,h.Ns env.locals m/\m x=some v)\/
 (∃c,(env.kindOf x=some .cell\/env.kindOf x=some .free)/\env.cells.lookup x=some c/\c≠TP/\h.IsCell c (some v)))
structure Fr(c:Cx)(J:B4)(h:Heap):Prop where
 base:CW c.w h
 Ck:FU c.X h
 kind:c.env.scope.kind=.function
 glob:c.env.globals=3
 blt:c.env.builtins=0
 ok:E9 c.k c.A
 old:Bu c.M c.h0 h
 loc:c.X c.env.locals/\c.h0.get? c.env.locals=none/\∃m,h.Ns c.env.locals m
 E0:∀x a,c.env.cells.lookup x=some a->a≠c.env.locals/\a≠TP/\(∃v,h.IsCell a v)/\(c.own x->c.X a/\c.h0.get? a=none)
 apart:∀x y a,c.env.cells.lookup x=some a->c.env.cells.lookup y=some a->x=y
 names:∀x d,(x,d)∈J->∃v,Holds c.env h x v/\B9 c.X c.w h v d
 g:c.G.P c.w c.X h
 gx:∀b,c.G.fp b->(c.X b/\(c.ro\/c.M b\/c.h0.get? b=none))/\b≠c.env.locals/\∀x,c.env.cells.lookup x≠some b
def Off(c:Cx)(a:Addr):Prop:=c.X a/\(c.M a\/c.h0.get? a=none)/\¬c.G.fp a/\a≠c.env.locals/\∀x,c.env.cells.lookup x≠some a
theorem Holds.keep{env:Env}(H:Holds env h x v)(k1:∀o,env.locals≠TP->h.get? env.locals=some o->h'.get? env.locals=some o)(k2:∀a o,a≠TP->env.cells.lookup x=some a->h.get? a=some o->h'.get? a=some o):Holds env h' x v:=
 ⟨H.1,H.2.imp (λzz=>by obtain⟨k,n,m,e,q⟩:=zz;exact⟨k,n,m,Cm e λo z=>k1 o n z,q⟩)
  λzz=>by obtain⟨c,k,e,n,o,z,q⟩:=zz;exact⟨c,k,e,n,o,k2 c o n e z,q⟩⟩
theorem Fr.W7(F:Fr c J h):c.env.locals≠TP:=λq=>F.Ck.nt (q▸F.loc.1)
theorem B1{v:Option Value}(x:h.IsCell a v)(k:∀o,h.get? a=some o->h'.get? a=some o):h'.IsCell a v:=
 by refine Bi x ?_;clear x;intro o e r;exact⟨o,k o e,r⟩
theorem Fr.off(F:Fr c J h)(l:Bu W h h')(s:∀a,W a->Off c a):Fr c J h':=
 have kl:∀o,h.get? c.env.locals=some o->h'.get? c.env.locals=some o:=λo e=>l.keep _ o F.W7 (λq=>(s _ q).2.2.2.1 rfl) e;have kc:∀x a o,c.env.cells.lookup x=some a->a≠TP->h.get? a=some o->h'.get? a=some o:=λx a o e n z=>l.keep _ o n (λq=>(s _ q).2.2.2.2 x e) z
 {base:=F.base.le l λa q=>(F.Ck a (s a q).1).1
  Ck:=F.Ck.le l
  kind:=F.kind,glob:=F.glob,blt:=F.blt,ok:=F.ok
  old:=⟨λb o n nw e=>(l.keep b o n · (F.old.keep b o n nw e)) λq=>(s b q).2.1.elim nw (λz=>by rw[z]at e;cases e),λb o n V e=>by
   refine B6 (F.old.alive n e) ?_;intro o' e';exact l.alive n e',λt=>l.tab (F.old.tab t),λb o e z=>l.code b o (F.old.code b o e z) z⟩
  loc:=⟨F.loc.1,F.loc.2.1,by refine B6 F.loc.2.2 ?_;intro m n;exact⟨m,Cm n kl⟩⟩
  E0:=λx a e=>by refine Hv (F.E0 x a e) ?_;intro a1 a2 Cr a4;refine B6 Cr ?_;intro v a3;exact⟨a1,a2,⟨v,B1 a3 λo z=>kc x a o e a2 z⟩,a4⟩
  apart:=F.apart
  names:=λx d m=>by refine Bi (F.names x d m) ?_;intro v H r;exact⟨v,H.keep (λo V e=>kl o e) (λa o n e z=>kc x a o e n z),r.move (DR l λa q=>(s a q).1)⟩
  g:=c.G.mv F.g λb o q n e=>⟨l.at n e λz=>q.elim (λy=>absurd y (s b z).2.2.1) λq=>q.elim (λy=>absurd (s b z).1 y) id,id⟩
  gx:=F.gx}
theorem Fr.le(F:Fr c J h)(l:Le h h'):Fr c J h':=F.off l λV q=>q.elim
theorem Fr.sub(F:Fr c J h)(s:∀p∈J',p∈J):Fr c J' h:={F with names:=λx d m=>F.names x d (s _ m)}
def Ev(c:Cx)(J:B4)(e:Expr)(d:D):Prop:=
 ∀s,Fr c J s.heap->Run c.w c.A Hw (eval e c.env) s λv h'=>B9 c.X c.w h' v d
def CL(c:Cx)(J:B4)(e:Expr)(b:Bool):Prop:=
 ∀s,Fr c J s.heap->Run c.w c.A Hw (isTrue e c.env (eval e c.env)) s λx V=>x=b
def FQ(c:Cx)(J:B4)(es:Cy)(ds:Cs):Prop:=
 ∀pos s,Fr c J s.heap->Run c.w c.A Hw (spliced (backTo pos (starEach es c.env))) s λvs h'=>Bf c.X c.w h' vs ds
theorem Ev.eq{d':D}(x:Ev c J e d)(q:d=d'):Ev c J e d':=q▸x
theorem CL.eq{d d':Bool}(x:CL c J e d)(q:d=d'):CL c J e d':=q▸x
theorem Ev.cInt{i:Int}{k pos}:Ev c J (.Constant (.int i) k pos) (.int i):=λV V Q V q=>wpAny_Constant_int (q _ _ _ (.refl _) (.int _ _))
theorem Ev.cStr{k pos}:Ev c J (.Constant (.str x) k pos) (.str x):=λV V Q V q=>wpAny_Constant_str (q _ _ _ (.refl _) (.str _ _))
theorem Ev.OM{k pos}:Ev c J (.Constant .none k pos) .none:=λs V Q V q=>wpAny_Constant_none (q _ s.heap s.toks (.refl _) .none)
theorem Ev.cBool{b:Bool}{k pos}:Ev c J (.Constant (.bool b) k pos) (.bool b):=λs V Q V q=>wpAny_Constant_bool (q _ s.heap s.toks (.refl _) (.bool _))
theorem D2{env:Env}{M:Model}(H:Holds env s.heap x v)(k:env.scope.kind=.function)(q:Q v s) :
  wpAny M A (loadName env x) Q E s:=by
 refine CC H ?_;clear H;intro Dv H;refine CC Dv ?_;intro V hc;rcases H with⟨hk,_,m,n,e⟩|⟨c,hk|hk,e,_,n⟩
 .exact wpAny_loadName_local k hk n e q
 .exact wpAny_loadName_cell k hk e n q
 .exact wpAny_loadName_free k hk e n q hc
theorem Ev.name(m:(x,d)∈J):Ev c J (.Name x pos) d:=λs F Q V q=>by
 refine Bi (F.names x d m) ?_;intro v H r;exact wpAny_Name (D2 H F.kind (q v s.heap s.toks (.refl _) r)) H.1.1
theorem Ev.n(h:autoParam (J.lookup x=some d) Bd):Ev c J (.Name x pos) d:=Ev.name (lookup_mem h)
theorem Rt{env:Env}(k:env.scope.kind=.function)(hk:env.kindOf x=some .globalImplicit):loadName env x=loadGlobal env x:=by
 unfold loadName Env.blockKind;rw[k,hk];rfl
theorem O0{M:Model}{env:Env}(B:CW c.w s.heap)(k:env.scope.kind=.function)(g:env.globals=3)(hk:env.kindOf x=some .globalImplicit)(m:(x,some v)∈W5)(q:Q v s):wpAny M A (loadName env x) Q E s:=by
 refine Bi B.gl ?_;intro mg n r;rw[Rt k hk];unfold loadGlobal;rw[g];refine wpAny_bind (wpAny_nsGet n ?_);rw[r _ m];exact wpAny_pure q
theorem GU{M:Model}{env:Env}(B:CW c.w s.heap)(k:env.scope.kind=.function)(g:env.globals=3)(b:env.builtins=0)(hk:env.kindOf x=some .globalImplicit)(m:(x,none)∈W5)(hb:bootBuiltins x=some v)(hn:x≠Str.ofString "__name__")(q:Q v s):wpAny M A (loadName env x) Q E s:=by
 refine Bi B.gl ?_;intro mg n r;refine Bi B.bt ?_;intro mb n' r';rw[Rt k hk];unfold loadGlobal;rw[g,b];refine wpAny_bind (wpAny_nsGet n ?_);rw[r _ m];refine wpAny_bind (wpAny_nsGet n' ?_);rw[r' _ hn,hb];exact wpAny_pure q
theorem Ev.glob(m:(x,some v)∈W5)(hk:c.env.kindOf x=some .globalImplicit)(r:∀h,B9 c.X c.w h v d)(hd:autoParam (UO x) Fj):Ev c J (.Name x pos) d:=
 λs F Q V q=>wpAny_Name (O0 F.base F.kind F.glob hk m (q v s.heap s.toks (.refl _) (r _))) hd
theorem Ev.Gn(m:(x,Option.none)∈W5)(hb:bootBuiltins x=some v)(hk:c.env.kindOf x=some .globalImplicit)(hn:autoParam (x≠Str.ofString "__name__") Fj)(hd:autoParam (UO x) Fj) :
  Ev c J (.Name x pos) (.obj v):=
 λs F Q V q=>wpAny_Name (GU F.base F.kind F.glob F.blt hk m hb hn (q v s.heap s.toks (.refl _) (.obj _))) hd
theorem Ev.two{dl dr:D}{f:Value->Value->Sem Value}(x:Ev c J l dl)(y:Ev c J r dr)(z:∀a b s,Fr c J s.heap->B9 c.X c.w s.heap a dl->B9 c.X c.w s.heap b dr->Run c.w c.A Hw (f a b) s λv h'=>B9 c.X c.w h' v d)(F:Fr c J s.heap)(q:∀a h' tk,Le s.heap h'->B9 c.X c.w h' a d->Q a {s with heap:=h',toks:=tk}) :
  wpAny (model prog c.w) c.A (eval l c.env) (λa s₁=>wpAny (model prog c.w) c.A (eval r c.env) (λb s₂=>wpAny (model prog c.w) c.A (f a b) Q E s₂) E s₁) E s:=
 x s F _ _ λa h1 t1 l1 r1=>y _ (F.le l1) _ _ λb h2 t2 l2 r2=>
  z a b _ ((F.le l1).le l2) (r1.le l2) r2 Q E λv h3 t3 l3 r3=>q v h3 t3 ((l1.trans l2).trans l3) r3
theorem Ev.bin{op:Operator}{dl dr:D}(x:Ev c J l dl)(y:Ev c J r dr)(z:∀a b s,Fr c J s.heap->B9 c.X c.w s.heap a dl->B9 c.X c.w s.heap b dr->Run c.w c.A Hw (binaryOp op a b) s λv h'=>B9 c.X c.w h' v d):Ev c J (.BinOp l op r pos) d:=
 λV F V V q=>wpAny_BinOp (Ev.two x y z F q)
def Bh(c:Cx)(J:B4)(l:Expr)(op:CmpOp)(r:Expr)(b:Bool):Prop:=
 behindInMarks op r=false/\∀s,Fr c J s.heap->∀(Q:CH) (E:CH),(∀h' tk,Le s.heap h'->Q (.bool b) {s with heap:=h',toks:=tk})->
  wpAny (model prog c.w) c.A (eval l c.env) (λa s₁=>wpAny (model prog c.w) c.A (eval r c.env) (λb s₂=>wpAny (model prog c.w) c.A (compareOp op a b) Q E s₂) E s₁) E s
theorem Bh.of{op:CmpOp}{dl dr:D}{b:Bool}(x:Ev c J l dl)(y:Ev c J r dr)(z:∀v u s,Fr c J s.heap->B9 c.X c.w s.heap v dl->B9 c.X c.w s.heap u dr->Run c.w c.A Hw (compareOp op v u) s λv h'=>B9 c.X c.w h' v (.bool b))(hm:autoParam (behindInMarks op r=false) Dz) :
  Bh c J l op r b:=⟨hm,λs F Q E q=>Ev.two x y z F λv h' tk l r=>by cases r;exact q h' tk l⟩
theorem Bh.eq{op:CmpOp}{b b':Bool}(x:Bh c J l op r b)(e:b=b'):Bh c J l op r b':=e▸x
theorem Ev.cmp{op:CmpOp}{b:Bool}(x:Bh c J l op r b):Ev c J (.Compare l [op] [r] pos) (.bool b):=
 λs F Q E q=>wpAny_Compare1 (x.2 s F Q E λh' tk l=>q _ h' tk l (.bool _)) x.1
theorem CL.cmp{op:CmpOp}{b:Bool}(x:Bh c J l op r b):CL c J (.Compare l [op] [r] pos) b:=
 λs F Q E q=>wpAny_isTrue_Compare1 (x.2 s F _ E λh' tk l=>wpAny_truthy_bool (q _ h' tk l rfl)) x.1
theorem FQ.nil:FQ c J [] []:=λpos s V V V q=>wpAny_items_nil (q _ s.heap s.toks (.refl _) .nil)
theorem FQ.cons{es:Cy}(x:Ev c J e d)(y:FQ c J es ds)(he:autoParam (D9 c e es) Bd):FQ c J (e::es) (d::ds):=
 λpos s F V V q=>wpAny_items_cons (x s F _ _ λa h1 t1 l1 r1=>y pos _ (F.le l1) _ _ λvs h2 t2 l2 r2=>q _ h2 t2 (l1.trans l2) (.cons (r1.le l2) r2)) he
theorem fresh_ne(x:FU X h):¬X h.objs.size:=λq=>by obtain⟨_,_,e⟩:=x _ q;exact Aa _ (Ag e)
theorem B5(t:Tab h):h.objs.size≠TP:=λq=>by refine Bi t ?_;clear t;intro V e V;exact Aa _ (q▸Ag e)
theorem Bn(h:Heap):h.get? h.objs.size=none:=by
 cases e:h.get? h.objs.size with
 |none=>rfl
 |some o=>exact absurd (Ag e) (Aa _)
theorem Ev.tuple{es:Cy}{k pos}(x:FQ c J es ds)(hn:autoParam (ds.length<=1000) Fj):Ev c J (.Tuple es k pos) (.tup ds):=λs F V V q=>
 wpAny_Tuple (x pos s F _ _ λvs h1 t1 l1 r1=>⟨by have:=r1.length;rw[sizeLine_eq];exact Je this hn rfl,q _ _ _ (l1.trans (Le.push _ _))
  (.tup (fresh_ne (F.Ck.le l1)) (B5 (l1.tab F.base.tab)) ⟨_,AH _ rfl,rfl,0,rfl⟩ (r1.le (Le.push _ _)))⟩)
theorem Ev.list{es:Cy}{pos}(x:FQ c J es ds)(hn:autoParam (ds.length<=1000) Fj):Ev c J (.List es pos) (.list ds):=λs F V V q=>
 wpAny_List (x pos s F _ _ λvs h1 t1 l1 r1=>⟨by have:=r1.length;rw[sizeLine_eq];exact Je this hn rfl,q _ _ _ (l1.trans (Le.push _ _))
  (.list (fresh_ne (F.Ck.le l1)) (B5 (l1.tab F.base.tab)) ⟨0,AH _ rfl⟩ (r1.le (Le.push _ _)))⟩)
theorem Ev.Il{pos}{a b:Int}(x:Ev c J l (.int a))(y:Ev c J r (.int b)):Ev c J (.BinOp l .Add r pos) (.int (a+b)):=
 .bin x y λV V s F ra rb Q E q=>by cases ra;cases rb;exact PyProof.Rows.add_int (q _ s.heap _ (.refl _) (.int _ _))
theorem Ev.Li{pos}{a b:Int}(x:Ev c J l (.int a))(y:Ev c J r (.int b)):Ev c J (.BinOp l .Sub r pos) (.int (a-b)):=
 .bin x y λV V s F ra rb Q E q=>by cases ra;cases rb;exact PyProof.Rows.sub_int (q _ s.heap _ (.refl _) (.int _ _))
theorem Ev.TV{pos}{a b:Int}(x:Ev c J l (.int a))(y:Ev c J r (.int b))(h : -(2^60)<a/\a<2^60):Ev c J (.BinOp l .Mult r pos) (.int (a*b)):=
 .bin x y λV V s F ra rb Q E q=>by
  cases ra;cases rb;exact PyProof.Rows.mul_int (q _ s.heap _ (.refl _) (.int _ _)) (IntMulOk.of_left (intBits_le_64 (by lia) (by lia)))
theorem Ev.Sn{pos}{a b:Int}(x:Ev c J l (.int a))(y:Ev c J r (.int b))(h:0<b/\b<2^29):Ev c J (.BinOp l .FloorDiv r pos) (.int (a/b)):=
 .bin x y λV V s F ra rb Q E q=>by
  cases ra;cases rb;refine PyProof.Rows.floordiv_int (by lia) ?_ (.inl (PyProof.noPylong_small (by omega)));rw[Int.fdiv_eq_ediv_of_nonneg _ (by lia)];exact q _ s.heap _ (.refl _) (.int _ _)
theorem Ev.MB{pos}{a b:Int}(x:Ev c J l (.int a))(y:Ev c J r (.int b))(h:0<b):Ev c J (.BinOp l .Mod r pos) (.int (a%b)):=
 .bin x y λV V s F ra rb Q E q=>by
  cases ra;cases rb;refine PyProof.Rows.mod_int' (by exact Ne.symm (Int.ne_of_lt h)) ?_;rw[Int.fmod_eq_emod_of_nonneg _ (by exact Int.le_of_lt h)];exact q _ s.heap _ (.refl _) (.int _ _)
theorem Ev.ik{pos}{a n:Int}(x:Ev c J l (.int a))(y:Ev c J r (.int n))(h:0<=n/\n<=100)(ha:0<=a/\a<=1000):Ev c J (.BinOp l .Pow r pos) (.int (a^n.toNat)):=
 .bin x y λV V s F ra rb Q E q=>by
  cases ra;cases rb;refine PyProof.Rows.pow_int h.1 ?_ (q _ s.heap _ (.refl _) (.int _ _));have hb:Builtin.Int.intBits a<=64:=intBits_le_64 (by omega) (by omega);have:(Builtin.Int.intBits a:Int)*n<=64*n:=Int.mul_le_mul_of_nonneg_right (by exact Nat.ToInt.of_le rfl rfl hb) h.1;lia
theorem Ev.eK{pos}{a b:Str}(x:Ev c J l (.str a))(y:Ev c J r (.str b))(h:a.length+b.length<=1000000):Ev c J (.BinOp l .Add r pos) (.str (a++b)):=
 .bin x y λV V s F ra rb Q E q=>by cases ra;cases rb;exact PyProof.Rows.add_str (λt' tk=>q _ s.heap _ (.refl _) (.str _ _)) (by rw[sizeLine_eq];exact lb h rfl)
theorem Ev.bV{pos}{a:Str}{n:Int}(x:Ev c J l (.str a))(y:Ev c J r (.int n))(h:a.length<=1000/\0<n/\n<=100):Ev c J (.BinOp l .Mult r pos) (.str (Txt.mul a n)):=
 .bin x y λV V s F ra rb Q E q=>by
  cases ra;cases rb;refine SB.mul ⟨by simp only[Bool.or_eq_false_iff,decide_eq_false_iff_not];lia,λh1 h2=>?_,λh1 h2=>?_⟩ (λt' k=>q _ s.heap _ (.refl _) (.str _ _))
  .have:(1000:Int)<=(2^63-1)/n:=(Int.le_ediv_iff_mul_le (by(clear h h2;lia))).mpr (by lia);lia
  .have:a.length*n.toNat<=1000*100:=Nat.mul_le_mul h.1 (by lia);unfold Builtin.Str.tooLong;simp only[decide_eq_false_iff_not];rw[sizeLine_eq];omega
theorem Te{l b:Addr}{i1 i2:Array Value}(h1:s.heap.PlainList l i1)(h2:s.heap.PlainList b i2)(hz:i1.size+i2.size<=sizeLine)(q:Q (.ref s.heap.objs.size) {s with heap:=s.heap.push {cls:=.type "list",data:=.seq (i1++i2)}}):wpAny (model prog w) A (binaryOp .Add (.ref l) (.ref b)) Q E s:=by
 refine B6 h1 ?_;clear h1;intro n1 e1;refine B6 h2 ?_;clear h2;intro n2 e2;exact concat_meets ⟨_,e1,rfl⟩ ⟨_,e2,rfl⟩ noFill_list_add seq_list_add PySem.F.slot_list_add PySem.F.entry_list_add (PySem.F.args_list_add_2 _ _) (list_addW l b i1 i2 n1 n2 none none #[] #[] hz) ⟨e1,e2,q⟩
theorem LM(Ck:FU X h)(t:Tab h)(r:Bf X w h vs ds) :
  B9 X w (h.push {cls:=.type "list",data:=.seq vs.toArray}) (.ref h.objs.size) (.list ds):=
 .list (fresh_ne Ck) (B5 t) ⟨0,AH _ rfl⟩ (r.le (Le.push _ _))
theorem Ev.eI{pos}{a b:Cs}(x:Ev c J l (.list a))(y:Ev c J r (.list b))(h:a.length+b.length<=10000):Ev c J (.BinOp l .Add r pos) (.list (a++b)):=
 .bin x y λV V s F ra rb Q E q=>by
  cases ra with|list n1 t1 p1 r1=>cases rb with|list n2 t2 p2 r2=>
  have e1:=r1.length;have e2:=r2.length;refine Te p1 p2 (by simp only[AY];rw[sizeLine_eq];omega) ?_;rw[List.append_toArray];exact q _ _ _ (Le.push _ _) (LM F.Ck F.base.tab (r1.append r2))
section
variable {X:CG}{w:World}{h:Heap}
mutual
noncomputable def D.py:D->PyData
 |.none=>.none
 |.bool b=>.bool b
 |.int i=>.int i
 |.str s=>.str s
 |.obj _=>.none
 |.list ds=>.list (D.KM ds)
 |.tup ds=>.tuple (D.KM ds)
 |.dict _=>.none
noncomputable def D.KM:List D->List PyData
 |[]=>[]
 |d::ds=>d.py::D.KM ds
end
theorem SE:D.py .none=.none:=rfl
theorem SD{b:Bool}:D.py (.bool b)=.bool b:=rfl
theorem Qm{i:Int}:D.py (.int i)=.int i:=rfl
theorem Qn{s:Str}:D.py (.str s)=.str s:=rfl
theorem Ff:D.py (.list ds)=.list (D.KM ds):=rfl
theorem N0:D.py (.tup ds)=.tuple (D.KM ds):=rfl
theorem KN:D.KM []=[]:=rfl
theorem IP:D.KM (d::ds)=d.py::D.KM ds:=rfl
theorem D.Ga:∀ds:List D,D.KM ds=ds.map D.py
 |[]=>by rw[KN];rfl
 |d::ds=>by rw[IP,D.Ga ds];rfl
inductive Gm:Nat->D->Prop
 |none {n:Nat}:Gm n .none
 |bool {n:Nat}{b:Bool}:Gm n (.bool b)
 |int {n:Nat}{i:Int}:Gm n (.int i)
 |str {n:Nat}{s:Str}:PyData.strOk s=true->Gm n (.str s)
 |list {n:Nat}{ds:Cs}:(∀d∈ds,Gm n d)->Gm (n+1) (.list ds)
 |tup {n:Nat}{ds:Cs}:(∀d∈ds,Gm n d)->Gm (n+1) (.tup ds)
theorem Nz:∀ {ds:Cs},(∀d∈ds,d.py.canLay0=true)->PyData.canLayAll0 (D.KM ds)=true
 |[],_=>by rw[KN,PyData.canLayAll0]
 |d::ds,k=>by rw[IP,PyData.canLayAll0,k d (.head _),Nz λe he=>k e (.tail _ he)];rfl
theorem JM{n:Nat}:∀ {ds:Cs},(∀d∈ds,d.py.depth<=n)->PyData.depthAll (D.KM ds)<=n
 |[],_=>by rw[KN,PyData.depthAll];exact Al _
 |d::ds,k=>by rw[IP,PyData.depthAll];exact Nat.max_le.mpr ⟨k d (.head _),JM λe he=>k e (.tail _ he)⟩
theorem Gm.Ph{n:Nat}(f:Gm n d):d.py.canLay0=true/\d.py.depth<=n:=by
 induction f with
 |none=>rw[SE];exact⟨by rw[PyData.canLay0],by rw[PyData.depth];exact Al _⟩
 |bool=>rw[SD];exact⟨by rw[PyData.canLay0],by rw[PyData.depth];exact Al _⟩
 |int=>rw[Qm];exact⟨by rw[PyData.canLay0],by rw[PyData.depth];exact Al _⟩
 |str h=>rw[Qn];exact⟨by rw[PyData.canLay0];exact h,by rw[PyData.depth];exact Al _⟩
 |list h ih=>rw[Ff];exact⟨by rw[PyData.canLay0];exact Nz λd hd=>(ih d hd).1,by rw[PyData.depth];exact Nat.succ_le_succ (JM λd hd=>(ih d hd).2)⟩
 |tup h ih=>rw[N0];exact⟨by rw[PyData.canLay0];exact Nz λd hd=>(ih d hd).1,by rw[PyData.depth];exact Nat.succ_le_succ (JM λd hd=>(ih d hd).2)⟩
section
theorem Bf.reads(r:Bf X w h vs ds)(k:∀v d,d∈ds->B9 X w h v d->∃as,Reads h v d.py as):∃as,ReadsAll h vs (D.KM ds) as:=by
 induction ds generalizing vs with
 |nil=>cases r;rw[KN];exact⟨[],.nil⟩
 |cons d ds ih=>
  cases r with
  |cons a b=>
   refine B6 (k _ _ (.head _) a) ?_;intro as x;obtain⟨bs,y⟩:=ih b λv e he=>k v e (.tail _ he);rw[IP];exact⟨_,.cons x y⟩
theorem B9.reads{n:Nat}(f:Gm n d):∀ {v:Value},B9 X w h v d->∃as,Reads h v d.py as:=by
 induction f with
 |none=>intro v r;cases r;rw[SE];exact⟨[],.none⟩
 |bool=>intro v r;cases r;rw[SD];exact⟨[],.bool _⟩
 |int=>intro v r;cases r;rw[Qm];exact⟨[],.int _ _⟩
 |str _=>intro v r;cases r;rw[Qn];exact⟨[],.str _ _⟩
 |list _ ih=>
  intro v r;cases r with
  |list nx nt p r=>
   refine B6 p ?_;clear p;intro k e;obtain⟨as,x⟩:=r.reads λv d hd rr=>ih d hd rr;rw[Ff];exact⟨_,.list e rfl rfl x⟩
 |tup _ ih=>
  intro v r;cases r with
  |tup nx nt p r=>
   obtain⟨o,e,hc,k,hd⟩:=p;obtain⟨as,x⟩:=r.reads λv d hd rr=>ih d hd rr;rw[N0];exact⟨_,.tuple e hc hd x⟩
end
variable {c:Cx}{J:B4}
noncomputable def D.eqv(a b:D):Bool:=PyData.eqv a.py b.py
theorem Bh.UC{a b:D}{n m:Nat}(x:Ev c J l a)(y:Ev c J r b)(fa:Gm n a)(fb:Gm m b)(hn:autoParam (n<=60) Fj)(hm:autoParam (behindInMarks .Eq r=false) Dz) :
  Bh c J l .Eq r (a.eqv b):=
 Bh.of x y (λV V s F ra rb Q E q=>by
  refine B6 (ra.reads fa) ?_;intro as r1;refine B6 (rb.reads fb) ?_;intro bs r2;have d1:=fa.Ph.2;have u:=F.ok.line;exact SeqAt.compareEq_reads r1 r2 fa.Ph.1 fb.Ph.1 (BA (Nat.add_le_add_left (AD (BU _ _) d1) _) (by lia)) (q _ s.heap s.toks (.refl _) (.bool _))) hm
theorem Bh.W9{a b:D}{n m:Nat}(x:Ev c J l a)(y:Ev c J r b)(fa:Gm n a)(fb:Gm m b)(hn:autoParam (n<=60) Fj)(hm:autoParam (behindInMarks .NotEq r=false) Dz) :
  Bh c J l .NotEq r (!a.eqv b):=
 Bh.of x y (λV V s F ra rb Q E q=>by
  refine B6 (ra.reads fa) ?_;intro as r1;refine B6 (rb.reads fb) ?_;intro bs r2;have d1:=fa.Ph.2;have u:=F.ok.line;exact SeqAt.compareNe_reads r1 r2 fa.Ph.1 fb.Ph.1 (BA (Nat.add_le_add_left (AD (BU _ _) d1) _) (by lia)) (q _ s.heap s.toks (.refl _) (.bool _))) hm
noncomputable def D.L2(ds:Cs)(d:D):Bool:=ds.any λe=>e.eqv d
theorem NA(ds:Cs)(d:D):((D.KM ds).any λy=>PyData.eqv y d.py)=D.L2 ds d:=by
 rw[D.Ga,List.any_map];rfl
theorem Bh.qZ{a:D}{n m:Nat}(x:Ev c J l a)(y:Ev c J r (.list ds))(fa:Gm n a)(fb:Gm m (.list ds))(hn:autoParam (n<=50) Fj)(hm:autoParam (behindInMarks .In r=false) Dz) :
  Bh c J l .In r (D.L2 ds a):=
 Bh.of x y (λV V s F ra rb Q E q=>by
  refine B6 (ra.reads fa) ?_;intro as r1;refine B6 (rb.reads fb) ?_;intro bs r2;have d1:=fa.Ph.2;have u:=F.ok.line;rw[Ff]at r2;have cb:(D.list ds).py.canLay0=true:=fb.Ph.1;rw[Ff,PyData.canLay0]at cb;refine SeqAt.in_list_reads r2 r1 cb fa.Ph.1 (BA (Nat.add_le_add_left (AD (A9 _ _) d1) _) (by lia)) ?_;rw[NA];exact q _ s.heap s.toks (.refl _) (.bool _)) hm
theorem Bh.bh{a:D}{n m:Nat}(x:Ev c J l a)(y:Ev c J r (.list ds))(fa:Gm n a)(fb:Gm m (.list ds))(hn:autoParam (n<=50) Fj)(hm:autoParam (behindInMarks .NotIn r=false) Dz) :
  Bh c J l .NotIn r (!D.L2 ds a):=
 Bh.of x y (λV V s F ra rb Q E q=>by
  refine B6 (ra.reads fa) ?_;intro as r1;refine B6 (rb.reads fb) ?_;intro bs r2;have d1:=fa.Ph.2;have u:=F.ok.line;rw[Ff]at r2;have cb:(D.list ds).py.canLay0=true:=fb.Ph.1;rw[Ff,PyData.canLay0]at cb;refine SeqAt.notIn_list_reads r2 r1 cb fa.Ph.1 (BA (Nat.add_le_add_left (AD (A9 _ _) d1) _) (by lia)) ?_;rw[NA];exact q _ s.heap s.toks (.refl _) (.bool _)) hm
theorem Bh.ui{a:D}{n m:Nat}(x:Ev c J l a)(y:Ev c J r (.tup ds))(fa:Gm n a)(fb:Gm m (.tup ds))(hn:autoParam (n<=50) Fj)(hm:autoParam (behindInMarks .In r=false) Dz) :
  Bh c J l .In r (D.L2 ds a):=
 Bh.of x y (λV V s F ra rb Q E q=>by
  refine B6 (ra.reads fa) ?_;intro as r1;refine B6 (rb.reads fb) ?_;intro bs r2;have d1:=fa.Ph.2;have u:=F.ok.line;rw[N0]at r2;have cb:(D.tup ds).py.canLay0=true:=fb.Ph.1;rw[N0,PyData.canLay0]at cb;refine SeqAt.in_tuple_reads r2 r1 cb fa.Ph.1 (BA (Nat.add_le_add_left (AD (A9 _ _) d1) _) (by lia)) ?_;rw[NA];exact q _ s.heap s.toks (.refl _) (.bool _)) hm
theorem Bh.ltI{a b:Int}(x:Ev c J l (.int a))(y:Ev c J r (.int b))(hm:autoParam (behindInMarks .Lt r=false) Dz):Bh c J l .Lt r (decide (a<b)):=
 Bh.of x y (λV V s F ra rb Q E q=>by cases ra;cases rb;exact PyProof.Rows.lt_int (q _ s.heap s.toks (.refl _) (.bool _))) hm
theorem Bh.jr{a b:Int}(x:Ev c J l (.int a))(y:Ev c J r (.int b))(hm:autoParam (behindInMarks .Gt r=false) Dz):Bh c J l .Gt r (decide (b<a)):=
 Bh.of x y (λV V s F ra rb Q E q=>by cases ra;cases rb;exact PyProof.Rows.gt_int (q _ s.heap s.toks (.refl _) (.bool _))) hm
theorem Bh.tT{a b:Int}(x:Ev c J l (.int a))(y:Ev c J r (.int b))(hm:autoParam (behindInMarks .GtE r=false) Dz):Bh c J l .GtE r (decide (b<=a)):=
 Bh.of x y (λV V s F ra rb Q E q=>by cases ra;cases rb;exact PyProof.Rows.ge_int (q _ s.heap s.toks (.refl _) (.bool _))) hm
theorem Bh.nj{a b:Str}(x:Ev c J l (.str a))(y:Ev c J r (.str b))(hm:autoParam (behindInMarks .In r=false) Dz):Bh c J l .In r (Txt.contains b a):=
 Bh.of x y (λV V s F ra rb Q E q=>by cases ra;cases rb;exact SB.contains (q _ s.heap s.toks (.refl _) (.bool _))) hm
theorem Bh.isNone{k p}(x:Ev c J l d)(b:Bool)(hb:∀h v,B9 c.X c.w h v d->(v==Value.none)=b):Bh c J l .Is (.Constant .none k p) b:=
 Bh.of x Ev.OM (λv V s F ra rb Q E q=>by
  cases rb;refine PySem.is_none ?_;rw[hb _ _ ra];exact q _ s.heap s.toks (.refl _) (.bool _)) rfl
theorem Bh.isNotNone{k p}(x:Ev c J l d)(b:Bool)(hb:∀h v,B9 c.X c.w h v d->(!(v==Value.none))=b):Bh c J l .IsNot (.Constant .none k p) b:=
 Bh.of x Ev.OM (λv V s F ra rb Q E q=>by
  cases rb;refine PySem.isNot_none ?_;rw[hb _ _ ra];exact q _ s.heap s.toks (.refl _) (.bool _)) rfl
end
noncomputable def cut(L:List α)(lo hi:Option Int):List α:=(L.drop (lo.elim 0 (clipAt L.length))).take (hi.elim L.length (clipAt L.length)-lo.elim 0 (clipAt L.length))
theorem NI{β:Type}(f:α->β)(L:List α)(lo hi:Option Int):cut (L.map f) lo hi=(cut L lo hi).map f:=by
 unfold cut;rw[AA,<- List.map_drop,<- List.map_take]
theorem Hb(vs:DW)(lo hi:Option Int):slicePick vs.toArray lo hi none=(cut vs lo hi).toArray:=by
 rw[slicePick_plain];unfold cut;rw[AY]
theorem Mw(lo hi:Option Int)(n:Nat):Builtin.Str.strSliceIndices lo hi 1 n=PySem.sliceRange (sliceBounds lo hi none n).1 (sliceBounds lo hi none n).2.1 (sliceBounds lo hi none n).2.2:=rfl
theorem Bf.cut(r:Bf X w h vs ds)(lo hi:Option Int):Bf X w h (cut vs lo hi) (cut ds lo hi):=by
 unfold Mine.cut;rw[r.length];exact(r.drop _).take _
theorem N8(cps:Array Nat)(lo hi:Option Int):((Builtin.Str.strSliceIndices lo hi 1 cps.size).filterMap (cps[·]?))=cut cps.toList lo hi:=by
 have k:=congrArg Array.toList (Hb (cps.toList.map λc=>Value.int (c:Nat) 0) lo hi);rw[NI]at k;have hs:(cps.toList.map λc=>Value.int (c:Nat) 0).toArray.size=cps.size:=by simp
 unfold slicePick at k;rw[hs]at k;have e:(λi:Nat=>(cps.toList.map λc=>Value.int (c:Nat) 0).toArray[i]?)=λi=>(cps[i]?).map λc=>Value.int (c:Nat) 0:=by
  funext i;simp
 have k':((Builtin.Str.strSliceIndices lo hi 1 cps.size).filterMap (cps[·]?)).map (λc=>Value.int (c:Nat) 0)=(cut cps.toList lo hi).map λc=>Value.int (c:Nat) 0:=by
  rw[Mw,List.map_filterMap];simpa using k
 exact(List.map_inj_right (λa b e=>by injection e with e;omega)).mp k'
theorem Ev.item{value slice:Expr}{pos}{dv di:D}(x:Ev c J value dv)(y:Ev c J slice di)(z:∀o i s,Fr c J s.heap->B9 c.X c.w s.heap o dv->B9 c.X c.w s.heap i di->
   (∃T id,s.TypeIs o T/\typeLookup (.type T) "__getitem__"=pure (some (.builtin id)))/\Run c.w c.A Hw (getItem o i) s λv h'=>B9 c.X c.w h' v d)(hs:autoParam (∀o i,XE slice o i) Ng):Ev c J (.Subscript value slice pos) d:=
 λV F V V q=>PyProof.Rows.Subscript_ (Ev.two x y (λa b s F ra rb Q E q=>by
  refine CC (z a b s F ra rb) ?_;intro Cr r;refine Fq Cr ?_;intro T id ht hl;exact tail_any ht hl (r Q E q) (hs _ _)) F q)
theorem Ev.FH{value slice:Expr}{pos}{i:Int}(x:Ev c J value (.list ds))(y:Ev c J slice (.int i))(h0:0<=i)(hd:ds[i.toNat]? = some d)(hz:autoParam (ds.length<=1000000) Fj)(hs:autoParam (∀o i,XE slice o i) Ng):Ev c J (.Subscript value slice pos) d:=
 .item x y (λo iv s F ra rb=>by
  cases rb;cases ra with|list nx nt p r=>
  refine Bi (r.get hd) ?_;intro v hv rv;have Dx:=(AP.mp hd).1;exact⟨⟨_,_,p.isList.typeIs,slot_list_getitem.lookup⟩,λQ E q=>wpAny_getItem_list p.isList h0 (by(clear h0;lia)) (by simpa using hv) (q _ s.heap s.toks (.refl _) rv)⟩) hs
theorem Ev.Vd{value slice:Expr}{pos}{i:Int}(x:Ev c J value (.list ds))(y:Ev c J slice (.int i))(h0:i<0)(h1 : -(ds.length:Int)<=i)(hd:ds[(i+ds.length).toNat]? = some d)(hz:autoParam (ds.length<=1000000) Fj)(hs:autoParam (∀o i,XE slice o i) Ng):Ev c J (.Subscript value slice pos) d:=
 .item x y (λo iv s F ra rb=>by
  cases rb;cases ra with|list nx nt p r=>
  refine Bi (r.get hd) ?_;intro v hv rv;have hl:=r.length;refine⟨⟨_,_,p.isList.typeIs,slot_list_getitem.lookup⟩,λQ E q=>wpAny_getItem_list_neg p.isList h0 (by simpa[hl]using h1) (by(clear h0;lia)) ?_ (q _ s.heap s.toks (.refl _) rv)⟩;simpa[hl]using hv) hs
theorem Ev.gh{value slice:Expr}{pos}{t:Str}{i:Int}(x:Ev c J value (.str t))(y:Ev c J slice (.int i))(h:(Txt.charAt t i).isSome=true)(hi:fitsSsize i=true)(hs:autoParam (∀o i,XE slice o i) Ng):Ev c J (.Subscript value slice pos) (.str (Txt.item t i)):=
 .item x y (λo iv s F ra rb=>by
  cases rb;cases ra;exact⟨⟨_,_,typeIs_str s _ _,PyProof.Rows.slot_str_getitem.lookup⟩,λQ E q=>SB.getItem hi h (q _ s.heap _ (.refl _) (.str _ _))⟩) hs
theorem LW{kvs:Di}(r:Cc X w h kvs es){k:Str}(e:es.lookup k=some d):∃v,valueAt kvs k=some v/\B9 X w h v d:=by
 induction es generalizing kvs with
 |nil=>cases e
 |cons p es ih=>
  cases r with
  |cons a b=>
   rename_i k' v d' vs;rw[AK]at e;unfold valueAt;by_cases q:k'=k
   .subst q;simp only[beq_self_eq_true]at e;cases e;exact⟨_,by simp,a⟩
   .have q':(k==k')=false:=by simpa using λz=>q z.symm
    rw[q']at e;refine Bi (ih b e) ?_;intro v hv rv;refine⟨v,?_,rv⟩;unfold valueAt at hv;simpa[List.find?_cons,q]using hv
theorem Tl{kvs:Di}(r:Cc X w h kvs es){k:Str}(e:es.lookup k=none):valueAt kvs k=none:=by
 induction es generalizing kvs with
 |nil=>cases r;rfl
 |cons p es ih=>
  cases r with
  |cons a b=>
   rename_i k' v d' vs;rw[AK]at e;by_cases q:k'=k
   .subst q;simp at e
   .have q':(k==k')=false:=by simpa using λz=>q z.symm
    rw[q']at e;have hv:=ih b e;unfold valueAt at hv ⊢;simpa[List.find?_cons,q]using hv
theorem Eb{kvs:Di}(x:s.heap.DictOf (KS w) a kvs):s.TypeIs (.ref a) "dict":=by refine Mo x ?_;clear x;intro o es ep e ex V;exact⟨o,e,ex.1⟩
theorem DL(w:World)(k:Str)(t:Tok):(KS w).is k (.str k t)=true:=by show Value.isStrOf k (.str k t)=true;simp[Value.isStrOf]
theorem Ev.CR{value slice:Expr}{pos}{k:Str}(x:Ev c J value (.dict es))(y:Ev c J slice (.str k))(hd:es.lookup k=some d)(hs:autoParam (∀o i,XE slice o i) Ng):Ev c J (.Subscript value slice pos) d:=
 .item x y (λo iv s F ra rb=>by
  cases rb;cases ra with|dict nx nt ns p r=>
  refine Bi (LW r hd) ?_;intro v hv rv;exact⟨⟨_,_,Eb p,PySem.slot_dict_getitem.lookup⟩,λQ E q=>wpAny_getItem_of (knd:=KS c.w) (DL _ _ _) p.mapOf hv (q _ s.heap _ (.refl _) rv)⟩) hs
theorem WJ{kvs:Di}(r:Cc X w h kvs es)(k:Str):(valueAt kvs k).isSome=(es.lookup k).isSome:=by
 cases e:es.lookup k with
 |none=>rw[Tl r e];rfl
 |some d=>refine Bi (LW r e) ?_;intro v hv V;rw[hv];rfl
theorem MO(n:Nat)(i:Int):clipAt n i<=n:=
 Int.toNat_le.mpr (Int.max_le.mpr ⟨BD n,Int.min_le_right _ _⟩)
theorem Sl{L:List α}{lo hi:Option Int}(h:(Builtin.Str.strSliceIndices lo hi 1 L.length).length=L.length):cut L lo hi=L:=by
 rw[Mw,sliceBounds_plain]at h;unfold cut;have ha:lo.elim 0 (clipAt L.length)<=L.length:=by cases lo with|none=>exact Al _|some i=>exact MO _ _
 have hb:hi.elim L.length (clipAt L.length)<=L.length:=by cases hi with|none=>exact Ad _|some i=>exact MO _ _
 generalize lo.elim 0 (clipAt L.length)=a at h ha ⊢;generalize hi.elim L.length (clipAt L.length)=b at h hb ⊢;unfold sliceRange at h;simp only[AA,List.length_range]at h;by_cases hn:L.length=0
 .rw [List.length_eq_zero_iff.mp hn];simp
 .have e0:a=0/\b=L.length:=by
   split at h
   .split at h<;>lia
   .lia
  rw[e0.1,e0.2];simp
def Part(c:Cx)(J:B4)(e:Option Expr)(k:Option Int):Prop:=
 ∀s,Fr c J s.heap->Run c.w c.A Hw (evalPart e c.env) s λv V=>∃kt:Option (Int×Tok),v=partValue kt/\kt.map (·.1)=k
theorem Part.no:Part c J none none:=λs F Q E q=>by rw[evalPart_none];exact wpAny_pure (q _ s.heap s.toks (.refl _) ⟨none,rfl,rfl⟩)
theorem Part.int{i:Int}(x:Ev c J e (.int i)):Part c J (some e) (some i):=λs F Q E q=>by
 rw[evalPart_some];exact x s F Q E λv h tk l r=>by cases r with|int _ t=>exact q _ h tk l ⟨some (i,t),rfl,rfl⟩
theorem Part.nul(x:Ev c J e .none):Part c J (some e) none:=λs F Q E q=>by
 rw[evalPart_some];exact x s F Q E λv h tk l r=>by cases r;exact q _ h tk l ⟨none,rfl,rfl⟩
theorem Fz{kt:Option (Int×Tok)}:IsPart (partValue kt) (kt.map (·.1)):=by
 cases kt with
 |none=>exact .none
 |some p=>exact .int _ _
theorem Ev.slice{value:Expr}{lo hi:Option Expr}{p pos}{dv:D}{kl ku:Option Int}(x:Ev c J value dv)(y1:Part c J lo kl)(y2:Part c J hi ku)(z:∀o sl s l u,Fr c J s.heap->B9 c.X c.w s.heap o dv->l.map (·.1)=kl->u.map (·.1)=ku->s.heap.IsSlice sl l u none->s.heap.IsSliceOf sl (partValue l) (partValue u) .none->
   (∃T id,s.TypeIs o T/\typeLookup (.type T) "__getitem__"=pure (some (.builtin id)))/\Run c.w c.A Hw (getItem o (.ref sl)) s λv h'=>B9 c.X c.w h' v d) :
  Ev c J (.Subscript value (.Slice lo hi none p) pos) d:=
 λs F Q E q=>PyProof.Rows.Subscript_ (x s F _ _ λo h1 t1 l1 r1=>wpAny_Slice (y1 _ (F.le l1) _ _ λvl h2 t2 l2 zz=>Bi zz λdX e1 dE=>y2 _ ((F.le l1).le l2) _ _ λvu h3 t3 l3 zz=>Bi zz λdY e2 lZ=>by
  subst e1 e2;rw[evalPart_none];refine wpAny_pure ?_;have l4:Le h3 (h3.push {cls:=.type "slice",data:=.fields #[partValue dX,partValue dY,.none]}):=Le.push _ _;have F4:=((F.le l1).le l2).le l3 |>.le l4;obtain⟨⟨T,id,ht,hl⟩,r⟩:=z o _ {s with heap:=h3.push {cls:=.type "slice",data:=.fields #[partValue dX,partValue dY,.none]},toks:=t3} dX dY F4 (((r1.le l2).le l3).le l4) dE lZ
   ⟨_,AH _ rfl,rfl,rfl⟩ (Heap.IsSliceOf.new _ _ _ _)
  refine tail_any (ops:=[.ref h3.objs.size,o]) ht hl (r Q E λv h5 t5 l5 r5=>q v h5 t5 ((((l1.trans l2).trans l3).trans l4).trans l5) r5) rfl))
theorem Ev.EI{value:Expr}{lo hi:Option Expr}{p pos}{kl ku:Option Int}(x:Ev c J value (.list ds))(y1:Part c J lo kl)(y2:Part c J hi ku)(hz:autoParam (ds.length<=1000000) Fj) :
  Ev c J (.Subscript value (.Slice lo hi none p) pos) (.list (cut ds kl ku)):=
 .slice x y1 y2 λo sl s l u F ro e1 e2 UE QO=>by
  refine Qg (B9.Hn ro) ?_;rintro V V rfl nx nt pl r;have hl:=r.length;refine⟨⟨_,_,pl.isList.typeIs,slot_list_getitem.lookup⟩,λQ E q=>wpAny_getItem_list_slice pl.isList QO Fz Fz .none (by nofun) ?_ (by simp only[AY];rw[sizeLine_eq];exact Je hl hz rfl)⟩;rw[Hb,e1,e2];exact q _ _ _ (Le.push _ _) (LM F.Ck F.base.tab (r.cut _ _))
theorem Ev.cS{value:Expr}{lo hi:Option Expr}{p pos}{t:Str}{kl ku:Option Int}(x:Ev c J value (.str t))(y1:Part c J lo kl)(y2:Part c J hi ku)(hz:autoParam (t.length<=1000000) Fj) :
  Ev c J (.Subscript value (.Slice lo hi none p) pos) (.str ⟨(cut t.cps.toList kl ku).toArray⟩):=
 .slice x y1 y2 λo sl s l u F ro e1 e2 UE QO=>by
  cases ro;refine⟨⟨_,_,typeIs_str s _ _,PyProof.Rows.slot_str_getitem.lookup⟩,λQ E q=>wpAny_getItem_str_slice UE rfl ?_⟩;have key:((slicePicked t l u none).filterMap (t.cps[·]?))=cut t.cps.toList kl ku:=by
   unfold slicePicked;rw[e1,e2];exact N8 t.cps kl ku
  unfold sliceMade;split
  .rename_i hc;have hle:(slicePicked t l u none).length=t.length:=by simp only[Bool.and_eq_true,beq_iff_eq]at hc;exact hc.2
   have e:(⟨(cut t.cps.toList kl ku).toArray⟩:Str)=t:=by
    have hp:(Builtin.Str.strSliceIndices kl ku 1 t.cps.toList.length).length=t.cps.toList.length:=by
     have:t.cps.toList.length=t.length:=by simp[Str.length]
     rw[this];unfold slicePicked at hle;rw[e1,e2]at hle;exact hle
    rw[Sl hp]
   exact q (.str t _) s.heap s.toks (.refl _) (by rw[e];exact .str _ _)
  .rw [key];refine⟨?_,q _ s.heap _ (.refl _) (.str _ _)⟩;show(cut t.cps.toList kl ku).toArray.size<=sizeLine;have:(cut t.cps.toList kl ku).length<=t.cps.toList.length:=by unfold cut;rw[Ae,AM];exact AD (A9 _ _) (BN _ _)
   rw[AY,sizeLine_eq];have h2:t.cps.toList.length=t.length:=by simp[Str.length]
   omega
noncomputable def D.Lm:D->Bool
 |.none=>false
 |.bool b=>b
 |.int i=>i != 0
 |.str s=>((s.length:Int) != 0)
 |.list ds=>!ds.isEmpty
 |.dict es=>!es.isEmpty
 |_=>false
noncomputable def D.small:D->Prop
 |.none=>True
 |.bool _=>True
 |.int _=>True
 |.str s=>s.length<=1000000
 |.list ds=>ds.length<=1000000
 |.dict es=>es.length<=1000000
 |_=>False
theorem Cc.length{vs ds}(r:Cc X w h vs ds):vs.length=ds.length:=by
 have:=congrArg List.length r.keys;simpa using this
theorem OA(r:B9 X w s.heap v d)(m:d.small):Run w A Hw (truthy v) s λb V=>b=d.Lm:=λQ E q=>by
 cases r with
 |none=>exact truthy_none (q false s.heap s.toks (.refl _) rfl)
 |bool b=>exact wpAny_truthy_bool (q b s.heap s.toks (.refl _) rfl)
 |int i t=>exact truthy_int (q _ s.heap s.toks (.refl _) rfl)
 |str x t=>exact PySem.P.truthy_str (by have:x.length<=1000000:=m;exact qo this rfl) (q _ s.heap _ (.refl _) rfl)
 |obj=>exact m.elim
 |list nx nt p r=>
  have e:=r.length;have m':_<=1000000:=m;refine wpAny_truthy_list p.isList (by simp only[AY];omega) (q _ s.heap _ (.refl _) ?_);rename_i vs ds;cases vs<;>cases ds<;>first|rfl|cases e
 |tup=>exact m.elim
 |dict nx nt ns p r=>
  have e:=r.length;have m':_<=1000000:=m;refine wpAny_truthy_dict ns p (by omega) (q _ s.heap _ (.refl _) ?_);rename_i vs ds;cases vs<;>cases ds<;>first|rfl|cases e
theorem CL.val(x:Ev c J e d)(m:d.small)(he:autoParam (isTrue e c.env (eval e c.env)=(do let v <- eval e c.env;standAt e.pos;holding [v] (truthy v))) Bd):CL c J e d.Lm:=
 λs F Q E q=>wpAny_isTrue_value (x s F _ _ λv h1 t1 l1 r1=>OA (s:={s with heap:=h1,toks:=t1}) r1 m _ _ λb h2 t2 l2 e2=>q b h2 t2 (l1.trans l2) e2) he
theorem CL.not{pos}{b:Bool}(x:CL c J e b):CL c J (.UnaryOp .Not e pos) (!b):=
 λs F Q E q=>wpAny_isTrue_Not (x s F _ _ λb h1 t1 l1 e1=>q _ h1 t1 l1 (by rw[e1]))
def Hc(c:Cx)(J:B4)(op:BoolOp)(es:Cy)(b:Bool):Prop:=
 ∀s,Fr c J s.heap->Run c.w c.A Hw (allTrue op es c.env) s λx V=>x=b
theorem Hc.Pr:Hc c J .And [] true:=λs F Q E q=>wpAny_allTrue_And_nil (q _ s.heap s.toks (.refl _) rfl)
theorem Hc.Zi:Hc c J .Or [] false:=λs F Q E q=>wpAny_allTrue_Or_nil (q _ s.heap s.toks (.refl _) rfl)
theorem Hc.FV{es:Cy}{a b:Bool}(x:CL c J e a)(y:a=true->Hc c J .And es b):Hc c J .And (e::es) (a&&b):=
 λs F Q E q=>wpAny_allTrue_And_cons (x s F _ _ λb1 h1 t1 l1 e1=>by
  subst e1;cases b1 with
  |true=>exact y rfl _ (F.le l1) _ _ λb2 h2 t2 l2 e2=>q b2 h2 t2 (l1.trans l2) (by rw[e2];rfl)
  |false=>exact q _ h1 t1 l1 rfl)
theorem Hc.LP{es:Cy}{a b:Bool}(x:CL c J e a)(y:a=false->Hc c J .Or es b):Hc c J .Or (e::es) (a||b):=
 λs F Q E q=>wpAny_allTrue_Or_cons (x s F _ _ λb1 h1 t1 l1 e1=>by
  subst e1;cases b1 with
  |false=>exact y rfl _ (F.le l1) _ _ λb2 h2 t2 l2 e2=>q b2 h2 t2 (l1.trans l2) (by rw[e2];rfl)
  |true=>exact q _ h1 t1 l1 rfl)
theorem CL.boolOp{op:BoolOp}{es:Cy}{pos}{b:Bool}(x:Hc c J op es b):CL c J (.BoolOp op es pos) b:=
 λs F Q E q=>wpAny_isTrue_BoolOp (x s F _ _ q)
theorem CL.Zx{pos}{a b:Bool}(x:CL c J l a)(y:a=true->CL c J r b):CL c J (.BoolOp .And [l,r] pos) (a&&b):=
 (CL.boolOp (.FV x λh=>.FV (y h) λV=>.Pr)).eq (by simp)
theorem CL.XB{pos}{a b:Bool}(x:CL c J l a)(y:a=false->CL c J r b):CL c J (.BoolOp .Or [l,r] pos) (a||b):=
 (CL.boolOp (.LP x λh=>.LP (y h) λV=>.Zi)).eq (by simp)
theorem Ev.Zx{pos}{a b:D}(x:Ev c J l a)(m:a.small)(y:a.Lm=true->Ev c J r b):Ev c J (.BoolOp .And [l,r] pos) (if a.Lm then b else a):=
 λs F Q E q=>wpAny_And2 (x s F _ _ λv h1 t1 l1 r1=>OA (s:={s with heap:=h1,toks:=t1}) r1 m _ _ λb1 h2 t2 l2 e2=>by
  subst e2;cases hb:a.Lm with
  |true=>
   rw[hb]at q;exact y hb _ ((F.le l1).le l2) _ _ λv h3 t3 l3 r3=>q v h3 t3 ((l1.trans l2).trans l3) r3
  |false=>rw[hb]at q;exact q v h2 t2 (l1.trans l2) (r1.le l2))
theorem Ev.XB{pos}{a b:D}(x:Ev c J l a)(m:a.small)(y:a.Lm=false->Ev c J r b):Ev c J (.BoolOp .Or [l,r] pos) (if a.Lm then a else b):=
 λs F Q E q=>wpAny_Or2 (x s F _ _ λv h1 t1 l1 r1=>OA (s:={s with heap:=h1,toks:=t1}) r1 m _ _ λb1 h2 t2 l2 e2=>by
  subst e2;cases hb:a.Lm with
  |false=>
   rw[hb]at q;exact y hb _ ((F.le l1).le l2) _ _ λv h3 t3 l3 r3=>q v h3 t3 ((l1.trans l2).trans l3) r3
  |true=>rw[hb]at q;exact q v h2 t2 (l1.trans l2) (r1.le l2))
theorem Ev.ZC{pos}{a b:Bool}(x:Ev c J l (.bool a))(y:a=true->Ev c J r (.bool b)):Ev c J (.BoolOp .And [l,r] pos) (.bool (a&&b)):=
 (Ev.Zx x trivial y).eq (by cases a<;>rfl)
theorem Ev.oY{pos}{a b:Bool}(x:Ev c J l (.bool a))(y:a=false->Ev c J r (.bool b)):Ev c J (.BoolOp .Or [l,r] pos) (.bool (a||b)):=
 (Ev.XB x trivial y).eq (by cases a<;>rfl)
theorem Ev.K7{t:Expr}{pos}{a:Bool}(x:CL c J t a)(y:a=true->Ev c J l d)(z:a=false->Ev c J r d):Ev c J (.IfExp t l r pos) d:=
 λs F Q E q=>wpAny_IfExp (x s F _ _ λb1 h1 t1 l1 e1=>by
  subst e1;cases b1 with
  |true=>exact y rfl _ (F.le l1) _ _ λv h2 t2 l2 e2=>q v h2 t2 (l1.trans l2) e2
  |false=>exact z rfl _ (F.le l1) _ _ λv h2 t2 l2 e2=>q v h2 t2 (l1.trans l2) e2)
theorem Ev.G5{t:Expr}{pos}{a:Bool}{d':D}(x:CL c J t a)(y:a=true->Ev c J l d)(z:a=false->Ev c J r d'):Ev c J (.IfExp t l r pos) (if a then d else d'):=
 .K7 x (λh=>(y h).eq (by rw[h];rfl)) λh=>(z h).eq (by rw[h];rfl)
theorem Ev.ON{np:Pos}{es:Cy}{id:String}(f:Ev c J (.Name x np) (.obj (.builtin id)))(y:FQ c J (e::es) ds)(z:∀vs s,Fr c J s.heap->Bf c.X c.w s.heap vs ds->Run c.w c.A Hw (call (.builtin id) vs) s λv h'=>B9 c.X c.w h' v d)(he:autoParam (D9 c e es) Bd)(QM:autoParam ((backTo pos (starEach es c.env)).any (·.1)=false) Bd):Ev c J (.Call (.Name x np) (e::es) [] pos) d:=
 λs F Q E q=>wpAny_Call_NameR (f s F _ _ λv h1 t1 l1 r1=>by
  cases r1;exact PyProof.Rows.callWith_builtin1 (y pos _ (F.le l1) _ _ λvs h2 t2 l2 r2=>z vs {s with heap:=h2,toks:=t2} ((F.le l1).le l2) r2 _ _ λv h3 t3 l3 r3=>q v h3 t3 (Bu.trans (Bu.trans l1 l2) l3) r3) he QM)
theorem Ev.RF{np:Pos}{es:Cy}{T:String}(f:Ev c J (.Name x np) (.obj (.type T)))(y:FQ c J (e::es) ds)(z:∀vs s,Fr c J s.heap->Bf c.X c.w s.heap vs ds->Run c.w c.A Hw (call (.type T) vs) s λv h'=>B9 c.X c.w h' v d)(he:autoParam (D9 c e es) Bd)(QM:autoParam ((backTo pos (starEach es c.env)).any (·.1)=false) Bd):Ev c J (.Call (.Name x np) (e::es) [] pos) d:=
 λs F Q E q=>wpAny_Call_NameR (f s F _ _ λv h1 t1 l1 r1=>by
  cases r1;exact Ax (y pos _ (F.le l1) _ _ λvs h2 t2 l2 r2=>z vs {s with heap:=h2,toks:=t2} ((F.le l1).le l2) r2 _ _ λv h3 t3 l3 r3=>q v h3 t3 (Bu.trans (Bu.trans l1 l2) l3) r3) he QM)
theorem Ev.Nn{np:Pos}{t:Str}(f:Ev c J (.Name x np) (.obj (.builtin "len")))(y:Ev c J e (.str t))(hz:t.length<=1000000)(he:autoParam (D9 c e []) Bd):Ev c J (.Call (.Name x np) [e] [] pos) (.int t.length):=
 .ON f (.cons y .nil he) (λvs s F r Q E q=>by
  refine Du (Bf.Bp r) ?_;rintro V V rfl a b;cases b;cases a;exact PyProof.Rows.len_str (qo hz rfl) (q _ s.heap _ (.refl _) (.int _ _))) he
theorem Ev.iA{np:Pos}(f:Ev c J (.Name x np) (.obj (.builtin "len")))(y:Ev c J e (.list ds))(hz:ds.length<=1000000)(he:autoParam (D9 c e []) Bd):Ev c J (.Call (.Name x np) [e] [] pos) (.int ds.length):=
 .ON f (.cons y .nil he) (λvs s F r Q E q=>by
  refine Du (Bf.Bp r) ?_;rintro V V rfl a b;cases b;cases a with|list nx nt p r=>
  have e:=r.length;refine Calls.call_len_list p.isList (by simp only[AY];omega) (q _ s.heap _ (.refl _) ?_);rw[AY,e];exact .int _ _) he
theorem Ev.min2{np:Pos}{e1 e2:Expr}{a b:Int}(f:Ev c J (.Name x np) (.obj (.builtin "min")))(y1:Ev c J e1 (.int a))(y2:Ev c J e2 (.int b))(he:autoParam (D9 c e1 [e2]) Bd)(Jp:autoParam (D9 c e2 []) Bd)(hp:autoParam ((backTo pos (starEach [e2] c.env)).any (·.1)=false) Bd):Ev c J (.Call (.Name x np) [e1,e2] [] pos) (.int (min a b)):=
 .ON f (.cons y1 (.cons y2 .nil Jp) he) (λvs s F r Q E q=>by
  refine Du (Bf.Bp r) ?_;rintro V V rfl r1 r;refine Du (Bf.Bp r) ?_;rintro V V rfl r2 r;cases r;cases r1;cases r2;refine min_two_ints F.ok.handled λh' tk k=>?_;refine q _ h' tk (Le.of k) ?_;split
  .rw [Int.min_def,if_neg (by lia)];exact .int _ _
  .rw [Int.min_def,if_pos (by lia)];exact .int _ _) he hp
theorem Ev.strOf{np:Pos}{n:Nat}(f:Ev c J (.Name x np) (.obj (.type "str")))(y:Ev c J e (.list ds))(fit:Gm n (.list ds))(hn:n<=50)(hs:(D.list ds).py.showable=true)(hz:(D.list ds).py.shown.length<=100000)(he:autoParam (D9 c e []) Bd):Ev c J (.Call (.Name x np) [e] [] pos) (.str (D.list ds).py.shown):=
 .RF f (.cons y .nil he) (λvs s F r Q E q=>by
  refine Du (Bf.Bp r) ?_;rintro V V rfl a b;cases b;refine B6 (a.reads fit) ?_;intro as rd;have hd:=fit.Ph;have u:=F.ok.line;cases a;exact str_of_reads rd hs (λz=>by rw[PyData.hasDict_of_canLay _ hd.1]at z;cases z) F.ok.guards (by lia) (λV V e=>e) (λh' u tk k=>q _ h' tk (Le.of k) (.str _ _)) (by rw[sizeLine_eq];exact lb hz rfl)) he
theorem Ev.Rx{name:Str}{apos:Pos}{d':D}(x:Ev c J o d)(z:∀v s,Fr c J s.heap->B9 c.X c.w s.heap v d->∀(Q E:CH),(∀v h' tk,Le s.heap h'->B9 c.X c.w h' v d'->Q v {s with heap:=h',toks:=tk})->MethodOnS prog c.w c.A E name v pos [] Q s)(hb:autoParam (ja c o name) Bd)(hl:autoParam (J8 apos pos) Bd):Ev c J (.Call (.Attribute o name apos) [] [] pos) d':=
 λs F Q E q=>Call_method0 hb hl (x s F _ _ λv h1 t1 l1 r1=>z v _ (F.le l1) r1 Q E λu h2 t2 l2 r2=>q u h2 t2 (Bu.trans l1 l2) r2)
theorem Ev.upper{apos:Pos}{t:Str}(x:Ev c J o (.str t))(hz:t.length<=1000000)(hb:autoParam (attributeBase o "upper" c.env (eval o c.env)=eval o c.env) Bd)(hl:autoParam (J8 apos pos) Bd) :
  Ev c J (.Call (.Attribute o "upper" apos) [] [] pos) (.str (Txt.upper t)):=
 .Rx x (λv s F r Q E q=>by cases r;exact SB.upper (fit_upper (lb hz rfl)) (q _ s.heap _ (.refl _) (.str _ _))) hb hl
theorem Ev.lower{apos:Pos}{t:Str}(x:Ev c J o (.str t))(hz:t.length<=1000000)(hb:autoParam (attributeBase o "lower" c.env (eval o c.env)=eval o c.env) Bd)(hl:autoParam (J8 apos pos) Bd) :
  Ev c J (.Call (.Attribute o "lower" apos) [] [] pos) (.str (Txt.lower t)):=
 .Rx x (λv s F r Q E q=>by cases r;exact SB.lower (fit_lower (lb hz rfl)) (q _ s.heap _ (.refl _) (.str _ _))) hb hl
theorem Ev.swapcase{apos:Pos}{t:Str}(x:Ev c J o (.str t))(hz:t.length<=1000000)(hb:autoParam (attributeBase o "swapcase" c.env (eval o c.env)=eval o c.env) Bd)(hl:autoParam (J8 apos pos) Bd) :
  Ev c J (.Call (.Attribute o "swapcase" apos) [] [] pos) (.str (Txt.swapcase t)):=
 .Rx x (λv s F r Q E q=>by cases r;exact SB.swapcase (fit_swapcase (lb hz rfl)) (q _ s.heap _ (.refl _) (.str _ _))) hb hl
theorem Ev.isalpha{apos:Pos}{t:Str}(x:Ev c J o (.str t))(hb:autoParam (attributeBase o "isalpha" c.env (eval o c.env)=eval o c.env) Bd)(hl:autoParam (J8 apos pos) Bd) :
  Ev c J (.Call (.Attribute o "isalpha" apos) [] [] pos) (.bool (Txt.isalpha t)):=
 .Rx x (λv s F r Q E q=>by cases r;exact SB.isalpha (q _ s.heap s.toks (.refl _) (.bool _))) hb hl
theorem Ev.index{apos:Pos}{t u:Str}(x:Ev c J o (.str t))(y:Ev c J e (.str u))(hc:Txt.contains t u=true)(hs:autoParam (starEach [e] c.env=[(false,eval e c.env)]) Bd)(hb:autoParam (attributeBase o "index" c.env (eval o c.env)=eval o c.env) Bd)(hl:autoParam (J8 apos pos) Bd) :
  Ev c J (.Call (.Attribute o "index" apos) [e] [] pos) (.int (Txt.find t u)):=
 λs F Q E q=>Call_method1 hb hs hl (x s F _ _ λv h1 t1 l1 r1=>by
  cases r1;exact SB.indexFound (y _ (F.le l1) _ _ λv h2 t2 l2 r2=>by cases r2;exact⟨_,_,rfl,hc,q _ h2 _ (Bu.trans l1 l2) (.int _ _)⟩))
theorem Tq{ys:B3}(r:Bf X w h vs (ys.map .str)):∃l:List (Str×Tok),vs=strValues l/\l.map (·.1)=ys:=by
 induction ys generalizing vs with
 |nil=>cases r;exact⟨[],rfl,rfl⟩
 |cons y ys ih=>
  cases r with
  |cons a b=>cases a;refine Bi (ih b) ?_;rintro l rfl hl;exact⟨(y,_)::l,rfl,by rw[AI,hl]⟩
theorem Nh{sep:Str}{ys:B3}(h:(ys.map (·.length)).sum+ys.length*sep.length<=1000000):JoinOk sep ys=true:=by
 unfold JoinOk Builtin.Str.tooLong;rw[StrLaws.joinTotal];simp only[Bool.not_eq_true',decide_eq_false_iff_not];rw[sizeLine_eq];omega
theorem Ev.join{apos:Pos}{t:Str}{ys:B3}(x:Ev c J o (.str t))(y:Ev c J e (.list (ys.map .str)))(hz:(ys.map (·.length)).sum+ys.length*t.length<=1000000)(hs:autoParam (starEach [e] c.env=[(false,eval e c.env)]) Bd)(hb:autoParam (attributeBase o "join" c.env (eval o c.env)=eval o c.env) Bd)(hl:autoParam (J8 apos pos) Bd) :
  Ev c J (.Call (.Attribute o "join" apos) [e] [] pos) (.str (Txt.join t ys)):=
 λs F Q E q=>Call_method1 hb hs hl (x s F _ _ λv h1 t1 l1 r1=>by
  cases r1;exact SB.join (y _ (F.le l1) _ _ λv h2 t2 l2 r2=>by
   refine Qg (B9.Hn r2) ?_;rintro V V rfl nx nt p r;refine Bi (Tq r) ?_;rintro l rfl e2;exact⟨_,l,rfl,p.isList,ys,e2,Nh hz,λt' k=>q _ h2 _ (Bu.trans l1 l2) (.str _ _)⟩))
def Kn(X X':CG)(h h':Heap):Prop:=∀b o,¬X b->b≠TP->h.get? b=some o->h'.get? b=some o/\¬X' b
def Kp(fp X X':CG)(h h':Heap):Prop:=∀b o,(fp b\/¬X b\/Cd o)->b≠TP->h.get? b=some o->h'.get? b=some o/\(¬X b->¬X' b)
theorem Kp.kn{fp:CG}(k:Kp fp X X' h h'):Kn X X' h h':=λb o n t e=>by refine CC (k b o (.inr (.inl n)) t e) ?_;intro a c;exact⟨a,c n⟩
theorem Kp.trans{fp c8:CG}{Hj:Heap}(k:Kp fp X X' h h')(l:Kp fp X' c8 h' Hj):Kp fp X c8 h Hj:=λb o n t e=>
 let⟨a,c⟩:=k b o n t e;let⟨a',c'⟩:=l b o (n.imp_right λn=>n.imp_left c) t a;⟨a',λq=>c' (c q)⟩
theorem Kn.le(l:Bu W h h')(s:∀b,W b->X b):Kn X X h h':=λb o n t e=>⟨l.keep b o t (λq=>n (s b q)) e,n⟩
theorem Bf.kn{v d}(r:Bf X w h v d)(k:Kn X X' h h'):Bf X' w h' v d:=r.move k
noncomputable def Draws(w:World)(A:Around)(target:Expr)(it:Value)(fp:CG):List D->(Addr->Prop)->Heap->Prop
 |[],X,h=>∀X' (s:Shared),Kp fp X X' h s.heap->(∀b,fp b->X' b)->∀(Q:Option Value->Shared->Prop) (E:CH),
   (∀h2 tk,(∀b o,¬fp b\/Cd o->s.heap.get? b=some o->h2.get? b=some o)->Q none {s with heap:=h2,toks:=tk})->wpAny (model prog w) A (pyNext it) Q E s
 |d::ds,X,h=>∀X' (s:Shared),Kp fp X X' h s.heap->(∀b,fp b->X' b)->FU X' s.heap->Tab s.heap->∀(Q:CH) (E:CH),
   (∀v h2 tk,Bu fp s.heap h2->B9 X' w h2 v d->Draws w A target it fp ds X' h2->Q v {s with heap:=h2,toks:=tk})->
   wpAny (model prog w) A (pyNext it) (λr s₁=>∃v,r=some v/\wpAny (model prog w) A (letOwnedTupleGo target it v) (λV s₂=>Q v s₂) E s₁) E s
theorem Draws.mv{target:Expr}{it:Value}{fp:CG}:∀ {ds},Draws w A target it fp ds X h->Kp fp X X' h h'->Draws w A target it fp ds X' h'
 |[],x,k=>λc8 s k' sx=>x c8 s (k.trans k') sx
 |_::_,x,k=>λc8 s k' sx=>x c8 s (k.trans k') sx
noncomputable def Gj(A:Around)(target:Expr)(it:Value)(fp:CG)(ds:Cs):Res:=
 ⟨fp,λw X h=>Draws w A target it fp ds X h,λx k=>x.mv k⟩
theorem G8{wr:List Addr}(k:∀b o,b∉wr->h.get? b=some o->h'.get? b=some o)(l:∀b o,b∈wr->h.get? b=some o->∃o',h'.get? b=some o')(nt:TP∉wr)(nc:∀b o,b∈wr->h.get? b=some o->¬Cd o):Bu (·∈wr) h h':=Bu.of k l nt nc
def OG(h:Heap)(b:Addr):Prop:=∃o,h.get? b=some o/\¬Cd o
theorem OG.nc{b:Addr}{o:Obj}(x:OG h b)(e:h.get? b=some o):¬Cd o:=by refine Bi x ?_;clear x;intro o' e' n;exact by rw[e']at e;cases e;exact n
theorem OG.ex{b:Addr}(x:OG h b):∃o,h.get? b=some o:=by refine Bi x ?_;clear x;intro o e V;exact⟨o,e⟩
section
variable {w:World}{A:Around}{target:Expr}{I:Addr}{ZO wr:List Addr}{n:Nat}{P:Nat->Value->Prop}{St:Nat->Heap->Prop}
theorem Kh(W:Walks prog w A I ZO wr n P St)(lv:∀i h,St i h->∀b∈wr,OG h b)(uM:∀i v (s:Shared) (Q:EU) (E:CH),St i s.heap->Q () s->wpAny (model prog w) A (letOwnedTupleGo target (.ref I) v) Q E s)(all:Cs)(hn:all.length=n)(Rp:(Addr->Prop)->Heap->Prop)(kp:∀X X' h h',Rp X h->Kn X X' h h'->Rp X' h')(hr:∀X h j v d,Rp X h->P j v->all[j]? = some d->B9 X w h v d)(nt:TP∉wr) :
  ∀(ds:Cs) (i:Nat) (X:CG) (h:Heap),i<=n->all.drop i=ds->St i h->Rp X h->(∀b∈ZO,(b∈wr\/¬X b)/\b≠TP/\∃o,h.get? b=some o)->Draws w A target (.ref I) (·∈wr) ds X h:=by
 intro l;induction l with
 |nil=>
  intro i X h hi e st rp hf X' s k sx Q E q;have hl:n<=i:=by rw[<- hn];exact BO.mp e
  have Lw:St i s.heap:=W.frame _ _ _ st λb hb o eo=>(k b o ((hf b hb).1.imp_right .inl) (hf b hb).2.1 eo).1;cases Nat.le_antisymm hi hl;exact W.done s Q E Lw λh2 tk kk=>q h2 tk λb o z e=>kk b o (λhb=>z.elim (λz=>z hb) λz=>(lv _ _ Lw b hb).nc e z) e
 |cons d ds ih=>
  intro i X h hi e st rp hf X' s k sx xo tb Q E q;have Dx:i<all.length:=by
   apply Nat.lt_of_not_le;intro hc;rw[List.drop_eq_nil_of_le hc]at e;cases e
  have EX:all[i]? = some d:=by rw[<- List.head?_drop,e];rfl
  have ao:all.drop (i+1)=ds:=by rw[<- List.drop_drop,e];rfl
  have Lw:St i s.heap:=W.frame _ _ _ st λb hb o eo=>(k b o ((hf b hb).1.imp_right .inl) (hf b hb).2.1 eo).1;refine W.item i s _ _ (hn▸Dx) Lw λv h2 tk pv jD nu=>⟨v,rfl,?_⟩;refine uM (i+1) v _ _ _ jD ?_;have l:Bu (·∈wr) s.heap h2:=G8 nu (λb o hb V=>(lv _ _ jD b hb).ex) nt λb o hb e=>(lv _ _ Lw b hb).nc e;have rP:Rp X' h2:=kp _ _ _ _ (kp _ _ _ _ rp k.kn) (Kn.le l sx);refine q v h2 tk l (hr _ _ i v d rP pv EX) (ih (i+1) X' h2 (hn▸Dx) ao jD rP λb hb=>?_);obtain⟨a1,a2,o,a3⟩:=hf b hb;have a4:=k b o (a1.imp_right .inl) a2 a3;exact⟨a1.imp_right a4.2,a2,l.alive a2 a4.1⟩
theorem QA{Pt:Nat->Array Value->Prop}{pG:Nat->Addr->Heap->Prop}{elts:Cy}{kk:Nat}{tp:Pos}(W:WalksT prog w A I ZO wr n Pt St pG)(lv:∀i h,St i h->∀b∈wr,OG h b)(lm:∀i T h,pG i T h->∀b∈wr,OG h b)(all:List (List D))(hn:all.length=n)(Rp:(Addr->Prop)->Heap->Prop)(kp:∀X X' h h',Rp X h->Kn X X' h h'->Rp X' h')(hr:∀X h j vs ds,Rp X h->Pt j vs->all[j]? = some ds->Bf X w h vs.toList ds)(nt:TP∉wr) :
  ∀(ds:List (List D)) (i:Nat) (X:CG) (h:Heap),i<=n->all.drop i=ds->St i h->Rp X h->(∀b∈ZO,(b∈wr\/¬X b)/\b≠TP/\∃o,h.get? b=some o)->
   Draws w A (.Tuple elts kk tp) (.ref I) (·∈wr) (ds.map .tup) X h:=by
 intro l;induction l with
 |nil=>
  intro i X h hi e st rp hf X' s k sx Q E q;have hl:n<=i:=by rw[<- hn];exact BO.mp e
  have Lw:St i s.heap:=W.frame _ _ _ st λb hb o eo=>(k b o ((hf b hb).1.imp_right .inl) (hf b hb).2.1 eo).1;cases Nat.le_antisymm hi hl;exact W.done s Q E Lw λh2 tk kk=>q h2 tk λb o z e=>kk b o (λhb=>z.elim (λz=>z hb) λz=>(lv _ _ Lw b hb).nc e z) e
 |cons d ds ih=>
  intro i X h hi e st rp hf X' s k sx xo tb Q E q;have Dx:i<all.length:=by
   apply Nat.lt_of_not_le;intro hc;rw[List.drop_eq_nil_of_le hc]at e;cases e
  have EX:all[i]? = some d:=by rw[<- List.head?_drop,e];rfl
  have ao:all.drop (i+1)=ds:=by rw[<- List.drop_drop,e];rfl
  have Lw:St i s.heap:=W.frame _ _ _ st λb hb o eo=>(k b o ((hf b hb).1.imp_right .inl) (hf b hb).2.1 eo).1;refine W.item i s _ _ (hn▸Dx) Lw λT vals h2 tk pv fT hT mid nu=>⟨_,rfl,?_⟩;have l2:Bu (·∈wr) s.heap h2:=G8 nu (λb o hb V=>(lm _ _ _ mid b hb).ex) nt λb o hb e=>(lv _ _ Lw b hb).nc e;refine W.go elts kk tp i T _ _ _ mid λh3 kW qf=>?_;have l3:Bu (·∈wr) h2 h3:=G8 qf (λb o hb V=>(lv _ _ kW b hb).ex) nt λb o hb e=>(lm _ _ _ mid b hb).nc e;have l:=l2.trans l3;have rQ:Rp X' h3:=kp _ _ _ _ (kp _ _ _ _ rp k.kn) (Kn.le l sx);have nT:s.heap.get? T=none:=by
   cases e:s.heap.get? T with
   |none=>rfl
   |some o=>exact absurd (Ag e) (Nat.not_lt.mpr fT)
  have ti:h3.IsTuple T vals:=GP hT λo eo=>qf T o (W.apart _ _ _ mid) eo;refine q _ h3 tk l ?_ (ih (i+1) X' h3 (hn▸Dx) ao kW rQ λb hb=>?_)
  .refine B9.tup (vs:=vals.toList) (λq=>?_) (λq=>?_) (by simpa using ti) (hr _ _ i vals d rQ pv EX)
   .obtain ⟨_,o,eo⟩:=xo _ q;rw[nT]at eo;cases eo
   .subst q;refine Bi tb ?_;clear tb;intro ps eo V;rw[nT]at eo;cases eo
  .obtain ⟨a1,a2,o,a3⟩:=hf b hb;have a4:=k b o (a1.imp_right .inl) a2 a3;exact⟨a1.imp_right a4.2,a2,l.alive a2 a4.1⟩
end
noncomputable def DH(X fp:CG):Addr->Prop:=λb=>X b\/fp b
def M8(w:World)(A:Around)(it:Value)(h:Heap):Prop:=∀s:Shared,Le h s.heap->∀(Q:CH) (E:CH),Q it s->wpAny (model prog w) A (pyIter it) Q E s
def Bb(c:Cx)(J:B4)(target e:Expr)(ds:Cs):Prop:=
 ∀s,Fr c J s.heap->∀(Q:CH) (E:CH),
  (∀it fp h' tk,Le s.heap h'->(∀b,fp b->s.heap.get? b=none/\306<=b/\∃o,h'.get? b=some o)->Draws c.w c.A target it fp ds (DH c.X fp) h'->M8 c.w c.A it h'->Q it {s with heap:=h',toks:=tk})->
  wpAny (model prog c.w) c.A (eval e c.env) (λx s₁=>wpAny (model prog c.w) c.A (pyIter x) Q E s₁) E s
theorem Bx(l:Le h h'){b:Addr}(nt:b≠TP)(e:h'.get? b=none):h.get? b=none:=by
 cases q:h.get? b with
 |none=>rfl
 |some o=>rw[l.keep b o nt id q]at e;cases e
theorem GO(l:Le h h')(t:Tab h'):h.get? h'.objs.size=none:=Bx l (B5 t) (Bn h')
theorem bM{P:Params}(m:a∈Vi):∃o,(Kx P).lookup a=some o:=by
 have m':a∈(Kx P).map (·.1):=m;refine Bi (AF.mp m') ?_;intro p hp e;have key:∀l:Frag,p∈l->∃o,l.lookup p.1=some o:=λl=>by
  induction l with
  |nil=>intro h;cases h
  |cons q r ih=>
   intro h;obtain⟨a1,a2⟩:=q;rw[AK];cases hb:p.1==a1 with
   |true=>exact⟨_,rfl⟩
   |false=>
    rcases AJ.mp h with rfl|h
    .simp at hb
    .exact ih h
 exact e▸key _ hp
theorem B7(B:CW w h):306<=h.objs.size:=by
 refine B6 (bM (P:=w.params) (a:=305) (by decide)) ?_;intro o e;exact Ag (B.k _ o e)
theorem LN{h1 h2:Heap}(B:CW w h1)(l:Le h h1){o:Obj}(e:h2.get? h1.objs.size=some o):h.get? h1.objs.size=none/\306<=h1.objs.size/\∃o,h2.get? h1.objs.size=some o:=
 ⟨GO l B.tab,B7 B,o,e⟩
theorem Bb.list{target:Expr}(x:Ev c J e (.list ds)):Bb c J target e ds:=λs F Q E q=>
 x s F _ _ λv h1 t1 l1 r1=>by
  refine Qg (B9.Hn r1) ?_;rintro a vs rfl nx nt p r;have F1:=F.le l1;refine wpAny_pyIter_list p.isList ?_;have lp:Le h1 (h1.push {cls:=.type "list_iterator",data:=.fields #[.ref a,.int 0 0]}):=Le.push _ _;have Hl:a≠h1.objs.size:=λz=>by refine B6 p ?_;clear p;intro V e;exact Aa _ (z▸Ag e)
  have hI:(h1.push {cls:=.type "list_iterator",data:=.fields #[.ref a,.int 0 0]}).IsListIter h1.objs.size a 0:=⟨_,AH _ rfl,rfl,rfl⟩
  have KJ:=B5 F1.base.tab;refine q (.ref h1.objs.size) (·∈[h1.objs.size]) _ t1 (l1.trans lp) ?_ ?_ ?_
  .intro b hb;rw[AG.mp hb];exact LN F1.base l1 (AH _ rfl)
  .refine Kh (P:=λi v=>vs.toArray[i]? = some v) (Walks.list F.ok.handled h1.objs.size a Hl vs.toArray) (λi h st b hb=>?_) (λi v s' Q E st h=>letGo_listiter st.1 h) ds (by rw[AY,r.length])
    (λX h=>Bf X c.w h vs ds) (λX X' h h' r k=>r.kn k) (λX h j v d r pv hd=>?_) (by simp[Ne.symm KJ]) ds 0 _ _ (Al _) rfl ⟨hI,EY p.isList λo e=>lp.keep _ o nt id e⟩ ?_ ?_
   .rw [AG.mp hb];refine CC st ?_;clear st;intro Cr V;refine EJ Cr ?_;intro o e V ed;exact⟨o,e,Cd.fd ed (by intro t h;simp at h)⟩
   .refine Bi (r.get hd) ?_;intro v' bI rv;rw[BK,bI]at pv;cases pv;exact rv
   .exact Bf.le (r.move (ET λb z=>z.imp_right λz=>by rw[AG.mp z];exact Bn _)) lp
   .intro b hb;rcases AJ.mp hb with rfl|hb
    .exact ⟨.inl (AG.mpr rfl),KJ,_,AH _ rfl⟩
    .rw [AG.mp hb];refine B6 p ?_;clear p;intro k e;exact⟨.inr λz=>z.elim nx λz=>Hl (AG.mp z),nt,_,lp.keep _ _ nt id e⟩
  .exact λs' l Q E h=>wpAny_pyIter_listiter (hI.at λo e=>l.keep _ o KJ id e) h
theorem Bb.tup{target:Expr}(x:Ev c J e (.tup ds)):Bb c J target e ds:=λs F Q E q=>
 x s F _ _ λv h1 t1 l1 r1=>by
  refine Qg (B9.M3 r1) ?_;rintro a vs rfl nx nt p r;have F1:=F.le l1;refine wpAny_pyIter_tuple p ?_;have lp:Le h1 (h1.push {cls:=.type "tuple_iterator",data:=.fields #[.ref a,.int 0 0]}):=Le.push _ _;have Hl:a≠h1.objs.size:=λz=>by refine Bi p ?_;clear p;intro o e V;exact Aa _ (z▸Ag e)
  have hI:(h1.push {cls:=.type "tuple_iterator",data:=.fields #[.ref a,.int 0 0]}).IsTupleIter h1.objs.size a 0:=⟨_,AH _ rfl,rfl,rfl⟩
  have KJ:=B5 F1.base.tab;refine q (.ref h1.objs.size) (·∈[h1.objs.size]) _ t1 (l1.trans lp) ?_ ?_ ?_
  .intro b hb;rw[AG.mp hb];exact LN F1.base l1 (AH _ rfl)
  .refine Kh (P:=λi v=>vs.toArray[i]? = some v) (Walks.tuple F.ok.handled h1.objs.size a Hl vs.toArray) (λi h st b hb=>?_) (λi v s' Q E st h=>letGo_tupleiter st.1 h) ds (by rw[AY,r.length])
    (λX h=>Bf X c.w h vs ds) (λX X' h h' r k=>r.kn k) (λX h j v d r pv hd=>?_) (by simp[Ne.symm KJ]) ds 0 _ _ (Al _) rfl ⟨hI,GP p λo e=>lp.keep _ o nt id e⟩ ?_ ?_
   .rw [AG.mp hb];refine CC st ?_;clear st;intro Dv V;refine EJ Dv ?_;intro o e V ed;exact⟨o,e,Cd.fd ed (by intro t h;simp at h)⟩
   .refine Bi (r.get hd) ?_;intro v' bI rv;rw[BK,bI]at pv;cases pv;exact rv
   .exact Bf.le (r.move (ET λb z=>z.imp_right λz=>by rw[AG.mp z];exact Bn _)) lp
   .intro b hb;rcases AJ.mp hb with rfl|hb
    .exact ⟨.inl (AG.mpr rfl),KJ,_,AH _ rfl⟩
    .rw [AG.mp hb];refine Bi p ?_;clear p;intro o e k;exact⟨.inr λz=>z.elim nx λz=>Hl (AG.mp z),nt,_,lp.keep _ _ nt id e⟩
  .exact λs' l Q E h=>wpAny_pyIter_tupleiter (hI.at λo e=>l.keep _ o KJ id e) h
noncomputable def Str.chars(t:Str):List Str:=t.cps.toList.map λc=>⟨#[c]⟩
theorem Wy(hh:A.handled=none)(I:Addr)(x:Str)(t:Tok):Walks prog w A I [I] [I] x.cps.size (SignAt x) (λi h=>h.IsStrIter I (strIterType x) x t i):=by
 unfold strIterType;split
 .exact Walks.strAscii hh I x t
 .exact Walks.strWide hh I x t
theorem Bb.str{n:Str}{np:Pos}{t:Str}(x:Ev c J e (.str t)):Bb c J (.Name n np) e ((Str.chars t).map .str):=λs F Q E q=>
 x s F _ _ λv h1 t1 l1 r1=>by
  cases r1;rename_i tk;have F1:=F.le l1;refine wpAny_pyIter_strU ?_;have lp:Le h1 (h1.push {cls:=.type (strIterType t),data:=.fields #[.str t tk,.int 0 0]}):=Le.push _ _;have KJ:=B5 F1.base.tab;have hW:=Wy (w:=c.w) F.ok.handled h1.objs.size t tk;have hI:(h1.push {cls:=.type (strIterType t),data:=.fields #[.str t tk,.int 0 0]}).IsStrIter h1.objs.size (strIterType t) t tk 0:=⟨_,AH _ rfl,rfl,rfl⟩
  refine q (.ref h1.objs.size) (·∈[h1.objs.size]) _ t1 (l1.trans lp) ?_ ?_ ?_
  .intro b hb;rw[AG.mp hb];exact LN F1.base l1 (AH _ rfl)
  .refine Kh hW (λi h st b hb=>?_) (λi v s' Q E st h=>?_) _ (by simp[Str.chars]) (λV V=>True) (λV V V V V V=>trivial) (λX h j v d V pv hd=>?_) (by simp[Ne.symm KJ]) _ 0 _ _ (Al _) rfl hI trivial ?_
   .rw [AG.mp hb];refine EJ st ?_;clear st;intro o e V ed;exact⟨o,e,Cd.fd ed (by intro t h;simp at h)⟩
   .exact wpAny_of_eq (t:=pure ()) rfl h
   .refine Fq pv ?_;clear pv;rintro cc u e1 rfl;have:d=.str ⟨#[cc]⟩:=by
     simp only[Str.chars,AB,AL,Array.getElem?_toList,e1,Option.map_some]at hd;cases hd;rfl
    subst this;exact .str _ _
   .intro b hb;rw[AG.mp hb];exact⟨.inl (AG.mpr rfl),KJ,_,AH _ rfl⟩
  .exact λs' l Q E h=>hW.self 0 s' Q E (hW.frame _ _ _ hI λb hb o e=>l.keep _ o (by rw[AG.mp hb];exact KJ) id e) h
noncomputable def DN(a c:Int)(n:Nat):List D:=(List.range n).map λi=>.int (a+(i:Nat)*c)
theorem Mf{n:Str}{np:Pos}{h1:Heap}{t1:Nat}{r:Addr}{a b cc:Int}{t u v:Tok}(F:Fr c J s.heap)(l1:Le s.heap h1)(hr:IsRange h1 r a b cc t u v)(hs:Builtin.Range.small a b cc=true)(hk:Builtin.Range.rangeSize a b cc=k)(q:∀it fp h' tk,Le s.heap h'->(∀b,fp b->s.heap.get? b=none/\306<=b/\∃o,h'.get? b=some o)->Draws c.w c.A (.Name n np) it fp (DN a cc k) (DH c.X fp) h'->M8 c.w c.A it h'->Q it {s with heap:=h',toks:=tk}) :
  wpAny (model prog c.w) c.A (pyIter (.ref r)) Q E {s with heap:=h1,toks:=t1}:=by
 have F1:=F.le l1;refine wpAny_pyIter_range hr hs ?_;rw[hk];have lp:Le h1 (h1.push {cls:=.type "range_iterator",data:=.fields #[rawInt a,rawInt k,rawInt cc]}):=Le.push _ _;have KJ:=B5 F1.base.tab;have hW:=Walks.range (prog:=prog) (w:=c.w) F.ok.handled h1.objs.size a cc k;have hI:IsRangeIter (h1.push {cls:=.type "range_iterator",data:=.fields #[rawInt a,rawInt k,rawInt cc]}) h1.objs.size (a+(0:Nat)*cc) ((k:Int)-(0:Nat)) cc:=by
  simp only[Int.natCast_zero,Int.zero_mul,Int.add_zero,Int.sub_zero];exact AH _ rfl
 refine q (.ref h1.objs.size) (·∈[h1.objs.size]) _ t1 (l1.trans lp) ?_ ?_ ?_
 .intro b hb;rw[AG.mp hb];exact LN F1.base l1 (AH _ rfl)
 .refine Kh hW (λi h st b hb=>?_) (λi v s' Q E st h=>wpAny_of_eq (t:=pure ()) rfl h) _ (by simp[DN]) (λV V=>True) (λV V V V V V=>trivial) (λX h j v d V pv hd=>?_) (by simp[Ne.symm KJ]) _ 0 _ _ (Al _) rfl hI trivial ?_
  .rw [AG.mp hb];exact⟨_,st,Cd.fd rfl (by intro t h;simp[rawInt]at h)⟩
  .refine B6 pv ?_;clear pv;rintro u rfl;have:d=.int (a+(j:Nat)*cc):=by
    simp only[DN,AL,AS]at hd;refine Bi hd ?_;clear hd;intro j' e1 e2;have:=AP.mp e1;refine B6 this ?_;clear this;intro hl e3;rw[List.getElem_range]at e3;rw[<- e2,e3]
   subst this;exact .int _ _
  .intro b hb;rw[AG.mp hb];exact⟨.inl (AG.mpr rfl),KJ,_,AH _ rfl⟩
 .exact λs' l Q E h=>hW.self 0 s' Q E (hW.frame _ _ _ hI λb hb o e=>l.keep _ o (by rw[AG.mp hb];exact KJ) id e) h
theorem Bb.Qo{n:Str}{xp np:Pos}(f:Ev c J (.Name x xp) (.obj (.type "range")))(y:Ev c J e (.int (k:Nat)))(hz:k<=1000000)(he:autoParam (D9 c e []) Bd):Bb c J (.Name n np) (.Call (.Name x xp) [e] [] pos) (DN 0 1 k):=λs F Q E q=>
 wpAny_Call_NameR (f s F _ _ λv h1 t1 l1 r1=>by
  cases r1;refine Ax ((FQ.cons y .nil he) pos _ (F.le l1) _ _ λvs h2 t2 l2 r2=>?_) he rfl;refine Du (Bf.Bp r2) ?_;rintro V V rfl a b;cases b;cases a;have Gk:Le s.heap h2:=Bu.trans l1 l2;refine call_range_1 ?_;refine Mf (s:=s) F (Bu.trans Gk (Le.push _ _)) (AH _ rfl) (small_one (by exact Int.neg_ofNat_le_ofNat (2^62) 0) (by exact(λ{a}=>Int.sign_eq_one_iff_pos.mp) rfl) (by exact Int.neg_ofNat_le_natCast (2^62) k) (qn hz rfl)) ?_ q;rw[rangeSize_nat];simp)
theorem Bb.cF{n:Str}{xp np:Pos}{e1 e2:Expr}{a b:Int}(f:Ev c J (.Name x xp) (.obj (.type "range")))(y1:Ev c J e1 (.int a))(y2:Ev c J e2 (.int b))(hz:0<=a/\a<=1000000/\0<=b/\b<=1000000)(he:autoParam (D9 c e1 [e2]) Bd)(Jp:autoParam (D9 c e2 []) Bd)(hp:autoParam ((backTo pos (starEach [e2] c.env)).any (·.1)=false) Bd):Bb c J (.Name n np) (.Call (.Name x xp) [e1,e2] [] pos) (DN a 1 (b-a).toNat):=λs F Q E q=>
 wpAny_Call_NameR (f s F _ _ λv h1 t1 l1 r1=>by
  cases r1;refine Ax ((FQ.cons y1 (.cons y2 .nil Jp) he) pos _ (F.le l1) _ _ λvs h2 t2 l2 r2=>?_) he hp;refine Du (Bf.Bp r2) ?_;rintro V V rfl ra r;refine Du (Bf.Bp r) ?_;rintro V V rfl rb r;cases r;cases ra;cases rb;have Gk:Le s.heap h2:=Bu.trans l1 l2;refine call_range_2 ?_;refine Mf (s:=s) F (Bu.trans Gk (Le.push _ _)) (AH _ rfl) (small_one (by lia) (by omega) (by lia) (by omega)) ?_ q;rw[rangeSize_nat])
noncomputable def JY(ds:Cs):List (List D):=ds.zipIdx.map λp=>[.int (p.2:Nat),p.1]
theorem So{j:Nat}{e:Cs}(h:(JY ds)[j]? = some e):∃d,ds[j]? = some d/\e=[.int (j:Nat),d]:=by
 simp only[JY,AL,List.getElem?_zipIdx,Option.map_map,AS]at h;refine Bi h ?_;clear h;intro d e1 e2;exact⟨d,e1,by rw[<- e2];simp⟩
theorem Bb.enum{xp tp:Pos}{tk:Nat}{elts:Cy}(f:Ev c J (.Name x xp) (.obj (.type "enumerate")))(y:Ev c J e (.list ds))(he:autoParam (D9 c e []) Bd):Bb c J (.Tuple elts tk tp) (.Call (.Name x xp) [e] [] pos) ((JY ds).map .tup):=λs F Q E q=>
 wpAny_Call_NameR (f s F _ _ λv h1 t1 l1 r1=>by
  cases r1;refine Ax ((FQ.cons y .nil he) pos _ (F.le l1) _ _ λvs h2 t2 l2 r2=>?_) he rfl;cases r2 with|cons a b=>
  cases b;cases a with|list nx nt p r=>
  rename_i a vs;have Gk:Le s.heap h2:=Bu.trans l1 l2;have F2:=F.le Gk;refine call_enumerate_list p.isList λh3 ZV m9 nR jz=>?_;dsimp only at ZV m9 nR jz ⊢;have l3:Le h2 h3:=Le.of jz;have QV:=Bu.trans Gk l3;have rU:=QV.tab F.base.tab;refine wpAny_pyIter_enum ZV ?_;have ha:a<h2.objs.size:=by refine B6 p ?_;clear p;intro k e;exact Ag e
  have oG:=B5 F2.base.tab;have oE:h2.get? (h2.objs.size+1)=none:=by
   cases e:h2.get? (h2.objs.size+1)with
   |none=>rfl
   |some o=>exact absurd (Ag e) (Nat.not_lt.mpr (Nat.le_succ _))
  have KJ:h2.objs.size+1≠TP:=λq=>by refine Bi F2.base.tab ?_;intro ps e V;rw[<- q,oE]at e;cases e
  have sz:=B7 F2.base;have gE:=m9;refine Bi gE ?_;clear gE;intro oi ei V;refine q (.ref (h2.objs.size+1)) (·∈[h2.objs.size+1,h2.objs.size]) h3 t2 QV ?_ ?_ ?_
  .intro b hb;refine Sd hb ?_ ?_
   .exact ⟨Bx Gk KJ oE,Nat.le_succ_of_le sz,_,ZV⟩
   .exact ⟨Bx Gk oG (Bn _),sz,_,ei⟩
  .refine QA (Rp:=λX h=>Bf X c.w h vs ds) (WalksT.enumerate F.ok.handled (h2.objs.size+1) h2.objs.size a (Nat.succ_ne_self _) (Nat.ne_of_lt (Nat.lt_succ_of_lt ha)) (Nat.ne_of_lt ha) vs.toArray) (λi h st b hb=>?_) (λi T h mid b hb=>?_) (JY ds)
    (by simp[JY,r.length]) (λX X' h h' r k=>r.kn k) (λX h j v d r pv hd=>?_) (by simp[Ne.symm KJ,Ne.symm oG]) (JY ds) 0 _ _ (Al _) rfl
    ⟨⟨_,ZV⟩,m9,EY p.isList λo e=>jz _ o e⟩ ?_ ?_
   .refine Sd hb ?_ ?_
    .refine CC st ?_;clear st;intro Cr V;refine B6 Cr ?_;intro V z;exact⟨_,z,Cd.fd rfl (by intro t h;simp[rawInt]at h)⟩
    .refine FP st ?_;clear st;intro V Dv V;refine EJ Dv ?_;intro o z V ed;exact⟨_,z,Cd.fd ed (by intro t h;simp at h)⟩
   .refine Sd hb ?_ ?_
    .refine CC mid ?_;clear mid;intro HW V;refine B6 HW ?_;intro V z;exact⟨_,z,Cd.fd rfl (by intro t h;simp[rawInt]at h)⟩
    .refine FP mid ?_;clear mid;intro V Jk V;refine EJ Jk ?_;intro o z V ed;exact⟨_,z,Cd.fd ed (by intro t h;simp at h)⟩
   .refine Fq pv ?_;clear pv;rintro t x e1 rfl;refine Bi (So hd) ?_;rintro d' e2 rfl;refine Bi (r.get e2) ?_;intro v' bI rv;rw[BK,bI]at e1;cases e1;exact .cons (.int _ _) (.cons rv .nil)
   .exact Bf.le (r.move (ET λb z=>z.imp_right λz=>by
     refine Sd z ?_ ?_
     .exact oE
     .exact Bn _)) l3
   .intro b hb;refine lE hb ?_ ?_ ?_
    .exact ⟨.inl (by simp),KJ,_,ZV⟩
    .exact ⟨.inl (by simp),oG,_,ei⟩
    .refine B6 p ?_;clear p;intro k e;refine⟨.inr λz=>z.elim nx λz=>?_,nt,_,jz _ _ e⟩;simp only[AJ,An,or_false]at z;exact z.elim (Nat.ne_of_lt (Nat.lt_succ_of_lt ha)) (Nat.ne_of_lt ha)
  .exact λs' l Q E h=>wpAny_pyIter_enum (l.keep _ _ KJ id ZV) h)
theorem Fr.re(F:Fr c J h)(l:Bu W h h')(sW:∀a,W a->c.X a/\(c.M a\/c.h0.get? a=none)/\¬c.G.fp a)(ns:∃m,h'.Ns c.env.locals m)(E0:∀x a,c.env.cells.lookup x=some a->∃v,h'.IsCell a v)(nm:∀x d,(x,d)∈J'->∃v,Holds c.env h' x v/\B9 c.X c.w h' v d):Fr c J' h':=
 {base:=F.base.le l λa q=>(F.Ck a (sW a q).1).1
  Ck:=F.Ck.le l
  kind:=F.kind,glob:=F.glob,blt:=F.blt,ok:=F.ok
  old:=⟨λb o n nw e=>(l.keep b o n · (F.old.keep b o n nw e)) λq=>(sW b q).2.1.elim nw (λz=>by rw[z]at e;cases e),λb o n V e=>by
   refine B6 (F.old.alive n e) ?_;intro o' e';exact l.alive n e',λt=>l.tab (F.old.tab t),λb o e z=>l.code b o (F.old.code b o e z) z⟩
  loc:=⟨F.loc.1,F.loc.2.1,ns⟩
  E0:=λx a e=>by refine Hv (F.E0 x a e) ?_;intro a1 a2 V a4;exact⟨a1,a2,E0 x a e,a4⟩
  apart:=F.apart
  names:=nm
  g:=c.G.mv F.g λb o q n e=>⟨l.at n e λz=>q.elim (λy=>absurd y (sW b z).2.2) λq=>q.elim (λy=>absurd (sW b z).1 y) id,id⟩
  gx:=F.gx}
theorem Nt{m':Hx}(x:h.Ns a m)(y:h.Ns a m')(n:Str):m n=m' n:=by
 refine V9 x ?_;clear x;intro o es ep e d V f;refine V9 y ?_;clear y;intro o' es' wZ e' d' V f';rw[e]at e';cases e';rw[d]at d';cases d';rw[<- f,<- f']
def DG(J:B4)(x:Str)(d:D)(J':B4):Prop:=∀p∈J',p=(x,d)\/(p∈J/\p.1≠x)
def Cn(x:Str):Prop:=(x==("__debug__" : Str))=false/\(x==("__classdict__" : Str))=false
def Cg(c:Cx)(x:Str):Prop:=c.env.kindOf x=some .local\/(c.env.kindOf x=some .cell/\c.own x/\(c.env.cells.lookup x).isSome=true)
def Fx(c:Cx)(b:Addr):Prop:=b=c.env.locals\/∃x,c.env.cells.lookup x=some b/\c.own x
theorem Fr.fx(F:Fr c J h){b:Addr}(q:Fx c b):c.X b:=q.elim (λe=>e▸F.loc.1) λzz=>by refine Bi zz ?_;clear zz;intro x e o;exact((F.E0 x b e).2.2.2 o).1
def Bind(c:Cx)(J:B4)(t:Expr)(d:D)(J':B4):Prop:=
 ∀v s,Fr c J s.heap->B9 c.X c.w s.heap v d->Run c.w c.A (Fx c) (assign t c.env v) s λV h'=>Fr c J' h'
def MK(c:Cx)(J:B4)(ts:Cy)(ds:Cs)(J':B4):Prop:=
 ∀vs s,Fr c J s.heap->Bf c.X c.w s.heap vs ds->Run c.w c.A (Fx c) (assignInOrder ((assignEach ts c.env).map (·.2)) vs) s λV h'=>Fr c J' h'
theorem Cp(s:Heap.SameBut a h h')(o':Obj)(e:h'.get? a=some o')(nt:a≠TP)(nc:∀o,h.get? a=some o->¬Cd o):Bu (·=a) h h':=
 Bu.of (λb o n e=>(s.2 b n).trans e) (λb o w e'=>⟨o',w▸e⟩) (λq=>nt q.symm) λb o w e'=>nc o (w▸e')
theorem Cd.at{o:Obj}(e:h.get? a=some o)(n:¬Cd o):∀o',h.get? a=some o'->¬Cd o':=λo' e'=>by rw[e]at e';cases e';exact n
theorem Cd.ns(x:h.Ns a m):∀o',h.get? a=some o'->¬Cd o':=by refine Mo x ?_;clear x;intro V V V e d V;exact Cd.at e (Cd.dict d)
theorem Cd.ce{v:Option Value}(x:h.IsCell a v):∀o',h.get? a=some o'->¬Cd o':=by refine Bi x ?_;clear x;intro V e d;exact Cd.at e (Cd.cell d)
theorem Fr.store(F:Fr c J s.heap)(hx:Cn x)(k:Cg c x)(r:B9 c.X c.w s.heap v d)(p:DG J x d J'){Q:EU}{M:Model}(q:∀h' tk,Bu (Fx c) s.heap h'->Fr c J' h'->Q () {s with heap:=h',toks:=tk}):wpAny M A (storeName c.env x v) Q E s:=by
 rcases k with k|⟨k,ow,lk⟩
 .obtain ⟨lx,l0,m,n⟩:=F.loc;refine wpAny_storeName_local k n (λh2 n2 s2=>?_) (by rw[F.kind];rfl);obtain⟨o2,e2⟩:∃o,h2.get? c.env.locals=some o:=by refine Ju n2 ?_;clear n2;intro o V V e V;exact⟨o,e⟩
  have l:=Cp s2 o2 e2 F.W7 (Cd.ns n);refine q h2 _ (l.any λa z=>.inl z) (F.re l (λa z=>by rw[z];exact⟨lx,.inr l0,λz=>(F.gx _ z).2.1 rfl⟩) ⟨_,n2⟩ (λy a e=>?_) λy dy my=>?_)
  .refine Hv (F.E0 y a e) ?_;intro a1 a2 Cr V;refine B6 Cr ?_;intro u a3;exact⟨u,B1 a3 λo z=>l.keep _ o a2 a1 z⟩
  .rcases p _ my with e|⟨my,ny⟩
   .cases e;exact⟨v,⟨hx,.inl ⟨k,F.W7,_,n2,by simp⟩⟩,r.move (DR l λa z=>z▸lx)⟩
   .refine Bi (F.names y dy my) ?_;intro u Dv ru;refine CC Dv ?_;intro hy H;refine⟨u,⟨hy,H.imp (λ⟨ky,ly,m',n',e'⟩=>⟨ky,ly,_,n2,?_⟩) λzz=>by refine UI zz ?_;clear zz;intro a ka ea na ca;exact⟨a,ka,ea,na,B1 ca λo z=>l.keep _ o na (F.E0 y a ea).1 z⟩⟩,ru.move (DR l λa z=>z▸lx)⟩;rw[if_neg ny,<- e',Nt n' n]
 .refine B6 (A6.mp lk) ?_;intro a ea;refine Hv (F.E0 x a ea) ?_;intro a1 a2 HW a4;refine B6 HW ?_;intro u0 a3;refine CC (a4 ow) ?_;intro ax a0;refine wpAny_storeName_cell F.kind k ea a3 λh2 c2 s2=>?_;obtain⟨o2,e2⟩:∃o,h2.get? a=some o:=by refine Bi c2 ?_;clear c2;intro o e V;exact⟨o,e⟩
  have l:=Cp s2 o2 e2 a2 (Cd.ce a3);obtain⟨lx,l0,m,n⟩:=F.loc;have n2:h2.Ns c.env.locals m:=Cm n λo z=>l.keep _ o F.W7 (λz=>a1 z.symm) z;refine q h2 s.toks (l.any λb z=>.inr ⟨x,z▸ea,ow⟩) (F.re l (λb z=>by rw[z];exact⟨ax,.inr a0,λz=>(F.gx _ z).2.2 x ea⟩) ⟨_,n2⟩ (λy b e=>?_) λy dy my=>?_)
  .by_cases hb:b=a
   .exact ⟨_,hb▸c2⟩
   .refine Hv (F.E0 y b e) ?_;intro b1 b2 Jk V;refine B6 Jk ?_;intro u b3;exact⟨u,B1 b3 λo z=>l.keep _ o b2 hb z⟩
  .rcases p _ my with e|⟨my,ny⟩
   .cases e;exact⟨v,⟨hx,.inr ⟨a,.inl k,ea,a2,c2⟩⟩,r.move (DR l λb z=>z▸ax)⟩
   .refine Bi (F.names y dy my) ?_;intro u W3 ru;refine CC W3 ?_;intro hy H;exact⟨u,⟨hy,H.imp (λzz=>by obtain⟨ky,ly,m',n',e'⟩:=zz;exact⟨ky,ly,m',Cm n' λo z=>l.keep _ o F.W7 (λz=>a1 z.symm) z,e'⟩)
     λzz=>by refine UI zz ?_;clear zz;intro b kb eb nb cb;exact⟨b,kb,eb,nb,B1 cb λo z=>l.keep _ o nb (λe=>ny (F.apart y x a (e▸eb) ea)) z⟩⟩,ru.move (DR l λb z=>z▸ax)⟩
theorem Bind.name(hx:Cn x)(k:Cg c x)(p:DG J x d J'):Bind c J (.Name x pos) d J':=λv s F r Q E q=>
 wpAny_assign_Name (F.store hx k r p λh' tk l F'=>q () h' tk l F')
theorem MK.nil:MK c J [] [] J:=λvs s F r Q E q=>by
 cases r;exact wpAny_assignInOrder_none (q () s.heap s.toks (.refl _) F)
theorem MK.cons{t:Expr}{ts:Cy}(x:Bind c J t d J')(y:MK c J' ts ds KU)(he:autoParam (assignEach (t::ts) c.env=(false,assign t c.env)::assignEach ts c.env) Bd):MK c J (t::ts) (d::ds) KU:=
 λvs s F r Q E q=>by
  refine Du (Bf.Bp r) ?_;rintro V V rfl a b;rw[he,AI];exact wpAny_assignInOrder_more (x _ s F a _ _ λV h1 t1 l1 F1=>y _ _ F1 (b.move (DR l1 λV z=>F.fx z)) _ _ λV h2 t2 l2 F2=>q () h2 t2 (Bu.trans l1 l2) F2)
theorem Bind.tup{elts:Cy}(x:MK c J elts ds J')(hn:autoParam ((assignEach elts c.env).length=ds.length) Bd)(hs:autoParam ((assignEach elts c.env).findIdx? (·.1)=none) Bd):Bind c J (.Tuple elts k pos) (.tup ds) J':=
 λv s F r Q E q=>by
  refine Qg (B9.M3 r) ?_;rintro V V rfl nx nt p r;refine wpAny_assign_Tuple F.ok.handled p (by rw[hn,AY,r.length]) hs λh1 x1=>?_;have l1:Le s.heap h1:=Le.of λb o e=>x1 b o (λz=>Aa _ (z▸Ag e)) e;exact x _ _ (F.le l1) (r.le l1) Q E λV h2 t2 l2 F2=>q () h2 t2 (Bu.trans l1.to l2) F2
structure JS(W:CG)(h h':Heap):Prop where
 keep:∀b o,b≠TP->¬W b->h.get? b=some o->h'.get? b=some o
 tab:Tab h->Tab h'
 code:∀b o,h.get? b=some o->Cd o->h'.get? b=some o
theorem Bu.Zb(l:Bu W h h'):JS W h h':=⟨l.keep,l.tab,l.code⟩
theorem JS.at(x:JS W h h'){b:Addr}{o:Obj}(n:b≠TP)(e:h.get? b=some o)(q:W b->Cd o):h'.get? b=some o:=by
 by_cases w:W b
 .exact x.code b o e (q w)
 .exact x.keep b o n w e
theorem JS.trans{Hj:Heap}(x:JS W h h')(y:JS W h' Hj):JS W h Hj:=⟨λb o n nw e=>y.keep b o n nw (x.keep b o n nw e),λt=>y.tab (x.tab t),λb o e z=>y.code b o (x.code b o e z) z⟩
theorem JS.any{W':CG}(x:JS W h h')(s:∀a,W a->W' a):JS W' h h':=⟨λb o n nw e=>x.keep b o n (λq=>nw (s b q)) e,x.tab,x.code⟩
theorem JS.fresh{W':CG}(x:JS W' h h')(s:∀a,W' a->W a\/h.get? a=none):JS W h h':=
 ⟨λb o n nw e=>x.keep b o n (λq=>(s b q).elim nw λz=>by rw[z]at e;cases e) e,x.tab,x.code⟩
theorem JS.b(x:JS W h h')(l:∀b o,W b->b≠TP->h.get? b=some o->∃o',h'.get? b=some o'):Bu W h h':=⟨x.keep,λb o n w e=>l b o w n e,x.tab,x.code⟩
noncomputable def Cx.plus(c:Cx)(fp:CG):Cx:={c with X:=DH c.X fp}
def ML(c:Cx)(b:Addr):Prop:=¬c.X b/\306<=b/\c.h0.get? b=none/\¬c.G.fp b/\b≠c.env.locals/\∀x,c.env.cells.lookup x≠some b
theorem Fr.new(F:Fr c J h){b:Addr}(e:h.get? b=none)(big:306<=b):ML c b:=by
 have nx:¬c.X b:=λq=>by obtain⟨_,o,e'⟩:=F.Ck b q;exact by rw[e]at e';cases e'
 have nt:b≠TP:=λq=>by refine Bi F.base.tab ?_;intro ps e' V;rw[<- q,e]at e';cases e'
 refine⟨nx,big,?_,λq=>nx (F.gx b q).1.1,λq=>nx (q▸F.loc.1),λx q=>?_⟩
 .cases q:c.h0.get? b with
  |none=>rfl
  |some o=>refine B6 (F.old.alive nt q) ?_;intro o' e';rw[e]at e';cases e'
 .refine Hv (F.E0 x b q) ?_;intro V V Cr V;refine Fq Cr ?_;intro v o e' V;rw[e]at e';cases e'
theorem ML.off{fp:CG}{b:Addr}(n:ML c b)(q:fp b):Off (c.plus fp) b:=⟨.inr q,.inr n.2.2.1,n.2.2.2.1,n.2.2.2.2.1,n.2.2.2.2.2⟩
theorem Fr.plus{fp:CG}(F:Fr c J h)(l:Le h h')(n:∀b,fp b->h.get? b=none/\306<=b/\∃o,h'.get? b=some o):Fr (c.plus fp) J h':=
 have F':=F.le l
 {base:=F'.base
  Ck:=λa q=>q.elim (λq=>F'.Ck a q) λq=>(n a q).2
  kind:=F.kind,glob:=F.glob,blt:=F.blt,ok:=F.ok,old:=F'.old
  loc:=⟨.inl F.loc.1,F.loc.2.1,F'.loc.2.2⟩
  E0:=λx a e=>by refine Hv (F'.E0 x a e) ?_;intro a1 a2 a3 a4;exact⟨a1,a2,a3,λo=>⟨.inl (a4 o).1,(a4 o).2⟩⟩
  apart:=F.apart
  names:=λx d m=>by
   refine Bi (F.names x d m) ?_;intro v H r;exact⟨v,H.keep (λo nt e=>l.keep _ o nt id e) (λa o nt V e=>l.keep _ o nt id e),(r.move (ET λb q=>q.imp_right λq=>(n b q).1)).le l⟩
  g:=c.G.mv F.g λb o q nt e=>⟨l.keep b o nt id e,λnx z=>z.elim nx λz=>by rw[(n b z).1]at e;cases e⟩
  gx:=λb q=>by refine CC (F.gx b q) ?_;intro Dv a3;refine CC Dv ?_;intro a1 a2;exact⟨⟨.inl a1,a2⟩,a3⟩}
theorem CW.ke(B:CW w h)(k:∀b o,b<306->h.get? b=some o->h'.get? b=some o)(kt:Tab h->Tab h'):CW w h' where
 k:=λa o e=>k a o (K8 e) (B.k a o e)
 gl:=by refine Bi B.gl ?_;intro mg n r;exact⟨mg,Cm n λo e=>k _ o (by decide) e,r⟩
 bt:=by refine Bi B.bt ?_;intro mg n r;exact⟨mg,Cm n λo e=>k _ o (by decide) e,r⟩
 lim:=by refine Bi B.lim ?_;intro mc n r;exact⟨mc,Cm n λo e=>k _ o (by decide) e,r⟩
 tab:=kt B.tab
theorem Fr.drop{fp:CG}{hx:Heap}(F0:Fr c J' hx)(F:Fr (c.plus fp) J h)(n:∀b,fp b->ML c b)(k0:∀b o,¬fp b\/Cd o->h.get? b=some o->h'.get? b=some o):Fr c J h':=
 have k:∀b o,¬fp b->h.get? b=some o->h'.get? b=some o:=λb o z=>k0 b o (.inl z);have kt:Tab h->Tab h':=λt=>t.keep (λo e=>k _ o (λz=>absurd (n _ z).2.1 (by decide)) e) λc o V e hc=>k0 c o (.inr hc) e;have kn:∀b o,¬DH c.X fp b->h.get? b=some o->h'.get? b=some o/\¬c.X b:=λb o q e=>⟨k b o (λz=>q (.inr z)) e,λz=>q (.inl z)⟩
 {base:=F.base.ke (λb o lt e=>k b o (λq=>absurd (n b q).2.1 (Nat.not_le.mpr lt)) e) kt
  Ck:=λa q=>⟨(F0.Ck a q).1,by
   obtain⟨_,o,e⟩:=F.Ck a (.inl q);exact⟨o,k a o (λz=>(n a z).1 q) e⟩⟩
  kind:=F.kind,glob:=F.glob,blt:=F.blt,ok:=F.ok
  old:=⟨λb o nt nw e=>k b o (λz=>by rw[(n b z).2.2.1]at e;cases e) (F.old.keep b o nt nw e),λb o nt w e=>by
   refine B6 (F.old.live b o nt w e) ?_;intro o' e';exact⟨o',k b o' (λz=>by rw[(n b z).2.2.1]at e;cases e) e'⟩,λtb=>kt (F.old.tab tb),λb o e z=>k0 b o (.inr z) (F.old.code b o e z)⟩
  loc:=⟨F0.loc.1,F0.loc.2.1,by refine B6 F.loc.2.2 ?_;intro m q;exact⟨m,Cm q λo e=>k _ o (λz=>(n _ z).2.2.2.2.1 rfl) e⟩⟩
  E0:=λx a e=>let⟨a1,a2,⟨v,a3⟩,_⟩:=F.E0 x a e
   ⟨a1,a2,⟨v,B1 a3 λo z=>k _ o (λq=>(n _ q).2.2.2.2.2 x e) z⟩,(F0.E0 x a e).2.2.2⟩
  apart:=F.apart
  names:=λx d m=>by
   refine Bi (F.names x d m) ?_;intro v H r;exact⟨v,H.keep (λo V e=>k _ o (λz=>(n _ z).2.2.2.2.1 rfl) e) (λa o V ea e=>k _ o (λz=>(n _ z).2.2.2.2.2 x ea) e),r.move λb o q V e=>kn b o q e⟩
  g:=c.G.mv F.g λb o q nt e=>⟨(Classical.em (fp b)).elim (λz=>k0 b o (.inr (q.elim (λy=>absurd y (n b z).2.2.2.1) λq=>q.elim (λy=>absurd (.inr z) y) id)) e) λz=>k b o z e,λq z=>q (.inl z)⟩
  gx:=F0.gx}
structure Sub(c cc:Cx)(scope:Scope):Prop where
 w:cc.w=c.w
 A:cc.A=c.A
 k:cc.k=c.k
 sc:cc.env.scope=relabel scope c.env
 own:∀x,scope.names.lookup x=some .cell->cc.own x/\(cc.env.cells.lookup x).isSome=true
 g:∀X h,cc.G.P cc.w X h->c.G.P c.w X h
theorem Sub.plus{fp:CG}(s:Sub c cc scope):Sub c (cc.plus fp) scope:=⟨s.w,s.A,s.k,s.sc,s.own,s.g⟩
structure Jl(O:Type) where
 P:World->(Addr->Prop)->Heap->Addr->List O->Prop
 kn:∀ {w X X' h h' a os},P w X h a os->(∀o,h.get? a=some o->h'.get? a=some o)->Kn X X' h h'->P w X' h' a os
 live:∀ {w X h a os},P w X h a os->∃o,h.get? a=some o
def CM(c:Cx)(J:B4)(ifs:Cy)(b:Bool):Prop:=
 ∀s,Fr c J s.heap->Run c.w c.A Hw (forIn ifs true λe r=>if r=true then do let ok <- isTrue e c.env (eval e c.env);pure (ForInStep.yield ok)else pure (ForInStep.yield r)) s λx V=>x=b
theorem CM.nil:CM c J [] true:=λs F Q E q=>by
 rw[List.forIn_nil];exact wpAny_pure (q _ s.heap s.toks (.refl _) rfl)
def Ih{O:Type}(T:Jl O)(em:Value->Env->Sem Unit)(c:Cx)(J:B4)(o:O):Prop:=
 ∀a os s,Fr c J s.heap->Off c a->T.P c.w c.X s.heap a os->os.length<=1000000->Run c.w c.A (·=a) (em (.ref a) c.env) s λV h'=>T.P c.w c.X h' a (os++[o])
noncomputable def Gens(S:Cx->Prop){O:Type}(T:Jl O)(em:Value->Env->Sem Unit):List Comprehension->List (Str×D)->List O->Prop
 |[],J,b8=>∃o,b8=[o]/\∀cc,S cc->Ih T em cc J o
 |g::gs,J,b8=>∃(ds:List (D×List O)),(∀cc,S cc->Bb cc J g.target g.iter (ds.map (·.1)))/\b8=ds.flatMap (·.2)/\
   ∀d∈ds,∃J' b,(∀p∈J,p∈J')/\(∀cc,S cc->Bind cc J g.target d.1 J')/\(∀cc,S cc->CM cc J' g.ifs b)/\(b=false->d.2=[])/\(b=true->Gens S T em gs J' d.2)
def Turn(S:Cx->Prop){O:Type}(T:Jl O)(em:Value->Env->Sem Unit)(g:Comprehension)(gs:Ed)(J:B4)(d:D)(out:List O):Prop:=
 ∃J' b,(∀p∈J,p∈J')/\(∀cc,S cc->Bind cc J g.target d J')/\(∀cc,S cc->CM cc J' g.ifs b)/\(b=false->out=[])/\(b=true->Gens S T em gs J' out)
structure Ft(e:Expr)(all:Ed)(em:Value->Env->Sem Unit):Prop where
 sync:∀g∈all,g.is_async=0/\∀env x,foldedSetIterable g.iter env x=pure x
 cl:clausesOf e=all
 code:∀k it acc env,(Code.compLoop e k it acc env).isFrame=false/\(Code.compStart e k it acc env).isFrame=false
 quiet:∀k it acc env,(Code.compLoop e k it acc env).quiet=true
 under:∀(A:Around) k it acc env,A.under (Code.compLoop e k it acc env)=A/\A.under (Code.compStart e k it acc env)=A
 last:∀k it acc env g,all[k]? = some g->g.is_async=0->all[k+1]? = none->(compTurn e k it acc env=(standAt g.iter.pos >>= λV=>pyNext it >>= λr=>match r with
   |none=>pure (.done .next)
   |some v=>letOwnedTupleGo g.target it v >>= λV=>assign g.target env v >>= λV=>
    (forIn g.ifs true λe r=>if r=true then do let ok <- isTrue e env (eval e env);pure (ForInStep.yield ok)else pure (ForInStep.yield r)) >>= λok=>
    (if ok=true then em acc env >>= λV=>again (.compLoop e k it acc env)else again (.compLoop e k it acc env))))
 more:∀k it acc env g g',all[k]? = some g->g.is_async=0->all[k+1]? = some g'->g'.is_async=0->(compTurn e k it acc env=(standAt g.iter.pos >>= λV=>pyNext it >>= λr=>match r with
   |none=>pure (.done .next)
   |some v=>letOwnedTupleGo g.target it v >>= λV=>assign g.target env v >>= λV=>
    (forIn g.ifs true λe r=>if r=true then do let ok <- isTrue e env (eval e env);pure (ForInStep.yield ok)else pure (ForInStep.yield r)) >>= λok=>
    (if ok=true then eval g'.iter env >>= λx=>standAt g'.iter.pos >>= λV=>foldedSetIterable g'.iter env x >>= λx=>holding [x] (pyIter x) >>= λuj=>
      runOwn (.compStart e (k+1) uj acc env) env >>= λV=>again (.compLoop e k it acc env)else again (.compLoop e k it acc env))))
noncomputable def jm(elt:Expr)(acc:Value)(env:Env):Sem Unit:=eval elt env >>= λx=>call (.builtin "list.append") [acc,x] >>= λV=>pure ()
theorem Hf{elt:Expr}{all:Ed}(hs:∀g∈all,g.is_async=0/\∀env x,foldedSetIterable g.iter env x=pure x):Ft (.ListComp elt all scope pos) all (jm elt) where
 sync:=hs
 cl:=rfl
 code:=λV V V V=>⟨rfl,rfl⟩
 quiet:=λV V V V=>rfl
 under:=λV V V V V=>⟨rfl,rfl⟩
 last:=λk it acc env g hg ha hn=>by
  unfold compTurn;simp only[hg,ha,hn,bne_self_eq_false,AR,if_false];rfl
 more:=λk it acc env g g' hg ha hn hb=>by
  unfold compTurn;simp only[hg,ha,hn,hb,bne_self_eq_false,AR,if_false];rfl
theorem Kg{all:Ed}{em:Value->Env->Sem Unit}(CT:Ft e all em){it acc:Value}{env:Env}{R:Result->Shared->Prop}(l:M8 w A it s.heap)(h:codeAny (model prog w) A (.compLoop e k it acc env) R s)(hk:k<all.length):codeAny (model prog w) A (.compStart e k it acc env) R s:=by
 refine codeAny_of_tree ?_;rw[(CT.under A k it acc env).2];show wpAny _ _ (if(Code.compStart e k it acc env).isFrame then(compStart e k it acc env).onRaise (leaving env)else(compStart e k it acc env).onRaise (λx=>do noteFrame x env;standAt theWindowsPlace)) _ _ s;rw[(CT.code k it acc env).2];simp -iota only[AR,if_false];refine wpAny_notedAt ?_;unfold compStart;have hg:all[k]? = some all[k]:=AU hk;have ha:=(CT.sync _ (List.getElem_mem hk)).1;rw[CT.cl,hg];simp -iota only[Option.elim_some,ha,bne_self_eq_false,AR,if_false];refine wpAny_bind (wpAny_askSetting (wpAny_ite ?_));split
 .exact wpAny_pure (And.intro (CT.quiet _ _ _ _) h)
 .refine wpAny_bind (wpAny_rule ?_);exact wpAny_bind (wpAny_standAt (wpAny_bind (l s (.refl _) _ _ (wpAny_pure (And.intro (CT.quiet _ _ _ _) h)))))
theorem Rm{fp:CG}(l:JS W h h')(n:∀b,W b->(∃o,h.get? b=some o)->¬fp b/\X b):Kp fp X X h h':=λb o q nt e=>
 ⟨l.at nt e λw=>by refine CC (n b w ⟨o,e⟩) ?_;intro a x;exact q.elim (λy=>absurd y a) λq=>q.elim (λy=>absurd x y) id,id⟩
theorem Off.plus{fp:CG}(o:Off c a):Off (c.plus fp) a:=⟨.inl o.1,o.2.1,o.2.2.1,o.2.2.2.1,o.2.2.2.2⟩
theorem bu(o:Off c a):¬Fx c a:=λq=>q.elim o.2.2.2.1 λzz=>by refine Bi zz ?_;clear zz;intro x e V;exact o.2.2.2.2 x e
theorem Hq(o:ML c a):¬Fx c a:=λq=>q.elim o.2.2.2.2.1 λzz=>by refine Bi zz ?_;clear zz;intro x e V;exact o.2.2.2.2.2 x e
theorem TC{target:Expr}{p:Pos}{B:Value->Sem α}{Q:α->Shared->Prop}(Fl:Bb c J target e ds)(F:Fr c J s.heap)(hf:∀x,foldedSetIterable e c.env x=pure x)(q:∀it fp h' tk,Le s.heap h'->(∀b,fp b->s.heap.get? b=none/\306<=b/\∃o,h'.get? b=some o)->Draws c.w c.A target it fp ds (DH c.X fp) h'->M8 c.w c.A it h'->wpAny (model prog c.w) c.A (B it) Q E {s with heap:=h',toks:=tk}) :
  wpAny (model prog c.w) c.A (eval e c.env >>= λx=>standAt p >>= λV=>foldedSetIterable e c.env x >>= λx=>holding [x] (pyIter x) >>= B) Q E s:=by
 refine wpAny_bind (wpAny_mono (Fl s F (λit s'=>wpAny (model prog c.w) c.A (B it) Q E s') E q) (λx s1 h1=>?_) λV V z=>z);exact wpAny_bind (wpAny_standAt (wpAny_bind (wpAny_of_eq (hf x) (wpAny_bind (wpAny_holding h1)))))
def Pn(e:Expr){O:Type}(T:Jl O)(em:Value->Env->Sem Unit)(S:Cx->Prop)(acc:Addr)(gs:Ed)(g:Comprehension)(k:Nat):Prop:=
 ∀(cc:Cx),S cc->∀(J J0:B4) (hx:Heap) (fp:CG) (it:Value) (ds:List (D×List O)),
   (∀d∈ds,Turn S T em g gs J d.1 d.2)->∀(s:Shared),Fr cc J0 hx->(∀b,fp b->ML cc b)->Fr (cc.plus fp) J s.heap->Draws cc.w cc.A g.target it fp (ds.map (·.1)) (DH cc.X fp) s.heap->
   ∀os,T.P cc.w (DH cc.X fp) s.heap acc os->Off cc acc->¬fp acc->os.length+(ds.flatMap (·.2)).length<=1000000->∀(R:Result->Shared->Prop),
   (∀h' tk,JS (λb=>Fx cc b\/b=acc\/fp b) s.heap h'->Fr cc J h'->T.P cc.w cc.X h' acc (os++ds.flatMap (·.2))->R (.ok .next) {s with heap:=h',toks:=tk})->
   codeAny (model prog cc.w) cc.A (.compLoop e k it (.ref acc) cc.env) R s
theorem MP{all:Ed}{em:Value->Env->Sem Unit}(CT:Ft e all em){O:Type}(T:Jl O){S:Cx->Prop}(Sp:∀cc fp,S cc->S (Cx.plus cc fp))(acc:Addr)(gs:Ed)(g:Comprehension)(k:Nat)(hk:all.drop k=g::gs)(IH:∀g' fu,gs=g'::fu->Pn e T em S acc fu g' (k+1)):Pn e T em S acc gs g k:=
 λcc hS J J0 hx fp it ds hT s F0 hn F dr os tR Jv nf sz R hR=>by
  have Dx:k<all.length:=by apply Nat.lt_of_not_le;intro z;rw[List.drop_eq_nil_of_le z]at hk;cases hk
  have hg:all[k]? = some g:=by rw[<- List.head?_drop,hk];rfl
  have qQ:all.drop (k+1)=gs:=by rw[<- List.drop_drop,hk];rfl
  have ha:=CT.sync g (AQ hg);refine codeAny_loop (CT.quiet _ _ _ _) (λn s1=>∃ZF Ta h1 t1,ZF.length=n/\(∀d∈ZF,Turn S T em g gs J d.1 d.2)/\Ta++ZF.flatMap (·.2)=os++ds.flatMap (·.2)/\s1={s with heap:=h1,toks:=t1}/\
   JS (λb=>Fx cc b\/b=acc\/fp b) s.heap h1/\Fr (cc.plus fp) J h1/\Draws cc.w cc.A g.target it fp (ZF.map (·.1)) (DH cc.X fp) h1/\T.P cc.w (DH cc.X fp) h1 acc Ta) (λn s1 hI=>?_) ds.length ⟨ds,os,s.heap,s.toks,rfl,hT,rfl,rfl,⟨λV V V V e=>e,id,λV V e V=>e⟩,F,dr,tR⟩
  refine rF hI ?_;clear hI;rintro ZF Ta h1 t1 hlen f3 W6 rfl qp F1 dD fj;rw[(CT.under cc.A k it (.ref acc) cc.env).1];show wpAny _ _ (if(Code.compLoop e k it (.ref acc) cc.env).isFrame then(compTurn e k it (.ref acc) cc.env).onRaise (leaving cc.env)else(compTurn e k it (.ref acc) cc.env).onRaise (λx=>do noteFrame x cc.env;theTreesLotGoes x)) _ _ _;rw[(CT.code k it (.ref acc) cc.env).1];simp -iota only[AR,if_false];refine wpAny_noted ?_;have kr:Kp fp (DH cc.X fp) (DH cc.X fp) h1 h1:=λb o q nt e=>⟨e,id⟩;have body:∀ {B:Sem Fin}{Q:Fin->Shared->Prop}{E:CH},
    (ZF=[]->∀h2 tk,JS (λb=>Fx cc b\/b=acc\/fp b) s.heap h2->Fr cc J h2->T.P cc.w cc.X h2 acc Ta->Q (.done .next) {s with heap:=h2,toks:=tk})->
    (∀d RM,ZF=d::RM->∀J' b,(∀p∈J,p∈J')->(b=false->d.2=[])->(b=true->Gens S T em gs J' d.2)->∀h2 tk,JS (λb=>Fx cc b\/b=acc\/fp b) s.heap h2->Fr (cc.plus fp) J' h2->
     Draws cc.w cc.A g.target it fp (RM.map (·.1)) (DH cc.X fp) h2->T.P cc.w (DH cc.X fp) h2 acc Ta->
     wpAny (model prog cc.w) cc.A (if b=true then B else again (.compLoop e k it (.ref acc) cc.env)) Q E {s with heap:=h2,toks:=tk})->
    wpAny (model prog cc.w) cc.A (standAt g.iter.pos >>= λV=>pyNext it >>= λr=>match r with
     |none=>pure (.done .next)
     |some v=>letOwnedTupleGo g.target it v >>= λV=>assign g.target cc.env v >>= λV=>
      (forIn g.ifs true λe r=>if r=true then do let ok <- isTrue e cc.env (eval e cc.env);pure (ForInStep.yield ok)else pure (ForInStep.yield r)) >>= λok=>
      (if ok=true then B else again (.compLoop e k it (.ref acc) cc.env))) Q E {s with heap:=h1,toks:=t1}:=by
   intro B Q E q0 q1;refine wpAny_bind (wpAny_standAt (wpAny_bind ?_));cases ZF with
   |nil=>
    refine dD _ _ kr (λb q=>.inr q) _ _ λh2 tk kk=>?_;have l2:JS fp h1 h2:=⟨λb o V nf e=>kk b o (.inl nf) e,λtb=>tb.keep (λo e=>kk _ o (.inl λz=>absurd (hn _ z).2.1 (by decide)) e) λc o V e hc=>kk c o (.inr hc) e,λb o e z=>kk b o (.inr z) e⟩
    refine wpAny_pure (q0 rfl h2 tk (qp.trans (l2.any λa z=>.inr (.inr z))) (F0.drop F1 hn kk) (T.kn fj (λo e=>kk _ o (.inl nf) e) λb o q nt e=>⟨kk b o (.inl λz=>q (.inr z)) e,λz=>q (.inl z)⟩))
   |cons d RM=>
    refine wpAny_mono (dD _ _ kr (λb q=>.inr q) F1.Ck F1.base.tab _ _ λv h2 tk l2 r2 NK=>(?_:(λv s2=>wpAny (model prog cc.w) cc.A (assign g.target cc.env v >>= λV=>
      (forIn g.ifs true λe r=>if r=true then do let ok <- isTrue e cc.env (eval e cc.env);pure (ForInStep.yield ok)else pure (ForInStep.yield r)) >>= λok=>
      (if ok=true then B else again (.compLoop e k it (.ref acc) cc.env))) Q E s2) v _)) (λr s2 hr=>?_) λV V z=>z
    .refine Qg (f3 d (.head _)) ?_;intro J' b D8 hb hi hf ht;have F2:=F1.off l2 λa q=>(hn a q).off q;have Jn:=T.kn fj (λo e=>l2.keep _ o (λz=>absurd (z▸Jv.1) F0.Ck.nt) nf e) (Kn.le l2 λb q=>.inr q);refine wpAny_bind (hb _ (Sp cc fp hS) v {s with heap:=h2,toks:=tk} F2 r2 _ _ λV h3 t3 l3 F3=>?_);have L9:JS (Fx cc) h2 h3:=Bu.Zb l3;have Ur:=NK.mv (Rm L9 λb w V=>⟨λz=>Hq (hn b z) w,F2.fx w⟩);have VM:=T.kn Jn (λo e=>l3.keep _ o (λz=>absurd (z▸Jv.1) F0.Ck.nt) (bu (Jv.plus (fp:=fp))) e) (Kn.le l3 λb q=>F2.fx q);refine wpAny_bind (hi _ (Sp cc fp hS) _ F3 _ _ λok h4 t4 l4 e4=>?_);subst e4;have UG:Le h3 h4:=l4;exact q1 d RM rfl J' ok D8 hf ht h4 t4 (((qp.trans (l2.Zb.any λa z=>.inr (.inr z))).trans (L9.any λa z=>.inl z)).trans (UG.Zb.any λa z=>z.elim)) (F3.le UG)
      (Ur.mv (Rm UG.Zb λb w V=>w.elim)) (T.kn VM (λo e=>UG.keep _ o (λz=>absurd (z▸Jv.1) F0.Ck.nt) id e) (Kn.le UG λb q=>q.elim))
    .refine Bi hr ?_;clear hr;rintro v rfl hv;exact wpAny_bind hv
  cases gs with
  |nil=>
   rw[CT.last k it (.ref acc) cc.env g hg ha.1 (by rw[<- List.head?_drop,qQ];rfl)];refine body (λe h2 tk l2 F2 Jn=>?_) (λd RM e J' b D8 hf ht h2 t2 l2 F2 NK Jn=>?_)
   .subst e;rw[List.flatMap_nil,List.append_nil]at W6;exact hR h2 tk l2 F2 (W6▸Jn)
   .subst e;cases b with
    |false=>
     simp -iota only[AR,if_false];exact wpAny_pure ⟨rfl,RM.length,by rw[<- hlen];exact Nat.lt_succ_self _,RM,Ta,h2,t2,rfl,λd hd=>f3 d (.tail _ hd),by rw[<- W6,AX,hf rfl];rfl,rfl,l2,F2.sub D8,NK,Jn⟩
    |true=>
     simp -iota only[if_true];refine Bi (ht rfl) ?_;intro o ho uH;have wF:Ta.length<=1000000:=by
      have:=congrArg List.length W6;simp -iota only[Ac]at this;omega
     refine wpAny_bind (uH _ (Sp cc fp hS) acc Ta {s with heap:=h2,toks:=t2} F2 Jv.plus Jn wF _ _ λV h3 t3 l3 VM=>?_);have L9:Bu (·=acc) h2 h3:=l3;exact wpAny_pure ⟨rfl,RM.length,by rw[<- hlen];exact Nat.lt_succ_self _,RM,Ta++[o],h3,t3,rfl,λd hd=>f3 d (.tail _ hd),by rw[<- W6,AX,ho,List.append_assoc],rfl,
      l2.trans (L9.Zb.any λa z=>.inr (.inl z)),(F2.off L9 λa z=>z▸Jv.plus).sub D8,NK.mv (Rm L9.Zb λb w V=>⟨λz=>nf (w▸z),.inl (w▸Jv.1)⟩),VM⟩
  |cons g' fu=>
   have m8:all[k+1]? = some g':=by rw[<- List.head?_drop,qQ];rfl
   have qJ:=CT.sync g' (AQ m8);rw[CT.more k it (.ref acc) cc.env g g' hg ha.1 m8 qJ.1];refine body (λe h2 tk l2 F2 Jn=>?_) (λd RM e J' b D8 hf ht h2 t2 l2 F2 NK Jn=>?_)
   .subst e;rw[List.flatMap_nil,List.append_nil]at W6;exact hR h2 tk l2 F2 (W6▸Jn)
   .subst e;cases b with
    |false=>
     simp -iota only[AR,if_false];exact wpAny_pure ⟨rfl,RM.length,by rw[<- hlen];exact Nat.lt_succ_self _,RM,Ta,h2,t2,rfl,λd hd=>f3 d (.tail _ hd),by rw[<- W6,AX,hf rfl];rfl,rfl,l2,F2.sub D8,NK,Jn⟩
    |true=>
     simp -iota only[if_true];refine EJ (ht rfl) ?_;intro sj Fl dO FG;refine TC (c:=Cx.plus cc fp) (Fl _ (Sp cc fp hS)) (s:={s with heap:=h2,toks:=t2}) F2 (λx=>qJ.2 _ x) λdS aU h3 t3 l3 n3 Ur i7=>?_
     .have L9:Le h2 h3:=l3;have vD:∀b,aU b->ML (cc.plus fp) b:=λb q=>F2.new (n3 b q).1 (n3 b q).2.1;have F3:Fr ((cc.plus fp).plus aU) J' h3:=F2.plus L9 n3;have RC:=T.live Jn;have iQ:¬aU acc:=λq=>by refine B6 RC ?_;clear RC;intro o eo;exact by rw[(n3 _ q).1]at eo;cases eo
      have VM:T.P cc.w (DH (DH cc.X fp) aU) h3 acc Ta:=T.kn Jn (λo e=>L9.keep _ o (λz=>absurd (z▸Jv.1) F0.Ck.nt) id e)
       λb o q nt e=>⟨L9.keep b o nt id e,λz=>z.elim q λz=>by rw[(n3 b z).1]at e;cases e⟩
      have Jq:k+1<all.length:=(AP.mp m8).1;refine wpAny_bind (wpAny_runOwn (Kg CT (A:=cc.A) i7 (IH g' fu rfl (cc.plus fp) (Sp cc fp hS) J' J' h2 aU dS sj FG {s with heap:=h3,toks:=t3} F2 vD F3 Ur Ta VM Jv.plus iQ ?_ _ λh4 t4 l4 F4 mV=>?_) Jq))
      .have:=congrArg List.length W6;simp -iota only[Ac,AX,dO]at this;omega
      .have UG:JS (λb=>Fx cc b\/b=acc\/aU b) h3 h4:=l4;have gz:JS (λb=>Fx cc b\/b=acc) h2 h4:=((L9.Zb.any (W':=λb=>Fx cc b\/b=acc\/aU b) λa z=>z.elim).trans UG).fresh λa q=>q.elim (λq=>.inl (.inl q)) λq=>q.elim (λq=>.inl (.inr q)) λq=>.inr (n3 a q).1;refine wpAny_pure ⟨rfl,RM.length,by rw[<- hlen];exact Nat.lt_succ_self _,RM,Ta++d.2,h4,t4,rfl,λd hd=>f3 d (.tail _ hd),by rw[<- W6,AX,List.append_assoc],rfl,
        l2.trans (gz.any λa z=>z.imp_right .inl),F4.sub D8,NK.mv (Rm gz λb w V=>w.elim (λw=>⟨λz=>Hq (hn b z) w,F2.fx w⟩) λw=>⟨λz=>nf (w▸z),.inl (w▸Jv.1)⟩),dO▸mV⟩
theorem Sj{all:Ed}{em:Value->Env->Sem Unit}(CT:Ft e all em){O:Type}(T:Jl O){S:Cx->Prop}(Sp:∀cc fp,S cc->S (Cx.plus cc fp))(acc:Addr) :
  ∀(gs:Ed) (g:Comprehension) (k:Nat),all.drop k=g::gs->Pn e T em S acc gs g k:=by
 intro l;induction l with
 |nil=>exact λg k hk=>MP CT T Sp acc [] g k hk λV V e=>by cases e
 |cons g2 gs ih=>
  exact λg k hk=>MP CT T Sp acc (g2::gs) g k hk λg' fu e=>by
   cases e;exact ih g2 (k+1) (by rw[<- List.drop_drop,hk];rfl)
noncomputable def FY(cells:List (Str×Addr))(names:List (Str×NameKind))(acc:List (Str×Addr)):List (Str×Addr):=
 names.foldl (λcs p=>if p.2==.free then(p.1,(cells.lookup p.1).getD 0)::cs else cs) acc
theorem HX{env:Env}(hf:∀p∈scope.names,p.2=.free->(env.cells.lookup p.1).isSome=true):closureFor scope env=pure (FY env.cells scope.names []):=by
 have key:∀(names:List (Str×NameKind)) (acc:List (Str×Addr)),(∀p∈names,p.2=.free->(env.cells.lookup p.1).isSome=true)->
   (forIn names acc λp (cs:List (Str×Addr))=>(if p.2==.free then(do let a <- cellOf env p.1;pure (.yield ((p.1,a)::cs)))else pure (.yield cs):Sem (ForInStep (List (Str×Addr)))))=pure (FY env.cells names acc):=by
  intro names;induction names with
  |nil=>intro acc V;rw[List.forIn_nil];rfl
  |cons p r ih=>
   intro acc hp;rw[List.forIn_cons];have qY:=λacc=>ih acc λq hq=>hp q (.tail _ hq);by_cases hk:p.2=.free
   .refine B6 (A6.mp (hp p (.head _) hk)) ?_;intro a ha;have hc:cellOf env p.1=pure a:=by unfold cellOf;rw[ha]
    simp only[hk,beq_self_eq_true,if_true,hc,pure_bind];rw[qY];unfold FY;rw[As];simp only[hk,beq_self_eq_true,if_true,ha,Option.getD_some]
   .have Mb:(p.2==NameKind.free)=false:=by simpa using hk
    simp only[Mb,AR,if_false,pure_bind];rw[qY];unfold FY;rw[As];simp only[Mb,AR,if_false]
 exact(congrArg (λm:Sem (List (Str×Addr))=>m >>= λcs=>pure cs) (key scope.names [] hf)).trans (pure_bind _ _)
theorem Uj(cells:List (Str×Addr)):∀(names:List (Str×NameKind)) (acc:List (Str×Addr)),
  (∀x a,(FY cells names acc).lookup x=some a->acc.lookup x=some a\/((x,NameKind.free)∈names/\(cells.lookup x).getD 0=a))/\
  (∀x,(x,NameKind.free)∈names\/acc.lookup x=some ((cells.lookup x).getD 0)->(FY cells names acc).lookup x=some ((cells.lookup x).getD 0)):=by
 intro l;induction l with
 |nil=>exact λacc=>⟨λx a e=>.inl e,λx m=>m.elim (λm=>by cases m) id⟩
 |cons p0 r ih=>
  obtain⟨n,k⟩:=p0;intro acc;have e:FY cells ((n,k)::r) acc=FY cells r (if k==.free then(n,(cells.lookup n).getD 0)::acc else acc):=rfl;rw[e];refine CC (ih (if k==.free then(n,(cells.lookup n).getD 0)::acc else acc)) ?_;intro h1 h2;refine⟨λx a q=>?_,λx m=>h2 x ?_⟩
  .rcases h1 x a q with q|⟨q,q'⟩
   .by_cases hk:(k==NameKind.free)=true
    .rw [if_pos hk,AK]at q;cases hb:x==n with
     |true=>
      rw[hb]at q;cases q;have:=beq_iff_eq.mp hb;subst this;exact .inr ⟨by rw[beq_iff_eq.mp hk];exact .head _,rfl⟩
     |false=>rw[hb]at q;exact .inl q
    .rw [if_neg hk]at q;exact .inl q
   .exact .inr ⟨.tail _ q,q'⟩
  .rcases m with m|m
   .rcases AJ.mp m with e|m
    .cases e;right;simp
    .exact .inl m
   .right;split
    .rw [AK];cases hb:x==n with
     |true=>rw[beq_iff_eq.mp hb]
     |false=>exact m
    .exact m
theorem NB:∀(names:List (Str×NameKind)) (h:Heap) (acc:List (Str×Addr)),
  (∀x a,(cellsFrom h.objs.size names acc).lookup x=some a->acc.lookup x=some a\/((x,NameKind.cell)∈names/\h.objs.size<=a/\(pushCells h names).IsCell a none))/\
  (∀x,(x,NameKind.cell)∈names\/(∃a,acc.lookup x=some a/\h.objs.size<=a)->∃a,(cellsFrom h.objs.size names acc).lookup x=some a/\h.objs.size<=a)/\
  (∀x,(x,NameKind.cell)∉names->(cellsFrom h.objs.size names acc).lookup x=acc.lookup x)/\
  ((∀x a,acc.lookup x=some a->a<h.objs.size)->(∀x y a,acc.lookup x=some a->acc.lookup y=some a->x=y)->
   ∀x y a,(cellsFrom h.objs.size names acc).lookup x=some a->(cellsFrom h.objs.size names acc).lookup y=some a->x=y):=by
 intro names;induction names with
 |nil=>exact λh acc=>⟨λx a e=>.inl e,λx m=>m.elim (λm=>by cases m) id,λV V=>rfl,λV i=>i⟩
 |cons p r ih=>
  intro h acc;obtain⟨n,k⟩:=p;unfold cellsFrom pushCells;by_cases hk:(k==NameKind.cell)=true
  .rw [if_pos hk,if_pos hk];have Mb:=beq_iff_eq.mp hk;refine Hv (ih (h.push {cls:=.type "cell",data:=.cell none}) ((n,h.objs.size)::acc)) ?_;intro h1 h2 h3 h4;rw[Heap.size_push]at h1 h2 h3 h4;refine⟨λx a q=>?_,λx m=>?_,λx m=>?_,λlt inj=>h4 (λx a e=>?_) (λx y a e e'=>?_)⟩
   .rcases h1 x a q with q|⟨q,q',vZ⟩
    .rw [AK]at q;cases hb:x==n with
     |true=>
      rw[hb]at q;cases q;rw[beq_iff_eq.mp hb,Mb];exact .inr ⟨.head _,Ad _,_,pushCells_keeps r _ _ _ (AH _ rfl),rfl⟩
     |false=>rw[hb]at q;exact .inl q
    .exact .inr ⟨.tail _ q,by exact A5 q',vZ⟩
   .rcases m with m|⟨a,ea,la⟩
    .rcases AJ.mp m with e|m
     .cases e.symm;by_cases hm:(n,NameKind.cell)∈r
      .refine Bi (h2 n (.inl hm)) ?_;intro a ea la;exact⟨a,ea,by exact A5 la⟩
      .exact ⟨h.objs.size,by rw[h3 n hm];simp,Ad _⟩
     .refine Bi (h2 x (.inl m)) ?_;intro a ea la;exact⟨a,ea,by exact A5 la⟩
    .by_cases hm:(x,NameKind.cell)∈r
     .refine Bi (h2 x (.inl hm)) ?_;intro a ea la;exact⟨a,ea,by exact A5 la⟩
     .rw [h3 x hm,AK];cases hb:x==n with
      |true=>exact⟨_,rfl,Ad _⟩
      |false=>exact⟨a,ea,la⟩
   .rw [h3 x λz=>m (.tail _ z),AK];cases hb:x==n with
    |true=>exact absurd (by rw[beq_iff_eq.mp hb,Mb];exact .head _) m
    |false=>rfl
   .rw [AK]at e;cases hb:x==n with
    |true=>rw[hb]at e;cases e;exact Nat.lt_succ_self _
    |false=>rw[hb]at e;exact Nat.lt_succ_of_lt (lt x a e)
   .rw [AK]at e e';cases hb:x==n with
    |true=>
     rw[hb]at e;cases e;cases Pk:y==n with
     |true=>rw[beq_iff_eq.mp hb,beq_iff_eq.mp Pk]
     |false=>rw[Pk]at e';exact absurd (lt _ _ e') (Aa _)
    |false=>
     rw[hb]at e;cases Pk:y==n with
     |true=>rw[Pk]at e';cases e';exact absurd (lt _ _ e) (Aa _)
     |false=>rw[Pk]at e';exact inj x y a e e'
  .rw [if_neg hk,if_neg hk];have Mb:k≠NameKind.cell:=λz=>hk (by rw[z];rfl);refine Hv (ih h acc) ?_;intro h1 h2 h3 h4;refine⟨λx a q=>(h1 x a q).imp_right λzz=>by refine CC zz ?_;clear zz;intro a b;exact⟨.tail _ a,b⟩,λx m=>h2 x (m.imp_left λm=>?_),λx m=>h3 x λz=>m (.tail _ z),h4⟩;rcases AJ.mp m with e|m
   .cases e;exact absurd rfl Mb
   .exact m
noncomputable def Cx.comp(c:Cx)(Cj:Env)(X':CG)(h:Heap):Cx:=
 {c with env:=Cj,X:=X',own:=λx=>∃b,Cj.cells.lookup x=some b/\h.get? b=none,h0:=h,M:=Hw,ro:=True}
theorem Fr.comp(F:Fr c J h)(l:Le h h'){Cj:Env}(hX:∀b,c.X b->X' b)(hN:∀b,X' b->c.X b\/(h.get? b=none/\306<=b/\∃o,h'.get? b=some o))(k:Cj.scope.kind=.function)(g:Cj.globals=3)(bl:Cj.builtins=0)(L:X' Cj.locals/\h.get? Cj.locals=none/\∃m,h'.Ns Cj.locals m)(cl:∀x a,Cj.cells.lookup x=some a->c.env.cells.lookup x=some a\/(h.get? a=none/\X' a/\a≠Cj.locals/\a≠TP/\∃v,h'.IsCell a v))(inj:∀x y a,Cj.cells.lookup x=some a->Cj.cells.lookup y=some a->x=y)(nm:∀p∈J0,p∈J/\(c.env.kindOf p.1=some .cell\/c.env.kindOf p.1=some .free)/\(Cj.kindOf p.1=some .cell\/Cj.kindOf p.1=some .free)/\Cj.cells.lookup p.1=c.env.cells.lookup p.1) :
  Fr (c.comp Cj X' h) J0 h':=
 have F':=F.le l
 {base:=F'.base
  Ck:=λa q=>(hN a q).elim (λq=>F'.Ck a q) λq=>q.2
  kind:=k,glob:=g,blt:=bl,ok:=F.ok
  old:=l
  loc:=L
  E0:=λx a e=>by
   rcases cl x a e with e'|⟨a1,a2,a3,a4,a5⟩
   .refine Hv (F.E0 x a e') ?_;intro b1 b2 Cr b4;refine B6 Cr ?_;intro v b3;have lv:∃o,h.get? a=some o:=by refine Bi b3 ?_;clear b3;intro o e V;exact⟨o,e⟩
    refine⟨λz=>?_,b2,⟨v,B1 b3 λo z=>l.keep _ o b2 id z⟩,λzz=>?_⟩
    .refine B6 lv ?_;clear lv;intro o eo;have z':a=Cj.locals:=z;rw[z',L.2.1]at eo;cases eo
    .refine Bi zz ?_;clear zz;intro b eb nb;refine B6 lv ?_;clear lv;intro o eo;have ZG:Cj.cells.lookup x=some b:=eb;have e2:Cj.cells.lookup x=some a:=e;rw[e2]at ZG;cases ZG;rw[nb]at eo;cases eo
   .exact ⟨a3,a4,a5,λV=>⟨a2,a1⟩⟩
  apart:=inj
  names:=λx d m=>by
   refine Hv (nm _ m) ?_;intro m' k1 k2 e;refine Bi (F.names x d m') ?_;intro v Dv r;refine CC Dv ?_;intro hp H;refine⟨v,⟨hp,.inr ?_⟩,(r.move (ET λb q=>(hN b q).imp_right λq=>q.1)).le l⟩;rcases H with⟨kl,_⟩|⟨a,ka,ea,na,ca⟩
   .rcases k1 with k1|k1<;>(rw[kl]at k1;cases k1)
   .exact ⟨a,k2,e.trans ea,na,B1 ca λo z=>l.keep _ o na id z⟩
  g:=c.G.mv F.g λb o q nt e=>⟨l.keep b o nt id e,λnx z=>(hN b z).elim nx λz=>by rw[z.1]at e;cases e⟩
  gx:=λb q=>by
   refine FP (F.gx b q) ?_;intro HW a2 a3;refine CC HW ?_;intro a1 V;obtain⟨_,o,lv⟩:=F.Ck b a1;refine⟨⟨hX b a1,.inl trivial⟩,λz=>?_,λx e=>?_⟩
   .have z':b=Cj.locals:=z;rw[z',L.2.1]at lv;cases lv
   .rcases cl x b e with e'|⟨b1,_⟩
    .exact a3 x e'
    .rw [b1]at lv;cases lv}
structure C9(c:Cx)(J:B4)(scope:Scope)(J0:B4):Prop where
 kind:scope.kind=.function
 uniq:∀p∈scope.names,scope.names.lookup p.1=some p.2
 free:∀p∈scope.names,p.2=.free->(∃d,(p.1,d)∈J)/\(c.env.kindOf p.1=some .cell\/c.env.kindOf p.1=some .free)
 names:∀p∈J0,p∈J/\scope.names.lookup p.1=some .free
theorem IQ{env:Env}(h:scope.names.lookup x=some .free):(relabel scope env).names.lookup x=some .cell\/(relabel scope env).names.lookup x=some .free:=by
 unfold relabel;dsimp only;generalize scope.names=names at h ⊢;induction names with
 |nil=>cases h
 |cons p r ih=>
  obtain⟨n,k⟩:=p;rw[AK]at h;rw[AI];cases hb:x==n with
  |true=>
   rw[hb]at h;cases h;dsimp only;split
   .left;rw[AK,hb]
   .right;rw[AK,hb]
  |false=>
   rw[hb]at h;have:=ih h;dsimp only;split<;>(rw[AK,hb];exact this)
theorem MG{env:Env}{k:NameKind}(h:scope.names.lookup x=some k)(nf:k≠.free):(relabel scope env).names.lookup x=some k:=by
 unfold relabel;dsimp only;generalize scope.names=names at h ⊢;induction names with
 |nil=>cases h
 |cons p r ih=>
  obtain⟨n,k'⟩:=p;rw[AK]at h;rw[AI];cases hb:x==n with
  |true=>
   rw[hb]at h;cases h.symm;have hk:(k==NameKind.free)=false:=by simpa using nf
   dsimp only;rw[hk];simp only[Bool.false_and,AR,if_false];rw[AK,hb]
  |false=>
   rw[hb]at h;have:=ih h;dsimp only;split<;>(rw[AK,hb];exact this)
theorem Sub.kind(s:Sub c cc scope){k:NameKind}(h:scope.names.lookup x=some k)(nf:autoParam (k≠.free) Fj):cc.env.kindOf x=some k:=by
 unfold Env.kindOf;rw[s.sc];exact MG h nf
theorem C9.some(CO:C9 c J scope J0)(F:Fr c J h):∀p∈scope.names,p.2=.free->(c.env.cells.lookup p.1).isSome=true:=λp m e=>by
 refine CC (CO.free p m e) ?_;intro Jk k;refine B6 Jk ?_;intro d md;refine Bi (F.names _ d md) ?_;intro v W3 V;refine CC W3 ?_;intro V H;rcases H with⟨kl,_⟩|⟨a,_,ea,_⟩
 .rcases k with k|k<;>(rw[kl]at k;cases k)
 .rw [ea];rfl
theorem Fv{g:Comprehension}{gs:Ed}{em:Value->Env->Sem Unit}(CT:Ft e (g::gs) em){O:Type}(T:Jl O){newAcc:Sem Value}{o0:Obj}(ay:∀(M:Model) (A:Around) (s:Shared) (Q:CH) (E:CH),Q (.ref s.heap.objs.size) {s with heap:=s.heap.push o0}->wpAny M A newAcc Q E s)(fo:o0.isFreed=false)(T0:∀w X h a,h.get? a=some o0->¬a=sysModules->T.P w X h a [])(CO:C9 c J scope J0){use:Option (Value->Sem Unit)}{ds:List (D×List O)}(Fl:Bb c J g.target g.iter (ds.map (·.1)))(FG:∀d∈ds,Turn (λcc=>Sub c cc scope) T em g gs J0 d.1 d.2)(sz:(ds.flatMap (·.2)).length<=1000000)(F:Fr c J s.heap)(q:∀acc C h' tk m,s.heap.get? acc=none->s.heap.get? C=none->306<=acc->306<=C->acc≠C->acc≠TP->C≠TP->Le s.heap h'->h'.Ns C m->T.P c.w (DH c.X (·=C)) h' acc (ds.flatMap (·.2))->compPost (model prog c.w) c.A E use Q (.ref acc) C (.ok .next) {s with heap:=h',toks:=tk}) :
  wpAny (model prog c.w) c.A (comprehension e scope c.env pos newAcc false (eval g.iter c.env) use) Q E s:=by
 refine wpAny_comprehension_free CT.cl (λx=>(CT.sync g (.head _)).2 _ x) (HX (CO.some F)) CO.kind (λx hx hl=>by rw[CO.uniq x hx,hl]) ?_;refine Fl s F _ _ λit fp h2 t2 l2 n2 NK i6=>ay _ _ _ _ _ ?_;have F2:Fr c J h2:=F.le l2;have SQ:=F2.base.tab;have XN:=B7 F2.base;dsimp only;generalize S1:h2.objs.size=acc at *;have l3:Le h2 (h2.push o0):=Le.push _ _;generalize jx:h2.push o0=h3 at *;have e3:h3.get? acc=some o0:=by rw[<- jx,<- S1];exact AH _ fo
 have s3:h3.objs.size=acc+1:=by rw[<- jx,Heap.size_push,S1]
 have iM:h2.get? acc=none:=by rw[<- S1];exact Bn _
 have R5:acc≠TP:=by rw[<- S1];exact B5 SQ
 have rU:=l3.tab SQ;unfold newFunctionEnv;refine wpAny_bind (wpAny_alloc ?_);dsimp only;have l4:Le h3 (h3.push {cls:=.type "dict",data:=.dict #[]}):=Le.push _ _;have OE:h3.objs.size≠TP:=B5 rU;have vE:h3.get? h3.objs.size=none:=Bn _;have eC:(h3.push {cls:=.type "dict",data:=.dict #[]}).get? h3.objs.size=some {cls:=.type "dict",data:=.dict #[]}:=AH _ rfl;have s4:(h3.push {cls:=.type "dict",data:=.dict #[]}).objs.size=acc+2:=by rw[Heap.size_push,s3]
 generalize hC:h3.objs.size=C at *;simp only[Option.isSome_some,if_true];generalize jy:h3.push {cls:=.type "dict",data:=.dict #[]}=h4 at *;have gw:Le h2 h4:=Bu.trans l3 l4;have fy:acc<C:=by rw[s3];exact Nat.lt_succ_self _
 have mj:C<h4.objs.size:=by rw[s4,s3];exact Nat.lt_succ_self _
 have jv:acc<h4.objs.size:=Nat.lt_trans fy mj;have Z0:306<=C:=AD XN (A4 fy);have lP:306<=h4.objs.size:=AD Z0 (A4 mj);have rV:=gw.tab SQ;refine wpAny_bind (wpAny_layCells _ (λname kind cells=>rfl) _ _ _ _ ?_);dsimp only;refine Hv (NB scope.names h4 (FY c.env.cells scope.names [])) ?_;intro c1 c2 c3 c4;refine CC (Uj c.env.cells scope.names []) ?_;intro d1 d2;have l5:Le h4 (pushCells h4 scope.names):=Le.of λb o e=>pushCells_keeps _ _ _ _ e;generalize cellsFrom h4.objs.size scope.names (FY c.env.cells scope.names [])=cs at *;generalize pushCells h4 scope.names=h5 at *;have big:∀ {h:Heap}{a:Addr},h.objs.size<=a->h.get? a=none:=λ{h a} le=>by
  cases e:h.get? a with
  |none=>rfl
  |some o=>exact absurd (Ag e) (Nat.not_lt.mpr le)
 have XQ:∀x a,(FY c.env.cells scope.names []).lookup x=some a->c.env.cells.lookup x=some a:=λx a e=>by
  rcases d1 x a e with z|⟨m,e'⟩
  .cases z
  .refine B6 (A6.mp (CO.some F _ m rfl)) ?_;intro b eb;have ZG:c.env.cells.lookup x=some b:=eb;rw[ZG]at e' ⊢;exact congrArg some e'
 have j6:Le s.heap h4:=Bu.trans l2 gw;have qh:Le s.heap h5:=Bu.trans j6 l5;have qz:∀ {h:Heap}{a:Addr},Tab h->h.get? a=none->a≠TP:=λtb e q=>by refine Bi tb ?_;clear tb;intro ps e' V;rw[q]at e;rw[e]at e';cases e'
 have Tt:s.heap.get? acc=none:=Bx l2 R5 iM;have sC:s.heap.get? C=none:=Bx (Bu.trans l2 l3:Le s.heap h3) OE vE;have eH:acc≠C:=by rw[s3];exact Nat.ne_of_lt (Nat.lt_succ_self _)
 have IC:∀x a,cs.lookup x=some a->c.env.cells.lookup x=some a\/(s.heap.get? a=none/\h4.objs.size<=a/\a≠C/\a≠acc/\a≠TP/\h5.IsCell a none):=λx a e=>by
  rcases c1 x a e with e|⟨_,la,ca⟩
  .exact .inl (XQ x a e)
  .have na:=qz rV (big la);exact .inr ⟨Bx j6 na (big la),la,λz=>Aa _ (Ai mj (z▸la)),λz=>Aa _ (Ai jv (z▸la)),na,ca⟩
 have live:∀x a,c.env.cells.lookup x=some a->a<h4.objs.size/\∃o,s.heap.get? a=some o:=λx a e=>by
  refine Hv (F.E0 x a e) ?_;intro V nt jU V;refine Fq jU ?_;intro v o eo V;exact⟨Ag (j6.keep _ o nt id eo),o,eo⟩
 have inj:=c4 (λx a e=>(live x a (XQ x a e)).1) λx y a e e'=>F.apart x y a (XQ x a e) (XQ y a e');rw[List.forIn_nil];refine wpAny_bind (wpAny_pure (wpAny_pure ?_));dsimp only;let Cj:Env:={scope:=relabel scope c.env,locals:=C,globals:=c.env.globals,cells:=cs,qual:=c.env.qual,code:=c.env.code,frame:=c.env.frame,builtins:=c.env.builtins}
 let N1:Addr->Prop:=λb=>b=acc\/b=C\/∃x,cs.lookup x=some b/\s.heap.get? b=none;have pk:∀(X':CG),(∀b,c.X b->X' b)->(∀b,X' b->c.X b\/(s.heap.get? b=none/\306<=b/\∃o,h5.get? b=some o))->X' C->(∀x b,cs.lookup x=some b->s.heap.get? b=none->X' b)->Fr (c.comp Cj X' s.heap) J0 h5:=λX' hX hN hC hc=>
  F.comp qh hX hN CO.kind F.glob F.blt ⟨hC,sC,_,⟨_,_,_,l5.keep _ _ OE id eC,rfl,λe he=>absurd he (by simp),λn=>rfl⟩⟩ (λx a e=>(IC x a e).imp_right λzz=>by refine oM zz ?_;clear zz;intro a1 a2 a3 a4 a5 a6;exact⟨a1,hc x a e a1,a3,a5,_,a6⟩) inj λp hp=>by
   refine CC (CO.names p hp) ?_;intro m lk;have mf:(p.1,NameKind.free)∈scope.names:=lookup_mem lk;have hs:=CO.some F _ mf rfl;refine B6 (A6.mp hs) ?_;intro b eb;have ZG:c.env.cells.lookup p.1=some b:=eb;refine⟨m,(CO.free _ mf rfl).2,IQ lk,?_⟩;show cs.lookup p.1=_;have nc:(p.1,NameKind.cell)∉scope.names:=λz=>by
    have u:=CO.uniq _ z;rw[show scope.names.lookup (p.1,NameKind.cell).1=some .free from lk]at u;cases u
   exact(c3 p.1 nc).trans ((d2 p.1 (.inl mf)).trans (by rw[ZG];rfl))
 have n1:∀b,N1 b->s.heap.get? b=none/\306<=b/\∃o,h5.get? b=some o:=λb q=>by
  rcases q with rfl|rfl|⟨x,e,nb⟩
  .exact ⟨Tt,XN,_,(Bu.trans l4 l5:Le h3 h5).keep _ _ R5 id e3⟩
  .exact ⟨sC,Z0,_,l5.keep _ _ OE id eC⟩
  .rcases IC x b e with e'|⟨a1,a2,_,_,_,o,eo,_⟩
   .obtain ⟨_,o,eo⟩:=live x b e';rw[nb]at eo;cases eo
   .exact ⟨nb,AD lP a2,o,eo⟩
 have F5:=pk (DH c.X N1) (λb q=>.inl q) (λb q=>q.imp_right (n1 b)) (.inr (.inr (.inl rfl))) λx b e nb=>.inr (.inr (.inr ⟨x,e,nb⟩));have ZO:∀b,fp b->b<acc/\∃o,h5.get? b=some o:=λb q=>by
  obtain⟨_,_,o,eo⟩:=n2 b q;exact⟨S1▸Ag eo,o,(Bu.trans gw l5:Le h2 h5).keep _ _ (λz=>absurd (z▸(n2 b q).2.1) (by decide)) id eo⟩
 have r7:Fr ((c.comp Cj (DH c.X N1) s.heap).plus fp) J0 h5:=pk (DH (DH c.X N1) fp) (λb q=>.inl (.inl q))
  (λb q=>q.elim (λq=>q.imp_right (n1 b)) λq=>.inr ⟨(n2 b q).1,(n2 b q).2.1,(ZO b q).2⟩) (.inl (.inr (.inr (.inl rfl)))) λx b e nb=>.inl (.inr (.inr (.inr ⟨x,e,nb⟩)))
 have ay:∀b,fp b->ML (c.comp Cj (DH c.X N1) s.heap) b:=λb q=>by
  obtain⟨b1,b2,o2,b3⟩:=n2 b q;refine CC (ZO b q) ?_;intro b4 b5;refine⟨λz=>?_,b2,b1,λz=>?_,λz=>?_,λx e=>?_⟩
  .rcases z with z|rfl|rfl|⟨x,e,nb⟩
   .obtain ⟨_,o,eo⟩:=F.Ck b z;rw[b1]at eo;cases eo
   .exact Aa _ b4
   .exact Aa _ (Nat.lt_trans b4 fy)
   .rcases IC x b e with e'|⟨_,a2,_⟩
    .obtain ⟨_,o,eo⟩:=live x b e';rw[b1]at eo;cases eo
    .exact Aa _ (Ai (Nat.lt_trans b4 jv) a2)
  .obtain ⟨_,o,eo⟩:=F.Ck b (F.gx b z).1.1;rw[b1]at eo;cases eo
  .have z':b=C:=z;rw[z']at b4;exact Aa _ (Nat.lt_trans b4 fy)
  .rcases IC x b e with e'|⟨_,a2,_⟩
   .obtain ⟨_,o,eo⟩:=live x b e';rw[b1]at eo;cases eo
   .exact Aa _ (Ai (Nat.lt_trans b4 jv) a2)
 have sf:Draws c.w c.A g.target it fp (ds.map (·.1)) (DH (DH c.X N1) fp) h5:=NK.mv λb o q nt e=>⟨(Bu.trans gw l5:Le h2 h5).keep _ o nt id e,λz y=>y.elim (λy=>y.elim (λy=>z (.inl y)) λy=>by
  have Dx:b<acc:=S1▸Ag e;rcases y with rfl|rfl|⟨x,ex,nb⟩
  .exact Aa _ Dx
  .exact Aa _ (Nat.lt_trans Dx fy)
  .rcases IC x b ex with e'|⟨_,a2,_⟩
   .obtain ⟨_,o,eo⟩:=live x b e';rw[nb]at eo;cases eo
   .exact Aa _ (Ai (Nat.lt_trans Dx jv) a2)) λy=>z (.inr y)⟩
 have Jv:Off (c.comp Cj (DH c.X N1) s.heap) acc:=by
  refine⟨.inr (.inl rfl),.inr Tt,λz=>?_,eH,λx e=>?_⟩
  .obtain ⟨_,o,eo⟩:=F.Ck acc (F.gx acc z).1.1;rw[Tt]at eo;cases eo
  .rcases IC x acc e with e'|⟨_,_,_,a4,_⟩
   .obtain ⟨_,o,eo⟩:=live x acc e';rw[Tt]at eo;cases eo
   .exact a4 rfl
 have sub:Sub c (c.comp Cj (DH c.X N1) s.heap) scope:=⟨rfl,rfl,rfl,rfl,λx e=>by
  refine Bi (c2 x (.inl (lookup_mem e))) ?_;intro a ea la;exact⟨⟨a,ea,Bx j6 (qz rV (big la)) (big la)⟩,by show(cs.lookup x).isSome=true;rw[ea];rfl⟩,λV V z=>z⟩
 refine Kg CT (A:=c.A) (λs' l Q E z=>i6 s' (Bu.trans (Bu.trans gw l5:Le h2 h5) l) Q E z) ?_ (Nat.zero_lt_succ _);refine Sj CT T (S:=λcc=>Sub c cc scope) (λcc fp hs=>hs.plus) acc gs g 0 rfl (c.comp Cj (DH c.X N1) s.heap) sub J0 J0 h5 fp it ds FG {s with heap:=h5,toks:=t2} F5 ay r7 sf []
  (T0 _ _ _ _ ((Bu.trans l4 l5:Le h3 h5).keep _ _ R5 id e3) (λz=>absurd (z▸XN) (by decide))) Jv (λz=>Aa _ (ZO acc z).1) (by simpa using sz) _ λh6 t6 l6 F6 fk=>?_
 rw[BT]at fk;obtain⟨_,_,m6,vN⟩:=F6.loc;have kB:JS (λb=>Fx (c.comp Cj (DH c.X N1) s.heap) b\/b=acc\/fp b) h5 h6:=l6;have ur:Le s.heap h6:=((qh.Zb.any (W':=λb=>Fx (c.comp Cj (DH c.X N1) s.heap) b\/b=acc\/fp b) λa z=>z.elim).trans kB |>.fresh λb q=>.inr (by
  rcases q with q|rfl|q
  .rcases q with q|⟨x,e,b',e',nb⟩
   .have z':b=C:=q;rw[z'];exact sC
   .have e2:cs.lookup x=some b:=e;have e3:cs.lookup x=some b':=e';rw[e2]at e3;cases e3;exact nb
  .exact Tt
  .exact (n2 b q).1)).b λb o z=>z.elim
 exact q acc C h6 t6 m6 Tt sC XN Z0 eH R5 OE ur vN (T.kn fk (λo e=>e) λb o nq nt e=>⟨e,λz=>nq (z.imp_right λz=>.inr (.inl z))⟩)
noncomputable def Jl.list:Jl D where
 P:=λw X h a os=>∃vs:List Value,h.PlainList a vs.toArray/\Bf X w h vs os
 kn:=λzz k kn=>by refine Bi zz ?_;clear zz;intro vs p r;exact⟨vs,p.at k,r.kn kn⟩
 live:=λzz=>by refine Bi zz ?_;clear zz;intro vs Cr V;refine B6 Cr ?_;intro n e;exact⟨_,e⟩
theorem Cc.kn{v d}(r:Cc X w h v d)(k:Kn X X' h h'):Cc X' w h' v d:=r.move k
noncomputable def dput(es:B4)(k:Str)(d:D):List (Str×D):=if es.any (λp=>decide (p.1=k))then es.map (λp=>if p.1=k then(p.1,d)else p)else es++[(k,d)]
noncomputable def DC(es:B4)(os:B4):List (Str×D):=os.foldl (λes p=>dput es p.1 p.2) es
theorem WI{kvs:Di}(r:Cc X w h kvs es)(k:Str):kvs.any (λp=>decide (p.1=k))=es.any (λp=>decide (p.1=k)):=by
 induction es generalizing kvs with
 |nil=>cases r;rfl
 |cons p es ih=>cases r with|cons a b=>rw[List.any_cons,List.any_cons,ih b]
theorem WK{kvs:Di}(r:Cc X w h kvs es){k:Str}(rv:B9 X w h v d) :
  Cc X w h (kvs.map λp=>if p.1=k then(p.1,v)else p) (es.map λp=>if p.1=k then(p.1,d)else p):=by
 induction es generalizing kvs with
 |nil=>cases r;exact .nil
 |cons p es ih=>
  cases r with
  |cons a b=>
   rename_i k' v' d' vs;rw[AI,AI];by_cases hk:k'=k
   .simp -iota only[hk,if_true];exact .cons rv (ih b)
   .simp -iota only[hk,if_false];exact .cons a (ih b)
theorem To{kvs:Di}(r:Cc X w h kvs es){k:Str}(rv:B9 X w h v d):Cc X w h (kvs++[(k,v)]) (es++[(k,d)]):=by
 induction es generalizing kvs with
 |nil=>cases r;exact .cons rv .nil
 |cons p es ih=>cases r with|cons a b=>exact .cons a (ih b)
theorem IS{kvs:Di}(r:Cc X w h kvs es){k:Str}(rv:B9 X w h v d):Cc X w h (stored kvs k v) (dput es k d):=by
 unfold stored dput;rw[WI r k];split
 .exact WK r rv
 .exact To r rv
theorem Uq(es:B4)(k:Str)(d:D):(dput es k d).length<=es.length+1:=by
 unfold dput;split<;>simp
theorem Iy:∀(os es:B4),(DC es os).length<=es.length+os.length
 |[],es=>by simp -iota[DC]
 |p::os,es=>by
  have:=Iy os (dput es p.1 p.2);have h2:=Uq es p.1 p.2;have e:DC es (p::os)=DC (dput es p.1 p.2) os:=rfl;rw[e,AZ];lia
theorem P9(es os:B4)(p:Str×D):DC es (os++[p])=dput (DC es os) p.1 p.2:=by
 unfold DC;rw[BH];rfl
noncomputable def Jl.dict:Jl (Str×D) where
 P:=λw X h a os=>∃kvs:List (Str×Value),h.DictOf (KS w) a kvs/\Cc X w h kvs (DC [] os)/\¬a=sysModules
 kn:=λzz k kn=>by refine EJ zz ?_;clear zz;intro vs p r n;exact⟨vs,C2 p k,r.kn kn,n⟩
 live:=λzz=>by refine Bi zz ?_;clear zz;intro vs Dv V;refine Ju Dv ?_;intro o V V e V;exact⟨o,e⟩
noncomputable def dF(k v:Expr)(acc:Value)(env:Env):Sem Unit:=do
 let kv <- eval k env;let vv <- holding [kv] (eval v env);match acc with
 |.ref d=>do
  standAt {k.pos with endLine:=v.pos.endLine,endCol:=v.pos.endCol}
  holding [kv,vv] (dictSet d kv vv)
 |_=>unsupported "internal:dictcomp"
theorem He{k v:Expr}{all:Ed}(hs:∀g∈all,g.is_async=0/\∀env x,foldedSetIterable g.iter env x=pure x):Ft (.DictComp k v all scope pos) all (dF k v) where
 sync:=hs
 cl:=rfl
 code:=λV V V V=>⟨rfl,rfl⟩
 quiet:=λV V V V=>rfl
 under:=λV V V V V=>⟨rfl,rfl⟩
 last:=λk it acc env g hg ha hn=>by
  unfold compTurn;simp only[hg,ha,hn,bne_self_eq_false,AR,if_false];rfl
 more:=λk it acc env g g' hg ha hn hb=>by
  unfold compTurn;simp only[hg,ha,hn,hb,bne_self_eq_false,AR,if_false];rfl
theorem Ih.list{elt:Expr}(x:Ev c J elt d):Ih Jl.list (jm elt) c J d:=λa os s F off zz sz Q E q=>Bi zz λvs p r=>
 wpAny_bind (x s F _ _ λv h1 t1 l1 r1=>by
  have Ec:Le s.heap h1:=l1;have nt:a≠TP:=λz=>F.Ck.nt (z▸off.1);have p1:h1.PlainList a vs.toArray:=p.at λo e=>Ec.keep _ o nt id e;refine wpAny_bind (wpAny_list_append_plain p1 (λh2 p2 s2=>wpAny_pure ?_) (by have:=r.length;rw[AY,sizeLine_eq];exact Je this sz rfl));refine B6 p2 ?_;clear p2;intro n2 e2;have l2:Bu (·=a) h1 h2:=Cp s2 _ e2 nt (by refine B6 p1 ?_;clear p1;intro V e;exact Cd.at e (Cd.seq rfl));refine q () h2 t1 (Bu.trans Ec.to l2) ⟨vs++[v],⟨n2,?_⟩,?_⟩
  .rw [e2];simp
  .exact ((r.le Ec).append (.cons r1 .nil)).move (DR l2 λb z=>z▸off.1))
theorem Ih.dict{k v:Expr}{kk:Str}(x:Ev c J k (.str kk))(y:Ev c J v d):Ih Jl.dict (dF k v) c J (kk,d):=λa os s F off zz sz Q E q=>EJ zz λkvs p r ns=>
 wpAny_bind (x s F _ _ λv1 h1 t1 l1 r1=>by
  have Ec:Le s.heap h1:=l1;refine wpAny_bind (wpAny_holding (y _ (F.le Ec) _ _ λv2 h2 t2 l2 r2=>?_));cases r1;have E6:Le h1 h2:=l2;have Gk:Le s.heap h2:=Bu.trans Ec E6;have nt:a≠TP:=λz=>F.Ck.nt (z▸off.1);have hl:=r.length;have Nb:=Iy os [];refine wpAny_bind (wpAny_standAt (wpAny_holding (wpAny_dictSet_pairs (knd:=KS c.w) (DL _ _ _) (C2 p λo e=>Gk.keep _ o nt id e) (λh3 p3 s3=>?_) (by rw[BS]at Nb;rw[sizeLine_eq];omega))));refine Ju (id p3) ?_;intro o3 V V e3 V;have l3:Bu (·=a) h2 h3:=Cp s3 _ e3 nt (by refine V9 p ?_;clear p;intro V V V e V d V;exact Cd.at (Gk.keep _ _ nt id e) (Cd.dict d));exact q () h3 _ (Bu.trans Gk.to l3) ⟨_,p3,by rw[P9];exact(IS (r.le Gk) r2).move (DR l3 λb z=>z▸off.1),ns⟩)
theorem CM.cons{es:Cy}{a b:Bool}(x:CL c J e a)(y:a=true->CM c J es b):CM c J (e::es) (a&&b):=λs F Q E q=>by
 rw[List.forIn_cons];simp -iota only[if_true];refine wpAny_bind (wpAny_bind (x s F _ _ λv h1 t1 l1 e1=>wpAny_pure ?_));subst e1;cases v with
 |true=>exact y rfl _ (F.le l1) _ _ λv h2 t2 l2 e2=>q v h2 t2 (Bu.trans l1 l2) (by rw[e2];rfl)
 |false=>
  have key:∀(es:Cy) (s:Shared),Q false s->wpAny (model prog c.w) c.A (forIn es false λe r=>if r=true then do let ok <- isTrue e c.env (eval e c.env);pure (ForInStep.yield ok)else pure (ForInStep.yield r)) Q E s:=λes=>by
   induction es with
   |nil=>intro s h;rw[List.forIn_nil];exact wpAny_pure h
   |cons e es ih=>intro s h;rw[List.forIn_cons];simp -iota only[AR,if_false];exact wpAny_bind (wpAny_pure (ih s h))
  exact key es _ (q false h1 t1 l1 rfl)
theorem CM.one{a:Bool}(x:CL c J e a):CM c J [e] a:=by
 have:=CM.cons x λV=>CM.nil;rwa [Bool.and_true]at this
theorem DV{g:Comprehension}{gs:Ed}(h:g.is_async=0):firstAsync (g::gs)=false:=by
 obtain⟨a,b,i,k⟩:=g;have h':k=0:=h;subst h';rfl
theorem Dq(g:Comprehension)(gs:Ed)(env:Env):firstIter (g::gs) env=eval g.iter env:=by
 cases g;rfl
theorem Kf{Hj:Heap}{C:Addr}(l:Le h h')(sC:h.get? C=none)(OE:C≠TP)(sb:Heap.SameBut C h' Hj)(nC:∀o,h'.get? C=some o->¬Cd o):Le h Hj/\Kn (DH X (·=C)) X h' Hj:=
 ⟨JS.b ⟨λb o nt V e=>sb.extBut b o (λz=>by rw[z,sC]at e;cases e) (l.keep b o nt id e),λtb=>(l.tab tb).keep (λo e=>sb.extBut _ _ (λz=>OE z.symm) e) λc o V e hc=>sb.extBut _ _ (λz=>nC o (by rw[<- z];exact e) hc) e,λb o e hc=>sb.extBut _ _ (λz=>nC o (by rw[<- z];exact l.code b o e hc) hc) (l.code b o e hc)⟩ λb o z=>z.elim,
  λb o n nt e=>⟨sb.extBut b o (λz=>n (.inr z)) e,λz=>n (.inl z)⟩⟩
theorem C4(e:h.get? a=some {cls:=.type "dict",data:=.dict #[]}):h.DictOf (KS w) a []:=by
 refine Ju (Heap.DictOf.new (knd:=KS w) h) ?_;intro o es ep e0 rest;rw[AH _ rfl]at e0;cases e0;exact⟨_,es,ep,e,rest⟩
theorem Ev.Ox{elt:Expr}{g:Comprehension}{gs:Ed}(hs:∀g'∈g::gs,g'.is_async=0/\∀env x,foldedSetIterable g'.iter env x=pure x)(CO:C9 c J scope J0)(ds:List (D×List D))(Fl:Bb c J g.target g.iter (ds.map (·.1)))(FG:∀d∈ds,Turn (λcc=>Sub c cc scope) Jl.list (jm elt) g gs J0 d.1 d.2)(sz:(ds.flatMap (·.2)).length<=1000000) :
  Ev c J (.ListComp elt (g::gs) scope pos) (.list (ds.flatMap (·.2))):=λs F Q E q=>by
 rw[eval_ListComp];show wpAny _ _ (comprehension _ scope c.env _ (newList []) (firstAsync (g::gs)) (firstIter (g::gs) c.env) none) _ _ _;rw[DV (hs g (.head _)).1,Dq];refine Fv (newAcc:=newList []) (Hf hs) Jl.list (o0:={cls:=.type "list",data:=.seq #[]}) (λM A s Q E h=>wpAny_newObj_type h) rfl (λw X h a e V=>⟨[],⟨_,e⟩,.nil⟩) CO Fl FG sz F ?_;intro acc C h' tk m sa sC ba bC ac KL OE l ns HW;refine Bi HW ?_;intro vs p r;refine⟨m,ns,λHj sb=>?_⟩;refine CC (Kf (X:=c.X) l sC OE sb (Cd.ns ns)) ?_;intro l2 kn;exact q _ Hj tk l2 (.list (λz=>by obtain⟨_,o,eo⟩:=F.Ck acc z;rw[sa]at eo;cases eo) KL (p.at λo e=>sb.extBut _ _ ac e) (r.kn kn))
theorem Ev.Up{k v:Expr}{g:Comprehension}{gs:Ed}(hs:∀g'∈g::gs,g'.is_async=0/\∀env x,foldedSetIterable g'.iter env x=pure x)(CO:C9 c J scope J0)(ds:List (D×List (Str×D)))(Fl:Bb c J g.target g.iter (ds.map (·.1)))(FG:∀d∈ds,Turn (λcc=>Sub c cc scope) Jl.dict (dF k v) g gs J0 d.1 d.2)(sz:(ds.flatMap (·.2)).length<=1000000) :
  Ev c J (.DictComp k v (g::gs) scope pos) (.dict (DC [] (ds.flatMap (·.2)))):=λs F Q E q=>by
 rw[arm_eval_DictComp];show wpAny _ _ (comprehension _ scope c.env _ newDict (firstAsync (g::gs)) (firstIter (g::gs) c.env) none) _ _ _;rw[DV (hs g (.head _)).1,Dq];refine Fv (newAcc:=newDict) (He hs) Jl.dict (o0:={cls:=.type "dict",data:=.dict #[]}) (λM A s Q E h=>wpAny_newObj_type h) rfl (λw X h a e n=>⟨[],C4 e,.nil,n⟩) CO Fl FG sz F ?_;intro acc C h' tk m sa sC ba bC ac KL OE l ns Jk;refine EJ Jk ?_;intro vs p r n;refine⟨m,ns,λHj sb=>?_⟩;refine CC (Kf (X:=c.X) l sC OE sb (Cd.ns ns)) ?_;intro l2 kn;exact q _ Hj tk l2 (.dict (λz=>by obtain⟨_,o,eo⟩:=F.Ck acc z;rw[sa]at eo;cases eo) KL (by simpa using n) (C2 p λo e=>sb.extBut _ _ ac e) (r.kn kn))
def Ex(c:Cx)(J:B4)(st:Stmt)(N:Eo)(R:Ct):Prop:=
 ∀s,Fr c J s.heap->∀(Q:Flow->Shared->Prop) (E:CH),(∀h' tk,N h'->Q .next {s with heap:=h',toks:=tk})->(∀v h' tk,R v h'->Q (.ret v) {s with heap:=h',toks:=tk})->
  wpAny (model prog c.w) c.A (exec st c.env) Q E s
noncomputable def Qr(c:Cx):List (List Stmt)->(Flow->Shared->Prop)->(Value->Shared->Prop)->Shared->Prop
 |[],Q,_,s=>Q .next s
 |l::ls,Q,E,s=>wpAny (model prog c.w) c.A (execs l c.env) (λf s'=>match f with|.next=>Qr c ls Q E s'|f=>Q f s') E s
def Be(c:Cx)(J:B4)(ls:List (List Stmt))(N:Eo)(R:Ct):Prop:=
 ∀s,Fr c J s.heap->∀(Q:Flow->Shared->Prop) (E:CH),(∀h' tk,N h'->Q .next {s with heap:=h',toks:=tk})->(∀v h' tk,R v h'->Q (.ret v) {s with heap:=h',toks:=tk})->Qr c ls Q E s
theorem Be.done(q:∀h,Fr c J h->N h):Be c J [] N R:=λs F Q E n r=>n s.heap s.toks (q _ F)
theorem Be.nil{ls:List (List Stmt)}(x:Be c J ls N R):Be c J ([]::ls) N R:=λs F Q E n r=>wpAny_execs_nil (x s F Q E n r)
def M7(c c':Cx):Prop:=c'.w=c.w/\c'.A=c.A/\c'.env=c.env
theorem HR{c':Cx}(e:M7 c c'):∀(ls:List (List Stmt)){Q:Flow->Shared->Prop}{E:CH}{s:Shared},Qr c' ls Q E s->Qr c ls Q E s:=by
 intro l;induction l with
 |nil=>exact λ{V V V} h=>h
 |cons l ls ih=>
  intro Q E s h;have h':wpAny (model prog c'.w) c'.A (execs l c'.env) (λf s'=>match f with|.next=>Qr c' ls Q E s'|f=>Q f s') E s:=h;rw[e.1,e.2.1,e.2.2]at h';exact wpAny_mono h' (λf s' k=>by cases f<;>first|exact ih k|exact k) λV V k=>k
theorem Be.cons{st:Stmt}{rest:Dy}{ls:List (List Stmt)}(x:Ex c J st N' R)(y:∀h,N' h->∃c' J',M7 c c'/\Fr c' J' h/\Be c' J' (rest::ls) N R):Be c J ((st::rest)::ls) N R:=λs F Q E n r=>
 Ao (x s F _ _ (λh1 t1 n1=>by
  refine Du (y h1 n1) ?_;intro c' J' e F' z;have k:=z {s with heap:=h1,toks:=t1} F' Q E n r;exact HR e (rest::ls) k) λv h1 t1 r1=>r v h1 t1 r1)
theorem Be.step{st:Stmt}{rest:Dy}{ls:List (List Stmt)}(x:Ex c J st (Fr c J') R)(y:Be c J' (rest::ls) N R):Be c J ((st::rest)::ls) N R:=
 .cons x λh F=>⟨c,J',⟨rfl,rfl,rfl⟩,F,y⟩
theorem Be.last{st:Stmt}(x:Ex c J st N R):Be c J [[st]] N R:=λs F Q E n r=>
 Ao (x s F _ _ (λh1 t1 n1=>wpAny_execs_nil (n h1 t1 n1)) λv h1 t1 r1=>r v h1 t1 r1)
theorem Be.ret{st:Stmt}{rest:Dy}{ls:List (List Stmt)}(x:Ex c J st (λV=>False) R):Be c J ((st::rest)::ls) N R:=.cons x λV k=>k.elim
theorem Be.if{test:Expr}{body orelse:Dy}{rest:Dy}{ls:List (List Stmt)}{b:Bool}(x:CL c J test b)(t:b=true->Be c J (body::rest::ls) N R)(f:b=false->Be c J (orelse::rest::ls) N R) :
  Be c J ((.If test body orelse pos::rest)::ls) N R:=λs F Q E n r=>
 Ao (wpAny_If (x s F _ _ λb1 h1 t1 l1 e1=>by
  subst e1;have Ec:Le s.heap h1:=l1;cases b1 with
  |true=>
   have k:=t rfl {s with heap:=h1,toks:=t1} (F.le Ec) Q E n r;exact wpAny_mono k (λf s' k=>by cases f<;>exact k) λV V k=>k
  |false=>
   have k:=f rfl {s with heap:=h1,toks:=t1} (F.le Ec) Q E n r;exact wpAny_mono k (λf s' k=>by cases f<;>exact k) λV V k=>k))
theorem Ex.imp{st:Stmt}(x:Ex c J st N R)(n:∀h,N h->N' h)(r:∀v h,R v h->R' v h):Ex c J st N' R':=λs F Q E n' r'=>x s F Q E (λh t k=>n' h t (n h k)) λv h t k=>r' v h t (r v h k)
theorem Be.imp{ls:List (List Stmt)}(x:Be c J ls N R)(n:∀h,N h->N' h)(r:∀v h,R v h->R' v h):Be c J ls N' R':=λs F Q E n' r'=>x s F Q E (λh t k=>n' h t (n h k)) λv h t k=>r' v h t (r v h k)
def HT(c:Cx)(d:D)(v:Value)(h:Heap):Prop:=B9 c.X c.w h v d/\Bu c.M c.h0 h/\CW c.w h
theorem Ex.ret(x:Ev c J e d):Ex c J (.Return (some e) pos) N (HT c d):=λs F Q E n r=>
 wpAny_Return_some (x s F _ _ λv h1 t1 l1 r1=>r v h1 t1 ⟨r1,(F.le l1).old,(F.le l1).base⟩)
theorem Ex.EK{xp:Pos}(y:Ev c J e d)(hx:Cn x)(k:Cg c x)(p:DG J x d J')(hs:autoParam (swapsWith e (some (.Name x xp)) pos.line c.env=pure false) Bd):Ex c J (.Assign [.Name x xp] e pos) (Fr c J') R:=λs F Q E n r=>
 wpAny_Assign_Name (y s F _ _ λv h1 t1 l1 r1=>by
  have Ec:Le s.heap h1:=l1;exact(F.le Ec).store (s:={s with heap:=h1,toks:=t1}) hx k r1 p λh2 t2 l2 F2=>n h2 t2 F2) hs
theorem Ex.o5{t1 t2:Expr}(y:Ev c J e d)(b1:Bind c J t1 d J')(b2:Bind c J' t2 d KU)(he:autoParam ((assignEach [t1,t2] c.env).map (·.2)=[assign t1 c.env,assign t2 c.env]) Bd)(hw:autoParam (swappedStores [t1,t2] e c.env=pure none) Bd):Ex c J (.Assign [t1,t2] e pos) (Fr c KU) R:=λs F Q E n r=>
 wpAny_Assign_two (y s F _ _ λv h1 wG l1 r1=>by
  have Ec:Le s.heap h1:=l1;have F1:=F.le Ec;exact b1 v {s with heap:=h1,toks:=wG} F1 r1 _ _ λV h2 t2 l2 F2=>b2 v _ F2 (r1.move (DR l2 λV z=>F1.fx z)) _ _ λV h3 t3 l3 F3=>n h3 t3 F3) he hw
theorem Ex.lN{xp:Pos}{a b:Int}(m:(x,.int a)∈J)(y:Ev c J e (.int b))(k:Cg c x)(p:DG J x (.int (a+b)) J'):Ex c J (.AugAssign (.Name x xp) .Add e pos) (Fr c J') R:=λs F Q E n r=>by
 refine Bi (F.names x _ m) ?_;intro v H rv;cases rv;refine wpAny_AugAssign_Name (D2 H F.kind (y s F _ _ λw h1 t1 l1 r1=>?_));have Ec:Le s.heap h1:=l1;cases r1;refine wpAny_iadd_int ?_;exact(F.le Ec).store H.1 k (.int _ _) p λh2 t2 l2 F2=>n h2 t2 F2
theorem Ex.Li{xp:Pos}{a b:Int}(m:(x,.int a)∈J)(y:Ev c J e (.int b))(k:Cg c x)(p:DG J x (.int (a-b)) J'):Ex c J (.AugAssign (.Name x xp) .Sub e pos) (Fr c J') R:=λs F Q E n r=>by
 refine Bi (F.names x _ m) ?_;intro v H rv;cases rv;refine wpAny_AugAssign_Name (D2 H F.kind (y s F _ _ λw h1 t1 l1 r1=>?_));have Ec:Le s.heap h1:=l1;cases r1;refine P.isub_int ?_;exact(F.le Ec).store H.1 k (.int _ _) p λh2 t2 l2 F2=>n h2 t2 F2
theorem Ex.lO{xp:Pos}{a b:Str}(m:(x,.str a)∈J)(y:Ev c J e (.str b))(k:Cg c x)(p:DG J x (.str (a++b)) J')(hz:a.length+b.length<=1000000):Ex c J (.AugAssign (.Name x xp) .Add e pos) (Fr c J') R:=λs F Q E n r=>by
 refine Bi (F.names x _ m) ?_;intro v H rv;cases rv;refine wpAny_AugAssign_Name (D2 H F.kind (y s F _ _ λw h1 t1 l1 r1=>?_));have Ec:Le s.heap h1:=l1;cases r1;refine SB.iadd (λt' k'=>?_) (by rw[sizeLine_eq];exact lb hz rfl);exact(F.le Ec).store (s:={s with heap:=h1,toks:=k'}) H.1 k (.str _ _) p λh2 t2 l2 F2=>n h2 t2 F2
theorem Ex.while{test:Expr}{body:Dy}{m:Nat}(Ji:Nat->List (Str×D))(t:∀i ≤m,CL c (Ji i) test (decide (i<m)))(b:∀i<m,Be c (Ji i) [body] (Fr c (Ji (i+1))) R) :
  Ex c (Ji 0) (.While test body [] pos) (Fr c (Ji m)) R:=λs F Q E n r=>by
 refine wpAny_While (codeAny_whileLoop (λj s'=>∃h tk,j<=m/\s'={s with heap:=h,toks:=tk}/\Fr c (Ji (m-j)) h) (λj s' hI=>?_) m ⟨s.heap,s.toks,Ad _,rfl,by rw[Nat.sub_self];exact F⟩);refine Du hI ?_;clear hI;rintro h1 t1 hj rfl F1;refine t (m-j) (BN _ _) _ F1 _ _ λb1 h2 t2 l2 e2=>?_;have E6:Le h1 h2:=l2;subst e2;by_cases Dx:m-j<m
 .rw [decide_eq_true Dx];simp -iota only[if_true];have k:=b (m-j) Dx {s with heap:=h2,toks:=t2} (F1.le E6);exact wpAny_mono (k (λf s'=>match f with
    |.next|.cont=>∃j',j'<j/\∃h tk,j'<=m/\s'={s with heap:=h,toks:=tk}/\Fr c (Ji (m-j')) h
    |.brk=>Q .next s'
    |.ret v=>Q (.ret v) s') _ (λh3 t3 F3=>⟨j-1,(Zz hj Dx).1,h3,t3,(Zz hj Dx).2.1,rfl,by rw[(Zz hj Dx).2.2];exact F3⟩) λv h3 t3 r3=>r v h3 t3 r3)
   (λf s' k=>by cases f<;>exact k) λV V k=>k
 .rw [decide_eq_false Dx];simp -iota only[AR,if_false];rw[lJ Dx]at F1;exact wpAny_execs_nil (n h2 t2 (F1.le E6))
structure CA(f:Addr)(st:Stmt)(qual:Str)(code:Addr)(dflt mod:Value):Prop where
 here:∀P,(Kx P).lookup f=some (Eu st qual dflt mod (.ref code))
 code:∀P,∃o vs t,(Kx P).lookup code=some o/\o.data=.fields vs/\vs[1]? = some (.str qual t)
 kind:(BY st).kind=.function
 plain:(BY st).isCoroutine=false/\(BY st).isGenerator=false
structure FnAt(c:Cx)(w:World)(sc:Scope)(k:Nat)(X:CG)(G:Res)(h0:Heap):Prop where
 hw:c.w=w
 hs:c.env.scope=sc
 hk:c.k=k
 hX:∀b,X b->c.X b
 hG:c.G=G
 hh:c.h0=h0
 hM:c.M=G.fp
 ro:¬c.ro
 slot:∀x,sc.names.lookup x=some .cell->c.own x/\(c.env.cells.lookup x).isSome=true
theorem FnAt.kind{sc:Scope}{G:Res}{h0:Heap}(F:FnAt c w sc k X G h0){kd:NameKind}(e:sc.names.lookup x=some kd):c.env.kindOf x=some kd:=by
 unfold Env.kindOf;rw[F.hs];exact e
theorem FnAt.name{sc:Scope}{G:Res}{h0:Heap}(F:FnAt c w sc k X G h0)(e:sc.names.lookup x=some .local\/sc.names.lookup x=some .cell):Cg c x:=
 e.imp F.kind λe=>⟨F.kind e,F.slot x e⟩
theorem MN{K:Str->Option NameKind}:∀ {bs:Di}{m:Hx}{x:Str},x∉bs.map (·.1)->bindL K bs m x=m x
 |[],_,_,_=>rfl
 |(n,v)::r,m,x,h=>by
  unfold bindL;rw[MN λz=>h (.tail _ z)];have hn:x≠n:=λz=>h (z▸.head _);split<;>simp[hn]
theorem MM{K:Str->Option NameKind}:∀ {bs:Di}{m:Hx}{x:Str},x∉bs.map (·.1)->bindC K bs m x=m x
 |[],_,_,_=>rfl
 |(n,v)::r,m,x,h=>by
  unfold bindC;rw[MM λz=>h (.tail _ z)];have hn:x≠n:=λz=>h (z▸.head _);split<;>simp[hn]
theorem KY{K:Str->Option NameKind}:∀ {bs:Di}{m:Hx}{x:Str}{v:Value},(x,v)∈bs->(bs.map (·.1)).Nodup->K x=some .local->bindL K bs m x=some v
 |(n,u)::r,m,x,v,h,nd,k=>by
  unfold bindL;refine CC (List.nodup_cons.mp nd) ?_;intro n1 n2;rcases AJ.mp h with e|h
  .cases e;rw[MN n1,if_pos k];simp
  .exact KY h n2 k
theorem KX{K:Str->Option NameKind}:∀ {bs:Di}{m:Hx}{x:Str}{v:Value},(x,v)∈bs->(bs.map (·.1)).Nodup->K x≠some .local->bindC K bs m x=some v
 |(n,u)::r,m,x,v,h,nd,k=>by
  unfold bindC;refine CC (List.nodup_cons.mp nd) ?_;intro n1 n2;rcases AJ.mp h with e|h
  .cases e;rw[MM n1,if_neg k];simp
  .exact KX h n2 k
theorem DU{names:List (Str×NameKind)}:∀ {n:Nat}{acc:List (Str×Addr)}{x:Str},((x,NameKind.cell)∈names\/(acc.lookup x).isSome=true)->((cellsFrom n names acc).lookup x).isSome=true:=by
 induction names with
 |nil=>intro n acc x h;exact h.elim (λz=>by cases z) id
 |cons p r ih=>
  obtain⟨m,k⟩:=p;intro n acc x h;unfold cellsFrom;split
  .rename_i hk;refine ih ?_;rcases h with h|h
   .rcases AJ.mp h with e|h
    .cases e;right;simp
    .exact .inl h
   .right;rw[AK];cases hb:x==m<;>simp[h]
  .rename_i hk;refine ih (h.imp_left λh=>?_);rcases AJ.mp h with e|h
   .cases e;exact absurd rfl hk
   .exact h
theorem LX:∀ {names:B3}{vs:DW}{ds:Cs},Bf X w h vs ds->∀ {x:Str}{d:D},(x,d)∈names.zip ds->∃v,(x,v)∈names.zip vs/\B9 X w h v d:=by
 intro names vs ds r;induction ds generalizing vs names with
 |nil=>intro x d m;rw[List.zip_nil_right]at m;cases m
 |cons d ds ih=>
  intro x d m;refine Du (Bf.Bp r) ?_;rintro V V rfl a b;cases names with
  |nil=>cases m
  |cons n ns=>
  rw[List.zip_cons_cons]at m ⊢;rcases AJ.mp m with e|m
  .cases e;exact⟨_,.head _,a⟩
  .refine Bi (ih b m) ?_;intro v m' r;exact⟨v,.tail _ m',r⟩
def FT(G:Res)(h0:Heap)(Post:Ct)(v:Value)(h:Heap):Prop:=Bu G.fp h0 h/\Post v h
structure DZ(sc:Scope)(names:B3):Prop where
 nd:names.Nodup
 kinds:∀x∈names,sc.names.lookup x=some .local\/sc.names.lookup x=some .cell
 plain:∀x∈names,Cn x
noncomputable def bw(sc:Scope)(x:Str):Bool:=(sc.names.lookup x==some .local||sc.names.lookup x==some .cell)&&(!(x==("__debug__" : Str)) && !(x==("__classdict__" : Str)))
theorem DZ.of{sc:Scope}{names:B3}(h:(decide names.Nodup&&names.all (bw sc))=true):DZ sc names:=by
 refine CC (Bool.and_eq_true_iff.mp h) ?_;intro h1 h2;rw[Ah]at h2;refine⟨of_decide_eq_true h1,λx hx=>?_,λx hx=>?_⟩
 .exact (Bool.or_eq_true_iff.mp (Bool.and_eq_true_iff.mp (h2 x hx)).1).imp eq_of_beq eq_of_beq
 .refine CC (Bool.and_eq_true_iff.mp (Bool.and_eq_true_iff.mp (h2 x hx)).2) ?_;intro h3 h4;exact⟨by simpa using h3,by simpa using h4⟩
theorem MA(e:vs.length=1):∃a,vs=[a]:=List.length_eq_one_iff.mp e
theorem Nn{n:Nat}(e:vs.length=n+1):∃a t,vs=a::t/\t.length=n:=by
 cases vs with
 |nil=>cases e
 |cons a t=>exact⟨a,t,rfl,Nat.succ.inj e⟩
theorem Ou(e:vs.length=2):∃a b,vs=[a,b]:=by
 refine Fq (Nn e) ?_;rintro a t rfl e2;refine B6 (MA e2) ?_;rintro b rfl;exact⟨a,b,rfl⟩
theorem Ov(e:vs.length=3):∃a b c,vs=[a,b,c]:=by
 refine Fq (Nn e) ?_;rintro a t rfl e2;refine MC (Ou e2) ?_;rintro b c rfl;exact⟨a,b,c,rfl⟩
theorem hY(e:vs.length=4):∃a b c d,vs=[a,b,c,d]:=by
 refine Fq (Nn e) ?_;rintro a t rfl e2;refine bq (Ov e2) ?_;rintro b c d rfl;exact⟨a,b,c,d,rfl⟩
theorem hZ(e:vs.length=5):∃a b c d f,vs=[a,b,c,d,f]:=by
 refine Fq (Nn e) ?_;rintro a t rfl e2;refine rD (hY e2) ?_;rintro b c d f rfl;exact⟨a,b,c,d,f,rfl⟩
theorem RV{f:Addr}{st:Stmt}{qual:Str}{code:Addr}{dflt mod:Value}(fd:CA f st qual code dflt mod)(ok:E9 (k+1) A)(B:CW w s.heap)(xk:FU X s.heap){G:Res}(g:G.P w X s.heap)(gx:∀b,G.fp b->X b){names:B3}(r:Bf X w s.heap vs ds)(hb:bindArgs (EW st qual dflt mod (.ref code)) ⟨vs,[]⟩=pure (names.zip vs))(hl:names.length=vs.length)(ck:DZ (BY st) names){Post:Ct}(body:∀c,FnAt c w (BY st) k X G s.heap->Be c (names.zip ds) [Bt st] (FT G s.heap Post .none) (FT G s.heap Post)):Run w A G.fp (call (.ref f) vs) s Post:=λQ E q=>by
 obtain⟨nd,kinds,plain⟩:=ck;refine wpAny_call ?_;have zn:(names.zip vs).map (·.1)=names:=by rw[List.map_fst_zip];exact BM hl
 have ho:=B.k _ _ (fd.here w.params);refine Mo (fd.code w.params) ?_;intro oc vc tc ec dc qc;refine codeAny_call_cells (o:=Eu st qual dflt mod (.ref code)) (fd:=EW st qual dflt mod (.ref code)) (binds:=names.zip vs) ok.room ho rfl B.lim ⟨code,oc,vc,tc,rfl,B.k _ _ ec,dc,qc⟩ rfl hb rfl (λp hp=>?_) (λs1 I=>?_) fd.plain.1 fd.plain.2 fd.kind
 .have hm:p.1∈names:=zn▸Ab (f:=(·.1)) hp;exact(kinds _ hm).imp_right λe=>⟨e,DU (.inl (lookup_mem e))⟩
 have Oj:=I.toInCall.ns;refine MC I.toInCall.same ?_;rintro h1 t1 rfl;have keep:∀b o,s.heap.get? b=some o->h1.get? b=some o:=I.toInCall.keep;have l1:Le s.heap h1:=Le.of keep;have big:∀ {a:Addr},s.heap.objs.size<=a->s.heap.get? a=none:=λ{a} le=>by
  cases e:s.heap.get? a with
  |none=>rfl
  |some o=>exact absurd (Ag e) (Nat.not_lt.mpr le)
 have sz:=B7 B;let Cj:=callEnvC (EW st qual dflt mod (.ref code)) s.heap.objs.size f;have m4:∀x a,Cj.cells.lookup x=some a->s.heap.objs.size<a/\Cj.kindOf x=some .cell\/True:=λV V V=>.inr trivial;have cellAt:∀x a,Cj.cells.lookup x=some a->s.heap.objs.size<a/\∃v,h1.IsCell a v:=λx a e=>⟨I.above x a (mem_of_lookup e),_,I.cell x a e⟩;let N1:Addr->Prop:=λb=>b=s.heap.objs.size\/∃x,Cj.cells.lookup x=some b;let c:Cx:={w:=w,A:=A.deeper Cj,env:=Cj,k:=k,X:=DH X N1,G:=G,own:=λV=>True,h0:=s.heap,M:=G.fp,ro:=False}
 have n1:∀b,N1 b->s.heap.get? b=none/\306<=b/\∃o,h1.get? b=some o:=λb z=>by
  rcases z with z|⟨x,e⟩
  .have z':b=s.heap.objs.size:=z;refine Ju Oj ?_;clear Oj;intro o V V eo V;rw[z'];exact⟨Bn _,sz,o,eo⟩
  .obtain ⟨z1,v,o,eo,_⟩:=cellAt x b e;exact⟨big (A4 z1),AD sz (A4 z1),o,eo⟩
 have F:Fr c (names.zip ds) h1:=
  {base:=B.le l1 λV z=>z.elim
   Ck:=λa z=>z.elim (λz=>(xk.le l1) a z) λz=>(n1 a z).2
   kind:=fd.kind,glob:=rfl,blt:=rfl,ok:=ok.deeper Cj
   old:=l1.to
   loc:=⟨.inr (.inl rfl),Bn _,_,Oj⟩
   E0:=λx a e=>by
    obtain⟨z1,v,cv⟩:=cellAt x a e;have na:=big (A4 z1);refine⟨λz=>Aa _ (z▸z1),λz=>(by refine Bi B.tab ?_;intro ps e' V;rw[z]at na;rw[na]at e';cases e'),⟨v,cv⟩,λV=>⟨.inr (.inr ⟨x,e⟩),na⟩⟩
   apart:=λx y a e e'=>name_of_addr I.apart (mem_of_lookup e) (mem_of_lookup e')
   names:=λx d m=>by
    refine Bi (LX r m) ?_;intro v mv rv;have hm:x∈names:=zn▸Ab (f:=(·.1)) mv;have iN:((names.zip vs).map (·.1)).Nodup:=by rw[zn];exact nd
    refine⟨v,⟨plain x hm,?_⟩,(rv.move (ET λb z=>z.imp_right λz=>(n1 b z).1)).le l1⟩;rcases kinds x hm with kl|kc
    .exact .inl ⟨kl,λz=>by have:=B5 B.tab;exact this z,_,Oj,KY mv iN kl⟩
    .refine B6 (A6.mp (DU (n:=s.heap.objs.size+1) (acc:=[]) (.inl (lookup_mem kc)))) ?_;intro a ea;have Xj:Cj.cells.lookup x=some a:=ea;refine CC (cellAt x a Xj) ?_;intro z1 V;refine .inr ⟨a,.inl kc,Xj,λz=>(by refine Bi B.tab ?_;intro ps e' V;rw[z]at z1;rw[big (A4 z1)]at e';cases e'),?_⟩;have cc:=I.cell x a Xj;rwa [KX mv iN (λz=>by have nr:Cj.kindOf x=some .cell:=kc;rw[nr]at z;cases z)]at cc
   g:=G.mv g λb o z nt e=>⟨keep b o e,λnx z=>z.elim nx λz=>by rw[(n1 b z).1]at e;cases e⟩
   gx:=λb z=>by
    obtain⟨_,o,eo⟩:=xk b (gx b z);refine⟨⟨.inl (gx b z),.inr (.inl z)⟩,λy=>?_,λx e=>?_⟩
    .have y':b=s.heap.objs.size:=y;rw[y',Bn]at eo;cases eo
    .rw [big (A4 (cellAt x b e).1)]at eo;cases eo}
 have FA:FnAt c w (BY st) k X G s.heap:=⟨rfl,rfl,rfl,λb z=>.inl z,rfl,rfl,rfl,λz=>z,λx e=>⟨trivial,DU (.inl (lookup_mem e))⟩⟩
 exact wpAny_mono (body c FA {s with heap:=h1,toks:=t1} F (λf s'=>Q (match f with|.ret v=>v|_=>.none) s') _ (λh2 t2 z=>q _ h2 t2 z.1 z.2) λv h2 t2 z=>q v h2 t2 z.1 z.2)
  (λf s' z=>by cases f<;>exact z) λV V z=>z
def DA(w:World)(fa:Addr)(k:Nat)(ds:Cs)(d:D):Prop:=∀(A:Around) (X:CG) (s:Shared) (vs:DW),E9 k A->CW w s.heap->FU X s.heap->Bf X w s.heap vs ds->
 Run w A Hw (call (.ref fa) vs) s λv h'=>B9 X w h' v d
theorem FnAt.iy{sc:Scope}{G:Res}{h0:Heap}(F:FnAt c w sc k X G h0)(r:HT c d v h):FT G h0 (λv h=>B9 X w h v d) v h:=by
 refine FP r ?_;clear r;intro r1 r2 V;rw[F.hM,F.hh]at r2;rw[F.hw]at r1;exact⟨r2,r1.move (Ce F.hX)⟩
theorem Ef{f:Addr}{st:Stmt}{qual:Str}{code:Addr}{dflt mod:Value}(fd:CA f st qual code dflt mod){names:B3}(hb:∀vs:List Value,vs.length=names.length->bindArgs (EW st qual dflt mod (.ref code)) ⟨vs,[]⟩=pure (names.zip vs))(hl:ds.length=names.length)(ck:DZ (BY st) names)(body:∀c X h0,FnAt c w (BY st) k X Res.emp h0->Be c (names.zip ds) [Bt st] (λV=>False) (HT c d)):DA w f (k+1) ds d:=λA X s vs ok B xk r=>by
 have e:vs.length=names.length:=r.length.trans hl;exact RV fd ok B xk (G:=Res.emp) trivial (λV z=>z.elim) r (hb vs e) e.symm ck λc FA=>(body c X s.heap FA).imp (λV z=>z.elim) λv h z=>FA.iy z
theorem Ev.FW{np:Pos}{es:Cy}{fa:Addr}(f:Ev c J (.Name x np) (.obj (.ref fa)))(y:FQ c J (e::es) ds)(g:DA c.w fa k ds d)(hk:k<=c.k)(hf:∃st qual code dflt mod,CA fa st qual code dflt mod)(he:autoParam (D9 c e es) Bd):Ev c J (.Call (.Name x np) (e::es) [] pos) d:=
 λs F Q E q=>wpAny_Call_NameR (f s F _ _ λv h1 t1 l1 r1=>by
  cases r1;refine iY hf ?_;clear hf;intro st qual code dflt mod fd;have Ec:Le s.heap h1:=l1;refine BG (o:=Eu st qual dflt mod (.ref code)) (fd:=EW st qual dflt mod (.ref code)) rfl (y pos _ (F.le Ec) _ _ λvs h2 t2 l2 r2=>?_) he;have F2:=(F.le Ec).le l2;exact⟨F2.base.k _ _ (fd.here _),g c.A c.X _ vs (F.ok.CD hk) F2.base F2.Ck r2 _ _ λv h3 t3 l3 r3=>q v h3 t3 (Bu.trans (Bu.trans l1 l2) l3) r3⟩)
noncomputable def Cx.on(c:Cx)(X:CG)(G:Res):Cx:={c with X:=X,G:=G}
theorem Fr.star{T:Res}(F:Fr c J h)(t:T.P c.w c.X h)(o:∀b,T.fp b->Off c b):Fr (c.on c.X (c.G.star T)) J h:=
 {base:=F.base,Ck:=F.Ck,kind:=F.kind,glob:=F.glob,blt:=F.blt,ok:=F.ok,old:=F.old,loc:=F.loc,E0:=F.E0,apart:=F.apart,names:=F.names
  g:=⟨F.g,t,λb x y=>(o b y).2.2.1 x⟩
  gx:=λb z=>z.elim (F.gx b) λz=>⟨⟨(o b z).1,.inr (o b z).2.1⟩,(o b z).2.2.2⟩}
theorem Fr.Lo{G T:Res}(F:Fr (c.on X (G.star T)) J h)(nw:∀b,T.fp b->c.h0.get? b=none)(k0:∀b o,¬T.fp b\/Cd o->h.get? b=some o->h'.get? b=some o):Fr (c.on (λb=>X b/\¬T.fp b) G) J h':=
 have k:∀b o,¬T.fp b->h.get? b=some o->h'.get? b=some o:=λb o z=>k0 b o (.inl z);have big:∀b,T.fp b->306<=b:=λb z=>(F.Ck b (F.gx b (.inr z)).1.1).1;have nl:¬T.fp c.env.locals:=λz=>(F.gx _ (.inr z)).2.1 rfl;have nc:∀x a,c.env.cells.lookup x=some a->¬T.fp a:=λx a e z=>(F.gx _ (.inr z)).2.2 x e;have kt:Tab h->Tab h':=λt=>t.keep (λo e=>k _ o (λz=>absurd (big _ z) (by decide)) e) λc o V e hc=>k0 c o (.inr hc) e
 {base:=F.base.ke (λb o lt e=>k b o (λq=>absurd (big b q) (Nat.not_le.mpr lt)) e) kt
  Ck:=λa q=>⟨(F.Ck a q.1).1,by
   obtain⟨_,o,e⟩:=F.Ck a q.1;exact⟨o,k a o q.2 e⟩⟩
  kind:=F.kind,glob:=F.glob,blt:=F.blt,ok:=F.ok
  old:=⟨λb o nt n e=>k b o (λz=>by have e2:c.h0.get? b=some o:=e;rw[nw b z]at e2;cases e2) (F.old.keep b o nt n e),λb o nt w e=>by
   refine B6 (F.old.live b o nt w e) ?_;intro o' e';exact⟨o',k b o' (λz=>by have e2:c.h0.get? b=some o:=e;rw[nw b z]at e2;cases e2) e'⟩,λtb=>kt (F.old.tab tb),λb o e z=>k0 b o (.inr z) (F.old.code b o e z)⟩
  loc:=⟨⟨F.loc.1,nl⟩,F.loc.2.1,by refine B6 F.loc.2.2 ?_;intro m q;exact⟨m,Cm q λo e=>k _ o nl e⟩⟩
  E0:=λx a e=>Hv (F.E0 x a e) λa1 a2 y a4=>⟨a1,a2,y.imp λv a3=>B1 a3 λo z=>k _ o (nc x a e) z,λq=>⟨⟨(a4 q).1,nc x a e⟩,(a4 q).2⟩⟩
  apart:=F.apart
  names:=λx d m=>by
   refine Bi (F.names x d m) ?_;intro v H r;exact⟨v,H.keep (λo V e=>k _ o nl e) (λa o V ea e=>k _ o (nc x a ea) e),r.move λb o q V e=>⟨k b o (λz=>q (F.gx b (.inr z)).1.1) e,λz=>q z.1⟩⟩
  g:=G.mv F.g.1 λb o q nt e=>⟨(Classical.em (T.fp b)).elim (λz=>k0 b o (.inr (q.elim (λq=>(F.g.2.2 b q z).elim) λq=>q.elim (λq=>absurd (F.gx b (.inr z)).1.1 q) id)) e) λz=>k b o z e,λq z=>q z.1⟩
  gx:=λb z=>by refine CC (F.gx b (.inl z)) ?_;intro Cr a3;refine CC Cr ?_;intro a1 a2;exact⟨⟨⟨a1,λy=>F.g.2.2 b z y⟩,a2⟩,a3⟩}
theorem Fr.turn{G T T':Res}(F:Fr (c.on X (G.star T)) J h)(ro:¬c.ro)(l:Bu T.fp h h')(e:T'.fp=T.fp)(t:T'.P c.w X h'):Fr (c.on X (G.star T')) J h':=
 have nl:¬T.fp c.env.locals:=λz=>(F.gx _ (.inr z)).2.1 rfl;have nc:∀x a,c.env.cells.lookup x=some a->¬T.fp a:=λx a e z=>(F.gx _ (.inr z)).2.2 x e;have tx:∀b,T.fp b->X b:=λb z=>(F.gx b (.inr z)).1.1
 {base:=F.base.le l λb z=>(F.Ck b (tx b z)).1
  Ck:=F.Ck.le l
  kind:=F.kind,glob:=F.glob,blt:=F.blt,ok:=F.ok
  old:=⟨λb o nt n e=>l.keep b o nt (λz=>((F.gx b (.inr z)).1.2).elim (λz=>ro z) λz=>z.elim n λz=>by have e2:c.h0.get? b=some o:=e;have z2:c.h0.get? b=none:=z;rw[z2]at e2;cases e2) (F.old.keep b o nt n e),λb o nt w e=>by
   refine B6 (F.old.live b o nt w e) ?_;intro o' e';exact l.alive nt e',λtb=>l.tab (F.old.tab tb),λb o e z=>l.code b o (F.old.code b o e z) z⟩
  loc:=⟨F.loc.1,F.loc.2.1,by refine B6 F.loc.2.2 ?_;intro m q;exact⟨m,Cm q λo e=>l.keep _ o F.W7 nl e⟩⟩
  E0:=λx a e=>Hv (F.E0 x a e) λa1 a2 y a4=>⟨a1,a2,y.imp λv a3=>B1 a3 λo z=>l.keep _ o a2 (nc x a e) z,a4⟩
  apart:=F.apart
  names:=λx d m=>by
   refine Bi (F.names x d m) ?_;intro v H r;exact⟨v,H.keep (λo nt e=>l.keep _ o nt nl e) (λa o nt ea e=>l.keep _ o nt (nc x a ea) e),r.move (DR l tx)⟩
  g:=⟨G.mv F.g.1 λb o q nt e=>⟨l.at nt e λz=>q.elim (λq=>(F.g.2.2 b q z).elim) λq=>q.elim (λq=>absurd (tx b z) q) id,id⟩,t,λb x y=>F.g.2.2 b x (e▸y)⟩
  gx:=λb z=>F.gx b (z.imp_right λz=>by rw[e]at z;exact z)}
theorem Jb{target:Expr}{it:Value}{body:Dy}{env:Env}{K:Eo}{Q:PySem.Fin->Shared->Prop}(dr:∀(Q':Option Value->Shared->Prop) (E':CH),(∀h2 tk,K h2->Q' none {s with heap:=h2,toks:=tk})->wpAny (model prog w) A (pyNext it) Q' E' s)(q:∀h2 tk,K h2->wpAny (model prog w) A (again (.block [] env)) Q E {s with heap:=h2,toks:=tk}):wpAny (model prog w) A (forTurn target it body [] env) Q E s:=by
 refine wpAny_bind (wpAny_standAt (wpAny_bind (wpAny_onRaise ?_)));exact dr _ _ λh2 tk k=>q h2 tk k
theorem IB{target:Expr}{it:Value}{body:Dy}{env:Env}{P:Ct}{Q:PySem.Fin->Shared->Prop}(dr:∀(Q':CH) (E':CH),(∀v h2 tk,P v h2->Q' v {s with heap:=h2,toks:=tk})->
   wpAny (model prog w) A (pyNext it) (λr s₁=>∃v,r=some v/\wpAny (model prog w) A (letOwnedTupleGo target it v) (λV s₂=>Q' v s₂) E' s₁) E' s)(q:∀v h2 tk,P v h2->wpAny (model prog w) A (assign target env v) (λV s₃=>wpAny (model prog w) A (execs body env) (λf s₄=>match f with
   |.next|.cont=>wpAny (model prog w) A (again (.forLoop target it body [] env)) Q E s₄
   |.brk=>Q (.done .next) s₄
   |.ret v=>Q (.done (.ret v)) s₄) E s₃) E {s with heap:=h2,toks:=tk}):wpAny (model prog w) A (forTurn target it body [] env) Q E s:=by
 refine wpAny_bind (wpAny_standAt (wpAny_bind (wpAny_onRaise ?_)));refine wpAny_mono (dr (λv s₂=>wpAny (model prog w) A (assign target env v) (λV s₃=>wpAny (model prog w) A (execs body env) (λf s₄=>match f with
   |.next|.cont=>wpAny (model prog w) A (again (.forLoop target it body [] env)) Q E s₄
   |.brk=>Q (.done .next) s₄
   |.ret v=>Q (.done (.ret v)) s₄) E s₃) E s₂) E q) (λr s1 h1=>?_) λV V z=>wpAny_standAt z
 refine Bi h1 ?_;clear h1;rintro v rfl hv;refine wpAny_bind (wpAny_mono hv (λV s2 h2=>wpAny_bind (wpAny_mono h2 (λV s3 h3=>wpAny_bind (wpAny_mono h3 (λf s4 h4=>?_) λV V z=>z)) λV V z=>z)) λV V z=>z);cases f with
 |next=>exact h4
 |cont=>exact h4
 |brk=>exact wpAny_pure h4
 |ret v=>exact wpAny_pure h4
theorem Ex.aT{target iter:Expr}{body:Dy}(ro:¬c.ro)(Φ:Nat->Prop)(Φ0:Φ 0)(Gi:Nat->Res)(Ji:Nat->List (Str×D))(hG:c.G=Gi 0)(hJ:J=Ji 0)(Fl:Bb c J target iter ds)(hb:∀i d,ds[i]? = some d->Φ i->∀(X:CG) (T:Res),(∀b,c.X b->X b)->∃Jx,Bind (c.on X ((Gi i).star T)) (Ji i) target d Jx/\
   Be (c.on X ((Gi i).star T)) Jx [body] (λh=>Φ (i+1)/\∃X',(∀b,c.X b->X' b)/\Fr (c.on X' ((Gi (i+1)).star T)) (Ji (i+1)) h) R)(hs:autoParam (∀x,foldedSetIterable iter c.env x=pure x) Go) :
  Ex c J (.For target iter body [] pos) (λh=>Φ ds.length/\∃X',(∀b,c.X b->X' b)/\Fr (c.on X' (Gi ds.length)) (Ji ds.length) h) R:=λs F Q E n r=>by
 subst hJ;refine wpAny_For (Fl s F _ _ λit fp h1 t1 l1 n1 dD i4=>?_) hs;have new:∀b,fp b->ML c b:=λb z=>F.new (n1 b z).1 (n1 b z).2.1;have F1:Fr (c.on (DH c.X fp) ((Gi 0).star (Gj c.A target it fp ds))) (Ji 0) h1:=by
  have:=(F.plus l1 n1).star (T:=Gj c.A target it fp ds) dD λb z=>(new b z).off z;rw[<- hG];exact this
 refine codeAny_loop' rfl (λm s'=>∃i X h tk,m+i=ds.length/\Φ i/\s'={s with heap:=h,toks:=tk}/\(∀b,c.X b->X b)/\Fr (c.on X ((Gi i).star (Gj c.A target it fp (ds.drop i)))) (Ji i) h) (λm s' hI=>?_) ds.length
  ⟨0,DH c.X fp,h1,t1,rfl,Φ0,rfl,λb z=>Or.inl z,by rw[List.drop_zero];exact F1⟩
 refine kK hI ?_;clear hI;rintro i X h2 t2 hm hΦ rfl hX F2;refine wpAny_noted ?_;have kr:Kp fp X X h2 h2:=λb o q nt e=>⟨e,id⟩;have fx:∀b,fp b->X b:=λb z=>(F2.gx b (.inr z)).1.1;have NK:Draws c.w c.A target it fp (ds.drop i) X h2:=F2.g.2.1;cases hd:ds.drop i with
 |nil=>
  rw[hd]at NK;refine Jb (s:={s with heap:=h2,toks:=t2}) (NK X {s with heap:=h2,toks:=t2} kr fx) λh3 t3 k3=>?_;have hi:i=ds.length:=Nat.le_antisymm (by omega) (BO.mp hd);subst hi;exact wpAny_pure (.inr ⟨rfl,codeAny_block (wpAny_execs_nil (n h3 t3 ⟨hΦ,_,λb z=>⟨hX b z,λy=>(new b y).1 z⟩,F2.Lo (λb z=>(new b z).2.2.1) k3⟩))⟩)
 |cons d Ib=>
  rw[hd]at NK;have EX:ds[i]? = some d:=by rw[<- List.head?_drop,hd];rfl
  have ao:ds.drop (i+1)=Ib:=by rw[<- List.drop_drop,hd];rfl
  have Dx:=(AP.mp EX).1;refine IB (s:={s with heap:=h2,toks:=t2}) (P:=λv h3=>Bu fp h2 h3/\B9 X c.w h3 v d/\Draws c.w c.A target it fp Ib X h3)
   (λQ' E' q'=>NK X {s with heap:=h2,toks:=t2} kr fx F2.Ck F2.base.tab Q' E' λv h3 t3 l3 r3 Ur=>q' v h3 t3 ⟨l3,r3,Ur⟩) λv h3 t3 zz=>?_
  refine FP zz ?_;clear zz;intro l3 r3 Ur;have F3:Fr (c.on X ((Gi i).star (Gj c.A target it fp Ib))) (Ji i) h3:=F2.turn ro l3 rfl Ur;refine Bi (hb i d EX hΦ X (Gj c.A target it fp Ib) hX) ?_;intro Jx b x;refine b v {s with heap:=h3,toks:=t3} F3 r3 _ _ λV h4 t4 l4 F4=>?_;refine wpAny_mono (x {s with heap:=h4,toks:=t4} F4 (λf s'=>match f with
    |.next|.cont=>∃m',m'<m/\∃i X h tk,m'+i=ds.length/\Φ i/\s'={s with heap:=h,toks:=tk}/\(∀b,c.X b->X b)/\Fr (c.on X ((Gi i).star (Gj c.A target it fp (ds.drop i)))) (Ji i) h
    |.brk=>Q .next s'
    |.ret v=>Q (.ret v) s') _ (λh5 t5 zz=>by obtain⟨nh,X',Sz,F5⟩:=zz;exact⟨m-1,by omega,i+1,X',h5,t5,by omega,nh,rfl,Sz,ao▸F5⟩) λv h5 t5 r5=>r v h5 t5 r5) (λf s' z=>?_) λV V z=>z
  cases f with
  |next=>exact wpAny_pure (.inl ⟨rfl,z⟩)
  |cont=>exact wpAny_pure (.inl ⟨rfl,z⟩)
  |brk=>exact z
  |ret v=>exact z
theorem Ex.for{target iter:Expr}{body:Dy}(ro:¬c.ro)(Gi:Nat->Res)(Ji:Nat->List (Str×D))(hG:c.G=Gi 0)(hJ:J=Ji 0)(Fl:Bb c J target iter ds)(hb:∀i d,ds[i]? = some d->∀(X:CG) (T:Res),(∀b,c.X b->X b)->∃Jx,Bind (c.on X ((Gi i).star T)) (Ji i) target d Jx/\
   Be (c.on X ((Gi i).star T)) Jx [body] (λh=>∃X',(∀b,c.X b->X' b)/\Fr (c.on X' ((Gi (i+1)).star T)) (Ji (i+1)) h) R)(hs:autoParam (∀x,foldedSetIterable iter c.env x=pure x) Go) :
  Ex c J (.For target iter body [] pos) (λh=>∃X',(∀b,c.X b->X' b)/\Fr (c.on X' (Gi ds.length)) (Ji ds.length) h) R:=
 (Ex.aT ro (λV=>True) trivial Gi Ji hG hJ Fl (λi d e V X T hX=>by refine Bi (hb i d e X T hX) ?_;intro Jx b x;exact⟨Jx,b,x.imp (λh z=>⟨trivial,z⟩) λV V z=>z⟩) hs).imp (λh z=>z.2) λV V z=>z
section
variable {c:Cx}{J J' KU J0:B4}{h h':Heap}{N N':Eo}{R R':Ct}{Ji:Addr->List (Str×D)}
theorem Ex.sub{st:Stmt}(s:∀p∈J',p∈J)(x:Ex c J' st N R):Ex c J st N R:=λs' F=>x s' (F.sub s)
theorem Be.EM{G':Res}{st:Stmt}{rest:Dy}{ls:List (List Stmt)}(x:Ex c J st (Fr (c.on X' G') J') R)(y:Be (c.on X' G') J' (rest::ls) N R):Be c J ((st::rest)::ls) N R:=
 .cons x λh F=>⟨c.on X' G',J',⟨rfl,rfl,rfl⟩,F,y⟩
structure Upd(G T T' G':Res):Prop where
 has:∀w X h,G.P w X h->T.P w X h
 fp:∀b,T.fp b->G.fp b
 same:∀b,G'.fp b↔G.fp b
 same':∀b,T'.fp b↔T.fp b
 put:∀w X h h',G.P w X h->(∀b,G.fp b->X b)->Bu T.fp h h'->T'.P w X h'->G'.P w X h'
theorem Upd.self{T T':Res}(e:∀b,T'.fp b↔T.fp b):Upd T T T' T':=⟨λV V V z=>z,λV z=>z,e,e,λV V V V V V V z=>z⟩
theorem Upd.lf{G T T' G' S:Res}(u:Upd G T T' G'):Upd (G.star S) T T' (G'.star S) where
 has:=λw X h z=>u.has w X h z.1
 fp:=λb z=>.inl (u.fp b z)
 same:=λb=>or_congr (u.same b) Iff.rfl
 same':=u.same'
 put:=λw X h h' z gx l t=>⟨u.put w X h h' z.1 (λb y=>gx b (.inl y)) l t,S.mv z.2.1 λb o q nt e=>⟨l.at nt e λy=>q.elim (λq=>(z.2.2 b (u.fp b y) q).elim) λq=>q.elim (λq=>absurd (gx b (.inl (u.fp b y))) q) id,id⟩,λb x y=>z.2.2 b ((u.same b).mp x) y⟩
theorem Upd.rt{G T T' G' S:Res}(u:Upd G T T' G'):Upd (S.star G) T T' (S.star G') where
 has:=λw X h z=>u.has w X h z.2.1
 fp:=λb z=>.inr (u.fp b z)
 same:=λb=>or_congr Iff.rfl (u.same b)
 same':=u.same'
 put:=λw X h h' z gx l t=>⟨S.mv z.1 λb o q nt e=>⟨l.at nt e λy=>q.elim (λq=>(z.2.2 b q (u.fp b y)).elim) λq=>q.elim (λq=>absurd (gx b (.inr (u.fp b y))) q) id,id⟩,u.put w X h h' z.2.1 (λb y=>gx b (.inr y)) l t,λb x y=>z.2.2 b x ((u.same b).mp y)⟩
theorem Fr.upd{T T' G':Res}(F:Fr c J h)(ro:¬c.ro)(u:Upd c.G T T' G')(l:Bu T.fp h h')(t:T'.P c.w c.X h'):Fr (c.on c.X G') J h':=
 have nl:¬T.fp c.env.locals:=λz=>(F.gx _ (u.fp _ z)).2.1 rfl;have nc:∀x a,c.env.cells.lookup x=some a->¬T.fp a:=λx a e z=>(F.gx _ (u.fp _ z)).2.2 x e;have tx:∀b,T.fp b->c.X b:=λb z=>(F.gx b (u.fp _ z)).1.1
 {base:=F.base.le l λb z=>(F.Ck b (tx b z)).1
  Ck:=F.Ck.le l
  kind:=F.kind,glob:=F.glob,blt:=F.blt,ok:=F.ok
  old:=⟨λb o nt n e=>l.keep b o nt (λz=>((F.gx b (u.fp _ z)).1.2).elim (λz=>ro z) λz=>z.elim n λz=>by have e2:c.h0.get? b=some o:=e;rw[z]at e2;cases e2) (F.old.keep b o nt n e),λb o nt w e=>by
   refine B6 (F.old.live b o nt w e) ?_;intro o' e';exact l.alive nt e',λtb=>l.tab (F.old.tab tb),λb o e z=>l.code b o (F.old.code b o e z) z⟩
  loc:=⟨F.loc.1,F.loc.2.1,by refine B6 F.loc.2.2 ?_;intro m q;exact⟨m,Cm q λo e=>l.keep _ o F.W7 nl e⟩⟩
  E0:=λx a e=>let⟨a1,a2,⟨v,a3⟩,a4⟩:=F.E0 x a e
   ⟨a1,a2,⟨v,B1 a3 λo z=>l.keep _ o a2 (nc x a e) z⟩,a4⟩
  apart:=F.apart
  names:=λx d m=>by
   refine Bi (F.names x d m) ?_;intro v H r;exact⟨v,H.keep (λo nt e=>l.keep _ o nt nl e) (λa o nt ea e=>l.keep _ o nt (nc x a ea) e),r.move (DR l tx)⟩
  g:=u.put _ _ _ _ F.g (λb z=>(F.gx b z).1.1) l t
  gx:=λb z=>F.gx b ((u.same b).mp z)}
noncomputable def Dm(a:Addr)(ds:Cs):Res where
 fp:=(·=a)
 P:=λw X h=>∃vs:List Value,h.IsList a vs.toArray/\Bf X w h vs ds/\a≠TP
 mv:=λ{w X X' h h'} zz k=>EJ zz λvs p r nt=>⟨vs,EY p λo e=>(k a o (.inl rfl) nt e).1,r.move λb o n t e=>by refine CC (k b o (.inr (.inl n)) t e) ?_;intro x y;exact⟨x,y n⟩,nt⟩
theorem Ev.gf{value slice:Expr}{pos}{i:Int}(hG:∀X h,c.G.P c.w X h->(Dm a ds).P c.w X h)(x:Ev c J value (.obj (.ref a)))(y:Ev c J slice (.int i))(h0:0<=i)(hd:ds[i.toNat]? = some d)(hz:ds.length<=1000000)(hs:autoParam (∀o i,XE slice o i) Ng):Ev c J (.Subscript value slice pos) d:=
 .item x y (λo iv s F ra rb=>by
  cases rb;cases ra;refine EJ (hG _ _ F.g) ?_;intro vs p r nt;refine Bi (r.get hd) ?_;intro v hv rv;have Dx:=(AP.mp hd).1;exact⟨⟨_,_,p.typeIs,slot_list_getitem.lookup⟩,λQ E q=>wpAny_getItem_list p h0 (by(clear h0;lia)) (by simpa using hv) (q _ s.heap s.toks (.refl _) rv)⟩) hs
theorem WM(rv:B9 X w h v d):∀ {vs:DW}{ds:Cs} (n:Nat),Bf X w h vs ds->Bf X w h (vs.set n v) (ds.set n d):=by
 intro vs ds n r;induction ds generalizing vs n with
 |nil=>cases Bf.HB r;exact .nil
 |cons d ds ih=>
  refine Du (Bf.Bp r) ?_;rintro V V rfl a b;cases n with
  |zero=>exact .cons rv b
  |succ n=>exact .cons a (ih n b)
theorem Ex.o6{i value:Expr}{sp:Pos}{Ib:Cs}{k:Int}{G':Res}(ro:¬c.ro)(he:ds.set k.toNat d=Ib)(u:Upd c.G (Dm a ds) (Dm a Ib) G')(z:Ev c J value d)(x:Ev c J o (.obj (.ref a)))(y:Ev c J i (.int k))(h0:0<=k)(h1:k<ds.length)(hz:ds.length<=1000000)(hs:autoParam (swapsWith value (some (.Subscript o i sp)) pos.line c.env=pure false) Bd):Ex c J (.Assign [.Subscript o i sp] value pos) (Fr (c.on c.X G') J) R:=λs F Q E n r=>by
 subst he;exact wpAny_Assign_Subscript (z s F _ _ λv VP t1 l1 r1=>x _ (F.le l1) _ _ λov h2 t2 l2 r2=>y _ ((F.le l1).le l2) _ _ λiv h3 t3 l3 r3=>by
  cases r2;cases r3;have F3:=((F.le l1).le l2).le l3;have cE:=(r1.le l2).le l3;refine EJ (u.has _ _ _ F3.g) ?_;intro vs p rr nt;have hl:=rr.length;refine wpAny_setItem_list p h0 (by omega) (by rw[AY];exact lt_of_lt_of_eq h1 (congrArg Nat.cast (id (Eq.symm hl)))) λh4 p4 s4=>?_;refine Bi (id p4) ?_;intro o4 e4 V;have l4:Bu (·=a) h3 h4:=Cp s4 _ e4 nt (by obtain⟨_,e,_,_,d⟩:=p;exact Cd.at e (Cd.seq d));have ax:c.X a:=(F3.gx a (u.fp a rfl)).1.1;refine n h4 t3 (F3.upd ro u l4 ⟨vs.set k.toNat v,?_,(WM cE _ rr).move (DR l4 λb z=>z▸ax),nt⟩);rw[List.setIfInBounds_toArray]at p4;exact p4) hs
def jZ(c:Cx)(J:B4)(e:Expr)(ds:Cs):Prop:=
 ∀s,Fr c J s.heap->Run c.w c.A Hw (eval e c.env) s λv h'=>∃a vs,v=.ref a/\s.heap.get? a=none/\306<=a/\a≠TP/\h'.PlainList a vs.toArray/\Bf (DH c.X (·=a)) c.w h' vs ds
theorem Tp{a k:Int}:∀ {n:Nat}{vs:DW},(∀(i:Nat) (v:Value),vs[i]? = some v->∃t,v=.int (a+(i:Nat)*k) t)->vs.length=n->Bf X w h vs (DN a k n)
 |n,vs,hv,hl=>by
  unfold DN;have key:∀(m:Nat) (us:DW),(∀(i:Nat) (v:Value),us[i]? = some v->∃t,v=.int (a+((m+i:Nat):Int)*k) t)->Bf X w h us ((List.range' m us.length).map λi=>D.int (a+(i:Nat)*k)):=by
   intro m us;induction us generalizing m with
   |nil=>intro V;exact .nil
   |cons u us ih=>
    intro hu;rw[AZ,List.range'_succ,AI];refine B6 (hu 0 u rfl) ?_;intro t e;rw[e];exact .cons (.int _ _) (ih (m+1) λi v e=>by
     have:=hu (i+1) v e;rwa [show m+(i+1)=m+1+i by exact Eq.symm (Nat.succ_add_eq_add_succ m i)]at this)
  have:=key 0 vs λi v e=>by rw[Nat.zero_add];exact hv i v e
  rw[hl]at this;rwa [List.range_eq_range']
theorem jZ.TN{y:Str}{xp yp pos':Pos}{e1 e2 e3:Expr}{a b k:Int}{n:Nat}(f:Ev c J (.Name x xp) (.obj (.type "list")))(g:Ev c J (.Name y yp) (.obj (.type "range")))(y1:Ev c J e1 (.int a))(y2:Ev c J e2 (.int b))(y3:Ev c J e3 (.int k))(hk:0<k/\k<1000000)(hn:Builtin.Range.rangeSize a b k=n)(hs:Builtin.Range.small a b k=true)(hz:n<=1000000)(he:autoParam (starEach [.Call (.Name y yp) [e1,e2,e3] [] pos'] c.env=(false,eval (.Call (.Name y yp) [e1,e2,e3] [] pos') c.env)::starEach [] c.env) Bd)(ZU:autoParam (starEach [e1,e2,e3] c.env=(false,eval e1 c.env)::starEach [e2,e3] c.env) Bd)(Jp:autoParam (D9 c e2 [e3]) Bd)(ZV:autoParam (D9 c e3 []) Bd)(hp:autoParam ((backTo pos' (starEach [e2,e3] c.env)).any (·.1)=false) Bd):jZ c J (.Call (.Name x xp) [.Call (.Name y yp) [e1,e2,e3] [] pos'] [] pos) (DN a k n):=λs F Q E q=>
 wpAny_Call_NameR (f s F _ _ λv h1 t1 l1 r1=>by
  cases r1;refine Ax (wpAny_items_cons (wpAny_Call_NameR (g _ (F.le l1) _ _ λv h2 t2 l2 r2=>?_)) he) he rfl;cases r2;refine Ax ((FQ.cons y1 (.cons y2 (.cons y3 .nil ZV) Jp) ZU) pos' _ ((F.le l1).le l2) _ _ λvs h3 t3 l3 r3=>?_) ZU hp;refine Du (Bf.Bp r3) ?_;rintro V V rfl ra r;refine Du (Bf.Bp r) ?_;rintro V V rfl rb r;refine Du (Bf.Bp r) ?_;rintro V V rfl rc r;cases r;cases ra;cases rb;cases rc;have QV:Le s.heap h3:=Bu.trans (Bu.trans l1 l2) l3;have F3:=F.le QV;refine call_range_3 (by lia) ?_ (.inl (PyProof.noPylong_small (by(clear hn hz;omega))));refine wpAny_items_nil ?_;generalize jy:h3.push {cls:=.type "range",data:=.fields #[.int a _,.int b _,.int k _]}=h4;have gz:Le h3 h4:=jy▸Le.push _ _;have de:Le s.heap h4:=Bu.trans QV gz;have F4:=F3.le gz;refine call_list_range (s:={s with heap:=h4,toks:=t3}) F.ok.handled (r:=h3.objs.size) (by rw[<- jy];exact AH _ rfl) hs hn (by omega) λh5 tk lC c' k5 e5 it=>?_;have l5:Le h4 h5:=Le.of k5;refine q _ h5 tk (Bu.trans de l5) ⟨h4.objs.size,lC.toList,rfl,GO de F4.base.tab,B7 F4.base,B5 F4.base.tab,⟨c',by simpa using e5⟩,?_⟩;exact Tp (λi v hv=>it.2 i v (by simpa using hv)) (by rw[Array.length_toList];exact it.1))
theorem Ex.cO{xp:Pos}(y:jZ c J e ds)(hx:Cn x)(k:Cg c x)(p:∀a,DG J x (.obj (.ref a)) (Ji a))(hs:autoParam (swapsWith e (some (.Name x xp)) pos.line c.env=pure false) Bd) :
  Ex c J (.Assign [.Name x xp] e pos) (λh=>∃a X',(∀b,c.X b->X' b)/\Fr (c.on X' (c.G.star (Dm a ds))) (Ji a) h) R:=λs F Q E n r=>
 wpAny_Assign_Name (y s F _ _ λv h1 t1 l1 zz=>V8 zz λa vs ev na ba nt pl rl=>by
  subst ev;have Ec:Le s.heap h1:=l1;refine B6 pl ?_;clear pl;intro pn pe;have F1:Fr (c.plus (·=a)) J h1:=F.plus Ec λb z=>by
   have z':b=a:=z;rw[z'];exact⟨na,ba,_,pe⟩
  have new:ML c a:=F.new na ba;have F2:Fr (c.on (DH c.X (·=a)) (c.G.star (Dm a ds))) J h1:=F1.star (T:=Dm a ds) ⟨vs,⟨_,pe,rfl,_,rfl⟩,rl,nt⟩ λb z=>by
   have z':b=a:=z;rw[z'];exact new.off (fp:=(·=a)) rfl
  exact F2.store (s:={s with heap:=h1,toks:=t1}) hx k (.obj _) (p a) λh2 t2 l2 F3=>n h2 t2 ⟨a,_,λb z=>.inl z,F3⟩) hs
end
theorem Y6(env:Env)(n1 n2:Str)(a b:Value){M:Model}{Q:EU}(h:wpAny M A (bindName env n2 b) (λV s'=>wpAny M A (bindName env n1 a) Q E s') E s):wpAny M A (assignInOrder ([n1,n2].reverse.map λn=>bindName env n) [a,b].toArray.toList.reverse) Q E s:=by
 have e:([n1,n2].reverse.map λn=>bindName env n)=[bindName env n2,bindName env n1]:=rfl;have e':[a,b].toArray.toList.reverse=[b,a]:=rfl;rw[e,e'];exact wpAny_assignInOrder_more (wpAny_mono h (λV s' z=>wpAny_assignInOrder_more (wpAny_mono z (λV V q=>wpAny_assignInOrder_none q) λV V x=>x)) λV V x=>x)
theorem Q5{t:Addr}{a b:Value}{Q:List Value->Shared->Prop}(hh:A.handled=none)(p:s.heap.IsTuple t [a,b].toArray)(q:∀h',Le s.heap h'->Q [a,b] {s with heap:=h'}):wpAny (model prog w) A (unpackItems (.ref t) 2 none) Q E s:=
 wpAny_unpackItems_tuple (items:=[a,b].toArray) hh p λh3 x3=>q h3 (Le.of λb o e=>x3 b o (λz=>Aa _ (z▸Ag e)) e)
theorem Wr(env:Env)(n1 n2:Str)(a b:Value){M:Model}{Q:EU}(h:wpAny M A (bindName env n2 b) (λV s'=>wpAny M A (bindName env n1 a) Q E s') E s):wpAny M A (assignInOrder ([n1,n2].reverse.map λn=>bindName env n) [a,b].reverse) Q E s:=Y6 env n1 n2 a b h
theorem Ex.SN{elts:Cy}{tp:Pos}{n1 n2:Str}{d1 d2:D}{J1 J2:B4}(y:Ev c J e (.tup [d1,d2]))(h1:Cn n1)(h2:Cn n2)(k1:Cg c n1)(k2:Cg c n2)(p2:DG J n2 d2 J1)(p1:DG J1 n1 d1 J2)(hw:swappedStores [.Tuple elts k tp] e c.env=pure (some [n1,n2]))(hs:autoParam (swapsWithSole [.Tuple elts k tp] e pos.line c.env=pure false) Bd):Ex c J (.Assign [.Tuple elts k tp] e pos) (Fr c J2) R:=λs F Q E n r=>
 Assign_Tuple_swapped (y s F _ _ λv VP t1 l1 r1=>by
  have Ec:Le s.heap VP:=l1;obtain⟨ad,va,vb,rfl,p,ra,rb⟩:∃ad va vb,v=.ref ad/\VP.IsTuple ad [va,vb].toArray/\B9 c.X c.w VP va d1/\B9 c.X c.w VP vb d2:=by
   refine Qg (B9.M3 r1) ?_;rintro V V rfl nx nt p rr;refine Du (Bf.Bp rr) ?_;rintro V V rfl ra rr;refine Du (Bf.Bp rr) ?_;rintro V V rfl rb rr;cases rr;exact⟨_,_,_,rfl,p,ra,rb⟩
  refine Q5 (s:={s with heap:=VP,toks:=t1}) F.ok.handled p λh3 l3=>?_;have L9:Le VP h3:=l3;have F3:=(F.le Ec).le L9;exact Wr _ _ _ _ _ (wpAny_bindName (F3.store (s:={s with heap:=h3,toks:=t1}) h2 k2 (rb.le L9) p2 λh4 t4 l4 F4=>
   wpAny_bindName (F4.store (s:={s with heap:=h4,toks:=t4}) h1 k1 ((ra.le L9).move (DR l4 λV z=>F3.fx z)) p1 λh5 t5 l5 F5=>n h5 t5 F5)))) hs hw
theorem Ex.Ln{body orelse:Dy}{h₀:ExceptHandler}{hs:List ExceptHandler}(x:Be c J [body] (λV=>False) R):Ex c J (.Try body (h₀::hs) orelse [] pos) N R:=λs F Q E n r=>
 wpAny_Try_except (wpAny_mono (x s F (λf s'=>match f with|.ret v=>Q (.ret v) s'|_=>False) _ (λV V z=>z.elim) λv h1 t1 z=>r v h1 t1 z) (λf s' z=>by
  cases f with
  |next=>exact(z:False).elim
  |ret v=>exact z
  |brk=>exact(z:False).elim
  |cont=>exact(z:False).elim) λV V z=>z)
noncomputable def BX(x C Z:Str):Str:=if Txt.contains x C then Txt.replace x C Z else x
theorem Ex.Kl{n:Str}{C Z:Str}{k1 k2 k3:Nat}{p1 p2 p3 p4 p5 p6 p7 p8 p9 po:Pos}(m:(n,.str x)∈J)(k:Cg c n)(p:DG J n (.str (BX x C Z)) J')(tZ:(C==Z)=false)(hx:x.length<=1048576)(hz:Z.length<=14)(hl:(p7.endLine==p8.line)=true) :
  Ex c J (.If (.Compare (.Constant (.str C) k1 p1) [.In] [.Name n p2] p3) [.Assign [.Name n p4] (.Call (.Attribute (.Name n p6) "replace" p7) [.Constant (.str C) k2 p5,.Constant (.str Z) k3 p9] [] p8) pos] [] po) (Fr c J') R:=λs F Q E nn r=>by
 refine Bi (F.names n _ m) ?_;intro v H rv;cases rv;refine wpAny_If (wpAny_isTrue_Compare1 (wpAny_Constant_str (wpAny_Name (D2 H F.kind (SB.contains (wpAny_truthy_bool ?_))) H.1.1)));cases hc:Txt.contains x C with
 |false=>
  simp only[AR,if_false];refine wpAny_execs_nil (nn s.heap (s.toks+1) (F.sub λq hq=>?_));rcases p q hq with e|⟨e,_⟩
  .rw [e];unfold BX;rw[hc];exact m
  .exact e
 |true=>
  simp only[if_true];refine Ao (wpAny_Assign_Name (wpAny_Call_method_lateS rfl (by rfl) hl (wpAny_Name (D2 H F.kind ?_) H.1.1)) rfl);refine⟨"str","str.replace",PySem.F.plainAttrs_str,PySem.F.slot_str_replace,PySem.F.type_str_replace,typeIs_str _ _ _,(λV e=>nomatch e),?_⟩;refine BI (wpAny_items_cons (wpAny_Constant_str (wpAny_items_cons (wpAny_Constant_str (wpAny_items_nil ?_)))));refine SC.replaceW (Nat.succ_ne_zero _) (Nat.succ_ne_zero _) (λz=>by have:s.toks+1=s.toks+1+1:=z;(clear z;lia)) tZ hx hz λt' kk=>?_;have e:BX x C Z=Txt.replace x C Z:=by unfold BX;rw[hc];rfl
  rw[e]at p;exact F.store (s:={s with toks:=kk}) H.1 k (.str _ _) p λh2 t2 l2 F2=>wpAny_execs_nil (nn h2 t2 F2)
theorem Fc{β:Type}(p:α->Bool)(g:α->β):∀xs:List α,(xs.map λx=>if p x then[g x]else[]).flatten=(xs.filter p).map g:=by
 intro l;induction l with
 |nil=>exact  rfl
 |cons x xs ih=>
  rw[AI,List.flatten_cons,ih];cases hp:p x<;>simp[hp]
theorem Ev.OP{β:Type}{elt t1 i1 t2 i2:Expr}{ifs:Cy}(xs:List α)(Co:α->D)(ys:α->List β)(Fw:α->β->D)(p:α->β->Bool)(g:α->β->D)(CO:C9 c J scope J0)(Fl:Bb c J t1 i1 (xs.map Co))(Jx:α->List (Str×D))(D8:∀x,∀q∈J0,q∈Jx x)(hb:∀x∈xs,∀cc,Sub c cc scope->Bind cc J0 t1 (Co x) (Jx x))(Na:∀x∈xs,∀cc,Sub c cc scope->Bb cc (Jx x) t2 i2 ((ys x).map (Fw x)))(Jy:α->β->List (Str×D))(IF:∀x y,∀q∈Jx x,q∈Jy x y)(VT:∀x∈xs,∀y∈ys x,∀cc,Sub c cc scope->Bind cc (Jx x) t2 (Fw x y) (Jy x y))(hi:∀x∈xs,∀y∈ys x,∀cc,Sub c cc scope->CM cc (Jy x y) ifs (p x y))(he:∀x∈xs,∀y∈ys x,p x y=true->∀cc,Sub c cc scope->Ev cc (Jy x y) elt (g x y))(sz:(xs.flatMap λx=>((ys x).filter (p x)).map (g x)).length<=1000000)(UE:autoParam (∀e x,Q9 i1 e x) Go)(QO:autoParam (∀e x,Q9 i2 e x) Go) :
  Ev c J (.ListComp elt [⟨t1,i1,[],0⟩,⟨t2,i2,ifs,0⟩] scope pos) (.list (xs.flatMap λx=>((ys x).filter (p x)).map (g x))):=by
 have e:(xs.map λx=>(Co x,((ys x).filter (p x)).map (g x))).flatMap (·.2)=xs.flatMap λx=>((ys x).filter (p x)).map (g x):=by
  rw[Ak,AB,Ak];rfl
 rw[<- e];refine Ev.Ox (J0:=J0) (λg' hg=>by
  refine Sd hg ?_ ?_
  .exact ⟨rfl,UE⟩
  .exact ⟨rfl,QO⟩) CO _ (by rw[AB];exact Fl) (λd hd=>?_) (by rw[e];exact sz)
 refine Bi (AF.mp hd) ?_;rintro x hx rfl;refine⟨Jx x,true,D8 x,hb x hx,λcc sc=>CM.nil,(λhp=>by cases hp),λV=>⟨(ys x).map λy=>(Fw x y,if p x y then[g x y]else[]),λcc sc=>by rw[AB];exact Na x hx cc sc,?_,λd hd=>?_⟩⟩
 .rw [Ak,AB];exact(Fc (p x) (g x) (ys x)).symm
 .refine Bi (AF.mp hd) ?_;rintro y hy rfl;exact⟨Jy x y,p x y,IF x y,VT x hx y hy,hi x hx y hy,λhp=>by simp[hp],λhp=>⟨g x y,by simp[hp],λcc sc=>Ih.list (he x hx y hy hp cc sc)⟩⟩
def rx(c:Cx)(J:B4)(e:Expr)(d:D):Prop:=
 ∀s,Fr c J s.heap->∀(x:Str) (xp:Pos) (J':B4),Cn x->Cg c x->DG J x d J'->∀(Q:EU) (E:CH),(∀h' tk,Fr c J' h'->Q () {s with heap:=h',toks:=tk})->
  wpAny (model prog c.w) c.A (evalThenUse e c.env (assign (.Name x xp) c.env)) Q E s
structure CE(c:Cx)(J:B4)(e:Expr)(d:D):Prop where
 ev:Ev c J e d
 use:rx c J e d
theorem CE.eq{d':D}(x:CE c J e d)(q:d=d'):CE c J e d':=q▸x
theorem SU{C:Addr}{tk:Nat}(F:Fr c J s.heap){xp:Pos}(hx:Cn x)(k:Cg c x)(p:DG J x d J')(sC:s.heap.get? C=none)(bC:306<=C)(l:Le s.heap h')(ns:h'.Ns C m)(r:B9 (DH c.X (·=C)) c.w h' v d)(q:∀Hj tk,Fr c J' Hj->Q .none {s with heap:=Hj,toks:=tk}) :
  wpAny (model prog c.w) c.A (assign (.Name x xp) c.env v) (λV Gd=>∃m,Gd.heap.Ns C m/\∀h',Heap.SameBut C Gd.heap h'->Q .none {Gd with heap:=h'}) E {s with heap:=h',toks:=tk}:=by
 have eC:∃o,h'.get? C=some o:=by refine Ju ns ?_;clear ns;intro o V V e V;exact⟨o,e⟩
 have F1:Fr (c.plus (·=C)) J h':=F.plus l λb z=>by have z':b=C:=z;rw[z'];exact⟨sC,bC,eC⟩
 have new:ML c C:=F.new sC bC;refine wpAny_assign_Name (F1.store (s:={s with heap:=h',toks:=tk}) hx k r p λh2 t2 l2 F2=>?_);have OE:C≠TP:=λz=>by have:=bC;rw[z]at this;exact absurd this (by decide)
 have iU:h2.Ns C m:=Cm ns λo e=>l2.keep _ o OE (λz=>Hq new z) e;refine⟨m,iU,λh3 sb=>q h3 t2 ?_⟩;exact Fr.drop F F2 (λb z=>by have z':b=C:=z;rw[z'];exact new) λb o n e=>(sb.2 b λq=>n.elim (λn=>n q) λn=>Cd.ns iU o (by rw[<- q];exact e) n).trans e
theorem CE.list{elt:Expr}{g:Comprehension}{gs:Ed}(hs:∀g'∈g::gs,g'.is_async=0/\∀env x,foldedSetIterable g'.iter env x=pure x)(CO:C9 c J scope J0)(ds:List (D×List D))(Fl:Bb c J g.target g.iter (ds.map (·.1)))(FG:∀d∈ds,Turn (λcc=>Sub c cc scope) Jl.list (jm elt) g gs J0 d.1 d.2)(sz:(ds.flatMap (·.2)).length<=1000000) :
  CE c J (.ListComp elt (g::gs) scope pos) (.list (ds.flatMap (·.2))):=⟨Ev.Ox hs CO ds Fl FG sz,λs F x xp J' hx k p Q E q=>by
 show wpAny _ _ (do let _ <- comprehension _ scope c.env _ (newList []) (firstAsync (g::gs)) (firstIter (g::gs) c.env) (some (assign (.Name x xp) c.env))) _ _ _;rw[DV (hs g (.head _)).1,Dq];refine wpAny_bind (Fv (newAcc:=newList []) (Hf hs) Jl.list (o0:={cls:=.type "list",data:=.seq #[]}) (λM A s Q E h=>wpAny_newObj_type h) rfl (λw X h a e V=>⟨[],⟨_,e⟩,.nil⟩) CO Fl FG sz F (Q:=λV s'=>wpAny (model prog c.w) c.A (pure ()) Q E s') ?_);intro acc C h' tk m sa sC ba bC ac KL OE l ns Cr;refine Bi Cr ?_;intro vs pl r;refine SU (E:=E) (Q:=λV s'=>wpAny (model prog c.w) c.A (pure ()) Q E s') F hx k p sC bC l ns (B9.list (λz=>?_) KL pl r) λHj t2 F2=>wpAny_pure (q Hj t2 F2);rcases z with z|z
 .obtain ⟨_,o,eo⟩:=F.Ck acc z;rw[sa]at eo;cases eo
 .exact ac z⟩
theorem CE.dict{k v:Expr}{g:Comprehension}{gs:Ed}(hs:∀g'∈g::gs,g'.is_async=0/\∀env x,foldedSetIterable g'.iter env x=pure x)(CO:C9 c J scope J0)(ds:List (D×List (Str×D)))(Fl:Bb c J g.target g.iter (ds.map (·.1)))(FG:∀d∈ds,Turn (λcc=>Sub c cc scope) Jl.dict (dF k v) g gs J0 d.1 d.2)(sz:(ds.flatMap (·.2)).length<=1000000) :
  CE c J (.DictComp k v (g::gs) scope pos) (.dict (DC [] (ds.flatMap (·.2)))):=⟨Ev.Up hs CO ds Fl FG sz,λs F x xp J' hx kk p Q E q=>by
 show wpAny _ _ (do let _ <- comprehension _ scope c.env _ newDict (firstAsync (g::gs)) (firstIter (g::gs) c.env) (some (assign (.Name x xp) c.env))) _ _ _;rw[DV (hs g (.head _)).1,Dq];refine wpAny_bind (Fv (newAcc:=newDict) (He hs) Jl.dict (o0:={cls:=.type "dict",data:=.dict #[]}) (λM A s Q E h=>wpAny_newObj_type h) rfl (λw X h a e n=>⟨[],C4 e,.nil,n⟩) CO Fl FG sz F (Q:=λV s'=>wpAny (model prog c.w) c.A (pure ()) Q E s') ?_);intro acc C h' tk m sa sC ba bC ac KL OE l ns Dv;refine EJ Dv ?_;intro vs pl r n;refine SU (E:=E) (Q:=λV s'=>wpAny (model prog c.w) c.A (pure ()) Q E s') F hx kk p sC bC l ns (B9.dict (λz=>?_) KL (by simpa using n) pl r) λHj t2 F2=>wpAny_pure (q Hj t2 F2);rcases z with z|z
 .obtain ⟨_,o,eo⟩:=F.Ck acc z;rw[sa]at eo;cases eo
 .exact ac z⟩
theorem Ex.setC{xp:Pos}(y:CE c J e d)(hx:Cn x)(k:Cg c x)(p:DG J x d J')(hs:swapsWith e (some (.Name x xp)) pos.line c.env=pure true):Ex c J (.Assign [.Name x xp] e pos) (Fr c J') R:=λs F Q E n r=>by
 rw[exec_Assign_Name_used _ _ _ _ hs];exact wpAny_bind (wpAny_standAt (wpAny_bind (y.use s F x xp J' hx k p _ _ λh' tk F'=>wpAny_pure (n h' tk F'))))
theorem CE.C1{elt target iter:Expr}{ifs:Cy}(xs:List α)(Co:α->D)(p:α->Bool)(g:α->D)(CO:C9 c J scope J0)(Fl:Bb c J target iter (xs.map Co))(Jx:α->List (Str×D))(D8:∀x,∀q∈J0,q∈Jx x)(hb:∀x∈xs,∀cc,Sub c cc scope->Bind cc J0 target (Co x) (Jx x))(hi:∀x∈xs,∀cc,Sub c cc scope->CM cc (Jx x) ifs (p x))(he:∀x∈xs,p x=true->∀cc,Sub c cc scope->Ev cc (Jx x) elt (g x))(sz:xs.length<=1000000)(hs:autoParam (∀e x,Q9 iter e x) Go) :
  CE c J (.ListComp elt [⟨target,iter,ifs,0⟩] scope pos) (.list ((xs.filter p).map g)):=by
 have e:(xs.map λx=>(Co x,if p x then[g x]else[])).flatMap (·.2)=(xs.filter p).map g:=by
  rw[Ak,AB];exact Fc p g xs
 rw[<- e];refine CE.list (J0:=J0) (λg' hg=>by rw[AG.mp hg];exact⟨rfl,hs⟩) CO _ (by rw[AB];exact Fl) (λd hd=>?_) (by rw[e,AA];exact AD (AV _ _) sz);refine Bi (AF.mp hd) ?_;rintro x hx rfl;refine⟨Jx x,p x,D8 x,hb x hx,hi x hx,λhp=>by simp[hp],λhp=>⟨g x,by simp[hp],λcc sc=>Ih.list (he x hx hp cc sc)⟩⟩
theorem CE.Ke{k v target iter:Expr}{ifs:Cy}(xs:List α)(Co:α->D)(p:α->Bool)(gk:α->Str)(g:α->D)(CO:C9 c J scope J0)(Fl:Bb c J target iter (xs.map Co))(Jx:α->List (Str×D))(D8:∀x,∀q∈J0,q∈Jx x)(hb:∀x∈xs,∀cc,Sub c cc scope->Bind cc J0 target (Co x) (Jx x))(hi:∀x∈xs,∀cc,Sub c cc scope->CM cc (Jx x) ifs (p x))(he:∀x∈xs,p x=true->∀cc,Sub c cc scope->Ev cc (Jx x) k (.str (gk x))/\Ev cc (Jx x) v (g x))(sz:xs.length<=1000000)(hs:autoParam (∀e x,Q9 iter e x) Go) :
  CE c J (.DictComp k v [⟨target,iter,ifs,0⟩] scope pos) (.dict (DC [] ((xs.filter p).map λx=>(gk x,g x)))):=by
 have e:(xs.map λx=>(Co x,if p x then[(gk x,g x)]else[])).flatMap (·.2)=(xs.filter p).map λx=>(gk x,g x):=by
  rw[Ak,AB];exact Fc p (λx=>(gk x,g x)) xs
 rw[<- e];refine CE.dict (J0:=J0) (λg' hg=>by rw[AG.mp hg];exact⟨rfl,hs⟩) CO _ (by rw[AB];exact Fl) (λd hd=>?_) (by rw[e,AA];exact AD (AV _ _) sz);refine Bi (AF.mp hd) ?_;rintro x hx rfl;refine⟨Jx x,p x,D8 x,hb x hx,hi x hx,λhp=>by simp[hp],λhp=>⟨(gk x,g x),by simp[hp],λcc sc=>Ih.dict (he x hx hp cc sc).1 (he x hx hp cc sc).2⟩⟩
theorem CE.OP{β:Type}{elt t1 i1 t2 i2:Expr}{ifs:Cy}(xs:List α)(Co:α->D)(ys:α->List β)(Fw:α->β->D)(p:α->β->Bool)(g:α->β->D)(CO:C9 c J scope J0)(Fl:Bb c J t1 i1 (xs.map Co))(Jx:α->List (Str×D))(D8:∀x,∀q∈J0,q∈Jx x)(hb:∀x∈xs,∀cc,Sub c cc scope->Bind cc J0 t1 (Co x) (Jx x))(Na:∀x∈xs,∀cc,Sub c cc scope->Bb cc (Jx x) t2 i2 ((ys x).map (Fw x)))(Jy:α->β->List (Str×D))(IF:∀x y,∀q∈Jx x,q∈Jy x y)(VT:∀x∈xs,∀y∈ys x,∀cc,Sub c cc scope->Bind cc (Jx x) t2 (Fw x y) (Jy x y))(hi:∀x∈xs,∀y∈ys x,∀cc,Sub c cc scope->CM cc (Jy x y) ifs (p x y))(he:∀x∈xs,∀y∈ys x,p x y=true->∀cc,Sub c cc scope->Ev cc (Jy x y) elt (g x y))(sz:(xs.flatMap λx=>((ys x).filter (p x)).map (g x)).length<=1000000)(UE:autoParam (∀e x,Q9 i1 e x) Go)(QO:autoParam (∀e x,Q9 i2 e x) Go) :
  CE c J (.ListComp elt [⟨t1,i1,[],0⟩,⟨t2,i2,ifs,0⟩] scope pos) (.list (xs.flatMap λx=>((ys x).filter (p x)).map (g x))):=by
 have e:(xs.map λx=>(Co x,((ys x).filter (p x)).map (g x))).flatMap (·.2)=xs.flatMap λx=>((ys x).filter (p x)).map (g x):=by
  rw[Ak,AB,Ak];rfl
 rw[<- e];refine CE.list (J0:=J0) (λg' hg=>by
  refine Sd hg ?_ ?_
  .exact ⟨rfl,UE⟩
  .exact ⟨rfl,QO⟩) CO _ (by rw[AB];exact Fl) (λd hd=>?_) (by rw[e];exact sz)
 refine Bi (AF.mp hd) ?_;rintro x hx rfl;refine⟨Jx x,true,D8 x,hb x hx,λcc sc=>CM.nil,(λhp=>by cases hp),λV=>⟨(ys x).map λy=>(Fw x y,if p x y then[g x y]else[]),λcc sc=>by rw[AB];exact Na x hx cc sc,?_,λd hd=>?_⟩⟩
 .rw [Ak,AB];exact(Fc (p x) (g x) (ys x)).symm
 .refine Bi (AF.mp hd) ?_;rintro y hy rfl;exact⟨Jy x y,p x y,IF x y,VT x hx y hy,hi x hx y hy,λhp=>by simp[hp],λhp=>⟨g x y,by simp[hp],λcc sc=>Ih.list (he x hx y hy hp cc sc)⟩⟩
theorem CE.aI{β:Type}{k v t1 i1 t2 i2:Expr}{ifs:Cy}(xs:List α)(Co:α->D)(ys:α->List β)(Fw:α->β->D)(p:α->β->Bool)(gk:α->β->Str)(g:α->β->D)(CO:C9 c J scope J0)(Fl:Bb c J t1 i1 (xs.map Co))(Jx:α->List (Str×D))(D8:∀x,∀q∈J0,q∈Jx x)(hb:∀x∈xs,∀cc,Sub c cc scope->Bind cc J0 t1 (Co x) (Jx x))(Na:∀x∈xs,∀cc,Sub c cc scope->Bb cc (Jx x) t2 i2 ((ys x).map (Fw x)))(Jy:α->β->List (Str×D))(IF:∀x y,∀q∈Jx x,q∈Jy x y)(VT:∀x∈xs,∀y∈ys x,∀cc,Sub c cc scope->Bind cc (Jx x) t2 (Fw x y) (Jy x y))(hi:∀x∈xs,∀y∈ys x,∀cc,Sub c cc scope->CM cc (Jy x y) ifs (p x y))(he:∀x∈xs,∀y∈ys x,p x y=true->∀cc,Sub c cc scope->Ev cc (Jy x y) k (.str (gk x y))/\Ev cc (Jy x y) v (g x y))(sz:(xs.flatMap λx=>((ys x).filter (p x)).map λy=>(gk x y,g x y)).length<=1000000)(UE:autoParam (∀e x,Q9 i1 e x) Go)(QO:autoParam (∀e x,Q9 i2 e x) Go) :
  CE c J (.DictComp k v [⟨t1,i1,[],0⟩,⟨t2,i2,ifs,0⟩] scope pos) (.dict (DC [] (xs.flatMap λx=>((ys x).filter (p x)).map λy=>(gk x y,g x y)))):=by
 have e:(xs.map λx=>(Co x,((ys x).filter (p x)).map λy=>(gk x y,g x y))).flatMap (·.2)=xs.flatMap λx=>((ys x).filter (p x)).map λy=>(gk x y,g x y):=by
  rw[Ak,AB,Ak];rfl
 rw[<- e];refine CE.dict (J0:=J0) (λg' hg=>by
  refine Sd hg ?_ ?_
  .exact ⟨rfl,UE⟩
  .exact ⟨rfl,QO⟩) CO _ (by rw[AB];exact Fl) (λd hd=>?_) (by rw[e];exact sz)
 refine Bi (AF.mp hd) ?_;rintro x hx rfl;refine⟨Jx x,true,D8 x,hb x hx,λcc sc=>CM.nil,(λhp=>by cases hp),λV=>⟨(ys x).map λy=>(Fw x y,if p x y then[(gk x y,g x y)]else[]),λcc sc=>by rw[AB];exact Na x hx cc sc,?_,λd hd=>?_⟩⟩
 .rw [Ak,AB];exact(Fc (p x) (λy=>(gk x y,g x y)) (ys x)).symm
 .refine Bi (AF.mp hd) ?_;rintro y hy rfl;exact⟨Jy x y,p x y,IF x y,VT x hx y hy,hi x hx y hy,λhp=>by simp[hp],λhp=>⟨(gk x y,g x y),by simp[hp],λcc sc=>Ih.dict (he x hx y hy hp cc sc).1 (he x hx y hy hp cc sc).2⟩⟩
theorem RS:CA 38 (Ba 5) (Str.ofString "_substitution_cost") 37 .none (.str (Str.ofString "cpy313.traceback") 282):=
 ⟨λP=>rfl,λP=>⟨_,_,_,rfl,rfl,rfl⟩,rfl,rfl,rfl⟩
noncomputable def DE(a b:Str):Int:=if a=b then 0 else if Txt.lower a=Txt.lower b then 1 else 2
theorem DK(a b:Str):(D.str a).eqv (.str b)=decide (a=b):=by
 show PyData.eqv (.str a) (.str b)=_;rw[PyData.eqv];cases h:a==b<;>simp_all
theorem af(w:World)(k:Nat)(a b:Str)(ha:PyData.strOk a=true)(hb:PyData.strOk b=true)(la:a.length<=100)(lb:b.length<=100)(fa:PyData.strOk (Txt.lower a)=true)(fb:PyData.strOk (Txt.lower b)=true) :
  DA w 38 (k+1) [.str a,.str b] (.int (DE a b)):=by
 refine Ef RS (names:=[Str.ofString "ch_a",Str.ofString "ch_b"]) (λvs e=>?_) rfl (.of (by decide +kernel)) λc X h0 F=>?_
 .refine MC (Ou e) ?_;rintro v1 v2 rfl;rfl
 .have w0:=F.hw;refine Be.if (CL.cmp ((Bh.UC Ev.n Ev.n (Gm.str (n:=0) ha) (Gm.str (n:=0) hb)).eq (DK a b))) (λh=>?_) (λh=>?_)
  .refine Be.ret (Ex.ret (Ev.cInt.eq ?_));rw[DE,if_pos (of_decide_eq_true h)]
  .refine Be.nil (Be.if (CL.cmp ((Bh.UC (Ev.lower Ev.n (by omega)) (Ev.lower Ev.n (by omega)) (Gm.str (n:=0) fa) (Gm.str (n:=0) fb)).eq (DK _ _))) (λh'=>?_) (λh'=>?_))
   .refine Be.ret (Ex.ret (Ev.glob (v:=.int 1 288) (d:=.int (DE a b)) (by decide) (F.kind rfl) (λV=>?_)));rw[DE,if_neg (of_decide_eq_false h),if_pos (of_decide_eq_true h')];exact .int _ _
   .refine Be.nil (Be.ret (Ex.ret (Ev.glob (v:=.int 2 286) (d:=.int (DE a b)) (by decide) (F.kind rfl) (λV=>?_))));rw[DE,if_neg (of_decide_eq_false h),if_neg (of_decide_eq_false h')];exact .int _ _
noncomputable def Hs(J:B4)(x:Str)(d:D):List (Str×D):=(x,d)::J.filter λp=>!(p.1==x)
theorem DG.of(e:Hs J x d=J'):DG J x d J':=e▸λp hp=>by
 rcases AJ.mp hp with e|hp
 .exact .inl e
 .refine CC (Az.mp hp) ?_;intro a b;exact .inr ⟨a,λz=>by rw[z]at b;simp at b⟩
structure UQ where
 Co:List Str->D
 ok:List Str->Prop
 sub:∀xs ys,ok xs->(∀y∈ys,y∈xs)->ok ys
 str:∀xs,ok xs->∀x∈xs,PyData.strOk x=true
 slice:∀ {c:Cx}{J:B4}{value:Expr}{lo hi:Option Expr}{p pos:Pos}{xs:B3}{kl ku:Option Int},ok xs->Ev c J value (Co xs)->Part c J lo kl->Part c J hi ku->xs.length<=1000->
  Ev c J (.Subscript value (.Slice lo hi none p) pos) (Co (cut xs kl ku))
 item:∀ {c:Cx}{J:B4}{value i:Expr}{pos:Pos}{xs:B3}{k:Int}{x:Str},ok xs->Ev c J value (Co xs)->Ev c J i (.int k)->xs.length<=1000->-(xs.length:Int)<=k->xs[(if k<0 then k+xs.length else k).toNat]? = some x->
  (∀o i',subscripted i false o i'=operate [o,i'] (getItem o i'))->Ev c J (.Subscript value i pos) (.str x)
 len:∀ {c:Cx}{J:B4}{x:Str}{np pos:Pos}{e:Expr}{xs:B3},ok xs->Ev c J (.Name x np) (.obj (.builtin "len"))->Ev c J e (Co xs)->xs.length<=1000->(starEach [e] c.env=(false,eval e c.env)::starEach [] c.env)->
  Ev c J (.Call (.Name x np) [e] [] pos) (.int xs.length)
 eq:∀ {c:Cx}{J:B4}{l r:Expr}{xs ys:B3},ok xs->ok ys->Ev c J l (Co xs)->Ev c J r (Co ys)->behindInMarks .Eq r=false->Bh c J l .Eq r (decide (xs=ys))
 Lm:∀xs,ok xs->xs.length<=1000->(Co xs).Lm=!xs.isEmpty/\(Co xs).small
theorem Sq(xs ys:B3):(D.list (xs.map .str)).eqv (.list (ys.map .str))=decide (xs=ys):=by
 show PyData.eqv (.list (D.KM (xs.map .str))) (.list (D.KM (ys.map .str)))=_;rw[PyData.eqv,D.Ga,D.Ga,AB,AB];have e:∀zs:List Str,zs.map (D.py∘D.str)=zs.map PyData.str:=λzs=>by
  apply AW;intro z V;show D.py (.str z)=_;rw[Qn]
 rw[e,e];induction xs generalizing ys with
 |nil=>cases ys with
  |nil=>rw[List.map_nil,PyData.eqvAll];rfl
  |cons y ys=>
   rw[List.map_nil,AI,PyData.eqvAll]
   .rfl
   all_goals simp
 |cons x xs ih=>cases ys with
  |nil=>
   rw[List.map_nil,AI,PyData.eqvAll]
   .rfl
   all_goals simp
  |cons y ys=>
   rw[AI,AI,PyData.eqvAll,ih,PyData.eqv];by_cases h1:x=y<;>by_cases h2:xs=ys<;>simp[h1,h2]
noncomputable def o8:UQ where
 Co:=λxs=>.list (xs.map .str)
 ok:=λxs=>∀x∈xs,PyData.strOk x=true
 sub:=λxs ys h s y hy=>h y (s y hy)
 str:=λxs h=>h
 slice:=λh x y1 y2 hz=>by
  rw[<- NI];exact Ev.EI x y1 y2 (by rw[AA];exact lb hz rfl)
 item:=λ{c J value i pos xs k x} h v y hz h1 hx hs=>by
  split at hx
  .rename_i hk;exact Ev.Vd v y hk (by rw[AA];exact h1) (by rw[AA,AL,hx];rfl) (by rw[AA];exact lb hz rfl) hs
  .rename_i hk;exact Ev.FH v y (by exact(λ{a b}=>Int.not_lt.mp) hk) (by rw[AL,hx];rfl) (by rw[AA];exact lb hz rfl) hs
 len:=λh f y hz he=>(Ev.iA f y (by rw[AA];exact lb hz rfl) he).eq (by rw[AA])
 eq:=λh1 h2 x y hm=>(Bh.UC (n:=1) (m:=1) x y (.list λd hd=>by refine Bi (AF.mp hd) ?_;rintro z hz rfl;exact .str (h1 z hz)) (.list λd hd=>by refine Bi (AF.mp hd) ?_;rintro z hz rfl;exact .str (h2 z hz)) (by decide) hm).eq (Sq _ _)
 Lm:=λxs h hz=>⟨by show(!(xs.map D.str).isEmpty)=_;cases xs<;>rfl,by show(xs.map D.str).length<=1000000;rw[AA];exact lb hz rfl⟩
noncomputable def HY(x:Str):Nat:=x.cps.toList.headD 0
def UN(xs:B3):Prop:=∀x∈xs,x=⟨#[HY x]⟩/\PyData.strOk x=true
noncomputable def cat(xs:B3):Str:=⟨(xs.map HY).toArray⟩
theorem HL(xs:B3):(cat xs).length=xs.length:=by
 show(xs.map HY).toArray.size=_;simp
theorem XR{xs ys:B3}(h1:UN xs)(h2:UN ys)(e:cat xs=cat ys):xs=ys:=by
 have e':xs.map HY=ys.map HY:=by
  have:=congrArg (λs:Str=>s.cps.toList) e;simpa[cat]using this
 clear e;induction xs generalizing ys with
 |nil=>cases ys with|nil=>rfl|cons y ys=>cases e'
 |cons x xs ih=>
  cases ys with
  |nil=>cases e'
  |cons y ys=>
   rw[AI,AI]at e';injection e' with a b
   rw[(h1 x (.head _)).1,(h2 y (.head _)).1,a,ih (λz hz=>h1 z (.tail _ hz)) (λz hz=>h2 z (.tail _ hz)) b]
theorem Mx{xs:B3}(h:UN xs):PyData.strOk (cat xs)=true:=by
 unfold PyData.strOk cat;rw[List.all_toArray,Ah];intro n hn;refine Bi (AF.mp hn) ?_;rintro x hx rfl;refine CC (h x hx) ?_;intro e s;rw[e]at s;simpa[PyData.strOk]using s
noncomputable def kU:UQ where
 Co:=λxs=>.str (cat xs)
 ok:=UN
 sub:=λxs ys h s y hy=>h y (s y hy)
 str:=λxs h x hx=>(h x hx).2
 slice:=λ{c J value lo hi p pos xs kl ku} h x y1 y2 hz=>by
  refine(Ev.cS x y1 y2 (by rw[HL];exact lb hz rfl)).eq ?_;show D.str _=D.str _;unfold cat;rw[<- NI]
 item:=λ{c J value i pos xs k x} h v y hz h1 hx hs=>by
  have Dx:=(AP.mp hx).1;have hc:Txt.charAt (cat xs) k=some (HY x):=by
   unfold Txt.charAt seqIndex?;rw[HL];have key:∀n:Nat,xs[n]? = some x->(cat xs).cps[n]? = some (HY x):=λn e=>by
    show(xs.map HY).toArray[n]? = _;rw[BK,AL,e];rfl
   split at hx
   .rename_i hk;rw[if_pos hk]at Dx;simp only[hk,if_true];rw[if_pos (by simp only[Bool.and_eq_true,decide_eq_true_eq];lia)];exact key _ hx
   .rename_i hk;rw[if_neg hk]at Dx;simp only[hk,if_false];rw[if_pos (by simp only[Bool.and_eq_true,decide_eq_true_eq];(clear h1;lia))];exact key _ hx
  refine(Ev.gh v y (by rw[hc];rfl) (by
   unfold fitsSsize;simp only[Bool.not_eq_true',Bool.or_eq_false_iff,decide_eq_false_iff_not];split at Dx<;>lia) hs).eq ?_
  have hm:x∈xs:=AQ hx;show D.str (Txt.item _ _)=D.str x;unfold Txt.item;rw[hc,Option.getD_some,<- (h x hm).1]
 len:=λh f y hz he=>(Ev.Nn f y (by rw[HL];exact lb hz rfl) he).eq (by rw[HL])
 eq:=λh1 h2 x y hm=>(Bh.UC (n:=0) (m:=0) x y (.str (Mx h1)) (.str (Mx h2)) (by decide) hm).eq (by
  rw[DK];exact decide_eq_decide.mpr ⟨λe=>XR h1 h2 e,λe=>by rw[e]⟩)
 Lm:=λxs h hz=>⟨by
  show((((cat xs).length:Nat):Int) != 0)=_;rw[HL];cases xs with
  |nil=>rfl
  |cons a b=>simp;exact(λ{x y}=>bi_ine.mp) rfl,by show(cat xs).length<=1000000;rw[HL];exact lb hz rfl⟩
noncomputable def B0:List Str->List Str->Nat
 |x::xs,y::ys=>if x=y then B0 xs ys+1 else 0
 |_,_=>0
theorem Hr{y:Str}{xs ys:B3}:B0 (x::xs) (y::ys)=if x=y then B0 xs ys+1 else 0:=rfl
theorem HP:∀a b,B0 a b<=a.length/\B0 a b<=b.length
 |[],_=>⟨Al _,Al _⟩
 |_::_,[]=>⟨Al _,Al _⟩
 |x::xs,y::ys=>by
  rw[Hr];by_cases e:x=y
  .rw [if_pos e];exact(HP xs ys).imp Nat.succ_le_succ Nat.succ_le_succ
  .rw [if_neg e];exact⟨Al _,Al _⟩
theorem Nx:∀a b i,i<B0 a b->∃x,a[i]? = some x/\b[i]? = some x
 |[],_,i,h=>absurd h (Nat.not_lt_zero i)
 |_::_,[],i,h=>absurd h (Nat.not_lt_zero i)
 |x::xs,y::ys,i,h=>by
  rw[Hr]at h;by_cases e:x=y
  .rw [if_pos e]at h;cases i with
   |zero=>exact⟨x,rfl,by rw[e];rfl⟩
   |succ i=>exact Nx xs ys i (Nat.lt_of_succ_lt_succ h)
  .rw [if_neg e]at h;exact absurd h (Nat.not_lt_zero i)
theorem LV:∀a b,a[B0 a b]? = none\/b[B0 a b]? = none\/∃x y,a[B0 a b]? = some x/\b[B0 a b]? = some y/\x≠y
 |[],_=>.inl rfl
 |_::_,[]=>.inr (.inl rfl)
 |x::xs,y::ys=>by
  rw[Hr];by_cases e:x=y
  .rw [if_pos e];exact LV xs ys
  .rw [if_neg e];exact .inr (.inr ⟨x,y,rfl,rfl,e⟩)
theorem Dj(L:List α)(i:Nat):cut L (some (i:Int)) none=L.drop i:=by
 unfold cut;show(L.drop (clipAt L.length i)).take (L.length-clipAt L.length i)=_;rw[clipAt_nat];by_cases hi:i<=L.length
 .rw [Nat.min_eq_left hi,List.take_of_length_le (by rw[AM];exact Ad (L.length-i))]
 .rw [Nat.min_eq_right (by exact Nat.le_of_not_ge hi),Nat.sub_self,List.take_zero,List.drop_eq_nil_of_le (by exact Nat.le_of_not_ge hi)]
noncomputable def SA(j:Nat):Option Int:=if j=0 then none else some (-(j:Int))
theorem H4(L:List α)(j:Nat):cut L none (SA j)=L.take (L.length-j):=by
 unfold cut SA;by_cases hj:j=0
 .subst hj;simp
 .rw [if_neg hj];show(L.drop 0).take (clipAt L.length (-(j:Int))-0)=_;rw[clipAt_neg _ _ (Nat.pos_of_ne_zero hj)];rfl
theorem Part.post{p p' vV:Pos}{j:Nat}(y:Ev c J (.Name x p) (.int (-(j:Int)))):Part c J (some (.BoolOp .Or [.Name x p,.Constant .none k p'] vV)) (SA j):=by
 unfold SA;by_cases hj:j=0
 .subst hj;rw[if_pos rfl];exact Part.nul ((Ev.XB y trivial λV=>Ev.OM).eq rfl)
 .rw [if_neg hj];refine Part.int ((Ev.XB y trivial λV=>Ev.OM).eq ?_);have:(D.int (-(j:Int))).Lm=true:=by
   show(-(j:Int) != 0)=true;simp;exact Ne.intro hj
  rw[this];rfl
noncomputable abbrev nA:Str:=Str.ofString "a"
noncomputable abbrev nB:Str:=Str.ofString "b"
noncomputable abbrev nM:Str:=Str.ofString "max_cost"
noncomputable abbrev Jt:Str:=Str.ofString "pre"
noncomputable abbrev Mj:Str:=Str.ofString "post"
theorem Kq:CA 45 (Ba 6) (Str.ofString "_levenshtein_distance") 44 .none (.str (Str.ofString "cpy313.traceback") 282):=
 ⟨λP=>rfl,λP=>⟨_,_,_,rfl,rfl,rfl⟩,rfl,rfl,rfl⟩
theorem bO(S:UQ){G:Res}{h0:Heap}(F:FnAt c w (BY (Ba 6)) k X G h0){a b:B3}{m:Int}(ha:S.ok a)(hb:S.ok b)(la:a.length<=1000)(lb:b.length<=1000) :
  Ex c [(Jt,.int (0:Nat)),(nA,S.Co a),(nB,S.Co b),(nM,.int m)] ((Bt (Ba 6))[2]?.getD default) (Fr c [(Jt,.int (B0 a b)),(nA,S.Co a),(nB,S.Co b),(nM,.int m)]) R:=by
 have nz:=HP a b;have oU:∀i,S.ok (a.drop i):=λi=>S.sub _ _ ha λy hy=>Aj hy;have oV:∀i,S.ok (b.drop i):=λi=>S.sub _ _ hb λy hy=>Aj hy;refine Ex.while (m:=B0 a b) (λi=>[(Jt,.int (i:Nat)),(nA,S.Co a),(nB,S.Co b),(nM,.int m)]) (λi hi=>?_) λi hi=>?_
 .have ta:=S.Lm (a.drop i) (oU i) (by rw[AM];exact dj la rfl);have tb:=S.Lm (b.drop i) (oV i) (by rw[AM];exact dj lb rfl);refine(CL.boolOp (.FV (a:=!(a.drop i).isEmpty) (b:=(!(b.drop i).isEmpty)&&(decide (a[i]? = b[i]?)&&true)) ?_ λh1=>.FV ?_ λh2=>.FV ?_ λV=>.Pr)).eq ?_
  .exact (CL.val ((S.slice ha Ev.n (Part.int Ev.n) Part.no la).eq (by rw[Dj])) ta.2).eq ta.1
  .exact (CL.val ((S.slice hb Ev.n (Part.int Ev.n) Part.no lb).eq (by rw[Dj])) tb.2).eq tb.1
  .have l1:i<a.length:=by
    have:(a.drop i)≠[]:=by simpa using h1
    have:=List.length_pos_iff.mpr this;rw[AM]at this;exact Nat.sub_pos_iff_lt.mp this
   have l2:i<b.length:=by
    have:(b.drop i)≠[]:=by simpa using h2
    have:=List.length_pos_iff.mpr this;rw[AM]at this;exact Nat.sub_pos_iff_lt.mp this
   have ga:a[i]? = some a[i]:=AU l1;have gb:b[i]? = some b[i]:=AU l2;refine CL.eq (CL.cmp (Bh.UC (n:=0) (m:=0) (S.item ha Ev.n Ev.n la (k:=(i:Nat)) (x:=a[i]) (by exact Int.neg_natCast_le_natCast a.length i) (by rw[if_neg (by exact Int.not_ofNat_neg i)];simpa using ga) λV V=>by with_unfolding_all rfl)
    (S.item hb Ev.n Ev.n lb (k:=(i:Nat)) (x:=b[i]) (by exact Int.neg_natCast_le_natCast b.length i) (by rw[if_neg (by exact Int.not_ofNat_neg i)];simpa using gb) λV V=>by with_unfolding_all rfl)
    (.str (S.str a ha _ (List.getElem_mem l1))) (.str (S.str b hb _ (List.getElem_mem l2))))) ?_
   rw[DK,ga,gb];simp
  .by_cases Dx:i<B0 a b
   .refine Bi (Nx a b i Dx) ?_;intro x ga gb;have l1:=(AP.mp ga).1;have l2:=(AP.mp gb).1;have e1:(a.drop i).isEmpty=false:=by rw[List.isEmpty_eq_false_iff];intro z;rw[BO]at z;exact absurd l1 (Nat.not_lt_of_le z)
    have e2:(b.drop i).isEmpty=false:=by rw[List.isEmpty_eq_false_iff];intro z;rw[BO]at z;exact absurd l2 (Nat.not_lt_of_le z)
    rw[e1,e2,ga,gb,decide_eq_true Dx];simp
   .have Va:i=B0 a b:=Nat.le_antisymm hi (Nat.le_of_not_lt Dx);rw[decide_eq_false Dx];rcases LV a b with e|e|⟨x,y,ga,gb,ne⟩
    .rw [<- Va]at e;have:a.drop i=[]:=by rw[BO];exact List.getElem?_eq_none_iff.mp e
     rw[this];rfl
    .rw [<- Va]at e;have:b.drop i=[]:=by rw[BO];exact List.getElem?_eq_none_iff.mp e
     rw[this];simp
    .rw [Va,ga,gb];simp[ne]
 .exact Be.last (Ex.lN (a:=(i:Nat)) (b:=1) (.head _) Ev.cInt (F.name (.inl rfl)) (DG.of (by rfl)))
theorem WO{a:B3}{j:Nat}(h:j<a.length):a.reverse[j]? = a[((-(j:Int)-1)+a.length).toNat]?:=by
 rw[List.getElem?_reverse h];congr 1;exact lL
theorem YO(S:UQ){G:Res}{h0:Heap}(F:FnAt c w (BY (Ba 6)) k X G h0){a b:B3}{m p:Int}(ha:S.ok a)(hb:S.ok b)(la:a.length<=1000)(lb:b.length<=1000) :
  Ex c [(Mj,.int (-((0:Nat):Int))),(nB,S.Co b),(nA,S.Co a),(Jt,.int p),(nM,.int m)] ((Bt (Ba 6))[6]?.getD default)
   (Fr c [(Mj,.int (-(B0 a.reverse b.reverse:Int))),(nB,S.Co b),(nA,S.Co a),(Jt,.int p),(nM,.int m)]) R:=by
 have nz:=HP a.reverse b.reverse;rw[Au,Au]at nz;have oU:∀i,S.ok (a.take i):=λi=>S.sub _ _ ha λy hy=>Ay hy;have oV:∀i,S.ok (b.take i):=λi=>S.sub _ _ hb λy hy=>Ay hy;refine Ex.while (m:=B0 a.reverse b.reverse) (λj=>[(Mj,.int (-(j:Int))),(nB,S.Co b),(nA,S.Co a),(Jt,.int p),(nM,.int m)]) (λi hi=>?_) λi hi=>?_
 .have ta:=S.Lm (a.take (a.length-i)) (oU _) (by rw[Ae];exact AD (A9 _ _) la);have tb:=S.Lm (b.take (b.length-i)) (oV _) (by rw[Ae];exact AD (A9 _ _) lb);refine(CL.boolOp (.FV (a:=!(a.take (a.length-i)).isEmpty) (b:=(!(b.take (b.length-i)).isEmpty)&&(decide (a.reverse[i]? = b.reverse[i]?)&&true)) ?_ λh1=>.FV ?_ λh2=>.FV ?_ λV=>.Pr)).eq ?_
  .exact (CL.val ((S.slice ha Ev.n Part.no (Part.post (j:=i) Ev.n) la).eq (by rw[H4])) ta.2).eq ta.1
  .exact (CL.val ((S.slice hb Ev.n Part.no (Part.post (j:=i) Ev.n) lb).eq (by rw[H4])) tb.2).eq tb.1
  .have l1:i<a.length:=by
    have:(a.take (a.length-i))≠[]:=by simpa using h1
    have:=List.length_pos_iff.mpr this;rw[Ae]at this;exact eU this
   have l2:i<b.length:=by
    have:(b.take (b.length-i))≠[]:=by simpa using h2
    have:=List.length_pos_iff.mpr this;rw[Ae]at this;exact eU this
   obtain⟨x,ga⟩:∃x,a.reverse[i]? = some x:=⟨_,AU (by rw[Au];exact l1)⟩
   obtain⟨y,gb⟩:∃x,b.reverse[i]? = some x:=⟨_,AU (by rw[Au];exact l2)⟩
   have mU:=ga;have mW:=gb;rw[WO l1]at mU;rw[WO l2]at mW;refine CL.eq (CL.cmp (Bh.UC (n:=0) (m:=0) (S.item ha Ev.n (Ev.Li Ev.n Ev.cInt) la (k:=-(i:Int)-1) (x:=x) (eQ l1) (by rw[if_pos eR];exact mU) λV V=>by with_unfolding_all rfl)
    (S.item hb Ev.n (Ev.Li Ev.n Ev.cInt) lb (k:=-(i:Int)-1) (x:=y) (eQ l2) (by rw[if_pos eR];exact mW) λV V=>by with_unfolding_all rfl)
    (.str (S.str a ha _ (AQ mU))) (.str (S.str b hb _ (AQ mW))))) ?_
   rw[DK,ga,gb];simp
  .by_cases Dx:i<B0 a.reverse b.reverse
   .refine Bi (Nx a.reverse b.reverse i Dx) ?_;intro x ga gb;have l1:=(AP.mp ga).1;have l2:=(AP.mp gb).1;rw[Au]at l1 l2;have e1:(a.take (a.length-i)).isEmpty=false:=eS l1;have e2:(b.take (b.length-i)).isEmpty=false:=eS l2;rw[e1,e2,ga,gb,decide_eq_true Dx];simp
   .have Va:i=B0 a.reverse b.reverse:=Nat.le_antisymm hi (Nat.le_of_not_lt Dx);rw[decide_eq_false Dx];rcases LV a.reverse b.reverse with e|e|⟨x,y,ga,gb,ne⟩
    .rw [<- Va,List.getElem?_eq_none_iff,Au]at e;have:a.length-i=0:=Nat.sub_eq_zero_of_le e;rw[this];rfl
    .rw [<- Va,List.getElem?_eq_none_iff,Au]at e;have:b.length-i=0:=Nat.sub_eq_zero_of_le e;rw[this];simp
    .rw [Va,ga,gb];simp[ne]
 .refine Be.last ((Ex.Li (a:=-(i:Int)) (b:=1) (.head _) Ev.cInt (F.name (.inl rfl)) (DG.of (by rfl))).imp (λh z=>?_) λV V z=>z);have e : -(i:Int)-1=-((i+1:Nat):Int):=(Int.neg_add (a:=(i:Int)) (b:=1)).symm;rw[<- e];exact z
structure Bj(c:Cx)(w:World)(sc:Scope)(k:Nat):Prop where
 hw:c.w=w
 hs:c.env.scope=sc
 hk:c.k=k
 ro:¬c.ro
 slot:∀x,sc.names.lookup x=some .cell->c.own x/\(c.env.cells.lookup x).isSome=true
theorem FnAt.env{sc:Scope}{G:Res}{h0:Heap}(F:FnAt c w sc k X G h0):Bj c w sc k:=⟨F.hw,F.hs,F.hk,F.ro,F.slot⟩
theorem Bj.on{sc:Scope}{G:Res}(F:Bj c w sc k):Bj (c.on X G) w sc k:=⟨F.hw,F.hs,F.hk,F.ro,F.slot⟩
theorem Bj.kind{sc:Scope}(F:Bj c w sc k){kd:NameKind}(e:sc.names.lookup x=some kd):c.env.kindOf x=some kd:=by
 unfold Env.kindOf;rw[F.hs];exact e
theorem Bj.name{sc:Scope}(F:Bj c w sc k)(e:sc.names.lookup x=some .local\/sc.names.lookup x=some .cell):Cg c x:=
 e.imp F.kind λe=>⟨F.kind e,F.slot x e⟩
theorem HT.on{G:Res}(hX:∀b,c.X b->X b)(r:HT (c.on X G) d v h):HT c d v h:=⟨r.1.move (Ce hX),r.2.1,r.2.2⟩
structure LS where
 dist:Int
 res:Int
 mn:Int
 row:List Int
noncomputable def inner(bc:Str)(a:B3)(st:LS)(i:Nat):LS:=
 let sub:=st.dist+DE bc (a.getD i ⟨#[]⟩);let d:=st.row.getD i 0;let r:=min (min st.res d+2) sub;⟨d,r,if r<st.mn then r else st.mn,st.row.set i r⟩
noncomputable def C5(bc:Str)(a:B3)(st:LS):Nat->LS
 |0=>st
 |n+1=>inner bc a (C5 bc a st n) n
theorem Hm(bc:Str)(a:B3)(st:LS):∀n,(C5 bc a st n).row.length=st.row.length
 |0=>rfl
 |n+1=>by
  show((C5 bc a st n).row.set n _).length=_;rw[List.length_set,Hm bc a st n]
noncomputable abbrev Nr:Str:=Str.ofString "row"
noncomputable abbrev O2:Str:=Str.ofString "result"
noncomputable abbrev O1:Str:=Str.ofString "bindex"
noncomputable abbrev Qe:Str:=Str.ofString "bchar"
noncomputable abbrev Mi:Str:=Str.ofString "distance"
noncomputable abbrev YU:Str:=Str.ofString "minimum"
noncomputable abbrev bW:Str:=Str.ofString "index"
noncomputable abbrev iL:Str:=Str.ofString "substitute"
noncomputable abbrev iK:Str:=Str.ofString "insert_delete"
noncomputable def Vp:Stmt:=(Bt (Ba 6))[15]?.getD default
noncomputable def QY:List Stmt:=match Vp with
 |.For _ _ b _ _=>b
 |_=>[]
def FE(x:Str):Prop:=PyData.strOk x=true/\PyData.strOk (Txt.lower x)=true/\x.length<=100
noncomputable abbrev d3(S:UQ)(st:LS)(bc:Str)(j:Nat)(r:Addr)(a b:B3)(m:Int):List (Str×D):=
 [(YU,.int st.mn),(Mi,.int st.dist),(O2,.int st.res),(Qe,.str bc),(O1,.int (j:Nat)),(Nr,.obj (.ref r)),(nB,S.Co b),(nA,S.Co a),(nM,.int m)]
theorem Vq(S:UQ)(F:Bj c w (BY (Ba 6)) (k+1)){a b:B3}{m:Int}{bc:Str}{j:Nat}{r:Addr}(ha:S.ok a)(la:a.length<=1000)(ga:∀x∈a,FE x)(gb:FE bc){st:LS}(gS:st.row.length=a.length){Gf:List D->Res}(up:∀ds Ib,Upd (Gf ds) (Dm r ds) (Dm r Ib) (Gf Ib))(hG:c.G=Gf (st.row.map .int)) :
  Ex c (d3 S st bc j r a b m) (QY[3]?.getD default)
   (λh=>∃X',(∀b,c.X b->X' b)/\Fr (c.on X' (Gf ((C5 bc a st a.length).row.map .int))) (d3 S (C5 bc a st a.length) bc j r a b m) h) R:=by
 have ln:=Hm bc a st;have hw:=F.hw;refine(Ex.for (ds:=DN 0 1 a.length) F.ro (λi=>Gf ((C5 bc a st i).row.map .int)) (λi=>d3 S (C5 bc a st i) bc j r a b m) hG rfl
  (Bb.Qo (Ev.Gn (by decide) rfl (F.kind rfl)) (S.len ha (Ev.Gn (by decide) rfl (F.kind rfl)) Ev.n la rfl) (lb la rfl)) (λi d hd X T hX=>?_)).imp (λh z=>?_) λV V z=>z
 .obtain ⟨hi,rfl⟩:i<a.length/\d=.int (i:Nat):=by
   simp only[DN,AL,AS]at hd;refine Bi hd ?_;clear hd;intro j' e1 e2;refine B6 (AP.mp e1) ?_;intro hl e3;rw[List.getElem_range]at e3;rw[List.length_range]at hl;exact⟨hl,by rw[<- e2,<- e3];simp⟩
  have gi:a[i]? = some a[i]:=AU hi;have hl:=ln i;generalize bH:C5 bc a st i=si at *;have Mc:C5 bc a st (i+1)=inner bc a si i:=by rw[<- bH];rfl
  have ri:si.row[i]? = some (si.row.getD i 0):=by
   rw[AN];rw[AU (by(clear la;lia))];rfl
  have pq:a.getD i ⟨#[]⟩=a[i]:=by rw[AN,gi];rfl
  have gx:=ga a[i] (List.getElem_mem hi);have F':Bj (c.on X ((Gf (si.row.map .int)).star T)) w (BY (Ba 6)) (k+1):=F.on;refine⟨(bW,.int (i:Nat))::d3 S si bc j r a b m,Bind.name ⟨by decide,by decide⟩ (F'.name (.inl rfl)) (DG.of (by rfl)),?_⟩;refine Be.step (Ex.EK (d:=.int (si.dist+DE bc a[i])) (Ev.Il Ev.n (Ev.FW (fa:=38) (k:=k+1) (Ev.glob (v:=.ref 38) (d:=.obj (.ref 38)) (by decide) (F'.kind rfl) λV=>.obj _)
   (FQ.cons Ev.n (FQ.cons (S.item ha (Ev.n) Ev.n la (k:=(i:Nat)) (x:=a[i]) (by exact Int.neg_natCast_le_natCast a.length i) (by rw[if_neg (by exact Int.not_ofNat_neg i)];simpa using gi) λV V=>by with_unfolding_all rfl) .nil))
   (hw▸af w k bc a[i] gb.1 gx.1 gb.2.2 gx.2.2 gb.2.1 gx.2.1) (by rw[F'.hk];exact Ad _) ⟨_,_,_,_,_,RS⟩)) ⟨by decide,by decide⟩ (F'.name (.inl rfl)) (DG.of (by rfl))) ?_
  refine Be.step (Ex.EK (d:=.int (si.row.getD i 0)) (Ev.gf (a:=r) (ds:=si.row.map .int) (i:=(i:Nat)) (λX h z=>(up _ (si.row.map .int)).has _ _ _ z.1) Ev.n Ev.n (by exact BD i) (by
   rw[AL];show Option.map _ (si.row[((i:Nat):Int).toNat]?)=_;rw[Int.toNat_natCast,ri];rfl) (by rw[AA];omega)) ⟨by decide,by decide⟩ (F'.name (.inl rfl)) (DG.of (by rfl))) ?_
  refine Be.step (Ex.EK (d:=.int (min si.res (si.row.getD i 0)+2)) (Ev.Il (Ev.min2 (Ev.Gn (by decide) rfl (F'.kind rfl)) Ev.n Ev.n)
   (Ev.glob (v:=.int 2 286) (d:=.int 2) (by decide) (F'.kind rfl) λV=>.int _ _)) ⟨by decide,by decide⟩ (F'.name (.inl rfl)) (DG.of (by rfl))) ?_
  refine Be.step (Ex.EK (d:=.int (min (min si.res (si.row.getD i 0)+2) (si.dist+DE bc a[i]))) (Ev.min2 (Ev.Gn (by decide) rfl (F'.kind rfl)) Ev.n Ev.n)
   ⟨by decide,by decide⟩ (F'.name (.inl rfl)) (DG.of (by rfl))) ?_
  have L7:(si.row.map D.int).set ((i:Nat):Int).toNat (.int (min (min si.res (si.row.getD i 0)+2) (si.dist+DE bc a[i])))=(inner bc a si i).row.map D.int:=by
   rw[Int.toNat_natCast];show _=(si.row.set i _).map D.int;rw[List.map_set,pq]
  refine Be.EM (X':=X) (G':=(Gf ((inner bc a si i).row.map .int)).star T) (Ex.o6 (a:=r) (ds:=si.row.map .int) (k:=(i:Nat)) F'.ro L7 (Upd.lf (up _ _)) Ev.n Ev.n
   Ev.n (by exact BD i) (by rw[AA];lia) (by rw[AA];omega)) ?_
  have nP:(inner bc a si i).res=min (min si.res (si.row.getD i 0)+2) (si.dist+DE bc a[i]):=by rw[<- pq];rfl
  have gH:(inner bc a si i).mn=if(inner bc a si i).res<si.mn then(inner bc a si i).res else si.mn:=rfl
  have qL:(inner bc a si i).dist=si.row.getD i 0:=rfl;rw[<- nP];refine Be.if (CL.cmp (Bh.ltI Ev.n Ev.n)) (λDx=>?_) λDx=>?_
  .refine Be.step (Ex.EK (d:=.int (inner bc a si i).res) Ev.n ⟨by decide,by decide⟩ (F'.name (.inl rfl)) (DG.of (by rfl))) (Be.nil (Be.nil (Be.done λh Fh=>⟨X,hX,?_⟩)));rw[Mc];have e:(inner bc a si i).mn=(inner bc a si i).res:=by rw[gH,if_pos (of_decide_eq_true Dx)]
   have d8:Fr (c.on X ((Gf ((inner bc a si i).row.map .int)).star T)) [(YU,.int (inner bc a si i).mn),(O2,.int (inner bc a si i).res),(iK,.int (min si.res (si.row.getD i 0)+2)),(Mi,.int (si.row.getD i 0)),(iL,.int (si.dist+DE bc a[i])),(bW,.int (i:Nat)),
    (Qe,.str bc),(O1,.int (j:Nat)),(Nr,.obj (.ref r)),(nB,S.Co b),(nA,S.Co a),(nM,.int m)] h:=by rw[e];exact Fh
   exact d8.sub (Fo [0,3,1,6,7,8,9,10,11] rfl)
  .refine Be.nil (Be.nil (Be.done λh Fh=>⟨X,hX,?_⟩));rw[Mc];have e:(inner bc a si i).mn=si.mn:=by rw[gH,if_neg (of_decide_eq_false Dx)]
   have d8:Fr (c.on X ((Gf ((inner bc a si i).row.map .int)).star T)) [(O2,.int (inner bc a si i).res),(iK,.int (min si.res (si.row.getD i 0)+2)),(Mi,.int (si.row.getD i 0)),(iL,.int (si.dist+DE bc a[i])),(bW,.int (i:Nat)),(YU,.int (inner bc a si i).mn),
    (Qe,.str bc),(O1,.int (j:Nat)),(Nr,.obj (.ref r)),(nB,S.Co b),(nA,S.Co a),(nM,.int m)] h:=by rw[e];exact Fh
   exact d8.sub (Fo [5,2,0,6,7,8,9,10,11] rfl)
 .have e:(DN 0 1 a.length).length=a.length:=by simp[DN]
  rw[e]at z;exact z
theorem Ev.tp{es:Cy}{k pos}(x:FQ c J es ds)(hn:autoParam (Nat.ble ds.length 1000=true) Bd):Ev c J (.Tuple es k pos) (.tup ds):=Ev.tuple x (AE hn)
theorem Ev.ls{es:Cy}{pos}(x:FQ c J es ds)(hn:autoParam (Nat.ble ds.length 1000=true) Bd):Ev c J (.List es pos) (.list ds):=Ev.list x (AE hn)
def Kd(c:Cx)(x:Str)(k:NameKind):Prop:=c.env.kindOf x=some k
theorem Bj.kd{sc:Scope}{n:Nat}(F:Bj c w sc n){k:NameKind}(e:sc.names.lookup x=some k):Kd c x k:=F.kind e
theorem Sub.kd(s:Sub c cc scope){k:NameKind}(e:scope.names.lookup x=some k)(nf:autoParam (k≠.free) Fj):Kd cc x k:=s.kind e nf
noncomputable def gD:Value->D
 |.int i _=>.int i
 |.str s _=>.str s
 |.bool b=>.bool b
 |v=>.obj v
theorem aW(v:Value):B9 X w h v (gD v):=by
 cases v<;>first|exact .int _ _|exact .str _ _|exact .bool _|exact .obj _
def gp:Lean.Syntax:=Lean.Unhygienic.run `(Lean.Parser.Tactic.tacticSeq| first|exact Bj.kd ‹_› rfl|exact Sub.kd ‹_› rfl)
theorem Ev.g(hk:autoParam (Kd c x .globalImplicit) gp)(m:autoParam (W5.lookup x=some (some v)) Bd)(e:autoParam (gD v=d) Bd)(hd:autoParam (UO x) Bd):Ev c J (.Name x pos) d:=
 e▸Ev.glob (lookup_mem m) hk (λV=>aW v) hd
theorem Ev.b(hk:autoParam (Kd c x .globalImplicit) gp)(m:autoParam (W5.lookup x=some none) Bd)(hb:autoParam (bootBuiltins x=some v) Bd)(hn:autoParam (x≠Str.ofString "__name__") Fj)(hd:autoParam (UO x) Bd):Ev c J (.Name x pos) (.obj v):=
 Ev.Gn (lookup_mem m) hb hk hn hd
theorem Sub.name(s:Sub c cc scope)(e:scope.names.lookup x=some .local\/scope.names.lookup x=some .cell):Cg cc x:=
 e.imp (λe=>s.kind e) λe=>⟨s.kind e,s.own x e⟩
theorem Sub.gn(s:Sub c cc scope)(e:scope.names.lookup x=some .cell\/scope.names.lookup x=some .free):cc.env.kindOf x=some .cell\/cc.env.kindOf x=some .free:=by
 rcases e with e|e
 .exact .inl (s.kind e)
 .unfold Env.kindOf;rw[s.sc];exact IQ e
noncomputable def S6(sc:Scope)(x:Str):Bool:=sc.names.lookup x==some .cell||sc.names.lookup x==some .free
theorem Rl{sc:Scope}(e:S6 sc x=true):sc.names.lookup x=some .cell\/sc.names.lookup x=some .free:=(Bool.or_eq_true_iff.mp e).imp eq_of_beq eq_of_beq
noncomputable def isFree(sc:Scope)(x:Str):Bool:=sc.names.lookup x==some .free
theorem S8{sc:Scope}(e:isFree sc x=true):sc.names.lookup x=some .free:=eq_of_beq e
noncomputable def NG(sc scope:Scope)(keys:B3):Bool:=
 scope.names.all λp=>scope.names.lookup p.1==some p.2&&(p.2 != .free||(keys.contains p.1&&S6 sc p.1))
theorem ZE{sc:Scope}(hs:∀x,S6 sc x=true->c.env.kindOf x=some .cell\/c.env.kindOf x=some .free)(hk:scope.kind=.function)(hc:NG sc scope (J.map (·.1))=true)(hn:(J.filter λp=>isFree scope p.1)=J0):C9 c J scope J0:=by
 have key:∀p∈scope.names,scope.names.lookup p.1=some p.2/\(p.2=.free->p.1∈J.map (·.1)/\S6 sc p.1=true):=λp hp=>by
  have:=Ah.mp hc p hp;simp only[Bool.and_eq_true,Bool.or_eq_true,beq_iff_eq]at this;refine⟨this.1,λe=>?_⟩;rcases this.2 with z|z
  .rw [e]at z;simp at z
  .exact ⟨by simpa using z.1,z.2⟩
 refine⟨hk,λp hp=>(key p hp).1,λp hp e=>?_,λp hp=>?_⟩
 .refine CC ((key p hp).2 e) ?_;intro a b;refine Bi (AF.mp a) ?_;intro q hq e2;exact⟨⟨q.2,by rw[<- e2];exact hq⟩,hs _ b⟩
 .rw [<- hn]at hp;refine CC (Az.mp hp) ?_;intro a b;exact⟨a,S8 b⟩
theorem Bj.cf{sc:Scope}{n:Nat}(F:Bj c w sc n):∀x,S6 sc x=true->c.env.kindOf x=some .cell\/c.env.kindOf x=some .free:=λx e=>(Rl e).imp F.kind F.kind
theorem Sub.cf{sc:Scope}(F:Sub cc c sc):∀x,S6 sc x=true->c.env.kindOf x=some .cell\/c.env.kindOf x=some .free:=λx e=>F.gn (Rl e)
theorem Bj.co{sc:Scope}{n:Nat}(F:Bj c w sc n)(hk:autoParam (scope.kind=.function) Bd)(hc:autoParam (NG sc scope (J.map (·.1))=true) Bd)(hn:autoParam ((J.filter λp=>isFree scope p.1)=J0) Bd):C9 c J scope J0:=ZE F.cf hk hc hn
theorem Sub.co{sc:Scope}(F:Sub cc c sc)(hk:autoParam (scope.kind=.function) Bd)(hc:autoParam (NG sc scope (J.map (·.1))=true) Bd)(hn:autoParam ((J.filter λp=>isFree scope p.1)=J0) Bd):C9 c J scope J0:=ZE F.cf hk hc hn
theorem DG.new(h:(J.map (·.1)).contains x=false):DG J x d ((x,d)::J):=λp hp=>by
 rcases AJ.mp hp with e|hp
 .exact .inl e
 .refine .inr ⟨hp,λe=>?_⟩;have:x∈J.map (·.1):=e▸Ab (f:=(·.1)) hp;rw[<- List.contains_iff_mem]at this;rw[h]at this;cases this
structure Nm(c:Cx)(x:Str):Prop where
 plain:Cn x
 slot:Cg c x
theorem Bj.nm{sc:Scope}{n:Nat}(F:Bj c w sc n)(e:sc.names.lookup x=some .local\/sc.names.lookup x=some .cell)(p:autoParam (UO x) Bd)(p':autoParam (Zv x) Bd):Nm c x:=⟨⟨p,p'⟩,F.name e⟩
theorem Sub.nm{sc:Scope}(F:Sub c cc sc)(e:sc.names.lookup x=some .local\/sc.names.lookup x=some .cell)(p:autoParam (UO x) Bd)(p':autoParam (Zv x) Bd):Nm cc x:=⟨⟨p,p'⟩,F.name e⟩
def q7:Lean.Syntax:=Lean.Unhygienic.run `(Lean.Parser.Tactic.tacticSeq| first|exact Bj.nm ‹_› (.inl rfl)|exact Bj.nm ‹_› (.inr rfl)|exact Sub.nm ‹_› (.inl rfl)|exact Sub.nm ‹_› (.inr rfl))
theorem Bind.n(k:autoParam (Nm c x) q7)(h:autoParam ((J.map (·.1)).contains x=false) Bd):Bind c J (.Name x pos) d ((x,d)::J):=
 Bind.name k.plain k.slot (DG.new h)
theorem Ex.sn{xp:Pos}(y:Ev c J e d)(k:autoParam (Nm c x) q7)(h:autoParam (Hs J x d=J') Bd)(hs:autoParam (swapsWith e (some (.Name x xp)) pos.line c.env=pure false) Bd):Ex c J (.Assign [.Name x xp] e pos) (Fr c J') R:=
 Ex.EK y k.plain k.slot (DG.of h) hs
theorem Bj.fn{sc:Scope}{n:Nat}(F:Bj c w sc n)(hk:sc.kind=.function)(hx:sc.names.lookup x=some .local):(c.env.blockKind==.function&&c.env.kindOf x==some .local)=true:=by
 rw[F.kind hx];unfold Env.blockKind;rw[F.hs,hk];rfl
theorem cW{elt:Expr}{gens:Ed}{xp:Pos}{l:Nat}(hb:(c.env.blockKind==.function&&c.env.kindOf x==some .local)=true)(hl:(xp.line==pos.line && !(scope.names.any λp=>p.1==x&&(p.2==.local||p.2==.cell)))=true) :
  swapsWith (.ListComp elt gens scope pos) (some (.Name x xp)) l c.env=pure true:=by
 show(pure (c.env.blockKind==.function&&c.env.kindOf x==some .local&&xp.line==pos.line && !(scope.names.any λp=>p.1==x&&(p.2==.local||p.2==.cell))):Sem Bool)=_;rw[hb];simp only[Bool.true_and];rw[hl]
theorem Wi{k v:Expr}{gens:Ed}{xp:Pos}{l:Nat}(hb:(c.env.blockKind==.function&&c.env.kindOf x==some .local)=true)(hl:(xp.line==pos.line && !(scope.names.any λp=>p.1==x&&(p.2==.local||p.2==.cell)))=true) :
  swapsWith (.DictComp k v gens scope pos) (some (.Name x xp)) l c.env=pure true:=by
 show(pure (c.env.blockKind==.function&&c.env.kindOf x==some .local&&xp.line==pos.line && !(scope.names.any λp=>p.1==x&&(p.2==.local||p.2==.cell))):Sem Bool)=_;rw[hb];simp only[Bool.true_and];rw[hl]
theorem Ex.cL{xp lp:Pos}{elt:Expr}{gens:Ed}{sc:Scope}{n:Nat}(F:Bj c w sc n)(y:CE c J (.ListComp elt gens scope lp) d)(hk:autoParam (sc.kind=.function) Bd)(hx:autoParam (sc.names.lookup x=some .local) Bd)(hl:autoParam ((xp.line==lp.line && !(scope.names.any λp=>p.1==x&&(p.2==.local||p.2==.cell)))=true) Bd)(h:autoParam (Hs J x d=J') Bd)(p:autoParam (UO x) Bd)(p':autoParam (Zv x) Bd) :
  Ex c J (.Assign [.Name x xp] (.ListComp elt gens scope lp) pos) (Fr c J') R:=Ex.setC y ⟨p,p'⟩ (F.name (.inl hx)) (DG.of h) (cW (F.fn hk hx) hl)
theorem Ex.cD{xp lp:Pos}{k v:Expr}{gens:Ed}{sc:Scope}{n:Nat}(F:Bj c w sc n)(y:CE c J (.DictComp k v gens scope lp) d)(hk:autoParam (sc.kind=.function) Bd)(hx:autoParam (sc.names.lookup x=some .local) Bd)(hl:autoParam ((xp.line==lp.line && !(scope.names.any λp=>p.1==x&&(p.2==.local||p.2==.cell)))=true) Bd)(h:autoParam (Hs J x d=J') Bd)(p:autoParam (UO x) Bd)(p':autoParam (Zv x) Bd) :
  Ex c J (.Assign [.Name x xp] (.DictComp k v gens scope lp) pos) (Fr c J') R:=Ex.setC y ⟨p,p'⟩ (F.name (.inl hx)) (DG.of h) (Wi (F.fn hk hx) hl)
theorem YX{xp:Pos}{l:Nat}{k:NameKind}(hk:c.env.kindOf x=some k)(hn:k≠.local):swapsWith e (some (.Name x xp)) l c.env=pure false:=by
 have hb:(c.env.blockKind==.function&&c.env.kindOf x==some .local)=false:=by
  rw[hk];have:(some k==some NameKind.local)=false:=by
   cases k<;>first|rfl|exact absurd rfl hn
  rw[this,Bool.and_false]
 unfold swapsWith;split
 .dsimp only;rw[hb];rfl
 .rfl
theorem Ex.sc{x:Str}{xp pos:Pos}{e:Expr}{d:D}{w:World}{sc:Scope}{n:Nat}(F:Bj c w sc n)(y:Ev c J e d)(hx:autoParam (sc.names.lookup x=some .cell) Bd)(h:autoParam (Hs J x d=J') Bd)(p:autoParam (UO x) Bd)(p':autoParam (Zv x) Bd) :
  Ex c J (.Assign [.Name x xp] e pos) (Fr c J') R:=Ex.EK y ⟨p,p'⟩ (F.name (.inr hx)) (DG.of h) (YX (F.kind hx) (by decide))
section
variable {c cc:Cx}{J J' KU J0:B4}{h h':Heap}{N N':Eo}{R R':Ct}{Ji:Addr->List (Str×D)}
noncomputable def D.flat:D->Bool
 |.list _|.tup _|.dict _=>false
 |_=>true
theorem B9.flat(f:d.flat=true)(r:B9 X w h v d):B9 X' w h' v d:=by
 cases r with
 |none=>exact .none
 |bool=>exact .bool _
 |int=>exact .int _ _
 |str=>exact .str _ _
 |obj=>exact .obj _
 |list=>cases f
 |tup=>cases f
 |dict=>cases f
theorem Cc.flat(f:∀p∈es,p.2.flat=true):∀ {kvs:Di},Cc X w h kvs es->Cc X' w h' kvs es:=by
 induction es with
 |nil=>intro kvs r;cases r;exact .nil
 |cons p es ih=>intro kvs r;cases r with|cons a b=>exact .cons (a.flat (f _ (.head _))) (ih (λq hq=>f q (.tail _ hq)) b)
theorem Bf.flat{es:Cs}(f:∀p∈es,p.flat=true):∀ {kvs:DW},Bf X w h kvs es->Bf X' w h' kvs es:=by
 induction es with
 |nil=>intro kvs r;cases r;exact .nil
 |cons p es ih=>intro kvs r;cases r with|cons a b=>exact .cons (a.flat (f _ (.head _))) (ih (λq hq=>f q (.tail _ hq)) b)
noncomputable def Bw(a:Addr)(es:B4):Res where
 fp:=(·=a)
 P:=λw X h=>∃kvs:List (Str×Value),h.DictOf (KS w) a kvs/\Cc X w h kvs es/\a≠TP/\(a==sysModules)=false
 mv:=λ{w X X' h h'} zz k=>UI zz λvs p r nt ns=>⟨vs,C2 p λo e=>(k a o (.inl rfl) nt e).1,r.move λb o n t e=>by refine CC (k b o (.inr (.inl n)) t e) ?_;intro x y;exact⟨x,y n⟩,nt,ns⟩
theorem Ev.G6{value slice:Expr}{pos}{k:Str}(hG:∀X h,c.G.P c.w X h->(Bw a es).P c.w X h)(x:Ev c J value (.obj (.ref a)))(y:Ev c J slice (.str k))(hd:es.lookup k=some d)(hs:autoParam (∀o i,XE slice o i) Ng):Ev c J (.Subscript value slice pos) d:=
 .item x y (λo iv s F ra rb=>by
  cases rb;cases ra;refine EJ (hG _ _ F.g) ?_;intro kvs p r nt;refine Bi (LW r hd) ?_;intro v hv rv;exact⟨⟨_,_,Eb p,PySem.slot_dict_getitem.lookup⟩,λQ E q=>wpAny_getItem_of (knd:=KS c.w) (DL _ _ _) p.mapOf hv (q _ s.heap _ (.refl _) rv)⟩) hs
theorem Ex.i8{i value:Expr}{sp:Pos}{es':B4}{k:Str}{G':Res}(ro:¬c.ro)(he:dput es k d=es')(u:Upd c.G (Bw a es) (Bw a es') G')(z:Ev c J value d)(x:Ev c J o (.obj (.ref a)))(y:Ev c J i (.str k))(hz:es.length<=1000000)(hs:autoParam (swapsWith value (some (.Subscript o i sp)) pos.line c.env=pure false) Bd):Ex c J (.Assign [.Subscript o i sp] value pos) (Fr (c.on c.X G') J) R:=λs F Q E n r=>by
 subst he;exact wpAny_Assign_Subscript (z s F _ _ λv VP t1 l1 r1=>x _ (F.le l1) _ _ λov h2 t2 l2 r2=>y _ ((F.le l1).le l2) _ _ λiv h3 t3 l3 r3=>by
  cases r2;cases r3;have F3:=((F.le l1).le l2).le l3;have cE:=(r1.le l2).le l3;refine UI (u.has _ _ _ F3.g) ?_;intro kvs p rr nt ns;have hl:=rr.length;refine wpAny_setItem_pairs (knd:=KS c.w) (DL _ _ _) p (λh4 p4 s4=>?_) (by rw[sizeLine_eq];exact Je hl hz rfl);refine Ju (id p4) ?_;intro o4 V V e4 V;have l4:Bu (·=a) h3 h4:=Cp s4 _ e4 nt (by refine V9 p ?_;clear p;intro V V V e V d V;exact Cd.at e (Cd.dict d));have ax:c.X a:=(F3.gx a (u.fp a rfl)).1.1;exact n h4 _ (F3.upd ro u l4 ⟨_,p4,(IS rr cE).move (DR l4 λb z=>z▸ax),nt,ns⟩)) hs
structure Gh(c:Cx)(a:Addr)(X':CG):Prop where
 sub:∀b,c.X b->X' b
 old:c.h0.get? a=none
 out:¬c.X a
theorem Ex.sO{xp lp:Pos}{k v:Expr}{g:Comprehension}{gs:Ed}{sc:Scope}{n:Nat}(F:Bj c w sc n)(j2:∀g'∈g::gs,g'.is_async=0/\∀env x,foldedSetIterable g'.iter env x=pure x)(CO:C9 c J scope J0)(ds:List (D×List (Str×D)))(Fl:Bb c J g.target g.iter (ds.map (·.1)))(FG:∀d∈ds,Turn (λcc=>Sub c cc scope) Jl.dict (dF k v) g gs J0 d.1 d.2)(sz:(ds.flatMap (·.2)).length<=1000000)(he:DC [] (ds.flatMap (·.2))=es)(fl:∀p∈es,p.2.flat=true)(h:∀a,Hs J x (.obj (.ref a))=Ji a)(hk:autoParam (sc.kind=.function) Bd)(hx:autoParam (sc.names.lookup x=some .local) Bd)(hl:autoParam ((xp.line==lp.line && !(scope.names.any λp=>p.1==x&&(p.2==.local||p.2==.cell)))=true) Bd)(p:autoParam (UO x) Bd)(p':autoParam (Zv x) Bd) :
  Ex c J (.Assign [.Name x xp] (.DictComp k v (g::gs) scope lp) pos) (λh=>∃a X',Gh c a X'/\Fr (c.on X' (c.G.star (Bw a es))) (Ji a) h) R:=λs Fs Q E n r=>by
 rw[exec_Assign_Name_used _ _ _ _ (Wi (F.fn hk hx) hl)];refine wpAny_bind (wpAny_standAt (wpAny_bind ?_));show wpAny _ _ (do let _ <- comprehension _ scope c.env _ newDict (firstAsync (g::gs)) (firstIter (g::gs) c.env) (some (assign (.Name x xp) c.env))) _ _ _;rw[DV (j2 g (.head _)).1,Dq];refine wpAny_bind (Fv (Q:=λV s'=>wpAny (model prog c.w) c.A (pure ()) (λV s'=>wpAny (model prog c.w) c.A (pure .next) Q E s') E s') (newAcc:=newDict) (He j2) Jl.dict (o0:={cls:=.type "dict",data:=.dict #[]}) (λM A s Q E h=>wpAny_newObj_type h) rfl (λw X h a e n=>⟨[],C4 e,.nil,n⟩) CO Fl FG sz Fs ?_);intro acc C h' tk m sa sC ba bC ac KL OE l ns Cr;refine EJ Cr ?_;intro vs pl r q8;rw[he]at r;have eA:∃o,h'.get? acc=some o:=by refine Ju pl ?_;clear pl;intro o V V e V;exact⟨o,e⟩
 have eC:∃o,h'.get? C=some o:=by refine Ju ns ?_;clear ns;intro o V V e V;exact⟨o,e⟩
 have F1:Fr (c.plus λb=>b=acc\/b=C) J h':=Fs.plus l λb z=>by
  rcases z with z|z
  .rw [z];exact⟨sa,ba,eA⟩
  .rw [z];exact⟨sC,bC,eC⟩
 have YW:ML c acc:=Fs.new sa ba;have Qf:ML c C:=Fs.new sC bC;have km:Fr ((c.plus (·=acc)).plus (·=C)) J h':=by
  have e:((c.plus (·=acc)).plus (·=C))=c.plus λb=>b=acc\/b=C:=by
   show({c with X:=_}:Cx)={c with X:=_};congr 1;funext b;show((c.X b\/b=acc)\/b=C)=(c.X b\/b=acc\/b=C);rw[or_assoc]
  rw[e];exact F1
 have F2:Fr (((c.plus (·=acc)).plus (·=C)).on ((c.plus (·=acc)).plus (·=C)).X (c.G.star (Bw acc es))) J h':=km.star (T:=Bw acc es) ⟨vs,pl,r.flat fl,KL,by simpa using q8⟩ λb z=>by
  have z':b=acc:=z;rw[z'];exact(YW.off (fp:=(·=acc)) rfl).plus
 refine wpAny_assign_Name (F2.store (s:={s with heap:=h',toks:=tk}) ⟨p,p'⟩ (F.name (.inl hx)) (.obj (.ref acc)) (DG.of (h acc)) λh2 t2 l2 F3=>?_);have iU:h2.Ns C m:=Cm ns λo e=>l2.keep _ o OE (λz=>Hq Qf z) e;refine⟨m,iU,λh3 sb=>wpAny_pure (wpAny_pure (n h3 t2 ⟨acc,DH c.X (·=acc),⟨λb z=>.inl z,YW.2.2.1,YW.1⟩,?_⟩))⟩;have Fb:Fr (c.on (DH c.X (·=acc)) (c.G.star (Bw acc es))) J h':=by
  have l':Fr (c.plus (·=acc)) J h':=Fs.plus l λb z=>by have z':b=acc:=z;rw[z'];exact⟨sa,ba,eA⟩
  exact l'.star (T:=Bw acc es) ⟨vs,pl,r.flat fl,KL,by simpa using q8⟩ λb z=>by
   have z':b=acc:=z;rw[z'];exact YW.off (fp:=(·=acc)) rfl
 refine Fr.drop Fb F3 (λb z=>?_) λb o n e=>(sb.2 b λq=>n.elim (λn=>n q) λn=>Cd.ns iU o (by rw[<- q];exact e) n).trans e;have z':b=C:=z;rw[z'];exact⟨λq=>q.elim Qf.1 λq=>ac q.symm,Qf.2.1,Qf.2.2.1,λq=>q.elim Qf.2.2.2.1 λq=>ac (Eq.symm q),Qf.2.2.2.2.1,Qf.2.2.2.2.2⟩
theorem Fr.Xu{G:Res}(F:Fr (c.on X' (G.star (Bw a es))) J h)(nw:c.h0.get? a=none)(hJ:∀p∈J',p∈J\/(p.2=.dict es/\(p.1,D.obj (.ref a))∈J)):Fr (c.on (λb=>X' b/\¬b=a) G) J' h:=by
 have F':Fr (c.on (λb=>X' b/\¬(Bw a es).fp b) G) J h:=F.Lo (λb z=>by have z':b=a:=z;rw[z'];exact nw) λb o V e=>e;have Y9:Fr (c.on (λb=>X' b/\¬b=a) G) J h:=F';refine{Y9 with names:=λx d m=>?_};rcases hJ _ m with m|⟨e,m⟩
 .exact Y9.names x d m
 .refine Bi (Y9.names _ _ m) ?_;intro v H r;have e':d=.dict es:=e;refine UI F.g.2.1 ?_;intro vs p rr nt ns;cases r;refine⟨_,H,?_⟩;rw[e'];refine B9.dict (λz=>z.2 rfl) nt ns p ?_;exact rr.move (Ce λb z=>z.1)
theorem CE.ej{β γ:Type}{elt t1 i1 t2 i2 t3 i3:Expr}(xs:List α)(Co:α->D)(ys:List β)(Fw:β->D)(zs:List γ)(Xk:γ->D)(g:α->β->γ->D)(CO:C9 c J scope J0)(Fl:Bb c J t1 i1 (xs.map Co))(Jx:α->List (Str×D))(D8:∀x,∀q∈J0,q∈Jx x)(hb:∀x∈xs,∀cc,Sub c cc scope->Bind cc J0 t1 (Co x) (Jx x))(Na:∀x∈xs,∀cc,Sub c cc scope->Bb cc (Jx x) t2 i2 (ys.map Fw))(Jy:α->β->List (Str×D))(IF:∀x y,∀q∈Jx x,q∈Jy x y)(VT:∀x∈xs,∀y∈ys,∀cc,Sub c cc scope->Bind cc (Jx x) t2 (Fw y) (Jy x y))(nD:∀x∈xs,∀y∈ys,∀cc,Sub c cc scope->Bb cc (Jy x y) t3 i3 (zs.map Xk))(Jz:α->β->γ->List (Str×D))(gU:∀x y z,∀q∈Jy x y,q∈Jz x y z)(tm:∀x∈xs,∀y∈ys,∀z∈zs,∀cc,Sub c cc scope->Bind cc (Jy x y) t3 (Xk z) (Jz x y z))(he:∀x∈xs,∀y∈ys,∀z∈zs,∀cc,Sub c cc scope->Ev cc (Jz x y z) elt (g x y z))(sz:(xs.flatMap λx=>ys.flatMap λy=>zs.map (g x y)).length<=1000000)(UE:autoParam (∀e x,Q9 i1 e x) Go)(QO:autoParam (∀e x,Q9 i2 e x) Go)(nR:autoParam (∀e x,Q9 i3 e x) Go) :
  CE c J (.ListComp elt [⟨t1,i1,[],0⟩,⟨t2,i2,[],0⟩,⟨t3,i3,[],0⟩] scope pos) (.list (xs.flatMap λx=>ys.flatMap λy=>zs.map (g x y))):=by
 have e3:∀x y,(zs.map λz=>(Xk z,[g x y z])).flatMap (·.2)=zs.map (g x y):=λx y=>by
  rw[Ak,AB];exact(Fc (λV=>true) (g x y) zs).trans (by rw[show zs.filter (λV=>true)=zs by induction zs<;>simp_all])
 have e2:∀x,(ys.map λy=>(Fw y,zs.map (g x y))).flatMap (·.2)=ys.flatMap λy=>zs.map (g x y):=λx=>by
  rw[Ak,AB,Ak];rfl
 have e:(xs.map λx=>(Co x,ys.flatMap λy=>zs.map (g x y))).flatMap (·.2)=xs.flatMap λx=>ys.flatMap λy=>zs.map (g x y):=by
  rw[Ak,AB,Ak];rfl
 rw[<- e];refine CE.list (J0:=J0) (λg' hg=>by
  refine lE hg ?_ ?_ ?_
  .exact ⟨rfl,UE⟩
  .exact ⟨rfl,QO⟩
  .exact ⟨rfl,nR⟩) CO _ (by rw[AB];exact Fl) (λd hd=>?_) (by rw[e];exact sz)
 refine Bi (AF.mp hd) ?_;rintro x hx rfl;refine⟨Jx x,true,D8 x,hb x hx,λcc sc=>CM.nil,(λhp=>by cases hp),λV=>⟨ys.map λy=>(Fw y,zs.map (g x y)),λcc sc=>by rw[AB];exact Na x hx cc sc,(e2 x).symm,λd hd=>?_⟩⟩;refine Bi (AF.mp hd) ?_;rintro y hy rfl;refine⟨Jy x y,true,IF x y,VT x hx y hy,λcc sc=>CM.nil,(λhp=>by cases hp),λV=>⟨zs.map λz=>(Xk z,[g x y z]),λcc sc=>by rw[AB];exact nD x hx y hy cc sc,(e3 x y).symm,λd hd=>?_⟩⟩;refine Bi (AF.mp hd) ?_;rintro z hz rfl;exact⟨Jz x y z,true,gU x y z,tm x hx y hy z hz,λcc sc=>CM.nil,(λhp=>by cases hp),λV=>⟨g x y z,rfl,λcc sc=>Ih.list (he x hx y hy z hz cc sc)⟩⟩
def JR(c:Cx)(J:B4)(k v:Expr)(g:Comprehension)(gs:Ed)(scope:Scope)(os:B4):Prop:=
 ∃(J0:B4) (ds:List (D×List (Str×D))),(∀g'∈g::gs,g'.is_async=0/\∀env x,foldedSetIterable g'.iter env x=pure x)/\C9 c J scope J0/\Bb c J g.target g.iter (ds.map (·.1))/\
  (∀d∈ds,Turn (λcc=>Sub c cc scope) Jl.dict (dF k v) g gs J0 d.1 d.2)/\os.length<=1000000/\ds.flatMap (·.2)=os
theorem JR.eq{k v:Expr}{g:Comprehension}{gs:Ed}{os rI:B4}(x:JR c J k v g gs scope os)(q:os=rI):JR c J k v g gs scope rI:=q▸x
theorem JR.two{β:Type}{k v t1 i1 t2 i2:Expr}{ifs:Cy}(xs:List α)(Co:α->D)(ys:α->List β)(Fw:α->β->D)(p:α->β->Bool)(gk:α->β->Str)(g:α->β->D)(CO:C9 c J scope J0)(Fl:Bb c J t1 i1 (xs.map Co))(Jx:α->List (Str×D))(D8:∀x,∀q∈J0,q∈Jx x)(hb:∀x∈xs,∀cc,Sub c cc scope->Bind cc J0 t1 (Co x) (Jx x))(Na:∀x∈xs,∀cc,Sub c cc scope->Bb cc (Jx x) t2 i2 ((ys x).map (Fw x)))(Jy:α->β->List (Str×D))(IF:∀x y,∀q∈Jx x,q∈Jy x y)(VT:∀x∈xs,∀y∈ys x,∀cc,Sub c cc scope->Bind cc (Jx x) t2 (Fw x y) (Jy x y))(hi:∀x∈xs,∀y∈ys x,∀cc,Sub c cc scope->CM cc (Jy x y) ifs (p x y))(he:∀x∈xs,∀y∈ys x,p x y=true->∀cc,Sub c cc scope->Ev cc (Jy x y) k (.str (gk x y))/\Ev cc (Jy x y) v (g x y))(sz:(xs.flatMap λx=>((ys x).filter (p x)).map λy=>(gk x y,g x y)).length<=1000000)(UE:autoParam (∀e x,Q9 i1 e x) Go)(QO:autoParam (∀e x,Q9 i2 e x) Go) :
  JR c J k v ⟨t1,i1,[],0⟩ [⟨t2,i2,ifs,0⟩] scope (xs.flatMap λx=>((ys x).filter (p x)).map λy=>(gk x y,g x y)):=by
 have e:(xs.map λx=>(Co x,((ys x).filter (p x)).map λy=>(gk x y,g x y))).flatMap (·.2)=xs.flatMap λx=>((ys x).filter (p x)).map λy=>(gk x y,g x y):=by
  rw[Ak,AB,Ak];rfl
 refine⟨J0,_,(λg' hg=>by
  refine Sd hg ?_ ?_
  .exact ⟨rfl,UE⟩
  .exact ⟨rfl,QO⟩),CO,?_,?_,sz,e⟩
 .rw [AB];exact Fl
 intro d hd;refine Bi (AF.mp hd) ?_;rintro x hx rfl;refine⟨Jx x,true,D8 x,hb x hx,λcc sc=>CM.nil,(λhp=>by cases hp),λV=>⟨(ys x).map λy=>(Fw x y,if p x y then[(gk x y,g x y)]else[]),λcc sc=>by rw[AB];exact Na x hx cc sc,?_,λd hd=>?_⟩⟩
 .rw [Ak,AB];exact(Fc (p x) (λy=>(gk x y,g x y)) (ys x)).symm
 .refine Bi (AF.mp hd) ?_;rintro y hy rfl;exact⟨Jy x y,p x y,IF x y,VT x hx y hy,hi x hx y hy,λhp=>by simp[hp],λhp=>⟨(gk x y,g x y),by simp[hp],λcc sc=>Ih.dict (he x hx y hy hp cc sc).1 (he x hx y hy hp cc sc).2⟩⟩
theorem Ex.lR{xp lp:Pos}{k v:Expr}{g:Comprehension}{gs:Ed}{sc:Scope}{n:Nat}(F:Bj c w sc n){os:B4}(cd:JR c J k v g gs scope os)(he:DC [] os=es)(fl:∀p∈es,p.2.flat=true)(h:∀a,Hs J x (.obj (.ref a))=Ji a)(hk:autoParam (sc.kind=.function) Bd)(hx:autoParam (sc.names.lookup x=some .local) Bd)(hl:autoParam ((xp.line==lp.line && !(scope.names.any λp=>p.1==x&&(p.2==.local||p.2==.cell)))=true) Bd)(p:autoParam (UO x) Bd)(p':autoParam (Zv x) Bd) :
  Ex c J (.Assign [.Name x xp] (.DictComp k v (g::gs) scope lp) pos) (λh=>∃a X',Gh c a X'/\Fr (c.on X' (c.G.star (Bw a es))) (Ji a) h) R:=by
 refine V8 cd ?_;clear cd;intro J0 ds j2 CO Fl ht sz e;exact Ex.sO F j2 CO ds Fl ht (e▸sz) (e▸he) fl h hk hx hl p p'
end
section
open Sem (wp)
open Builtin Builtin.ObjectAttr
variable {w:World}{A:Around}{E:CH}{h:Heap}{g:Array GenState}{d:Drawn}{t:Nat}{os:OsState}{f:Addr}{m:Hx}{name:Str}{v:Value}
theorem VA:typeLookup (.type "function") "__getattribute__"=pure (some (.builtin "object.__getattribute__")):=by rw[Ap,builtinLookup_eq_fast];kernel_rfl
theorem fN:typeLookup (.type "function") "__getattr__"=pure none:=by rw[Ap,builtinLookup_eq_fast];kernel_rfl
theorem I7:typeLookup (.type "function") "attrib"=pure none:=by rw[Ap,builtinLookup_eq_fast];kernel_rfl
theorem RU:typeLookup (.type "function") "tail"=pure none:=by rw[Ap,builtinLookup_eq_fast];kernel_rfl
theorem ZN:typeLookup (.type "function") "makeelement"=pure none:=by rw[Ap,builtinLookup_eq_fast];kernel_rfl
theorem U9:typeLookup (.type "function") "append"=pure none:=by rw[Ap,builtinLookup_eq_fast];kernel_rfl
theorem ZM:typeLookup (.type "function") "itertext"=pure none:=by rw[Ap,builtinLookup_eq_fast];kernel_rfl
def k7(h:Heap)(f:Addr)(m:Hx):Prop:=
 ∃o,h.get? f=some o/\o.cls=.type "function"/\(∃fd,o.data=.func fd)/\((o.dict=none/\∀n,m n=none)\/∃d,o.dict=some d/\d≠f/\h.Ns1 d m)
theorem VE{tk:Tok}{Q:PySem.Fin->Shared->Prop}(hB:typeLookup (.type "function") name=pure none)(I:k7 h f m)(hv:m name=some v)(hq:Q (.done (.ret v)) ⟨h,g,d,t,os⟩) :
  wpAny (model prog w) A (Builtin.«object.__getattribute__» ⟨[.ref f,.str name tk],[]⟩) Q E ⟨h,g,d,t,os⟩:=by
 refine UI I ?_;clear I;intro o hx hc aw hd;rcases hd with⟨_,uW⟩|⟨dx,uE,Hl,Oj⟩
 .rw [uW name]at hv;cases hv
 repeat(first|(with_reducible refine wpAny_loadPart_at hx ?_;rw[hc])|wp_step)
 split
 .rename_i c ak;refine B6 aw ?_;clear aw;intro fd dO;rw[dO]at ak;cases ak
 repeat(first|(with_reducible refine wpAny_loadPart_at hx ?_;rw[hc])|wp_step)
 rw[uE];repeat(first|(with_reducible refine wpAny_nsGet Oj.ns ?_;rw[hv])|wp_step)
 exact hq
theorem PT:Slot "function" "__getattribute__" "object.__getattribute__":=
 .of (owner:="object") (n:="__getattribute__") VA (by decide +kernel) (by decide +kernel) (by decide +kernel) (by first|exact .inl (by decide +kernel)|exact .inr (by decide +kernel)) (by rw[isSubtype_type];kernel_rfl)
theorem PU:Slot "function" "__setattr__" "object.__setattr__":=
 .of (owner:="object") (n:="__setattr__") (by rw[Ap,builtinLookup_eq_fast];kernel_rfl) (by decide +kernel) (by decide +kernel) (by decide +kernel) (by first|exact .inl (by decide +kernel)|exact .inr (by decide +kernel)) (by rw[isSubtype_type];kernel_rfl)
theorem GL{expr:Bool}(hB:typeLookup (.type "function") name=pure none)(I:k7 h f m)(hv:m name=some v)(hh:handedOut v=pure v)(hq:Q v ⟨h,g,d,t+1,os⟩) :
  wpAny (model prog w) A (getAttr (.ref f) name expr) Q E ⟨h,g,d,t,os⟩:=by
 refine EJ (id I) ?_;intro o hx hc V;have lk:=VA;have hT:∀tk,(⟨h,g,d,tk,os⟩:Shared).TypeIs (.ref f) "function":=λV=>⟨o,hx,hc⟩;repeat(first|(with_reducible refine wpAny_loadPart_at hx ?_;rw[hc])|wp_step)
 have tu:(if(expr&&onTheHeap (.builtin "object.__getattribute__"))=true then runValue (.builtin "lifetime.attribute" ⟨[.ref f,.str name t,.builtin "object.__getattribute__"],[]⟩)else boundAndCalled (.builtin "object.__getattribute__") (.ref f) (.str name t))=boundAndCalled (.builtin "object.__getattribute__") (.ref f) (.str name t):=by
  rw[if_neg];rw[show onTheHeap (.builtin "object.__getattribute__")=false from rfl,Bool.and_false];exact Bool.false_ne_true
 rw[tu];refine wpAny_bind (wpAny_of_eq (PT.bind (.ref f)) ?_);refine wpAny_call_entry PT (hT _) F.entry_object_getattribute (VE hB I hv ⟨_,rfl,?_⟩) (F.args_object_getattribute_2 _ _);show wpAny _ _ (handedOut v) _ _ _;rw[hh];exact wpAny_pure hq
theorem Jw:classOwn (.type "function") "__setattr__"=pure none:=by
 rw[builtinOwn_eq_fast];kernel_rfl
theorem Tf(self:Value):refuseLoop self "__setattr__" [.type "function",.type "object"]=pure ():=by
 unfold refuseLoop;simp -iota only[List.forIn_cons];rw[Jw,F.own_object_setattr];rfl
theorem bU:mroOf (.type "function")=pure [.type "function",.type "object"]:=by rw[mroOf_type];kernel_rfl
def Gq(h:Heap)(f:Addr)(dd:Option Addr)(m:Hx):Prop:=
 ∃o,h.get? f=some o/\o.cls=.type "function"/\(∃fd,o.data=.func fd)/\o.dict=dd/\match dd with
  |none=>∀n,m n=none
  |some d=>d≠f/\h.Ns1 d m
theorem Gq.kX{dd:Option Addr}(I:Gq h f dd m):k7 h f m:=by
 refine XA I ?_;clear I;intro o h1 h2 h3 h4 h5;refine⟨o,h1,h2,h3,?_⟩;cases dd with
 |none=>exact .inl ⟨h4,h5⟩
 |some d=>exact .inr ⟨d,h4,h5⟩
theorem VF{tk:Tok}{dd:Option Addr}{Q:PySem.Fin->Shared->Prop}{ns:B3}(hB:typeLookup (.type "function") name=pure none)(I:Gq h f dd m)(hw:Within m ns)(L8:ns.length<=1000)(hq:∀h' Wj d',Gq h' f (some d') (λy=>if y=name then some v else m y)->(dd=some d'\/(dd=none/\d'=h.objs.size))->(∀b o,(b≠f\/dd≠none)->b≠d'->h.get? b=some o->h'.get? b=some o)->Q (.done (.ret .none)) ⟨h',g,d,Wj,os⟩) :
  wpAny (model prog w) A (Builtin.«object.__setattr__» ⟨[.ref f,.str name tk,v],[]⟩) Q E ⟨h,g,d,t,os⟩:=by
 refine XA I ?_;clear I;intro o hx hc aw f9 hd;have uZ:∀c,o.data≠.cls c:=λc z=>by refine B6 aw ?_;clear aw;intro fd dO;rw[dO]at z;cases z
 have uY:=bU;have gN:=Tf (.ref f);repeat(first|rw[refuse_eq]at ⊢ | rw[gN]at ⊢ | (with_reducible refine wpAny_loadPart_at hx ?_;rw[hc]at ⊢)|wp_step)
 have wU:(!true || !typeHasDict (.type "function"))=false:=by decide +kernel
 cases dd with
 |none=>
  rw[f9,wU];simp only[AR,if_false]
  .have qX:(h.push {cls:=.type "dict",data:=.dict #[]}).get? f=some o:=AO _ hx;have nW:f≠h.objs.size:=Nat.ne_of_lt (Ag hx);refine wpAny_bind (wpAny_alloc' ?_);refine wpAny_bind (wpAny_update' qX ?_);have uK:((h.push {cls:=.type "dict",data:=.dict #[]}).update f λo=>{cls:=o.cls,dict:=some h.objs.size,data:=o.data,slots:=o.slots}).get? h.objs.size
     = some {cls:=.type "dict",data:=.dict #[]}:=
    (Heap.get?_update_ne _ _ _ _ nW.symm).trans (Heap.get?_push_at rfl rfl)
   have j1:((h.push {cls:=.type "dict",data:=.dict #[]}).update f λo=>{cls:=o.cls,dict:=some h.objs.size,data:=o.data,slots:=o.slots}).Ns h.objs.size (λV=>none):=
    ⟨_,#[],_,uK,rfl,λe he=>absurd he (by simp),λV=>rfl⟩
   have tC:dictMade (.type "function") f h.objs.size=pure (some h.objs.size):=by
    unfold dictMade;have e:finalisedInACycleAlone "function"=false:=by decide +kernel
    simp -iota only[e,AR,if_false];try rfl
   refine wpAny_of_eq tC ?_;refine wpAny_bind (wpAny_pure (wpAny_bind (wpAny_nsSet1 (Heap.Ns1.of_empty j1) λh' ZW hs=>?_)));refine Mo (ZW.count (Within.cons name v Within.nil)) ?_;intro oD pf pY gK f7 f5;refine wpAny_bind (wpAny_lookBehind gK (by rw[f7];exact pastItsLine_dict (AD f5 (by rw[AZ,BS,sizeLine_eq];exact A1 (0+1) 16777216))) ?_);wp_walk;have QP:h'.get? f=some {cls:=o.cls,dict:=some h.objs.size,data:=o.data,slots:=o.slots}:=by
    refine(hs.2 f nW).trans (BJ _ qX ?_);have qP:=(Heap.get?_some_iff.mp hx).2;obtain⟨oc,od,vT,vU⟩:=o;cases vT<;>first|rfl|exact qP
   refine hq h' _ h.objs.size ⟨_,QP,hc,aw,rfl,nW.symm,?_⟩ (.inr ⟨rfl,rfl⟩) λb ob tn mu hb=>?_
   .refine rC ZW ?_;intro o' es ep e1 e2 e3 eu e4;exact⟨o',es,ep,e1,e2,e3,eu,λy=>by rw[e4 y];by_cases hy:y=name<;>simp -iota[hy,hd y]⟩
   .have mw:b≠f:=tn.resolve_right λz=>z rfl;exact(hs.2 b mu).trans ((Heap.get?_update_ne _ _ _ _ mw).trans (AO _ hb))
 |some dx=>
  rw[f9];refine wpAny_pure ?_;refine wpAny_bind (wpAny_pure (wpAny_bind (wpAny_nsSet1 hd.2 λh' ZW hs=>?_)));refine Mo (ZW.count (Within.cons name v hw)) ?_;intro oD pf pY gK f7 f5;refine wpAny_bind (wpAny_lookBehind gK (by rw[f7];exact pastItsLine_dict (AD f5 (by rw[AZ,sizeLine_eq];omega))) ?_);wp_walk;exact hq h' _ dx ⟨o,(hs.2 f hd.1.symm).trans hx,hc,aw,f9,hd.1,ZW⟩ (.inl rfl) λb ob V mu hb=>(hs.2 b mu).trans hb
theorem Kt{dd:Option Addr}{Q:EU}{ns:B3}(hB:typeLookup (.type "function") name=pure none)(I:Gq h f dd m)(hw:Within m ns)(L8:ns.length<=1000)(hq:∀h' Wj d',Gq h' f (some d') (λy=>if y=name then some v else m y)->(dd=some d'\/(dd=none/\d'=h.objs.size))->(∀b o,(b≠f\/dd≠none)->b≠d'->h.get? b=some o->h'.get? b=some o)->Q () ⟨h',g,d,Wj,os⟩) :
  wpAny (model prog w) A (setAttr (.ref f) name v) Q E ⟨h,g,d,t,os⟩:=by
 refine EJ (id I) ?_;intro o hx hc V;have hT:∀tk,(⟨h,g,d,tk,os⟩:Shared).TypeIs (.ref f) "function":=λV=>⟨o,hx,hc⟩;refine wpAny_bind (wpAny_mkText ?_);refine wpAny_bind (wpAny_callSpecial?_slot (name:=Str.ofString "__setattr__") (hT _) PU (wpAny_call_entry PU (hT _) F.entry_object_setattr (VF hB I hw L8 λh' Wj d' I' e k=>⟨_,rfl,?_⟩) (F.args_object_setattr_3 _ _ _)));exact wpAny_pure (hq h' Wj d' I' e k)
end
theorem IM(x:h.Ns1 a m)(k:∀o,h.get? a=some o->h'.get? a=some o):h'.Ns1 a m:=x.at k
theorem Gq.keep{f:Addr}{dd:Option Addr}(x:Gq h f dd m)(k:∀o,h.get? f=some o->h'.get? f=some o)(k2:∀d,dd=some d->∀o,h.get? d=some o->h'.get? d=some o):Gq h' f dd m:=by
 refine XA x ?_;clear x;intro o h1 h2 h3 h4 h5;refine⟨o,k o h1,h2,h3,h4,?_⟩;cases dd with
 |none=>exact h5
 |some d=>exact⟨h5.1,IM h5.2 (k2 d rfl)⟩
def OH(w:World)(X:CG)(h:Heap)(v:Value)(es:B4):Prop:=
 ∃f dd m ad,v=.ref f/\(¬X f/\f≠TP)/\(¬X dd/\dd≠TP)/\Gq h f (some dd) m/\m (Str.ofString "attrib")=some (.ref ad)/\B9 X w h (.ref ad) (.dict es)
theorem OH.mv(x:OH w X h v es)(k:∀b o,¬X b->b≠TP->h.get? b=some o->h'.get? b=some o/\¬X' b):OH w X' h' v es:=by
 refine rE x ?_;clear x;rintro f dd m ad rfl Cr Dv I e r;refine CC Cr ?_;intro n1 t1;refine CC Dv ?_;intro n2 t2;have h1:∃o,h.get? f=some o:=by refine Bi I ?_;clear I;intro o e V;exact⟨o,e⟩
 have h2:∃o,h.get? dd=some o:=by
  obtain⟨_,_,_,_,_,_,o,_,_,e,_⟩:=I;exact⟨o,e⟩
 refine⟨f,dd,m,ad,rfl,⟨(by refine B6 h1 ?_;clear h1;intro o e;exact(k f o n1 t1 e).2),t1⟩,⟨(by refine B6 h2 ?_;clear h2;intro o e;exact(k dd o n2 t2 e).2),t2⟩,I.keep (λo e=>(k f o n1 t1 e).1) (λd q o e=>?_),e,r.move k⟩;cases q;exact(k _ o n2 t2 e).1
noncomputable def wR(L:List (Value×List (Str×D))):Res where
 fp:=λV=>False
 P:=λw X h=>∀p∈L,OH w X h p.1 p.2
 mv:=λx k p hp=>(x p hp).mv λb o n t e=>by refine CC (k b o (.inr (.inl n)) t e) ?_;intro a z;exact⟨a,z n⟩
theorem Kz(a:Addr):handedOut (.ref a)=pure (.ref a):=rfl
theorem Ev.Pw(hG:∀X h,c.G.P c.w X h->OH c.w X h v es)(x:Ev c J o (.obj v))(he:autoParam (eval (.Attribute o (Str.ofString "attrib") pos) c.env=(do
   let o' <- eval o c.env;standAt pos.atName;let r <- holding [o'] (getAttr o' (Str.ofString "attrib") true);letTemporaryGo o o' r;pure r)) Dz):Ev c J (.Attribute o (Str.ofString "attrib") pos) (.dict es):=λs F Q E q=>
 BQ (x s F _ _ λv' h1 t1 l1 r1=>by
  cases r1;have F1:=F.le l1;refine rE (hG _ _ F1.g) ?_;rintro f dd m ad rfl V V I e r;exact GL I7 I.kX e (Kz _) (q _ h1 _ l1 r)) he
def CU(w:World)(fa:Addr)(k:Nat)(G:Res)(ds:Cs)(d:D)(G':Res):Prop:=
 ∀(A:Around) (X:CG) (s:Shared) (vs:DW),E9 k A->CW w s.heap->FU X s.heap->Bf X w s.heap vs ds->G.P w X s.heap->(∀b,G.fp b->X b)->
 Run w A G.fp (call (.ref fa) vs) s λv h'=>B9 X w h' v d/\G'.P w X h'
def M6(c:Cx)(d:D)(G':Res)(v:Value)(h:Heap):Prop:=B9 c.X c.w h v d/\Bu c.M c.h0 h/\CW c.w h/\G'.P c.w c.X h
theorem FnAt.N3{sc:Scope}{G G':Res}{h0:Heap}(F:FnAt c w sc k X G h0)(mv:∀ {X X':CG}{h:Heap},G'.P w X h->(∀b,X' b->X b)->G'.P w X' h)(r:M6 c d G' v h):FT G h0 (λv h=>B9 X w h v d/\G'.P w X h) v h:=by
 refine Hv r ?_;clear r;intro r1 r2 V r4;rw[F.hM,F.hh]at r2;rw[F.hw]at r1 r4;exact⟨r2,r1.move (Ce F.hX),mv r4 F.hX⟩
theorem Res.CD{G:Res}(g:G.P w X h)(s:∀b,X' b->X b):G.P w X' h:=G.mv g λb o V V e=>⟨e,λn z=>n (s b z)⟩
theorem Kv{f:Addr}{st:Stmt}{qual:Str}{code:Addr}{dflt mod:Value}(fd:CA f st qual code dflt mod){G G':Res}{names:B3}(hb:∀vs:List Value,vs.length=names.length->bindArgs (EW st qual dflt mod (.ref code)) ⟨vs,[]⟩=pure (names.zip vs))(hl:ds.length=names.length)(ck:DZ (BY st) names)(body:∀c X h0,FnAt c w (BY st) k X G h0->Be c (names.zip ds) [Bt st] (λV=>False) (M6 c d G')):CU w f (k+1) G ds d G':=λA X s vs ok B xk r g gx=>by
 have e:vs.length=names.length:=r.length.trans hl;exact RV fd ok B xk (G:=G) g gx r (hb vs e) e.symm ck λc FA=>(body c X s.heap FA).imp (λV z=>z.elim) λv h z=>FA.N3 (λg s=>Res.CD g s) z
theorem Ev.eX{np:Pos}{es:Cy}{fa:Addr}{G:Res}(f:Ev c J (.Name x np) (.obj (.ref fa)))(y:FQ c J (e::es) ds)(g:CU c.w fa k G ds d G)(hk:k<=c.k)(hG:∀X h,c.G.P c.w X h->G.P c.w X h)(qO:∀b,¬G.fp b)(hf:∃st qual code dflt mod,CA fa st qual code dflt mod)(he:autoParam (D9 c e es) Bd):Ev c J (.Call (.Name x np) (e::es) [] pos) d:=
 λs F Q E q=>wpAny_Call_NameR (f s F _ _ λv h1 t1 l1 r1=>by
  cases r1;refine iY hf ?_;clear hf;intro st qual code dflt mod fd;have Ec:Le s.heap h1:=l1;refine BG (o:=Eu st qual dflt mod (.ref code)) (fd:=EW st qual dflt mod (.ref code)) rfl (y pos _ (F.le Ec) _ _ λvs h2 t2 l2 r2=>?_) he;have F2:=(F.le Ec).le l2;exact⟨F2.base.k _ _ (fd.here _),g c.A c.X _ vs (F.ok.CD hk) F2.base F2.Ck r2 (hG _ _ F2.g) (λb z=>absurd z (qO b)) _ _ λv h3 t3 l3 r3=>q v h3 t3 (Bu.trans (Bu.trans l1 l2) (l3.any λb z=>absurd z (qO b))) r3.1⟩)
noncomputable def DP(j:Nat)(row:List Int):LS:=⟨(j:Nat)*2,(j:Nat)*2,9223372036854775807,row⟩
noncomputable def J5(n:Nat):List Int:=(List.range n).map λi=>2+(i:Nat)*2
noncomputable def CZ(a b:B3):Nat->List Int×Int
 |0=>(J5 a.length,0)
 |j+1=>let st:=C5 (b.getD j ⟨#[]⟩) a (DP j (CZ a b j).1) a.length;(st.row,st.res)
noncomputable def Qd(a b:B3)(j:Nat):Int:=(C5 (b.getD j ⟨#[]⟩) a (DP j (CZ a b j).1) a.length).mn
noncomputable def Fd(a b:B3)(m:Int):Int:=if(List.range b.length).any (λj=>decide (m<Qd a b j))then m+1 else(CZ a b b.length).2
theorem LR(a b:B3):∀j,(CZ a b j).1.length=a.length
 |0=>by show(J5 a.length).length=_;unfold J5;rw[AA,List.length_range]
 |j+1=>by
  show(C5 _ a (DP j (CZ a b j).1) a.length).row.length=_;rw[Hm];exact LR a b j
noncomputable abbrev WH(S:UQ)(res:Int)(r:Addr)(a b:B3)(m:Int):List (Str×D):=[(O2,.int res),(Nr,.obj (.ref r)),(nB,S.Co b),(nA,S.Co a),(nM,.int m)]
theorem Vr(S:UQ)(F:Bj c w (BY (Ba 6)) (k+1)){a b:B3}{m:Int}{r:Addr}(ha:S.ok a)(hb:S.ok b)(la:a.length<=1000)(lb:b.length<=1000)(ga:∀x∈a,FE x)(gb:∀x∈b,FE x){Gf:List D->Res}(up:∀ds Ib,Upd (Gf ds) (Dm r ds) (Dm r Ib) (Gf Ib))(hG:c.G=Gf ((J5 a.length).map .int)) :
  Ex c (WH S 0 r a b m) Vp (λh=>(∀j<b.length,¬m<Qd a b j)/\∃X',(∀b,c.X b->X' b)/\Fr (c.on X' (Gf ((CZ a b b.length).1.map .int))) (WH S (CZ a b b.length).2 r a b m) h) (HT c (.int (Fd a b m))):=by
 refine(Ex.aT (ds:=DN 0 1 b.length) F.ro (λj=>∀i<j,¬m<Qd a b i) (λi h=>absurd h (Nat.not_lt_zero _)) (λj=>Gf ((CZ a b j).1.map .int)) (λj=>WH S (CZ a b j).2 r a b m) hG rfl
  (Bb.Qo (Ev.Gn (by decide) rfl (F.kind rfl)) (S.len hb (Ev.Gn (by decide) rfl (F.kind rfl)) Ev.n lb rfl) (by omega)) (λj d hd hΦ X T hX=>?_)).imp (λh z=>?_) λV V z=>z
 .obtain ⟨hj,rfl⟩:j<b.length/\d=.int (j:Nat):=by
   simp only[DN,AL,AS]at hd;refine Bi hd ?_;clear hd;intro j' e1 e2;refine B6 (AP.mp e1) ?_;intro hl e3;rw[List.getElem_range]at e3;rw[List.length_range]at hl;exact⟨hl,by rw[<- e2,<- e3];simp⟩
  have gj:b[j]? = some b[j]:=AU hj;have tS:b.getD j ⟨#[]⟩=b[j]:=by rw[AN,gj];rfl
  have hl:=LR a b j;have F':Bj (c.on X ((Gf ((CZ a b j).1.map .int)).star T)) w (BY (Ba 6)) (k+1):=F.on;refine⟨(O1,.int (j:Nat))::WH S (CZ a b j).2 r a b m,Bind.name ⟨by decide,by decide⟩ (F'.name (.inl rfl)) (DG.of (by rfl)),?_⟩;refine Be.step (J':=[(Qe,.str b[j]),(O1,.int (j:Nat)),(O2,.int (CZ a b j).2),(Nr,.obj (.ref r)),(nB,S.Co b),(nA,S.Co a),(nM,.int m)]) (Ex.EK (d:=.str b[j]) (S.item hb Ev.n Ev.n lb (k:=(j:Nat)) (x:=b[j]) (by exact Int.neg_natCast_le_natCast b.length j)
   (by rw[if_neg (by exact Int.not_ofNat_neg j)];simpa using gj) λV V=>by with_unfolding_all rfl) ⟨by decide,by decide⟩ (F'.name (.inl rfl)) (DG.of (by rfl))) ?_
  refine Be.step (J':=[(O2,.int ((j:Nat)*2)),(Mi,.int ((j:Nat)*2)),(Qe,.str b[j]),(O1,.int (j:Nat)),(Nr,.obj (.ref r)),(nB,S.Co b),(nA,S.Co a),(nM,.int m)])
   (Ex.o5 (d:=.int ((j:Nat)*2)) (J':=[(Mi,.int ((j:Nat)*2)),(Qe,.str b[j]),(O1,.int (j:Nat)),(O2,.int (CZ a b j).2),(Nr,.obj (.ref r)),(nB,S.Co b),(nA,S.Co a),(nM,.int m)])
    (Ev.TV Ev.n (Ev.glob (v:=.int 2 286) (d:=.int 2) (by decide) (F'.kind rfl) λV=>.int _ _) (by omega))
    (Bind.name ⟨by decide,by decide⟩ (F'.name (.inl rfl)) (DG.of (by rfl))) (Bind.name ⟨by decide,by decide⟩ (F'.name (.inl rfl)) (DG.of (by rfl)))) ?_
  refine Be.step (J':=[(YU,.int 9223372036854775807),(O2,.int ((j:Nat)*2)),(Mi,.int ((j:Nat)*2)),(Qe,.str b[j]),(O1,.int (j:Nat)),(Nr,.obj (.ref r)),(nB,S.Co b),(nA,S.Co a),(nM,.int m)])
   (Ex.EK (d:=.int 9223372036854775807) Ev.cInt ⟨by decide,by decide⟩ (F'.name (.inl rfl)) (DG.of (by rfl))) ?_
  refine Be.cons (Ex.sub (J':=d3 S (DP j (CZ a b j).1) b[j] j r a b m) (Fo [0,2,1,3,4,5,6,7,8] rfl) (Vq S (c:=c.on X ((Gf ((CZ a b j).1.map .int)).star T)) F' (st:=DP j (CZ a b j).1) (bc:=b[j]) (j:=j) (b:=b) (m:=m) (r:=r) ha la ga (gb _ (List.getElem_mem hj)) hl (Gf:=λds=>(Gf ds).star T) (λds Ib=>Upd.lf (up ds Ib)) rfl))
   λh zz=>Bi zz λX' Sz Fh=>⟨_,_,?_,Fh,?_⟩
  .exact ⟨rfl,rfl,rfl⟩
  have bH:C5 (b.getD j ⟨#[]⟩) a (DP j (CZ a b j).1) a.length=C5 b[j] a (DP j (CZ a b j).1) a.length:=by rw[tS]
  have gH:Qd a b j=(C5 b[j] a (DP j (CZ a b j).1) a.length).mn:=by rw[<- bH];rfl
  have Mc:CZ a b (j+1)=((C5 b[j] a (DP j (CZ a b j).1) a.length).row,(C5 b[j] a (DP j (CZ a b j).1) a.length).res):=by rw[<- bH];rfl
  generalize C5 b[j] a (DP j (CZ a b j).1) a.length=st at *;have Y9:Bj (c.on X' ((Gf (st.row.map .int)).star T)) w (BY (Ba 6)) (k+1):=F.on;refine Be.if (CL.cmp (Bh.jr Ev.n Ev.n)) (λDx=>?_) λDx=>?_
  .refine Be.ret ((Ex.ret (Ev.Il Ev.n Ev.cInt)).imp (λV z=>z) λv h z=>?_);have au:m<st.mn:=of_decide_eq_true Dx;have e:Fd a b m=m+1:=by
    unfold Fd;rw[if_pos];rw[Aq];exact⟨j,BB.mpr hj,decide_eq_true (gH▸au)⟩
   rw[e];exact HT.on (X:=X') (G:=(Gf (st.row.map .int)).star T) (λb y=>Sz b (hX b y)) z
  .have au:¬m<st.mn:=of_decide_eq_false Dx;refine Be.nil (Be.nil (Be.done λh Fh=>⟨λi hi=>?_,X',λb y=>Sz b (hX b y),?_⟩))
   .by_cases e:i=j
    .rw [e,gH];exact au
    .exact hΦ i (by lia)
   .rw [Mc];have d8:Fr (c.on X' ((Gf (st.row.map .int)).star T)) (d3 S st b[j] j r a b m) h:=Fh;exact d8.sub (Fo [2,5,6,7,8] rfl)
 .have e:(DN 0 1 b.length).length=b.length:=by simp[DN]
  rw[e]at z;exact z
noncomputable def mid(a b:B3):List Str:=(a.drop (B0 a b)).take ((a.drop (B0 a b)).length-B0 (a.drop (B0 a b)).reverse (b.drop (B0 a b)).reverse)
noncomputable def Js(a b:B3):List Str:=(b.drop (B0 a b)).take ((b.drop (B0 a b)).length-B0 (a.drop (B0 a b)).reverse (b.drop (B0 a b)).reverse)
noncomputable def ES(a b:B3)(m:Int):Int:=if m<((b.length:Int)-a.length)*2 then m+1 else Fd a b m
noncomputable def Eh(a b:B3)(m:Int):Int:=
 if a=[]\/b=[]then 2*((a.length:Int)+b.length)
 else if 40<a.length\/40<b.length then m+1
 else if b.length<a.length then ES b a m else ES a b m
noncomputable def Gp(a b:B3)(m:Int):Int:=if a=b then 0 else Eh (mid a b) (Js a b) m
theorem PV{n:Nat}(h:n<=1000):Builtin.Range.small 2 (2*((n:Int)+1)) 2=true:=by
 have L8:Builtin.Range.rangeSize 2 (2*((n:Int)+1)) 2=(n:Nat):=by
  unfold Builtin.Range.rangeSize;rw[if_pos (by decide)];split<;>lia
 unfold Builtin.Range.small;rw[L8,if_pos (by decide)];have fits:∀x:Int,-5000<x->x<5000->Builtin.Range.rangeFitsLong x=true:=λx h1 h2=>by
  unfold Builtin.Range.rangeFitsLong;simp only[Bool.and_eq_true,decide_eq_true_eq];lia
 rw[fits 2 (by decide) (by decide),fits _ (by exact(λ{a b}=>Rat.intCast_lt_intCast.mp) rfl) (by lia),fits (n:Nat) (by exact(λ{a b}=>Rat.intCast_lt_intCast.mp) rfl) (by lia),fits (2*((n:Int)+1)+(2-1)) (by exact(λ{a b}=>Rat.intCast_lt_intCast.mp) rfl) (by lia)];simp
theorem Vo(S:UQ){h0:Heap}(F:FnAt c w (BY (Ba 6)) (k+1) X Res.emp h0){a b:B3}{m:Int}(ha:S.ok a)(hb:S.ok b)(la:a.length<=1000)(lb:b.length<=1000)(ga:∀x∈a,FE x)(gb:∀x∈b,FE x)(hm : -1000000<m/\m<1000000) :
  Be c [(nB,S.Co b),(nA,S.Co a),(nM,.int m)] [(Bt (Ba 6)).drop 12] (λV=>False) (HT c (.int (ES a b m))):=by
 have E:=F.env;have uz:∀J:List (Str×D),(nA,S.Co a)∈J->True:=λV V=>trivial;refine Be.if (CL.cmp (Bh.jr (Ev.TV (Ev.Li (S.len hb (Ev.Gn (by decide) rfl (E.kind rfl)) Ev.n lb rfl) (S.len ha (Ev.Gn (by decide) rfl (E.kind rfl)) Ev.n la rfl)) (Ev.glob (v:=.int 2 286) (d:=.int 2) (by decide) (E.kind rfl) λV=>.int _ _) (by lia))
  Ev.n)) (λh=>?_) λh=>?_
 .refine Be.ret ((Ex.ret (Ev.Il Ev.n Ev.cInt)).imp (λV z=>z) λv h' z=>?_);unfold ES;rw[if_pos (of_decide_eq_true h)];exact z
 .refine Be.nil ?_;have L8:Builtin.Range.rangeSize 2 (2*((a.length:Int)+1)) 2=(a.length:Nat):=by
   unfold Builtin.Range.rangeSize;rw[if_pos (by decide)];split<;>lia
  refine Be.cons (Ex.cO (Ji:=λr=>[(Nr,.obj (.ref r)),(nB,S.Co b),(nA,S.Co a),(nM,.int m)]) (jZ.TN (Ev.Gn (by decide) rfl (E.kind rfl)) (Ev.Gn (by decide) rfl (E.kind rfl)) (Ev.glob (v:=.int 2 286) (d:=.int 2) (by decide) (E.kind rfl) λV=>.int _ _)
   (Ev.TV (a:=2) (b:=(a.length:Int)+1) (Ev.glob (v:=.int 2 286) (d:=.int 2) (by decide) (E.kind rfl) λV=>.int _ _) (Ev.Il (S.len ha (Ev.Gn (by decide) rfl (E.kind rfl)) Ev.n la rfl) Ev.cInt) (by lia))
   (Ev.glob (v:=.int 2 286) (d:=.int 2) (by decide) (E.kind rfl) λV=>.int _ _) (by decide) L8 (PV la) (by omega)) ⟨by decide,by decide⟩ (E.name (.inl rfl)) (λr=>DG.of (by rfl))) λh' zz=>Fq zz λr X' Sz Fh=>⟨c.on X' (c.G.star (Dm r (DN 2 2 a.length))),_,⟨rfl,rfl,rfl⟩,Fh,?_⟩
  have hr:DN 2 2 a.length=(J5 a.length).map .int:=by
   unfold DN J5;rw[AB];rfl
  rw[hr,F.hG];have e2:Fd a b m=ES a b m:=by unfold ES;rw[if_neg (of_decide_eq_false h)]
  have E':Bj (c.on X' (Res.emp.star (Dm r ((J5 a.length).map .int)))) w (BY (Ba 6)) (k+1):=E.on;refine Be.step (J':=WH S 0 r a b m) (Ex.EK (d:=.int 0) Ev.cInt ⟨by decide,by decide⟩ (E'.name (.inl rfl)) (DG.of (by rfl))) ?_;refine Be.cons ((Vr S E' (a:=a) (b:=b) (m:=m) (r:=r) ha hb la lb ga gb (Gf:=λds=>Res.emp.star (Dm r ds)) (λds Ib=>Upd.rt (Upd.self (T:=Dm r ds) (T':=Dm r Ib) λV=>Iff.rfl)) rfl).imp (λV z=>z) λv h2 z=>e2▸HT.on Sz z)
   λh2 ⟨hΦ,X2,Hk,F2⟩=>⟨c.on X2 (Res.emp.star (Dm r ((CZ a b b.length).1.map .int))),_,⟨rfl,rfl,rfl⟩,F2,?_⟩
  refine Be.ret ((Ex.ret Ev.n).imp (λV z=>z) λv h3 z=>?_);have e3:Fd a b m=(CZ a b b.length).2:=by
   unfold Fd;rw[if_neg];rw[Aq];intro Cr;refine Bi Cr ?_;intro j hj hd;exact hΦ j (BB.mp hj) (of_decide_eq_true hd)
  rw[<- e2,e3];exact HT.on (X:=X2) (G:=Res.emp.star (Dm r ((CZ a b b.length).1.map .int))) (λb y=>Hk b (Sz b y)) z
theorem Be.sub{ls:List (List Stmt)}(x:Be c J' ls N R)(s:∀p∈J',p∈J):Be c J ls N R:=λs' F=>x s' (F.sub s)
theorem TK(S:UQ){h0:Heap}(F:FnAt c w (BY (Ba 6)) (k+1) X Res.emp h0){a b:B3}{m:Int}(ha:S.ok a)(hb:S.ok b)(la:a.length<=1000)(lb:b.length<=1000)(ga:∀x∈a,FE x)(gb:∀x∈b,FE x)(hm : -1000000<m/\m<1000000) :
  Be c [(nB,S.Co b),(nA,S.Co a),(nM,.int m)] [(Bt (Ba 6)).drop 9] (λV=>False) (HT c (.int (Eh a b m))):=by
 have E:=F.env;have ta:=S.Lm a ha la;have tb:=S.Lm b hb lb;refine Be.if (b:=decide (a=[]\/b=[])) (CL.eq (CL.XB (CL.not (CL.val Ev.n ta.2)) λV=>CL.not (CL.val Ev.n tb.2)) ?_) (λh=>?_) λh=>?_
 .rw [ta.1,tb.1];cases a<;>cases b<;>simp
 .refine Be.ret ((Ex.ret (Ev.TV (Ev.glob (v:=.int 2 286) (d:=.int 2) (by decide) (E.kind rfl) λV=>.int _ _) (Ev.Il (S.len ha (Ev.Gn (by decide) rfl (E.kind rfl)) Ev.n la rfl) (S.len hb (Ev.Gn (by decide) rfl (E.kind rfl)) Ev.n lb rfl)) (by lia))).imp (λV z=>z) λv h' z=>?_);unfold Eh;rw[if_pos (of_decide_eq_true h)];exact z
 .refine Be.nil (Be.if (b:=decide (40<a.length\/40<b.length)) (CL.eq (CL.XB (CL.cmp (Bh.jr (S.len ha (Ev.Gn (by decide) rfl (E.kind rfl)) Ev.n la rfl) (Ev.glob (v:=.int 40 284) (d:=.int 40) (by decide) (E.kind rfl) λV=>.int _ _)))
   λV=>CL.cmp (Bh.jr (S.len hb (Ev.Gn (by decide) rfl (E.kind rfl)) Ev.n lb rfl) (Ev.glob (v:=.int 40 284) (d:=.int 40) (by decide) (E.kind rfl) λV=>.int _ _))) ?_) (λh2=>?_) λh2=>?_)
  .rw [<- Bool.decide_or];exact decide_eq_decide.mpr (or_congr (by(clear la lb hm;omega)) (by(clear la lb hm;omega)))
  .refine Be.ret ((Ex.ret (Ev.Il Ev.n Ev.cInt)).imp (λV z=>z) λv h' z=>?_);unfold Eh;rw[if_neg (of_decide_eq_false h),if_pos (of_decide_eq_true h2)];exact z
  .refine Be.nil (Be.if (CL.cmp (Bh.ltI (S.len hb (Ev.Gn (by decide) rfl (E.kind rfl)) Ev.n lb rfl) (S.len ha (Ev.Gn (by decide) rfl (E.kind rfl)) Ev.n la rfl))) (λh3=>?_) λh3=>?_)
   .have mZ:b.length<a.length:=by have:=of_decide_eq_true h3;exact(λ{n m}=>Int.ofNat_lt.mp) this
    have e:Eh a b m=ES b a m:=by unfold Eh;rw[if_neg (of_decide_eq_false h),if_neg (of_decide_eq_false h2),if_pos mZ]
    rw[e];refine Be.step (J':=[(nA,S.Co b),(nB,S.Co a),(nM,.int m)]) (Ex.SN (n1:=nA) (n2:=nB) (Ev.tuple (.cons Ev.n (.cons Ev.n .nil)) (by simp)) ⟨by decide,by decide⟩ ⟨by decide,by decide⟩ (E.name (.inl rfl)) (E.name (.inl rfl))
     (J1:=[(nB,S.Co a),(nA,S.Co a),(nM,.int m)]) (DG.of (by rfl)) (DG.of (by rfl)) (by unfold swappedStores Env.blockKind Env.kindOf;rw[E.hs];rfl)) (Be.nil ?_)
    exact(Vo S F hb ha lb la gb ga hm).sub (Fo [1,0,2] rfl)
   .have mZ:¬b.length<a.length:=by have:=of_decide_eq_false h3;(clear la h3;lia)
    have e:Eh a b m=ES a b m:=by unfold Eh;rw[if_neg (of_decide_eq_false h),if_neg (of_decide_eq_false h2),if_neg mZ]
    rw[e];exact Be.nil (Vo S F ha hb la lb ga gb hm)
theorem aa(S:UQ)(w:World)(k:Nat){a b:B3}{m:Int}(ha:S.ok a)(hb:S.ok b)(la:a.length<=1000)(lb:b.length<=1000)(ga:∀x∈a,FE x)(gb:∀x∈b,FE x)(hm : -1000000<m/\m<1000000) :
  DA w 45 (k+2) [S.Co a,S.Co b,.int m] (.int (Gp a b m)):=by
 refine Ef Kq (names:=[nA,nB,nM]) (λvs e=>?_) rfl (.of (by decide +kernel)) λc X h0 F=>?_
 .refine bq (Ov e) ?_;rintro v1 v2 v3 rfl;rfl
 .have E:=F.env;have nz:=HP a b;have rH:S.ok (a.drop (B0 a b)):=S.sub _ _ ha λy hy=>Aj hy;have ib:S.ok (b.drop (B0 a b)):=S.sub _ _ hb λy hy=>Aj hy;refine Be.if (CL.cmp (S.eq ha hb Ev.n Ev.n rfl)) (λh=>?_) λh=>?_
  .refine Be.ret (Ex.ret (Ev.cInt.eq ?_));rw[Gp,if_pos (of_decide_eq_true h)]
  .refine Be.nil (Be.step (J':=[(Jt,.int (0:Nat)),(nA,S.Co a),(nB,S.Co b),(nM,.int m)]) (Ex.EK (d:=.int (0:Nat)) Ev.cInt ⟨by decide,by decide⟩ (E.name (.inl rfl)) (DG.of (by rfl))) (Be.step (bO S F ha hb la lb) ?_));refine Be.step (J':=[(nA,S.Co (a.drop (B0 a b))),(Jt,.int (B0 a b)),(nB,S.Co b),(nM,.int m)]) (Ex.EK (d:=S.Co (a.drop (B0 a b))) ((S.slice ha Ev.n (Part.int Ev.n) Part.no la).eq (by rw[Dj])) ⟨by decide,by decide⟩ (E.name (.inl rfl)) (DG.of (by rfl))) ?_;refine Be.step (J':=[(nB,S.Co (b.drop (B0 a b))),(nA,S.Co (a.drop (B0 a b))),(Jt,.int (B0 a b)),(nM,.int m)]) (Ex.EK (d:=S.Co (b.drop (B0 a b))) ((S.slice hb Ev.n (Part.int Ev.n) Part.no lb).eq (by rw[Dj])) ⟨by decide,by decide⟩ (E.name (.inl rfl)) (DG.of (by rfl))) ?_;refine Be.step (J':=[(Mj,.int (-((0:Nat):Int))),(nB,S.Co (b.drop (B0 a b))),(nA,S.Co (a.drop (B0 a b))),(Jt,.int (B0 a b)),(nM,.int m)]) (Ex.EK (d:=.int (-((0:Nat):Int))) (Ev.cInt.eq rfl) ⟨by decide,by decide⟩ (E.name (.inl rfl)) (DG.of (by rfl))) ?_;refine Be.step (YO S F rH ib (by rw[AM];exact dj la rfl) (by rw[AM];exact dj lb rfl)) ?_;refine Be.step (J':=[(nA,S.Co (mid a b)),(Mj,.int (-(B0 (a.drop (B0 a b)).reverse (b.drop (B0 a b)).reverse:Int))),(nB,S.Co (b.drop (B0 a b))),(Jt,.int (B0 a b)),(nM,.int m)]) (Ex.EK (d:=S.Co (mid a b)) ((S.slice rH Ev.n Part.no (Part.post Ev.n) (by rw[AM];exact dj la rfl)).eq (by rw[H4];rfl)) ⟨by decide,by decide⟩ (E.name (.inl rfl)) (DG.of (by rfl))) ?_;refine Be.step (J':=[(nB,S.Co (Js a b)),(nA,S.Co (mid a b)),(Mj,.int (-(B0 (a.drop (B0 a b)).reverse (b.drop (B0 a b)).reverse:Int))),(Jt,.int (B0 a b)),(nM,.int m)]) (Ex.EK (d:=S.Co (Js a b)) ((S.slice ib Ev.n Part.no (Part.post Ev.n) (by rw[AM];exact dj lb rfl)).eq (by rw[H4];rfl)) ⟨by decide,by decide⟩ (E.name (.inl rfl)) (DG.of (by rfl))) ?_;have s1:∀x∈mid a b,x∈a:=λx hx=>Aj (Ay hx);have s2:∀x∈Js a b,x∈b:=λx hx=>Aj (Ay hx);have e:Gp a b m=Eh (mid a b) (Js a b) m:=by rw[Gp,if_neg (of_decide_eq_false h)]
   rw[e];refine Be.sub (TK S F (S.sub _ _ ha s1) (S.sub _ _ hb s2) (by unfold mid;rw[Ae,AM];exact pJ la) (by unfold Js;rw[Ae,AM];exact pJ lb) (λx hx=>ga x (s1 x hx)) (λx hx=>gb x (s2 x hx)) hm) (Fo [0,1,4] rfl)
noncomputable abbrev C6:Str:=Str.ofString "text"
noncomputable abbrev ch(s:String):Str:=Str.ofString s
noncomputable abbrev Lr:Value:=.str (Str.ofString "cpy313.xml.etree.ElementTree") 582
theorem Ux:CA 223 (Ba 17) (Str.ofString "_escape_cdata") 222 .none Lr:=⟨λP=>rfl,λP=>⟨_,_,_,rfl,rfl,rfl⟩,rfl,rfl,rfl⟩
noncomputable def aP(x:Str):Str:=BX (BX (BX x (ch "&") (ch "&amp;")) (ch "<") (ch "&lt;")) (ch ">") (ch "&gt;")
theorem fV(w:World)(k:Nat)(x:Str)(h0:x.length<=1000)(h1:(BX x (ch "&") (ch "&amp;")).length<=1000)(h2:(BX (BX x (ch "&") (ch "&amp;")) (ch "<") (ch "&lt;")).length<=1000):DA w 223 (k+1) [.str x] (.str (aP x)):=by
 refine Ef Ux (names:=[C6]) (λvs e=>?_) rfl (.of (by decide +kernel)) λc X hh F=>?_
 .refine B6 (MA e) ?_;rintro v1 rfl;rfl
 .have E:=F.env;refine Be.ret (Ex.Ln ?_);refine Be.step (J':=[(C6,.str (BX x (ch "&") (ch "&amp;")))]) (Ex.Kl (.head _) (E.name (.inl rfl)) (DG.of (by rfl)) (by decide) (lb h0 rfl) (by decide) rfl) ?_;refine Be.step (J':=[(C6,.str (BX (BX x (ch "&") (ch "&amp;")) (ch "<") (ch "&lt;")))]) (Ex.Kl (.head _) (E.name (.inl rfl)) (DG.of (by rfl)) (by decide) (lb h1 rfl) (by decide) rfl) ?_;refine Be.step (J':=[(C6,.str (aP x))]) (Ex.Kl (.head _) (E.name (.inl rfl)) (DG.of (by rfl)) (by decide) (lb h2 rfl) (by decide) rfl) ?_;exact Be.ret (Ex.ret (Ev.name (.head _)))
theorem Uy:CA 230 (Ba 18) (Str.ofString "_escape_attrib") 229 .none Lr:=⟨λP=>rfl,λP=>⟨_,_,_,rfl,rfl,rfl⟩,rfl,rfl,rfl⟩
noncomputable def fF(x:Str):Str:=(BX (BX (BX (BX (BX (BX (BX x (ch "&") (ch "&amp;")) (ch "<") (ch "&lt;")) (ch ">") (ch "&gt;")) (ch "\"") (ch "&quot;")) (ch "\r") (ch "&#13;")) (ch "\n") (ch "&#10;")) (ch "\t") (ch "&#09;"))
theorem fW(w:World)(k:Nat)(x:Str)(h0:x.length<=1000)(h1:(BX x (ch "&") (ch "&amp;")).length<=1000)(h2:(BX (BX x (ch "&") (ch "&amp;")) (ch "<") (ch "&lt;")).length<=1000)(h3:(BX (BX (BX x (ch "&") (ch "&amp;")) (ch "<") (ch "&lt;")) (ch ">") (ch "&gt;")).length<=1000)(h4:(BX (BX (BX (BX x (ch "&") (ch "&amp;")) (ch "<") (ch "&lt;")) (ch ">") (ch "&gt;")) (ch "\"") (ch "&quot;")).length<=1000)(h5:(BX (BX (BX (BX (BX x (ch "&") (ch "&amp;")) (ch "<") (ch "&lt;")) (ch ">") (ch "&gt;")) (ch "\"") (ch "&quot;")) (ch "\r") (ch "&#13;")).length<=1000)(h6:(BX (BX (BX (BX (BX (BX x (ch "&") (ch "&amp;")) (ch "<") (ch "&lt;")) (ch ">") (ch "&gt;")) (ch "\"") (ch "&quot;")) (ch "\r") (ch "&#13;")) (ch "\n") (ch "&#10;")).length<=1000):DA w 230 (k+1) [.str x] (.str (fF x)):=by
 refine Ef Uy (names:=[C6]) (λvs e=>?_) rfl (.of (by decide +kernel)) λc X hh F=>?_
 .refine B6 (MA e) ?_;rintro v1 rfl;rfl
 .have E:=F.env;refine Be.ret (Ex.Ln ?_);refine Be.step (J':=[(C6,.str (BX x (ch "&") (ch "&amp;")))]) (Ex.Kl (.head _) (E.name (.inl rfl)) (DG.of (by rfl)) (by decide) (lb h0 rfl) (by decide) rfl) ?_;refine Be.step (J':=[(C6,.str (BX (BX x (ch "&") (ch "&amp;")) (ch "<") (ch "&lt;")))]) (Ex.Kl (.head _) (E.name (.inl rfl)) (DG.of (by rfl)) (by decide) (lb h1 rfl) (by decide) rfl) ?_;refine Be.step (J':=[(C6,.str (BX (BX (BX x (ch "&") (ch "&amp;")) (ch "<") (ch "&lt;")) (ch ">") (ch "&gt;")))]) (Ex.Kl (.head _) (E.name (.inl rfl)) (DG.of (by rfl)) (by decide) (lb h2 rfl) (by decide) rfl) ?_;refine Be.step (J':=[(C6,.str (BX (BX (BX (BX x (ch "&") (ch "&amp;")) (ch "<") (ch "&lt;")) (ch ">") (ch "&gt;")) (ch "\"") (ch "&quot;")))]) (Ex.Kl (.head _) (E.name (.inl rfl)) (DG.of (by rfl)) (by decide) (lb h3 rfl) (by decide) rfl) ?_;refine Be.step (J':=[(C6,.str (BX (BX (BX (BX (BX x (ch "&") (ch "&amp;")) (ch "<") (ch "&lt;")) (ch ">") (ch "&gt;")) (ch "\"") (ch "&quot;")) (ch "\r") (ch "&#13;")))]) (Ex.Kl (.head _) (E.name (.inl rfl)) (DG.of (by rfl)) (by decide) (lb h4 rfl) (by decide) rfl) ?_;refine Be.step (J':=[(C6,.str (BX (BX (BX (BX (BX (BX x (ch "&") (ch "&amp;")) (ch "<") (ch "&lt;")) (ch ">") (ch "&gt;")) (ch "\"") (ch "&quot;")) (ch "\r") (ch "&#13;")) (ch "\n") (ch "&#10;")))]) (Ex.Kl (.head _) (E.name (.inl rfl)) (DG.of (by rfl)) (by decide) (lb h5 rfl) (by decide) rfl) ?_;refine Be.step (J':=[(C6,.str (BX (BX (BX (BX (BX (BX (BX x (ch "&") (ch "&amp;")) (ch "<") (ch "&lt;")) (ch ">") (ch "&gt;")) (ch "\"") (ch "&quot;")) (ch "\r") (ch "&#13;")) (ch "\n") (ch "&#10;")) (ch "\t") (ch "&#09;")))]) (Ex.Kl (.head _) (E.name (.inl rfl)) (DG.of (by rfl)) (by decide) (lb h6 rfl) (by decide) rfl) ?_;exact Be.ret (Ex.ret (Ev.name (.head _)))
theorem Uz:CA 237 (Ba 19) (Str.ofString "_escape_attrib_html") 236 .none Lr:=⟨λP=>rfl,λP=>⟨_,_,_,rfl,rfl,rfl⟩,rfl,rfl,rfl⟩
noncomputable def fG(x:Str):Str:=(BX (BX (BX x (ch "&") (ch "&amp;")) (ch ">") (ch "&gt;")) (ch "\"") (ch "&quot;"))
theorem fX(w:World)(k:Nat)(x:Str)(h0:x.length<=1000)(h1:(BX x (ch "&") (ch "&amp;")).length<=1000)(h2:(BX (BX x (ch "&") (ch "&amp;")) (ch ">") (ch "&gt;")).length<=1000):DA w 237 (k+1) [.str x] (.str (fG x)):=by
 refine Ef Uz (names:=[C6]) (λvs e=>?_) rfl (.of (by decide +kernel)) λc X hh F=>?_
 .refine B6 (MA e) ?_;rintro v1 rfl;rfl
 .have E:=F.env;refine Be.ret (Ex.Ln ?_);refine Be.step (J':=[(C6,.str (BX x (ch "&") (ch "&amp;")))]) (Ex.Kl (.head _) (E.name (.inl rfl)) (DG.of (by rfl)) (by decide) (lb h0 rfl) (by decide) rfl) ?_;refine Be.step (J':=[(C6,.str (BX (BX x (ch "&") (ch "&amp;")) (ch ">") (ch "&gt;")))]) (Ex.Kl (.head _) (E.name (.inl rfl)) (DG.of (by rfl)) (by decide) (lb h1 rfl) (by decide) rfl) ?_;refine Be.step (J':=[(C6,.str (BX (BX (BX x (ch "&") (ch "&amp;")) (ch ">") (ch "&gt;")) (ch "\"") (ch "&quot;")))]) (Ex.Kl (.head _) (E.name (.inl rfl)) (DG.of (by rfl)) (by decide) (lb h2 rfl) (by decide) rfl) ?_;exact Be.ret (Ex.ret (Ev.name (.head _)))
theorem U0:CA 244 (Ba 20) (Str.ofString "_escape_cdata_c14n") 243 .none Lr:=⟨λP=>rfl,λP=>⟨_,_,_,rfl,rfl,rfl⟩,rfl,rfl,rfl⟩
noncomputable def fH(x:Str):Str:=(BX (BX (BX (BX x (ch "&") (ch "&amp;")) (ch "<") (ch "&lt;")) (ch ">") (ch "&gt;")) (ch "\r") (ch "&#xD;"))
theorem fY(w:World)(k:Nat)(x:Str)(h0:x.length<=1000)(h1:(BX x (ch "&") (ch "&amp;")).length<=1000)(h2:(BX (BX x (ch "&") (ch "&amp;")) (ch "<") (ch "&lt;")).length<=1000)(h3:(BX (BX (BX x (ch "&") (ch "&amp;")) (ch "<") (ch "&lt;")) (ch ">") (ch "&gt;")).length<=1000):DA w 244 (k+1) [.str x] (.str (fH x)):=by
 refine Ef U0 (names:=[C6]) (λvs e=>?_) rfl (.of (by decide +kernel)) λc X hh F=>?_
 .refine B6 (MA e) ?_;rintro v1 rfl;rfl
 .have E:=F.env;refine Be.ret (Ex.Ln ?_);refine Be.step (J':=[(C6,.str (BX x (ch "&") (ch "&amp;")))]) (Ex.Kl (.head _) (E.name (.inl rfl)) (DG.of (by rfl)) (by decide) (lb h0 rfl) (by decide) rfl) ?_;refine Be.step (J':=[(C6,.str (BX (BX x (ch "&") (ch "&amp;")) (ch "<") (ch "&lt;")))]) (Ex.Kl (.head _) (E.name (.inl rfl)) (DG.of (by rfl)) (by decide) (lb h1 rfl) (by decide) rfl) ?_;refine Be.step (J':=[(C6,.str (BX (BX (BX x (ch "&") (ch "&amp;")) (ch "<") (ch "&lt;")) (ch ">") (ch "&gt;")))]) (Ex.Kl (.head _) (E.name (.inl rfl)) (DG.of (by rfl)) (by decide) (lb h2 rfl) (by decide) rfl) ?_;refine Be.step (J':=[(C6,.str (BX (BX (BX (BX x (ch "&") (ch "&amp;")) (ch "<") (ch "&lt;")) (ch ">") (ch "&gt;")) (ch "\r") (ch "&#xD;")))]) (Ex.Kl (.head _) (E.name (.inl rfl)) (DG.of (by rfl)) (by decide) (lb h3 rfl) (by decide) rfl) ?_;exact Be.ret (Ex.ret (Ev.name (.head _)))
theorem U1:CA 251 (Ba 21) (Str.ofString "_escape_attrib_c14n") 250 .none Lr:=⟨λP=>rfl,λP=>⟨_,_,_,rfl,rfl,rfl⟩,rfl,rfl,rfl⟩
noncomputable def fI(x:Str):Str:=(BX (BX (BX (BX (BX (BX x (ch "&") (ch "&amp;")) (ch "<") (ch "&lt;")) (ch "\"") (ch "&quot;")) (ch "\t") (ch "&#x9;")) (ch "\n") (ch "&#xA;")) (ch "\r") (ch "&#xD;"))
theorem fZ(w:World)(k:Nat)(x:Str)(h0:x.length<=1000)(h1:(BX x (ch "&") (ch "&amp;")).length<=1000)(h2:(BX (BX x (ch "&") (ch "&amp;")) (ch "<") (ch "&lt;")).length<=1000)(h3:(BX (BX (BX x (ch "&") (ch "&amp;")) (ch "<") (ch "&lt;")) (ch "\"") (ch "&quot;")).length<=1000)(h4:(BX (BX (BX (BX x (ch "&") (ch "&amp;")) (ch "<") (ch "&lt;")) (ch "\"") (ch "&quot;")) (ch "\t") (ch "&#x9;")).length<=1000)(h5:(BX (BX (BX (BX (BX x (ch "&") (ch "&amp;")) (ch "<") (ch "&lt;")) (ch "\"") (ch "&quot;")) (ch "\t") (ch "&#x9;")) (ch "\n") (ch "&#xA;")).length<=1000):DA w 251 (k+1) [.str x] (.str (fI x)):=by
 refine Ef U1 (names:=[C6]) (λvs e=>?_) rfl (.of (by decide +kernel)) λc X hh F=>?_
 .refine B6 (MA e) ?_;rintro v1 rfl;rfl
 .have E:=F.env;refine Be.ret (Ex.Ln ?_);refine Be.step (J':=[(C6,.str (BX x (ch "&") (ch "&amp;")))]) (Ex.Kl (.head _) (E.name (.inl rfl)) (DG.of (by rfl)) (by decide) (lb h0 rfl) (by decide) rfl) ?_;refine Be.step (J':=[(C6,.str (BX (BX x (ch "&") (ch "&amp;")) (ch "<") (ch "&lt;")))]) (Ex.Kl (.head _) (E.name (.inl rfl)) (DG.of (by rfl)) (by decide) (lb h1 rfl) (by decide) rfl) ?_;refine Be.step (J':=[(C6,.str (BX (BX (BX x (ch "&") (ch "&amp;")) (ch "<") (ch "&lt;")) (ch "\"") (ch "&quot;")))]) (Ex.Kl (.head _) (E.name (.inl rfl)) (DG.of (by rfl)) (by decide) (lb h2 rfl) (by decide) rfl) ?_;refine Be.step (J':=[(C6,.str (BX (BX (BX (BX x (ch "&") (ch "&amp;")) (ch "<") (ch "&lt;")) (ch "\"") (ch "&quot;")) (ch "\t") (ch "&#x9;")))]) (Ex.Kl (.head _) (E.name (.inl rfl)) (DG.of (by rfl)) (by decide) (lb h3 rfl) (by decide) rfl) ?_;refine Be.step (J':=[(C6,.str (BX (BX (BX (BX (BX x (ch "&") (ch "&amp;")) (ch "<") (ch "&lt;")) (ch "\"") (ch "&quot;")) (ch "\t") (ch "&#x9;")) (ch "\n") (ch "&#xA;")))]) (Ex.Kl (.head _) (E.name (.inl rfl)) (DG.of (by rfl)) (by decide) (lb h4 rfl) (by decide) rfl) ?_;refine Be.step (J':=[(C6,.str (BX (BX (BX (BX (BX (BX x (ch "&") (ch "&amp;")) (ch "<") (ch "&lt;")) (ch "\"") (ch "&quot;")) (ch "\t") (ch "&#x9;")) (ch "\n") (ch "&#xA;")) (ch "\r") (ch "&#xD;")))]) (Ex.Kl (.head _) (E.name (.inl rfl)) (DG.of (by rfl)) (by decide) (lb h5 rfl) (by decide) rfl) ?_;exact Be.ret (Ex.ret (Ev.name (.head _)))
noncomputable def sg(a:Nat):Str:=⟨#[a]⟩
noncomputable def tx(cs:BZ):Str:=⟨cs.toArray⟩
theorem DY(cs:BZ):(tx cs).length=cs.length:=by show cs.toArray.size=_;simp
theorem Kc(cs:BZ):Str.chars (tx cs)=cs.map sg:=by show cs.toArray.toList.map _=_;simp;intro a V;rfl
theorem Wt{a b:BZ}(h:tx a=tx b):a=b:=by
 have:=congrArg (λs:Str=>s.cps.toList) h;simpa[tx]using this
theorem jA(a:Nat):sg a=tx [a]:=rfl
theorem Ws(a b:BZ):tx a++tx b=tx (a++b):=by
 show(⟨a.toArray++b.toArray⟩:Str)=⟨(a++b).toArray⟩;rw[List.append_toArray]
theorem Ek{a b:Nat}(h:sg a=sg b):a=b:=by have:=Wt (a:=[a]) (b:=[b]) h;simpa using this
theorem Zl(a b:Nat):(sg a=sg b)↔a=b:=⟨Ek,λh=>h▸rfl⟩
theorem Wd(h:∀a∈cs,a<128):PyData.strOk (tx cs)=true:=by
 unfold PyData.strOk tx;rw[List.all_toArray,Ah];intro n hn;have:=h n hn;simp;exact kD this rfl
theorem DT{a:Nat}(h:a<128):PyData.strOk (sg a)=true:=Wd (cs:=[a]) (by simpa using h)
theorem RO(a b:Int):(D.int a).eqv (.int b)=decide (a=b):=by
 show PyData.eqv (.int a) (.int b)=_;rw[PyData.eqv];cases h:a==b<;>simp_all
theorem Bb.eq{t:Expr}{Ib:Cs}(x:Bb c J t e ds)(q:ds=Ib):Bb c J t e Ib:=q▸x
theorem Bb.rg{n:Str}{xp np:Pos}(f:Ev c J (.Name x xp) (.obj (.type "range")))(y:Ev c J e (.int (k:Nat)))(hz:k<=1000000)(he:autoParam (D9 c e []) Bd):Bb c J (.Name n np) (.Call (.Name x xp) [e] [] pos) ((List.range k).map λi=>.int (i:Nat)):=
 Bb.eq (Bb.Qo f y hz he) (by apply AW;intro i V;simp)
theorem Bb.vm{n:Str}{xp np:Pos}{e1 e2:Expr}(f:Ev c J (.Name x xp) (.obj (.type "range")))(y1:Ev c J e1 (.int 1))(y:Ev c J e2 (.int (k:Nat)))(hz:k<=1000000)(he:autoParam (D9 c e1 [e2]) Bd)(Jp:autoParam (D9 c e2 []) Bd)(hp:autoParam ((backTo pos (starEach [e2] c.env)).any (·.1)=false) Bd):Bb c J (.Name n np) (.Call (.Name x xp) [e1,e2] [] pos) ((List.range (k-1)).map λi=>.int ((i+1:Nat):Int)):=
 Bb.eq (Bb.cF f y1 y (by lia) he Jp hp) (by
  rw[Int.toNat_sub k 1];apply AW;intro i V;congr 1;lia)
theorem Ev.oj{pos}{a:Int}{n:Nat}(x:Ev c J l (.int a))(y:Ev c J r (.int (n:Nat)))(h:n<=100)(ha:0<=a/\a<=1000):Ev c J (.BinOp l .Pow r pos) (.int (a^n)):=
 Ev.eq (Ev.ik x y (by lia) ha) (by rw[Int.toNat_natCast])
theorem By(l:List α):l.filter (λV=>true)=l:=by induction l<;>simp_all
theorem Fy(f:α->D)(xs:List α):(JY (xs.map f)).map D.tup=xs.zipIdx.map λp=>D.tup [D.int (p.2:Nat),f p.1]:=by
 unfold JY;rw[List.zipIdx_map,AB,AB];apply AW;intro p V;rfl
theorem getD_some{l:List α}{i:Nat}(d:α)(h:i<l.length):l[i]? = some (l.getD i d):=by
 rw[AN,AU h];rfl
theorem mem_zipIdx{l:List α}{p:α×Nat}(h:p∈l.zipIdx):p.2<l.length/\p.1∈l/\l[p.2]? = some p.1:=by
 have:=List.mem_zipIdx_iff_getElem?.mp h;refine B6 (AP.mp this) ?_;intro hl e;exact⟨hl,e▸List.getElem_mem hl,this⟩
theorem Bh.dG{a b:Int}(x:Ev c J l (.int a))(y:Ev c J r (.int b))(hm:autoParam (behindInMarks .Eq r=false) Dz):Bh c J l .Eq r (decide (a=b)):=
 (Bh.UC (n:=0) (m:=0) x y .int .int (by decide) hm).eq (RO a b)
theorem Bh.mH{a b:Str}(x:Ev c J l (.str a))(y:Ev c J r (.str b))(ha:PyData.strOk a=true)(hb:PyData.strOk b=true)(hm:autoParam (behindInMarks .Eq r=false) Dz):Bh c J l .Eq r (decide (a=b)):=
 (Bh.UC (n:=0) (m:=0) x y (.str ha) (.str hb) (by decide) hm).eq (DK a b)
theorem Bh.mF{a b:Nat}(x:Ev c J l (.str (sg a)))(y:Ev c J r (.str (sg b)))(ha:a<128)(hb:b<128)(hm:autoParam (behindInMarks .Eq r=false) Dz):Bh c J l .Eq r (decide (a=b)):=
 (Bh.mH x y (DT ha) (DT hb) hm).eq (by simp[Zl])
theorem Bb.tx{n:Str}{np:Pos}(x:Ev c J e (.str (tx cs))):Bb c J (.Name n np) e (cs.map λa=>.str (sg a)):=by
 have:=Bb.str (n:=n) (np:=np) x;rwa [Kc,AB]at this
theorem Nv(h:∀a∈cs,a<128):UN (cs.map sg):=λx hx=>by
 refine Bi (AF.mp hx) ?_;rintro a ha rfl;exact⟨rfl,DT (h a ha)⟩
theorem UY(cs:BZ):cat (cs.map sg)=tx cs:=by
 show(⟨((cs.map sg).map HY).toArray⟩:Str)=_;rw[AB,show HY∘sg=id from rfl,List.map_id];rfl
theorem Ev.Om{value slice:Expr}{pos}{i:Nat}{a:Nat}(x:Ev c J value (.str (tx cs)))(y:Ev c J slice (.int (i:Nat)))(h:cs[i]? = some a)(hl:cs.length<=1000)(Nc:∀a∈cs,a<128)(hs:autoParam (∀o i,XE slice o i) Ng):Ev c J (.Subscript value slice pos) (.str (sg a)):=by
 have x':Ev c J value (kU.Co (cs.map sg)):=x.eq (by show _=D.str (cat _);rw[UY]);exact kU.item (Nv Nc) x' y (by rw[AA];exact hl) (by exact Int.neg_natCast_le_natCast (List.map sg cs).length i) (by rw[if_neg (by exact Int.not_ofNat_neg i),Int.toNat_natCast,AL,h];rfl) hs
noncomputable abbrev CY:Value:=.str (Str.ofString "law_ta0106_01") 646
theorem U4:CA 256 (Ba 23) (Str.ofString "_law_ties") 255 .none CY:=⟨λP=>rfl,λP=>⟨_,_,_,rfl,rfl,rfl⟩,rfl,rfl,rfl⟩
noncomputable def EH(n:Nat):List (Nat×Nat):=(List.range (n-1)).flatMap λj=>(List.range (j+1)).map λi=>(i,j+1)
noncomputable def cg(j:Nat):Int:=[1,1,2,6].getD (j-1) 1
noncomputable def FR(first more:Int)(p:(Nat×Nat)×Nat):Bool:=decide ((p.1.1:Int)=first/cg p.1.2%p.1.2)||decide (more/2^p.2%2=1)
noncomputable def SR(n:Nat)(first more:Int):List (Nat×Nat):=((EH n).zipIdx.filter (FR first more)).map (·.1)
theorem D3{n:Nat}{p:Nat×Nat}(h:p∈EH n):p.1<p.2/\1<=p.2/\p.2<n:=by
 refine Bi (Am.mp h) ?_;intro j hj h;refine Bi (AF.mp h) ?_;rintro i hi rfl;rw[BB]at hi hj;exact⟨hi,A1 1 j,Nat.add_lt_of_lt_sub hj⟩
theorem Ql:∀n ≤5,(EH n).length<=10:=by decide
noncomputable def jL(cs:BZ)(p:Nat×Nat):D:=.tup [.str (sg (cs.getD p.1 0)),.str (sg (cs.getD p.2 0))]
theorem fg(w:World)(k:Nat)(cs:BZ)(first more:Int)(h1:1<=cs.length)(h5:cs.length<=5)(Nc:∀a∈cs,a<128):DA w 256 (k+1) [.str (tx cs),.int first,.int more] (.list ((SR cs.length first more).map (jL cs))):=by
 refine Ef U4 (names:=[S "names",S "first",S "more"]) (λvs e=>?_) rfl (.of (by decide +kernel)) λc X h0 F=>?_
 .refine bq (Ov e) ?_;rintro v1 v2 v3 rfl;rfl
 .have E:=F.env;have lr:∀x∈EH cs.length,x.2<5:=λp hp=>Ai (D3 hp).2.2 h5;have len:(EH cs.length).length<=10:=Ql _ h5;have Zc:∀p∈(EH cs.length).zipIdx,p.2<10:=λp hp=>by
   have:=(mem_zipIdx hp).1;exact Ai this len
  refine Be.step (J':=[(S "pairs",.list ((EH cs.length).map λp=>.tup [.int p.1,.int p.2])),(S "names",.str (tx cs)),(S "first",.int first),(S "more",.int more)]) (Ex.cL E (d:=.list ((EH cs.length).map λp=>.tup [.int p.1,.int p.2]))
   (CE.eq (CE.OP (List.range (cs.length-1)) (λj=>.int ((j+1:Nat):Int)) (λj=>List.range (j+1)) (λV i=>.int (i:Nat)) (λV V=>true) (λj i=>.tup [.int (i:Nat),.int ((j+1:Nat):Int)]) (J0:=[]) E.co
    (Bb.vm Ev.b Ev.cInt (Ev.eq (Ev.Nn Ev.b Ev.n (by rw[DY];exact lb h5 rfl)) (by rw[DY])) (lb h5 rfl)) (λj=>[(S "j",.int ((j+1:Nat):Int))]) (λV V h=>by cases h) (λV V V sc=>Bind.n)
    (λj hj cc sc=>Bb.rg Ev.b Ev.n (lb (AD (BB.mp hj) (AD (BN _ _) h5)) rfl)) (λj i=>[(S "i",.int (i:Nat)),(S "j",.int ((j+1:Nat):Int))])
    (λV V V h=>.tail _ h) (λV V V V V sc=>Bind.n) (λV V V V V V=>CM.nil) (λj hj i hi V cc sc=>Ev.tp (.cons Ev.n (.cons Ev.n .nil))) ?_) ?_)) ?_
  .generalize cs.length=n at h5 ⊢;revert n;decide
  .unfold EH;simp only[By,BP,AB];rfl
  .refine Be.ret (Ex.ret (CE.ev (CE.eq (CE.C1 (EH cs.length).zipIdx (λp=>.tup [.int (p.2:Nat),.tup [.int p.1.1,.int p.1.2]]) (FR first more) (λp=>jL cs p.1) (J0:=[(S "names",.str (tx cs)),(S "first",.int first),(S "more",.int more)]) E.co
    (Bb.eq (Bb.enum Ev.b Ev.n) ?_) (λp=>[(S "j",.int p.1.2),(S "i",.int p.1.1),(S "k",.int (p.2:Nat)),(S "names",.str (tx cs)),(S "first",.int first),(S "more",.int more)]) (λV V h=>.tail _ (.tail _ (.tail _ h)))
    (λV V V sc=>Bind.tup (.cons Bind.n (.cons (Bind.tup (.cons Bind.n (.cons Bind.n .nil))) .nil))) (λp hp cc sc=>CM.one (CL.XB (CL.cmp (Bh.dG Ev.n (Ev.MB (Ev.Sn Ev.n (Ev.FH (i:=((p.1.2-1:Nat):Int)) (Ev.ls (.cons Ev.cInt (.cons Ev.cInt (.cons Ev.cInt (.cons Ev.cInt .nil))))) (Ev.eq (Ev.Li Ev.n Ev.cInt) ?_) (by exact BD (p.fst.snd-1)) ?_) ?_) Ev.n ?_)))
     (λV=>CL.cmp (Bh.dG (Ev.MB (Ev.Sn Ev.n (Ev.oj Ev.cInt Ev.n ?_ (by decide)) ?_) Ev.cInt (by decide)) Ev.cInt)))) (λp hp V cc sc=>Ev.tp (.cons (Ev.Om Ev.n Ev.n ?_ (lb h5 rfl) Nc) (.cons (Ev.Om Ev.n Ev.n ?_ (lb h5 rfl) Nc) .nil))) ?_) ?_)))
   .exact Fy _ _
   .refine FP (mem_zipIdx hp) ?_;intro V hm V;have:=D3 hm;congr 1;exact(Int.ofNat_sub this.2.1).symm
   .refine FP (mem_zipIdx hp) ?_;intro V hm V;have:=D3 hm;have h4:=lr _ hm;rw[Int.toNat_natCast];unfold cg;generalize hj:p.1.2-1=j;have z:j<4:=hj▸Nat.lt_succ_of_le (Nat.sub_le_sub_right (Nat.le_of_lt_succ h4) 1);refine dA (show j∈[0,1,2,3]from(BB.mpr z:j∈List.range 4)) ?_ ?_ ?_ ?_<;>rfl
   .refine FP (mem_zipIdx hp) ?_;intro V hm V;have:=D3 hm;have h4:=lr _ hm;unfold cg;generalize hj:p.1.2-1=j;have z:j<4:=hj▸Nat.lt_succ_of_le (Nat.sub_le_sub_right (Nat.le_of_lt_succ h4) 1);refine dA (show j∈[0,1,2,3]from(BB.mpr z:j∈List.range 4)) ?_ ?_ ?_ ?_<;>decide
   .refine FP (mem_zipIdx hp) ?_;intro V hm V;have:=D3 hm;exact Int.natCast_pos.mpr this.2.1
   .have:=Zc p hp;exact Nat.le_of_lt_succ (kD this rfl)
   .have:=Zc p hp;generalize p.2=z at this ⊢;revert z;decide
   .refine FP (mem_zipIdx hp) ?_;intro V hm V;have:=D3 hm;exact getD_some _ (Nat.lt_trans this.1 this.2.2)
   .refine FP (mem_zipIdx hp) ?_;intro V hm V;have:=D3 hm;exact getD_some _ this.2.2
   .rw [List.length_zipIdx];exact lb len rfl
   .unfold SR;rw[AB];rfl
section
open PySem.Sre
noncomputable def CI:Array Nat:=#[14,10,4,1,1,22,0,31,16,127,0,13,7,22,0,31,16,127,0,1]
noncomputable def Df(c:Nat):Bool:=decide (c<=31)||c==127
theorem Un(c:Nat)(a b d:Sre.Seen):∃s',(if(decide (0<=c)&&decide (c<=31))=true then Except.ok (true,a)else if(c==127)=true then Except.ok (true,b)else Except.ok (false,d):Except String (Bool×Sre.Seen))=.ok (Df c,s'):=by
 unfold Df;rw[show decide (0<=c)=true from decide_eq_true (Al c),Bool.true_and];cases decide (c<=31)with
 |true=>exact⟨a,rfl⟩
 |false=>cases c==127 with
  |true=>exact⟨b,rfl⟩
  |false=>exact⟨d,rfl⟩
theorem bJ(c:Nat)(seen:Sre.Seen):∃s',inSet CI c CI.size 5 true seen=.ok (Df c,s'):=Un c _ _ _
theorem YE(c:Nat)(seen:Sre.Seen):∃s',inSet CI c CI.size 13 true seen=.ok (Df c,s'):=Un c _ _ _
theorem L0(m:M)(hc:m.code=CI):∀(fuel s:Nat) (seen:Sre.Seen),m.lim+1-s<=fuel->s<=m.lim->∃r s',m.admitted fuel s seen=.ok (r,s')/\
  (match r with|none=>∀i,s<=i->i<m.lim->Df (m.text.getD i 0)=false|some i=>s<=i/\i<m.lim/\Df (m.text.getD i 0)=true):=by
 intro l;induction l with
 |zero=>exact λs seen hf hs=>by omega
 |succ fuel ih=>
  intro s seen hf hs;by_cases h:s≥m.lim
  .exact ⟨none,seen,if_pos h,λi h1 h2=>absurd (AD h h1) (Nat.not_le_of_lt h2)⟩
  .refine B6 (bJ (m.text.getD s 0) seen) ?_;intro s1 e;rw[<- hc]at e;cases hb:Df (m.text.getD s 0)with
   |true=>
    rw[hb]at e;exact⟨some s,s1,(if_neg h).trans (by rw[e]),Ad _,Nat.lt_of_not_le h,hb⟩
   |false=>
    rw[hb]at e;refine Fq (ih (s+1) s1 (by lia) (Nat.lt_of_not_le h)) ?_;intro r s' e2 p;refine⟨r,s',(if_neg h).trans (by rw[e];exact e2),?_⟩;cases r with
    |none=>exact λi h1 h2=>(Nat.eq_or_lt_of_le h1).elim (λq=>q▸hb) λq=>p i q h2
    |some i=>exact⟨A5 p.1,p.2⟩
noncomputable def m1(text:Array Nat):M:={code:=CI,text:=text,lim:=text.size,start:=0,lastStart:=text.size,pc:=11,pos:=0,handed:=0,marks:=#[],mustAdvance:=false,seen:=({}:Sre.Seen).add 14}
theorem NT(text:Array Nat)(h0:1<=text.size):forSearch CI text 0 0 text.size false=(m1 text).attemptFrom 0 true:=by
 unfold forSearch;have hh:header CI=(1,11):=by decide +kernel
 simp only[hh];refine(if_neg ?_).trans ?_
 .simp only[Bool.or_eq_true,decide_eq_true_eq];lia
 .rfl
theorem PK{m:M}(n:Nat)(h:m.outcome.isSome=true):m.runFor n=m:=by
 cases n with
 |zero=>rfl
 |succ n=>exact if_pos h
theorem GD{m m':M}{n:Nat}(h:m.outcome=none)(e:m.step=m'):m.runFor (n+1)=m'.runFor n:=by
 subst e;exact if_neg (by rw[h];exact Bool.false_ne_true)
theorem PM(text:Array Nat)(h0:1<=text.size):∃m',(forSearch CI text 0 0 text.size false).runFor 4=m'/\(m'.outcome=some .failed/\(∀i<text.size,Df (text.getD i 0)=false)\/m'.outcome=some .matched/\∃i<text.size,Df (text.getD i 0)=true):=by
 rw[NT text h0];unfold M.attemptFrom;have hf:(!(m1 text).hasFirstSet)=false:=by
  show(!((match Sre.ops[CI.getD 0 0]? with|some .INFO=>true|_=>false)&&CI.getD 2 0==4))=false;decide +kernel
 rw[hf,if_neg Bool.false_ne_true];refine Fq (L0 (m1 text) rfl ((m1 text).lim+1-0) 0 (m1 text).seen (Ad _) (Al _)) ?_;intro r s' e p;rw[e];cases r with
 |none=>
  refine⟨_,rfl,.inl ⟨?_,λi hi=>p i (Al _) hi⟩⟩;rw[GD (m':={ {m1 text with seen:=s'}.say false with outcome:=some .failed}) rfl rfl,PK _ rfl]
 |some i=>
  refine FP p ?_;clear p;intro V hi hc;refine⟨_,rfl,.inr ⟨?_,i,hi,hc⟩⟩;have Va:i<text.size:=hi;have tq:Df (text.getD i 0)=true:=hc;let f:Sre.Frame:={wait:=.nextStart,pc:=11,pos:=i,outermost:=true}
  let a0:M:={m1 text with mustAdvance:=false,seen:=s',start:=i,pos:=i,frames:=[f],weight:=1,handed:=i}
  have e0:{m1 text with mustAdvance:=false,seen:=s'}.attemptAt i true=a0:=rfl;show(({m1 text with mustAdvance:=false,seen:=s'}.attemptAt i true).runFor 4).outcome=_;rw[e0];refine B6 (YE (text.getD i 0) (s'.add 13)) ?_;intro s2 e2;rw[tq]at e2;let a1:M:={a0 with seen:=s2,pc:=19,pos:=i+1}
  have Zn:a0.step=a1:=by
   show a0.exec=a1;show(if(i≥text.size)then({a0 with seen:=s'.add 13}).say false else
    match Sre.accepts CI 11 (text.getD i 0) (s'.add 13)with
    |.error why=>({a0 with seen:=s'.add 13}).stick why
    |.ok (false,seen)=>({a0 with seen:=seen}).say false
    |.ok (true,seen)=>{a0 with seen:=seen,pc:=11+itemWidth CI 11,pos:=i+1})=a1
   rw[if_neg (by exact Nat.not_le_of_lt hi)];have ea:Sre.accepts CI 11 (text.getD i 0) (s'.add 13)=inSet CI (text.getD i 0) CI.size 13 true (s'.add 13):=rfl;rw[ea,e2];rfl
  rw[GD rfl Zn];let a2:M:={a1 with seen:=s2.add 1,handed:=i+1,answer:=some true}
  have jD:a1.step=a2:=rfl;rw[GD rfl jD];let a3:M:={a2 with frames:=[],weight:=0,pc:=11,pos:=i,answer:=some true}
  have kW:a2.step=a3:=rfl;rw[GD rfl kW];let a4:M:={a3 with outcome:=some .matched}
  have wC:a3.step=a4:=rfl;rw[GD rfl wC];rfl
end
section
open PySem.Builtin PySem.Builtin.Re
theorem N2{m:PySem.Sre.M}(h:(m.runFor 4).outcome.isSome=true):reDrive (2^64) m=pure (m.runFor 4):=by
 rw[show(2^64:Nat)=18446744073709551615+1 from rfl,reDrive];show(if(m.runFor 4).outcome.isSome=true then pure (m.runFor 4)else _)=_;rw[if_pos h]
section
variable {w:World}{A:Around}{E:CH}{s:Shared}
theorem Oa{M:Model}{f:Nat->PUnit->Sem (ForInStep PUnit)}(hf:∀(i:Nat) (Q:ForInStep PUnit->Shared->Prop) (E:CH) (s:Shared),Q (.yield ⟨⟩) s->wpAny M A (f i ⟨⟩) Q E s) :
  ∀(l:BZ){Q:PUnit->Shared->Prop},Q ⟨⟩ s->wpAny M A (forIn l ⟨⟩ f) Q E s:=by
 intro l;induction l with
 |nil=>intro Q h;rw[List.forIn_nil];exact wpAny_pure h
 |cons i l ih=>
  intro Q h;rw[List.forIn_cons];exact wpAny_bind (hf i _ _ _ (ih h))
theorem Jg{m:PySem.Sre.M}{Q:Option PySem.Sre.M->Shared->Prop}(h:(m.runFor 4).outcome=some .failed/\Q none s\/(m.runFor 4).outcome=some .matched/\Q (some (m.runFor 4)) s):wpAny (model prog w) A (reRunToEnd m) Q E s:=by
 have hs:(m.runFor 4).outcome.isSome=true:=by rcases h with⟨h,_⟩|⟨h,_⟩<;>rw[h]<;>rfl
 refine wpAny_bind (wpAny_of_eq (N2 hs) ?_);refine wpAny_bind (Oa (λi Q E s q=>?_) _ ?_)
 .split
  .exact wpAny_bind (wpAny_rule (wpAny_pure q))
  .exact wpAny_pure q
 .rcases h with⟨h,q⟩|⟨h,q⟩<;>rw[h]<;>exact wpAny_pure q
theorem PZ{t:Tok}{ot:Obj}{Q:ReTarget->Shared->Prop}(h1:s.heap.get? 55=some {cls:=.type "re.Pattern",data:=.fields #[(.str (Str.ofString "[\\x00-\\x1F\\x7F]") 355:Value),(.int 32 378:Value),(.int 0 0:Value),(.none:Value),(.none:Value),(.ref 54:Value),(.int 0 0:Value)]})(h2:s.heap.get? 54=some ot)(h3:ot.data=.seq (CI.map λn:Nat=>Value.int n 0) 0)(hz:x.length<=1000000)(q:Q {pattern:=.ref 55,string:=.str x t,code:=CI,text:=x.cps,kind:=0,groups:=0,pos:=0,lim:=x.cps.size} s) :
  wpAny (model prog w) A (reTarget "re.Pattern.search" "search" ⟨[.ref 55,.str x t],[]⟩) Q E s:=by
 obtain⟨h,g,d,tk,os⟩:=s;have hn:reNamed "re.Pattern.search" "search" ["string","pos","endpos"] 1 [.str x t] []=pure [some (.str x t),none,none]:=by kernel_rfl
 rw[hn];wp_walk;rw[h3];refine wpAny_pure (wpAny_pure (wpAny_pure ?_));have e1:((((some (CI.map λn:Nat=>Value.int n 0)).getD #[]).map reRawOf).map λi:Int=>i.toNat)=CI:=by decide +kernel
 have e2:min (Int.toNat (2^63-1)) x.cps.size=x.cps.size:=Nat.min_eq_right (by have:x.cps.size<=1000000:=hz;omega);have e3:min (Int.toNat 0) x.cps.size=0:=Nat.zero_min _;dsimp only;rw[e1,e2,e3];exact q
theorem O4{t:ReTarget}{m:PySem.Sre.M}(hg:t.groups=0)(h:∀h' a,(∀b o,s.heap.get? b=some o->h'.get? b=some o)->(∃vs,h'.get? a=some {cls:=.type "re.Match",data:=.fields vs})->Q (.ref a) {s with heap:=h'}) :
  wpAny (model prog w) A (reNewMatch t.pattern t.string t.groups t.pos t.lim m) Q E s:=by
 obtain⟨hp,g,d,tk,os⟩:=s;unfold reNewMatch;rw[hg];simp -iota only[List.range_zero,List.flatMap_nil,List.any_nil,AR,if_false];wp_walk;exact h _ _ (λb o e=>AO _ (AO _ e)) ⟨_,AH _ rfl⟩
noncomputable def Dk(x:Str):Bool:=x.cps.any Df
theorem Of(h:∀i<x.cps.size,Df (x.cps.getD i 0)=false):Dk x=false:=by
 unfold Dk;rw[Array.any_eq_false];intro i hi;have:=h i hi;rw[Array.getD_eq_getD_getElem?,BW hi]at this;simpa using this
theorem Og(h:∃i<x.cps.size,Df (x.cps.getD i 0)=true):Dk x=true:=by
 refine Bi h ?_;clear h;intro i hi e;unfold Dk;rw[Array.any_eq_true];refine⟨i,hi,?_⟩;rw[Array.getD_eq_getD_getElem?,BW hi]at e;simpa using e
theorem HE{t:Tok}{ot:Obj}(h1:s.heap.get? 55=some {cls:=.type "re.Pattern",data:=.fields #[(.str (Str.ofString "[\\x00-\\x1F\\x7F]") 355:Value),(.int 32 378:Value),(.int 0 0:Value),(.none:Value),(.none:Value),(.ref 54:Value),(.int 0 0:Value)]})(h2:s.heap.get? 54=some ot)(h3:ot.data=.seq (CI.map λn:Nat=>Value.int n 0) 0)(hz:x.length<=1000000)(hx:1<=x.length)(q0:Dk x=false->Q .none s)(q1:Dk x=true->∀h' a,(∀b o,s.heap.get? b=some o->h'.get? b=some o)->(∃vs,h'.get? a=some {cls:=.type "re.Match",data:=.fields vs})->Q (.ref a) {s with heap:=h'}) :
  wpAny (model prog w) A (Builtin.«re.Pattern.search» ⟨[.ref 55,.str x t],[]⟩) (λfin s'=>∃v,fin=.done (.ret v)/\Q v s') E s:=by
 refine wpAny_bind (PZ h1 h2 h3 hz ?_);refine Bi (PM x.cps hx) ?_;intro m' e h;refine wpAny_bind (Jg ?_);rw[e];rcases h with⟨ho,h⟩|⟨ho,h⟩
 .exact .inl ⟨ho,wpAny_pure ⟨_,rfl,q0 (Of h)⟩⟩
 .exact .inr ⟨ho,wpAny_bind (O4 (t:={pattern:=.ref 55,string:=.str x t,code:=CI,text:=x.cps,kind:=0,groups:=0,pos:=0,lim:=x.cps.size}) rfl λh' a k z=>wpAny_pure ⟨_,rfl,q1 (Og h) h' a k z⟩)⟩
end
end
noncomputable def VC(fx:FuncData)(sc:Scope)(bd:Dy):FuncData:={fx with scope:=sc,globals:=3,closure:=[],builtins:=0,body:=.stmts bd}
theorem RX{f:Addr}{sc:Scope}{bd:Dy}(fx:FuncData)(kd:sc.kind=.function)(ok:E9 (k+1) A)(B:CW w s.heap)(xk:FU X s.heap){G:Res}(g:G.P w X s.heap)(gx:∀b,G.fp b->X b){names:B3}(r:Bf X w s.heap vs ds)(hl:names.length=vs.length)(ck:DZ sc names)(body:∀c h1 t1,FnAt c w sc k X G s.heap->c.A=A.deeper c.env->c.env.frame=some c.env.locals/\(∀x,c.own x)->(c.env.code=fx.code/\c.env.qual=fx.qualname++".<locals>.")->Fr c (names.zip ds) h1->wpAny (model prog c.w) c.A (execs bd c.env) (λf s'=>Q (match f with|.ret v=>v|_=>.none) s')
   (λe s'=>wpAny (model prog c.w) c.A (leaving c.env e) (λV Gd=>E e Gd) (λe' Gd=>E e' Gd) s') {s with heap:=h1,toks:=t1}) :
  wpAny (model prog w) A.in1 (newFunctionEnv (VC fx sc bd).scope (VC fx sc bd).globals (VC fx sc bd).closure (names.zip vs) ((VC fx sc bd).qualname++".<locals>.") (some f) (VC fx sc bd).code none (VC fx sc bd).builtins)
   (λenv s₂=>s₂.heap.NoLimit/\codeAny (model prog w) A (.func bd env) (λr s'=>match r with|.ok (.ret v)=>Q v s'|.ok _=>False|.error e=>E e s') s₂) (λe s'=>E e s') s:=by
 obtain⟨nd,kinds,plain⟩:=ck;have zn:(names.zip vs).map (·.1)=names:=by rw[List.map_fst_zip];exact BM hl
 refine wpAny_newFunctionEnv_cells kd (λp hp=>?_) λenv he s1 I=>?_
 .have hm:p.1∈names:=zn▸Ab (f:=(·.1)) hp;exact(kinds _ hm).imp_right λe=>⟨e,DU (.inl (lookup_mem e))⟩
 subst he;replace I:InCallC s (callEnvC (VC fx sc bd) s.heap.objs.size f).locals (bindL (callEnvC (VC fx sc bd) s.heap.objs.size f).kindOf (names.zip vs) λV=>none) (callEnvC (VC fx sc bd) s.heap.objs.size f).cells (bindC (callEnvC (VC fx sc bd) s.heap.objs.size f).kindOf (names.zip vs) λV=>none) s1:=I;refine⟨B.lim.keeps I.toInCall.keep,codeAny_func ?_⟩;have Oj:=I.toInCall.ns;refine MC I.toInCall.same ?_;rintro h1 t1 rfl;have keep:∀b o,s.heap.get? b=some o->h1.get? b=some o:=I.toInCall.keep;have l1:Le s.heap h1:=Le.of keep;have big:∀ {a:Addr},s.heap.objs.size<=a->s.heap.get? a=none:=λ{a} le=>by
  cases e:s.heap.get? a with
  |none=>rfl
  |some o=>exact absurd (Ag e) (Nat.not_lt.mpr le)
 have sz:=B7 B;let Cj:=callEnvC (VC fx sc bd) s.heap.objs.size f;have cellAt:∀x a,Cj.cells.lookup x=some a->s.heap.objs.size<a/\∃v,h1.IsCell a v:=λx a e=>⟨I.above x a (mem_of_lookup e),_,I.cell x a e⟩;let N1:Addr->Prop:=λb=>b=s.heap.objs.size\/∃x,Cj.cells.lookup x=some b;let c:Cx:={w:=w,A:=A.deeper Cj,env:=Cj,k:=k,X:=DH X N1,G:=G,own:=λV=>True,h0:=s.heap,M:=G.fp,ro:=False}
 have n1:∀b,N1 b->s.heap.get? b=none/\306<=b/\∃o,h1.get? b=some o:=λb z=>by
  rcases z with z|⟨x,e⟩
  .have z':b=s.heap.objs.size:=z;refine Ju Oj ?_;clear Oj;intro o V V eo V;rw[z'];exact⟨Bn _,sz,o,eo⟩
  .obtain ⟨z1,v,o,eo,_⟩:=cellAt x b e;exact⟨big (A4 z1),AD sz (A4 z1),o,eo⟩
 have F:Fr c (names.zip ds) h1:=
  {base:=B.le l1 λV z=>z.elim
   Ck:=λa z=>z.elim (λz=>(xk.le l1) a z) λz=>(n1 a z).2
   kind:=kd,glob:=rfl,blt:=rfl,ok:=ok.deeper Cj
   old:=l1.to
   loc:=⟨.inr (.inl rfl),Bn _,_,Oj⟩
   E0:=λx a e=>by
    obtain⟨z1,v,cv⟩:=cellAt x a e;have na:=big (A4 z1);refine⟨λz=>Aa _ (z▸z1),λz=>(by refine Bi B.tab ?_;intro ps e' V;rw[z]at na;rw[na]at e';cases e'),⟨v,cv⟩,λV=>⟨.inr (.inr ⟨x,e⟩),na⟩⟩
   apart:=λx y a e e'=>name_of_addr I.apart (mem_of_lookup e) (mem_of_lookup e')
   names:=λx d m=>by
    refine Bi (LX r m) ?_;intro v mv rv;have hm:x∈names:=zn▸Ab (f:=(·.1)) mv;have iN:((names.zip vs).map (·.1)).Nodup:=by rw[zn];exact nd
    refine⟨v,⟨plain x hm,?_⟩,(rv.move (ET λb z=>z.imp_right λz=>(n1 b z).1)).le l1⟩;rcases kinds x hm with kl|kc
    .exact .inl ⟨kl,λz=>by have:=B5 B.tab;exact this z,_,Oj,KY mv iN kl⟩
    .refine B6 (A6.mp (DU (n:=s.heap.objs.size+1) (acc:=[]) (.inl (lookup_mem kc)))) ?_;intro a ea;have Xj:Cj.cells.lookup x=some a:=ea;refine CC (cellAt x a Xj) ?_;intro z1 V;refine .inr ⟨a,.inl kc,Xj,λz=>(by refine Bi B.tab ?_;intro ps e' V;rw[z]at z1;rw[big (A4 z1)]at e';cases e'),?_⟩;have cc:=I.cell x a Xj;rwa [KX mv iN (λz=>by have nr:Cj.kindOf x=some .cell:=kc;rw[nr]at z;cases z)]at cc
   g:=G.mv g λb o z nt e=>⟨keep b o e,λnx z=>z.elim nx λz=>by rw[(n1 b z).1]at e;cases e⟩
   gx:=λb z=>by
    obtain⟨_,o,eo⟩:=xk b (gx b z);refine⟨⟨.inl (gx b z),.inr (.inl z)⟩,λy=>?_,λx e=>?_⟩
    .have y':b=s.heap.objs.size:=y;rw[y',Bn]at eo;cases eo
    .rw [big (A4 (cellAt x b e).1)]at eo;cases eo}
 have FA:FnAt c w sc k X G s.heap:=⟨rfl,rfl,rfl,λb z=>.inl z,rfl,rfl,rfl,λz=>z,λx e=>⟨trivial,DU (.inl (lookup_mem e))⟩⟩
 have e0:=body c h1 t1 FA rfl ⟨rfl,λV=>trivial⟩ ⟨rfl,rfl⟩ F;exact wpAny_mono e0 (λf s' z=>by cases f<;>exact z) λV V z=>z
theorem HN{f:Addr}{st:Stmt}{qual:Str}{code:Addr}{dflt mod:Value}(fd:CA f st qual code dflt mod)(ok:E9 (k+1) A)(B:CW w s.heap)(xk:FU X s.heap){G:Res}(g:G.P w X s.heap)(gx:∀b,G.fp b->X b){names:B3}(r:Bf X w s.heap vs ds)(hl:names.length=vs.length)(ck:DZ (BY st) names)(body:∀c h1 t1,FnAt c w (BY st) k X G s.heap->c.A=A.deeper c.env->c.env.frame=some c.env.locals/\(∀x,c.own x)->(c.env.code=.ref code/\c.env.qual=qual++".<locals>.")->Fr c (names.zip ds) h1->wpAny (model prog c.w) c.A (execs (Bt st) c.env) (λf s'=>Q (match f with|.ret v=>v|_=>.none) s')
   (λe s'=>wpAny (model prog c.w) c.A (leaving c.env e) (λV Gd=>E e Gd) (λe' Gd=>E e' Gd) s') {s with heap:=h1,toks:=t1}) :
  wpAny (model prog w) A.in1 (newFunctionEnv (EW st qual dflt mod (.ref code)).scope (EW st qual dflt mod (.ref code)).globals (EW st qual dflt mod (.ref code)).closure (names.zip vs) ((EW st qual dflt mod (.ref code)).qualname++".<locals>.") (some f) (EW st qual dflt mod (.ref code)).code none (EW st qual dflt mod (.ref code)).builtins)
   (λenv s₂=>s₂.heap.NoLimit/\codeAny (model prog w) A (.func (Bt st) env) (λr s'=>match r with|.ok (.ret v)=>Q v s'|.ok _=>False|.error e=>E e s') s₂) (λe s'=>E e s') s:=
 RX (bd:=Bt st) (EW st qual dflt mod (.ref code)) fd.kind ok B xk g gx r hl ck body
theorem NR{f:Addr}{st:Stmt}{qual:Str}{code:Addr}{dflt mod:Value}(fd:CA f st qual code dflt mod)(ok:E9 (k+1) A)(B:CW w s.heap)(xk:FU X s.heap){G:Res}(g:G.P w X s.heap)(gx:∀b,G.fp b->X b){names:B3}(r:Bf X w s.heap vs ds)(hl:names.length=vs.length)(ck:DZ (BY st) names){Post:Ct}(body:∀c,FnAt c w (BY st) k X G s.heap->Be c (names.zip ds) [Bt st] (FT G s.heap Post .none) (FT G s.heap Post))(q:∀a h' tk,Bu G.fp s.heap h'->Post a h'->Q a {s with heap:=h',toks:=tk}) :
  wpAny (model prog w) A.in1 (newFunctionEnv (EW st qual dflt mod (.ref code)).scope (EW st qual dflt mod (.ref code)).globals (EW st qual dflt mod (.ref code)).closure (names.zip vs) ((EW st qual dflt mod (.ref code)).qualname++".<locals>.") (some f) (EW st qual dflt mod (.ref code)).code none (EW st qual dflt mod (.ref code)).builtins)
   (λenv s₂=>s₂.heap.NoLimit/\codeAny (model prog w) A (.func (Bt st) env) (λr s'=>match r with|.ok (.ret v)=>Q v s'|.ok _=>False|.error e=>E e s') s₂) (λe s'=>E e s') s:=
 HN fd ok B xk g gx r hl ck λc h1 t1 FA V V V F=>
  wpAny_mono (body c FA {s with heap:=h1,toks:=t1} F (λf s'=>Q (match f with|.ret v=>v|_=>.none) s') _ (λh2 t2 z=>q _ h2 t2 z.1 z.2) λv h2 t2 z=>q v h2 t2 z.1 z.2)
   (λf s' z=>by cases f<;>exact z) λV V z=>z
theorem VD{f:Addr}{st:Stmt}{qual:Str}{code:Addr}{dflt mod:Value}(fd:CA f st qual code dflt mod)(ok:E9 (k+1) A)(B:CW w s.heap)(xk:FU X s.heap){G:Res}(g:G.P w X s.heap)(gx:∀b,G.fp b->X b){names:B3}{Ww:DW}{kw:Di}(r:Bf X w s.heap vs ds)(hb:bindArgs (EW st qual dflt mod (.ref code)) ⟨Ww,kw⟩=pure (names.zip vs))(hl:names.length=vs.length)(ck:DZ (BY st) names){Post:Ct}(body:∀c,FnAt c w (BY st) k X G s.heap->Be c (names.zip ds) [Bt st] (FT G s.heap Post .none) (FT G s.heap Post)):Run w A G.fp (call (.ref f) Ww kw) s Post:=λQ E q=>by
 refine wpAny_call ?_;refine Mo (fd.code w.params) ?_;intro oc vc tc ec dc qc;refine A7 (o:=Eu st qual dflt mod (.ref code)) (fd:=EW st qual dflt mod (.ref code)) ok.room (B.k _ _ (fd.here w.params)) rfl fd.plain.1 fd.plain.2 rfl ⟨code,oc,vc,tc,rfl,B.k _ _ ec,dc,qc⟩ ?_;rw[hb];exact wpAny_pure (NR fd ok B xk (G:=G) g gx r hl ck body q)
theorem OY{f:Addr}{st:Stmt}{qual:Str}{code:Addr}{dflt mod:Value}(fd:CA f st qual code dflt mod)(ok:E9 (k+1) A)(B:CW w s.heap)(xk:FU X s.heap){G:Res}(g:G.P w X s.heap)(gx:∀b,G.fp b->X b){names:B3}{Ww:DW}{kw:Di}(hb:∀(Q:List (Str×Value)->Shared->Prop) (E:CH),(∀h1 tk vs,Le s.heap h1->Bf X w h1 vs ds->names.length=vs.length->Q (names.zip vs) {s with heap:=h1,toks:=tk})->wpAny (model prog w) A.in1 (bindArgs (EW st qual dflt mod (.ref code)) ⟨Ww,kw⟩) Q E s)(ck:DZ (BY st) names){Post:Ct}(body:∀c h0,FnAt c w (BY st) k X G h0->Be c (names.zip ds) [Bt st] (FT G h0 Post .none) (FT G h0 Post)):Run w A G.fp (call (.ref f) Ww kw) s Post:=λQ E q=>by
 refine wpAny_call ?_;have ho:=B.k _ _ (fd.here w.params);refine Mo (fd.code w.params) ?_;intro oc vc tc ec dc qc;refine A7 (o:=Eu st qual dflt mod (.ref code)) (fd:=EW st qual dflt mod (.ref code)) ok.room ho rfl fd.plain.1 fd.plain.2 rfl ⟨code,oc,vc,tc,rfl,B.k _ _ ec,dc,qc⟩ ?_;refine hb _ _ λh1 tk vs l1 r1 hl=>?_;exact NR (s:={s with heap:=h1,toks:=tk}) fd ok (B.le l1 λV z=>z.elim) (xk.le l1) (G:=G) (G.mv g λb o z nt e=>⟨l1.keep b o nt id e,id⟩) gx r1 hl ck (λc F=>body c h1 F) λa h' t l p=>q a h' t (Bu.trans l1.to l) p
section
open PySem.Builtin PySem.Builtin.Str
noncomputable def Fe(s sub:Str)(hi limit:Nat)(r:Array Nat×Nat)(i:Nat):Array Nat×Nat:=
 if(decide (r.1.size<limit)&&decide (r.2<=i)&&decide (i+sub.length<=hi)&&subAt s sub i)=true then(r.1.push i,i+sub.length)else r
theorem WA(s sub:Str)(lo hi limit:Nat):occurrences s sub lo hi limit=((List.range' lo (hi+1-lo)).foldl (Fe s sub hi limit) (#[],lo)).1.toList:=by
 have key:∀(l:BZ) (r:Array Nat×Nat),(forIn l r λi (q:Array Nat×Nat)=>
   (if(decide (q.1.size<limit)&&decide (q.2<=i)&&decide (i+sub.length<=hi)&&subAt s sub i)=true then(pure (ForInStep.yield (q.1.push i,i+sub.length)):Id (ForInStep (Array Nat×Nat)))else pure (ForInStep.yield (q.1,q.2))))=l.foldl (Fe s sub hi limit) r:=λl=>by
  induction l with
  |nil=>intro r;rfl
  |cons i l ih=>
   intro r;rw[List.forIn_cons,As];unfold Fe;split
   .exact ih (r.1.push i,i+sub.length)
   .exact ih r
 have:=key (List.range' lo (hi+1-lo)) (#[],lo);have sz:([lo:hi+1]:Std.Legacy.Range).size=hi+1-lo:=by simp[Std.Legacy.Range.size]
 have e2:(forIn ([lo:hi+1]:Std.Legacy.Range) ((#[],lo):Array Nat×Nat) λi (q:Array Nat×Nat)=>
   (if(decide (q.1.size<limit)&&decide (q.2<=i)&&decide (i+sub.length<=hi)&&subAt s sub i)=true then(pure (ForInStep.yield (q.1.push i,i+sub.length)):Id (ForInStep (Array Nat×Nat)))else pure (ForInStep.yield (q.1,q.2))))=(List.range' lo (hi+1-lo)).foldl (Fe s sub hi limit) (#[],lo):=by
  rw[Std.Legacy.Range.forIn_eq_forIn_range',sz];exact this
 exact congrArg (λq:Array Nat×Nat=>q.1.toList) e2
theorem We(x:BZ)(a i:Nat)(hi:i<x.length):subAt (tx x) (sg a) i=(x[i]? == some a):=by
 unfold subAt;show(x.toArray.extract i (i+1) == #[a])=_;have e:x.toArray.extract i (i+1)=#[x[i]]:=by
  apply Array.ext';rw[Array.toList_extract];simp only[List.extract_eq_take_drop];rw[show i+1-i=1 by exact Nat.add_sub_self_left i 1];rw[List.drop_eq_getElem_cons hi];rfl
 rw[e,AU hi];by_cases h:x[i]=a
 .simp [h]
 .rw [show(some x[i]==some a)=false by simpa using h];simp[h]
theorem Yc(x:BZ)(a limit:Nat):occurrences (tx x) (sg a) 0 (tx x).length limit=((List.range x.length).filter λi=>x[i]? == some a).take limit:=by
 rw[WA,DY];have key:∀n ≤x.length,∃fr,(List.range' 0 n).foldl (Fe (tx x) (sg a) x.length limit) (#[],0)=((((List.range' 0 n).filter λi=>x[i]? == some a).take limit).toArray,fr)/\fr<=n:=λn=>by
  induction n with
  |zero=>intro V;exact⟨0,by simp,Ad _⟩
  |succ n ih=>
   intro hn;refine Bi (ih (by exact A5 hn)) ?_;intro fr e hf;rw[List.range'_concat,BH,e];simp only[Nat.zero_add,Nat.one_mul,As,List.foldl_nil,List.filter_append];unfold Fe;rw[We x a n (by exact Nat.lt_of_succ_le hn),show(sg a).length=1 from rfl];dsimp only;rw[AY];have Oi:decide (fr<=n)=true:=decide_eq_true hf;have Jo:decide (n+1<=x.length)=true:=decide_eq_true hn;rw[Oi,Jo,Bool.and_true,Bool.and_true];generalize((List.range' 0 n).filter λi=>x[i]? == some a)=L;cases hx:(x[n]? == some a)with
   |false=>
    simp only[Bool.and_false,AR,if_false];refine⟨fr,?_,by exact Aw hf⟩;simp[hx]
   |true=>
    simp only[Bool.and_true];rw[List.filter_cons_of_pos (by simpa using hx),List.filter_nil];rw[Ae];by_cases hl:L.length<limit
    .rw [if_pos (by simp;(clear ih;lia))];refine⟨n+1,?_,Ad _⟩;rw[List.take_of_length_le (by exact A5 hl),List.take_of_length_le (by simp;exact Nat.succ_le_of_lt hl)];simp
    .rw [if_neg (by simp;lia)];refine⟨fr,?_,by exact Aw hf⟩;rw[List.take_append_of_le_length (by exact Nat.le_of_not_lt hl)]
 refine Bi (key x.length (Ad _)) ?_;intro fr e hf;have last:(List.range' 0 (x.length+1-0)).foldl (Fe (tx x) (sg a) x.length limit) (#[],0)=((((List.range' 0 x.length).filter λi=>x[i]? == some a).take limit).toArray,fr):=by
  rw[Nat.sub_zero,List.range'_concat,BH,e];simp only[As,List.foldl_nil];unfold Fe;rw[if_neg];have:decide (0+1*x.length+(sg a).length<=x.length)=false:=decide_eq_false (by rw[show(sg a).length=1 from rfl];lia);rw[this];simp
 rw[last,List.range_eq_range']
theorem JX(x:BZ)(a:Nat):Txt.contains (tx x) (sg a)=x.contains a:=by
 unfold Txt.contains;rw[Yc];cases h:x.contains a with
 |true=>
  obtain⟨i,hi,e⟩:=List.getElem_of_mem (by simpa using h:a∈x);have m:i∈(List.range x.length).filter λi=>x[i]? == some a:=Az.mpr ⟨BB.mpr hi,by rw[AU hi,e];simp⟩;cases hl:((List.range x.length).filter λi=>x[i]? == some a)with
  |nil=>rw[hl]at m;cases m
  |cons b l=>rfl
 |false=>
  have e:((List.range x.length).filter λi=>x[i]? == some a)=[]:=by
   rw[List.filter_eq_nil_iff];intro i hi z;have Va:=BB.mp hi;rw[AU Va]at z;have z':x[i]=a:=by simpa using z
   have:x.contains a=true:=by simpa using z'▸List.getElem_mem Va
   rw[h]at this;cases this
  rw[e];rfl
end
structure ZA(z TI TO i1 i2:Addr):Prop where
 a1:TI≠z
 a2:TO≠z
 a3:i1≠z
 a4:i2≠z
 a5:TI≠TO
 a6:TI≠i1
 a7:TI≠i2
 a8:TO≠i1
 a9:TO≠i2
 a10:i1≠i2
abbrev Zs(h:Heap)(i:Addr)(x:Str)(t:Tok)(k:Nat):Prop:=h.IsStrIter i "str_ascii_iterator" x t k
structure ZS(z TI TO i1 i2:Addr)(x y:Str)(t u:Tok)(f:Value)(k:Nat)(h:Heap):Prop where
 z:IsZip h z TI TO f
 i:IsPair h TI (.ref i1) (.ref i2)
 o:∃a b,IsPair h TO a b
 p:Zs h i1 x t k
 q:Zs h i2 y u k
section
variable {w:World}{A:Around}{E:CH}{s:Shared}{z TI TO i1 i2:Addr}{x y:Str}{t u:Tok}{k:Nat}
theorem Y8{a b:Nat}(D:ZA z TI TO i1 i2)(S:ZS z TI TO i1 i2 x y t u .none k s.heap)(hx:x.cps[k]? = some a)(hy:y.cps[k]? = some b)(hQ:∀h' tk ta tb,ZS z TI TO i1 i2 x y t u (rawInt s.heap.objs.size) (k+1) h'->IsPair h' s.heap.objs.size (.str ⟨#[a]⟩ ta) (.str ⟨#[b]⟩ tb)->
   (∀c o,c≠z->c≠TO->c≠i1->c≠i2->s.heap.get? c=some o->h'.get? c=some o)->Q (.ref s.heap.objs.size) {s with heap:=h',toks:=tk}) :
  wpAny (model prog w) A (Builtin.«zip.__next__» ⟨[.ref z],[]⟩) (λfin s'=>∃v,fin=.done (.ret v)/\Q v s') E s:=by
 obtain⟨hz,ZP,⟨o1,o2,dM⟩,h1,h2⟩:=S;show wpAny _ _ (field (.ref z) 2 >>= _) _ _ _;refine wpAny_bind (wpAny_field hz rfl (x:=.bool false) rfl ?_);refine wpAny_bind (wpAny_field hz rfl (x:=.ref TI) rfl ?_);refine wpAny_bind (wpAny_seqItems ZP rfl ?_);refine wpAny_bind ?_;refine wpAny_bind (wpAny_field hz rfl (x:=.none) rfl (wpAny_pure ?_));simp -iota only[if_true];refine wpAny_bind (wpAny_rule ?_);refine wpAny_bind (wpAny_field hz rfl (x:=.ref TO) rfl ?_);refine wpAny_bind (wpAny_setField_rec hz (by simp) λg1 z1 s1=>?_);replace z1:IsZip g1 z TI TO .ellipsis:=z1;refine wpAny_bind ?_;simp -iota only[List.zipIdx_cons,List.zipIdx_nil,List.forIn_cons,List.forIn_nil];refine wpAny_bind (wpAny_bind (wpAny_onRaise ?_));have p1:Zs g1 i1 x t k:=by refine Bi h1 ?_;clear h1;intro o e r;exact⟨o,s1.extBut _ _ D.a3 e,r⟩
 refine wpAny_bind (wpAny_nextOf_ascii_item p1 hx λg2 p2 s2=>wpAny_pure ?_);have t2:IsPair g2 TO o1 o2:=s2.extBut _ _ D.a8 (s1.extBut _ _ D.a2 dM);refine wpAny_bind (wpAny_seqItems t2 rfl ?_);refine wpAny_bind (wpAny_updateSeq_pair t2 λg3 t3 s3=>?_);replace t3:IsPair g3 TO (.str ⟨#[a]⟩ s.toks) o2:=t3;refine wpAny_bind (wpAny_letGo (wpAny_pure ?_));refine wpAny_bind (wpAny_bind (wpAny_onRaise ?_));have q3:Zs g3 i2 y u k:=by refine Bi h2 ?_;clear h2;intro o e r;exact⟨o,s3.extBut _ _ D.a9.symm (s2.extBut _ _ D.a10.symm (s1.extBut _ _ D.a4 e)),r⟩
 refine wpAny_bind (wpAny_nextOf_ascii_item q3 hy λg4 q4 s4=>wpAny_pure ?_);have t4:IsPair g4 TO (.str ⟨#[a]⟩ s.toks) o2:=s4.extBut _ _ D.a9 t3;refine wpAny_bind (wpAny_seqItems t4 rfl ?_);refine wpAny_bind (wpAny_updateSeq_pair t4 λg5 t5 s5=>?_);replace t5:IsPair g5 TO (.str ⟨#[a]⟩ s.toks) (.str ⟨#[b]⟩ (s.toks+1)):=t5;refine wpAny_bind (wpAny_letGo (wpAny_pure (wpAny_pure ?_)));refine wpAny_bind (wpAny_seqItems t5 rfl ?_);refine wpAny_bind (wpAny_newTuple ?_);have L8:g5.objs.size=s.heap.objs.size:=by rw[s5.1,s4.1,s3.1,s2.1,s1.1]
 have z5:IsZip g5 z TI TO .ellipsis:=s5.extBut _ _ D.a2.symm (s4.extBut _ _ D.a4.symm (s3.extBut _ _ D.a2.symm (s2.extBut _ _ D.a3.symm z1)));have k5:∀c o,c≠z->c≠TO->c≠i1->c≠i2->s.heap.get? c=some o->g5.get? c=some o:=λc o c1 c2 c3 c4 e=>
  s5.extBut _ _ c2 (s4.extBut _ _ c4 (s3.extBut _ _ c2 (s2.extBut _ _ c3 (s1.extBut _ _ c1 e))))
 have p5:Zs g5 i1 x t (k+1):=by refine Bi p2 ?_;clear p2;intro o e r;exact⟨o,s5.extBut _ _ D.a8.symm (s4.extBut _ _ D.a10 (s3.extBut _ _ D.a8.symm e)),r⟩
 have q5:Zs g5 i2 y u (k+1):=by refine Bi q4 ?_;clear q4;intro o e r;exact⟨o,s5.extBut _ _ D.a9.symm e,r⟩
 have lz:z<g5.objs.size:=Ag z5;refine wpAny_bind ?_;have z6:IsZip (g5.push {cls:=.type "tuple",data:=.seq #[.str ⟨#[a]⟩ s.toks,.str ⟨#[b]⟩ (s.toks+1)]}) z TI TO .ellipsis:=AO _ z5;refine wpAny_bind (wpAny_setField_rec z6 (by simp) λg7 z7 s7=>?_);replace z7:IsZip g7 z TI TO (rawInt g5.objs.size):=z7;refine wpAny_setField_rec z7 (by simp) λg8 z8 s8=>?_;have up:∀c o,c≠z->g5.get? c=some o->g8.get? c=some o:=λc o c1 e=>s8.extBut _ _ c1 (s7.extBut _ _ c1 (AO _ e));have r8:IsPair g8 g5.objs.size (.str ⟨#[a]⟩ s.toks) (.str ⟨#[b]⟩ (s.toks+1)):=s8.extBut _ _ (Nat.ne_of_gt lz) (s7.extBut _ _ (Nat.ne_of_gt lz) (AH _ rfl));rw[L8]at z8 r8;refine wpAny_pure ⟨_,rfl,?_⟩;rw[L8];refine hQ g8 _ _ _ ⟨z8,up _ _ D.a1 ?_,⟨_,_,up _ _ D.a2 t5⟩,?_,?_⟩ r8 λc o c1 c2 c3 c4 e=>up c o c1 (k5 c o c1 c2 c3 c4 e)
 .exact k5 _ _ D.a1 D.a5 D.a6 D.a7 ZP
 .refine Bi p5 ?_;clear p5;intro o e r;exact⟨o,up _ _ D.a3 e,r⟩
 .refine Bi q5 ?_;clear q5;intro o e r;exact⟨o,up _ _ D.a4 e,r⟩
theorem c6{Q:Fin->Shared->Prop}(hh:A.handled=none)(D:ZA z TI TO i1 i2)(S:ZS z TI TO i1 i2 x y t u .none k s.heap)(hx:x.cps[k]? = none)(hE:∀h' e,(∀c o,c≠z->c≠TO->c≠i1->c≠i2->s.heap.get? c=some o->h'.get? c=some o)->(∃o,h'.get? e=some o/\o.cls=.type "StopIteration")->E (.ref e) {s with heap:=h'}) :
  wpAny (model prog w) A (Builtin.«zip.__next__» ⟨[.ref z],[]⟩) Q E s:=by
 obtain⟨hz,ZP,⟨o1,o2,dM⟩,h1,h2⟩:=S;show wpAny _ _ (field (.ref z) 2 >>= _) _ _ _;refine wpAny_bind (wpAny_field hz rfl (x:=.bool false) rfl ?_);refine wpAny_bind (wpAny_field hz rfl (x:=.ref TI) rfl ?_);refine wpAny_bind (wpAny_seqItems ZP rfl ?_);refine wpAny_bind ?_;refine wpAny_bind (wpAny_field hz rfl (x:=.none) rfl (wpAny_pure ?_));simp -iota only[if_true];refine wpAny_bind (wpAny_rule ?_);refine wpAny_bind (wpAny_field hz rfl (x:=.ref TO) rfl ?_);refine wpAny_bind (wpAny_setField_rec hz (by simp) λg1 z1 s1=>?_);replace z1:IsZip g1 z TI TO .ellipsis:=z1;refine wpAny_bind ?_;simp -iota only[List.zipIdx_cons,List.zipIdx_nil,List.forIn_cons,List.forIn_nil];refine wpAny_bind (wpAny_bind (wpAny_onRaise ?_));have p1:Zs g1 i1 x t k:=by refine Bi h1 ?_;clear h1;intro o e r;exact⟨o,s1.extBut _ _ D.a3 e,r⟩
 refine wpAny_bind (wpAny_nextOf_ascii_end hh p1 hx λg2 e s2 he=>?_);refine Bi he ?_;clear he;intro oe nK qK;have z2:IsZip g2 z TI TO .ellipsis:=s2 _ _ D.a3.symm z1;have uJ:e≠z:=λq=>by subst q;rw[z2]at nK;cases nK;simp at qK
 exact wpAny_setField_rec z2 (by simp) λg3 V s3=>hE g3 e (λc o c1 V c3 V q=>s3.extBut _ _ c1 (s2 _ _ c3 (s1.extBut _ _ c1 q))) ⟨oe,s3.extBut _ _ uJ nK,qK⟩
theorem ZS.keep{f:Value}(S:ZS z TI TO i1 i2 x y t u f k h)(hk:∀b∈[z,TI,TO,i1,i2],∀o,h.get? b=some o->h'.get? b=some o):ZS z TI TO i1 i2 x y t u f k h':=by
 obtain⟨hz,ZP,⟨o1,o2,dM⟩,⟨p,pe,pr⟩,⟨q,qe,qr⟩⟩:=S;exact⟨hk _ (iI 0 rfl) _ hz,hk _ (iI 1 rfl) _ ZP,⟨o1,o2,hk _ (iI 2 rfl) _ dM⟩,⟨p,hk _ (iI 3 rfl) _ pe,pr⟩,⟨q,hk _ (iI 4 rfl) _ qe,qr⟩⟩
theorem Y7(hh:A.handled=none)(D:ZA z TI TO i1 i2)(hl:x.cps.size=y.cps.size) :
  WalksT prog w A z [z,TI,TO,i1,i2] [z,TO,i1,i2] x.cps.size (λi vals=>∃a b ta tb,x.cps[i]? = some a/\y.cps[i]? = some b/\vals=#[.str ⟨#[a]⟩ ta,.str ⟨#[b]⟩ tb])
   (λi h=>ZS z TI TO i1 i2 x y t u .none i h) (λi T h=>ZS z TI TO i1 i2 x y t u (rawInt T) (i+1) h/\T≠z/\T≠TO/\T≠i1/\T≠i2) where
 sub:=Fo [0,2,3,4] rfl
 frame:=λi h h' st hk=>st.keep hk
 item:=λi s Q E hi st hQ=>by
  have hy:i<y.cps.size:=hl▸hi;have lt:∀ {c o},s.heap.get? c=some o->s.heap.objs.size≠c:=λe=>Nat.ne_of_gt (Ag e);have n1:=lt st.z;have n2:s.heap.objs.size≠TO:=by refine MC st.o ?_;intro V V e;exact lt e
  have n3:s.heap.objs.size≠i1:=by refine Bi st.p ?_;intro V e V;exact lt e
  have n4:s.heap.objs.size≠i2:=by refine Bi st.q ?_;intro V e V;exact lt e
  have hT:s.TypeIs (.ref z) "zip":=⟨_,st.z,rfl⟩
  refine wpAny_bind (wpAny_attempt (wpAny_callSpecial?_slot (name:=Str.ofString "__next__") hT F.slot_zip_next
   (wpAny_call_entry F.slot_zip_next hT F.entry_zip_next
    (Y8 D st (BW hi) (BW hy) λh' tk ta tb S' pr k'=>wpAny_pure ?_) (F.args_zip_next_1 _))))
  exact hQ _ _ h' tk ⟨_,_,ta,tb,BW hi,BW hy,rfl⟩ (Ad _) ⟨_,pr,rfl,_,rfl⟩ ⟨S',n1,n2,n3,n4⟩
   λb o hb e=>k' b o (λq=>hb (by simp -iota[q])) (λq=>hb (by simp -iota[q])) (λq=>hb (by simp -iota[q])) (λq=>hb (by simp -iota[q])) e
 go:=λelts kk pos i T s Q E hm hQ=>by
  refine CC hm ?_;clear hm;intro S V;refine wpAny_letOwnedTupleGo_zip S.z λh' nZ ZY=>hQ h' ?_ λc o hc e=>ZY.extBut _ _ (λq=>hc (by simp -iota[q])) e;obtain⟨hz,ZP,⟨o1,o2,dM⟩,⟨p,pe,pr⟩,⟨q,qe,qr⟩⟩:=S;exact⟨nZ,ZY.extBut _ _ D.a1 ZP,⟨o1,o2,ZY.extBut _ _ D.a2 dM⟩,⟨p,ZY.extBut _ _ D.a3 pe,pr⟩,⟨q,ZY.extBut _ _ D.a4 qe,qr⟩⟩
 apart:=λi T h hm hT=>by
  refine oL hm ?_;clear hm;intro V t1 t2 t3 t4;simp at hT;rcases hT with rfl|rfl|rfl|rfl
  .exact t1 rfl
  .exact t2 rfl
  .exact t3 rfl
  .exact t4 rfl
 done:=λs Q E st hQ=>by
  have hT:s.TypeIs (.ref z) "zip":=⟨_,st.z,rfl⟩
  refine wpAny_bind (wpAny_attempt (wpAny_callSpecial?_slot (name:=Str.ofString "__next__") hT F.slot_zip_next
   (wpAny_call_entry F.slot_zip_next hT F.entry_zip_next (c6 hh D st (Array.getElem?_eq_none (Ad _)) λh' e hk he=>?_) (F.args_zip_next_1 _))))
  refine Bi he ?_;clear he;intro o ho hc;refine wpAny_bind (wpAny_isInstance (T:="StopIteration") (b:=true) ⟨o,ho,hc⟩ isSubtype_stop ?_);exact wpAny_pure (hQ h' s.toks λc o hc e=>hk c o (λq=>hc (by simp -iota[q])) (λq=>hc (by simp -iota[q])) (λq=>hc (by simp -iota[q])) (λq=>hc (by simp -iota[q])) e)
 self:=λi s Q E st hQ=>wpAny_pyIter_zip st.z hQ
noncomputable abbrev qd(x:Str)(t:Tok):Obj:={cls:=.type (strIterType x),data:=.fields #[.str x t,.int 0 0]}
noncomputable abbrev kZ(h:Heap)(x:Str)(t:Tok):Heap:=h.push (qd x t)
noncomputable abbrev kg(h:Heap)(x y:Str)(t u:Tok):Heap:=(kZ h x t).push (qd y u)
noncomputable abbrev kh(h:Heap)(x y:Str)(t u:Tok):Heap:=(kg h x y t u).push {cls:=.type "tuple",data:=.seq #[.ref h.objs.size,.ref (kZ h x t).objs.size]}
noncomputable abbrev ki(h:Heap)(x y:Str)(t u:Tok):Heap:=(kh h x y t u).push {cls:=.type "tuple",data:=.seq #[.none,.none]}
noncomputable abbrev cy(h:Heap)(x y:Str)(t u:Tok):Heap:=(ki h x y t u).push {cls:=.type "zip",data:=.fields #[.none,.bool false,.bool false,.ref (kg h x y t u).objs.size,.ref (kh h x y t u).objs.size]}
theorem Qc(x y:Str)(t u:Tok) :
  Meets (Builtin.«zip.__new__» ⟨[.type "zip",.str x t,.str y u],[]⟩) (λV R s=>R (.ok (.ret (.ref (ki s.heap x y t u).objs.size))) {s with heap:=cy s.heap x y t u}):=
 .of_wp λprog w A R s h=>by
  obtain⟨hp,g,d,tk,os⟩:=s;have D8:=sub_zip;repeat(first|with_reducible refine wpAny_pyIter_strU ?_|with_reducible_and_instances refine wpAny_pure ?_|with_reducible_and_instances refine wpAny_bind ?_|wp_delta|wp_step)
  exact⟨_,rfl,h⟩
end
theorem OK(h:∀a∈cs,a<128):strIterType (tx cs)="str_ascii_iterator":=by
 unfold strIterType;rw[if_pos];rw[List.all_toArray,Ah];intro a ha;simpa using h a ha
section
variable {w:World}{A:Around}{E:CH}{s:Shared}
theorem Sh{y:Str}{t u:Tok}(hx:strIterType x="str_ascii_iterator")(hy:strIterType y="str_ascii_iterator")(h:∀h',ZS (s.heap.objs.size+4) (s.heap.objs.size+2) (s.heap.objs.size+3) s.heap.objs.size (s.heap.objs.size+1) x y t u .none 0 h'->(∀c o,s.heap.get? c=some o->h'.get? c=some o)->h'.objs.size=s.heap.objs.size+5->Q (.ref (s.heap.objs.size+4)) {s with heap:=h'}) :
  wpAny (model prog w) A (call (.type "zip") [.str x t,.str y u]) Q E s:=by
 refine callType_new F.called_zip (by decide) (F.typeCall_zip_2 _ _) (F.newCall_zip_2 _ _) (λobj=>F.args_object_init_3 obj _ _) F.entry_zip_new (Qc x y t u) ?_;have z1:(kZ s.heap x t).objs.size=s.heap.objs.size+1:=Heap.size_push ..;have z2:(kg s.heap x y t u).objs.size=s.heap.objs.size+2:=by rw[Heap.size_push,z1]
 have z3:(kh s.heap x y t u).objs.size=s.heap.objs.size+3:=by rw[Heap.size_push,z2]
 have z4:(ki s.heap x y t u).objs.size=s.heap.objs.size+4:=by rw[Heap.size_push,z3]
 have z5:(cy s.heap x y t u).objs.size=s.heap.objs.size+5:=by rw[Heap.size_push,z4]
 have g5:(cy s.heap x y t u).get? (ki s.heap x y t u).objs.size=some _:=AH _ rfl;have g4:(cy s.heap x y t u).get? (kh s.heap x y t u).objs.size=some _:=AO _ (AH _ rfl);have g3:(cy s.heap x y t u).get? (kg s.heap x y t u).objs.size=some _:=AO _ (AO _ (AH _ rfl));have g2:(cy s.heap x y t u).get? (kZ s.heap x t).objs.size=some _:=AO _ (AO _ (AO _ (AH _ rfl)));have g1:(cy s.heap x y t u).get? s.heap.objs.size=some _:=AO _ (AO _ (AO _ (AO _ (AH _ rfl))));rw[z2,z3,z4]at g5;rw[z1,z2]at g3;rw[z3]at g4;rw[z1]at g2;rw[z4];exact⟨⟨_,g5,rfl⟩,h _ ⟨g5,g3,⟨_,_,g4⟩,⟨_,g1,congrArg Value.type hx,rfl⟩,⟨_,g2,congrArg Value.type hy,rfl⟩⟩ (λc o q=>
  AO _ (AO _ (AO _ (AO _ (AO _ q))))) z5⟩
end
theorem Gw(le:h.objs.size<=a):h.get? a=none:=by
 cases e:h.get? a with
 |none=>rfl
 |some o=>exact absurd (Ag e) (Nat.not_lt.mpr le)
theorem LO(t:Tab h)(e:h.get? a=none):a≠TP:=λq=>by refine Bi t ?_;clear t;intro ps e' V;rw[q]at e;rw[e]at e';cases e'
theorem Mk{a b:Nat}(h:a<b):(a:Addr)≠b:=Nat.ne_of_lt h
theorem O6{a b:Nat}(h:b<a):(a:Addr)≠b:=Nat.ne_of_gt h
theorem jV(n:Nat):ZA (n+4) (n+2) (n+3) n (n+1):=
 ⟨Mk (dh rfl),Mk (by exact Nat.lt_add_one (n+3)),Mk (by lia),Mk (dh rfl),Mk (by exact Nat.lt_add_one (n+2)),O6 (by lia),O6 (by exact Nat.lt_add_one (n+1)),O6 (by lia),O6 (dh rfl),Mk (by exact Nat.lt_add_one n)⟩
noncomputable def Q7(cs es:BZ):List (List D):=List.zipWith (λa b=>[.str (sg a),.str (sg b)]) cs es
theorem Bb.jW{xp tp:Pos}{tk:Nat}{elts:Cy}{e1 e2:Expr}{es:BZ}(f:Ev c J (.Name x xp) (.obj (.type "zip")))(y1:Ev c J e1 (.str (Mine.tx cs)))(y2:Ev c J e2 (.str (Mine.tx es)))(h1:∀a∈cs,a<128)(h2:∀a∈es,a<128)(hl:cs.length=es.length)(he:autoParam (D9 c e1 [e2]) Bd)(Jp:autoParam (D9 c e2 []) Bd)(hp:autoParam ((backTo pos (starEach [e2] c.env)).any (·.1)=false) Bd):Bb c J (.Tuple elts tk tp) (.Call (.Name x xp) [e1,e2] [] pos) ((Q7 cs es).map .tup):=λs F Q E q=>
 wpAny_Call_NameR (f s F _ _ λv VP t1 l1 r1=>by
  cases r1;refine Ax ((FQ.cons y1 (.cons y2 .nil Jp) he) pos _ (F.le l1) _ _ λvs OC t2 l2 r2=>?_) he hp;refine Du (Bf.Bp r2) ?_;rintro V V rfl ra r;refine Du (Bf.Bp r) ?_;rintro V V rfl rb r;cases r;cases ra;cases rb;have Gk:Le s.heap OC:=Bu.trans l1 l2;have F2:=F.le Gk;refine Sh (OK h1) (OK h2) λh3 S k3 z3=>?_;dsimp only at S k3 z3 ⊢;have l3:Le OC h3:=Le.of k3;have QV:=Bu.trans Gk l3;refine wpAny_pyIter_zip S.z ?_;generalize hn:OC.objs.size=n at *;have SQ:Tab OC:=F2.base.tab;have no:∀k,OC.get? (n+k)=none:=λk=>Gw (by exact Nat.le.intro (congrFun (congrArg HAdd.hAdd hn) k));have oC:OC.get? n=none:=Gw (by exact BM hn);have sz:306<=n:=hn▸B7 F2.base;have N:∀b∈[n+4,n+2,n+3,n,n+1],OC.get? b=none/\306<=b:=λb hb=>by
   refine eN hb ?_ ?_ ?_ ?_ ?_
   .exact ⟨no 4,by exact Aw sz⟩
   .exact ⟨no 2,by exact Aw sz⟩
   .exact ⟨no 3,by exact Aw sz⟩
   .exact ⟨oC,sz⟩
   .exact ⟨no 1,by exact Aw sz⟩
  have lv:∀b∈[n+4,n+2,n+3,n,n+1],∃o,h3.get? b=some o:=λb hb=>by
   refine eN hb ?_ ?_ ?_ ?_ ?_
   .exact ⟨_,S.z⟩
   .exact ⟨_,S.i⟩
   .refine MC S.o ?_;intro V V e;exact⟨_,e⟩
   .refine Bi S.p ?_;intro V e V;exact⟨_,e⟩
   .refine Bi S.q ?_;intro V e V;exact⟨_,e⟩
  have sub:∀b∈[n+4,n+3,n,n+1],b∈[n+4,n+2,n+3,n,n+1]:=Fo [0,2,3,4] rfl;have ZA:ZA (n+4) (n+2) (n+3) n (n+1):=jV n;have alive:∀ {t u:Tok}{f:Value}{k:Nat}{h:Heap},ZS (n+4) (n+2) (n+3) n (n+1) (Mine.tx cs) (Mine.tx es) t u f k h->∀b∈[n+4,n+3,n,n+1],OG h b:=λ{t u f k h} S b hb=>by
   refine dA hb ?_ ?_ ?_ ?_
   .exact ⟨_,S.z,Cd.fd rfl (by intro t h;simp[rawInt]at h)⟩
   .refine MC S.o ?_;intro V V e;exact⟨_,e,Cd.seq rfl⟩
   .refine EJ S.p ?_;intro V e V ed;exact⟨_,e,Cd.fd ed (by intro t h;simp at h)⟩
   .refine EJ S.q ?_;intro V e V ed;exact⟨_,e,Cd.fd ed (by intro t h;simp at h)⟩
  have oH:TP∉[n+4,n+3,n,n+1]:=λhb=>by
   refine CC (N _ (sub _ hb)) ?_;intro V b;exact absurd b (by decide)
  have zl:(Q7 cs es).length=(Mine.tx cs).cps.size:=by
   show(List.zipWith _ cs es).length=cs.toArray.size;rw[List.length_zipWith];simp;lia
  refine q (.ref (n+4)) (·∈[n+4,n+3,n,n+1]) h3 t2 QV (λb hb=>?_) ?_ ?_
  .refine CC (N _ (sub _ hb)) ?_;intro a1 a2;exact⟨Bx Gk (LO SQ a1) a1,a2,lv _ (sub _ hb)⟩
  .refine QA (Rp:=λV V=>True) (Y7 F.ok.handled ZA (by show cs.toArray.size=es.toArray.size;simpa using hl)) (λi h st b hb=>alive st b hb) (λi T h mid b hb=>alive mid.1 b hb) (Q7 cs es) zl (λV V V V V V=>trivial) (λX h j vs ds V pv hd=>?_) oH (Q7 cs es) 0 _ _ (Al _) rfl S trivial λb hb=>?_
   .refine iX pv ?_;clear pv;rintro a b ta tb ea eb rfl;have Xj:cs[j]? = some a:=by
     have:cs.toArray[j]? = some a:=ea;rwa [BK]at this
    have ZG:es[j]? = some b:=by
     have:es.toArray[j]? = some b:=eb;rwa [BK]at this
    unfold Q7 at hd;rw[List.getElem?_zipWith,Xj,ZG]at hd;cases hd;exact .cons (.str _ _) (.cons (.str _ _) .nil)
   .refine CC (N _ hb) ?_;intro a1 a2;refine B6 (lv _ hb) ?_;intro o e;refine⟨?_,LO SQ a1,o,e⟩;by_cases hw:b∈[n+4,n+3,n,n+1]
    .exact .inl hw
    .refine .inr λz=>z.elim (λz=>?_) hw;obtain⟨_,o',e'⟩:=F2.Ck b z;rw[a1]at e';cases e'
  .refine λs' l Q E h=>wpAny_pyIter_zip (f0:=.none) (TI:=n+2) (TO:=n+3) (l.keep _ _ ?_ id S.z) h;exact LO SQ (no 4))
theorem cw(n l1 l2:Nat)(h1:l1<n)(h2:l2<n):ZipApart (n+4) (n+2) (n+3) n (n+1) l1 l2:=
 ⟨Mk (dh rfl),Mk (by exact Nat.lt_add_one (n+3)),Mk (by lia),Mk (dh rfl),Mk (by exact Nat.lt_add_one (n+2)),O6 (by lia),O6 (by exact Nat.lt_add_one (n+1)),O6 (by lia),O6 (dh rfl),Mk (by exact Nat.lt_add_one n),
  Mk (by exact Nat.lt_add_right 4 h1),Mk (by exact Nat.lt_add_right 3 h1),Mk (by exact Nat.lt_of_succ_le h1),Mk (by exact Nat.lt_add_right 1 h1),Mk (by exact Nat.lt_add_right 4 h2),Mk (by exact Nat.lt_add_right 3 h2),Mk (by exact Nat.lt_of_succ_le h2),Mk (by exact Nat.lt_add_right 1 h2)⟩
noncomputable def UB(ds es:Cs):List (List D):=List.zipWith (λa b=>[a,b]) ds es
theorem Bb.pC{xp tp:Pos}{tk:Nat}{elts:Cy}{e1 e2:Expr}{es:Cs}(f:Ev c J (.Name x xp) (.obj (.type "zip")))(y1:Ev c J e1 (.list ds))(y2:Ev c J e2 (.list es))(he:autoParam (D9 c e1 [e2]) Bd)(Jp:autoParam (D9 c e2 []) Bd)(hp:autoParam ((backTo pos (starEach [e2] c.env)).any (·.1)=false) Bd):Bb c J (.Tuple elts tk tp) (.Call (.Name x xp) [e1,e2] [] pos) ((UB ds es).map .tup):=λs F Q E q=>
 wpAny_Call_NameR (f s F _ _ λv VP t1 l1 r1=>by
  cases r1;refine Ax ((FQ.cons y1 (.cons y2 .nil Jp) he) pos _ (F.le l1) _ _ λvs OC t2 l2 r2=>?_) he hp;refine Du (Bf.Bp r2) ?_;rintro V V rfl ra r;cases r with|cons rb r=>
  cases r;cases ra with|list nx nt p ra=>
  cases rb with|list nx' vP p' rb=>
  rename_i a rW b UA;have Gk:Le s.heap OC:=Bu.trans l1 l2;have F2:=F.le Gk;refine call_zip_2 p.isList p'.isList λh3 hz hi ho j5 dS z3 k3=>?_;dsimp only at hz hi ho j5 dS k3 z3 ⊢;have l3:Le OC h3:=Le.of k3;have QV:=Bu.trans Gk l3;refine wpAny_pyIter_zip hz ?_;have la:a<OC.objs.size:=by refine B6 p ?_;clear p;intro V e;exact Ag e
  have lb:b<OC.objs.size:=by refine B6 p' ?_;clear p';intro V e;exact Ag e
  generalize hn:OC.objs.size=n at *;have SQ:Tab OC:=F2.base.tab;have no:∀k,OC.get? (n+k)=none:=λk=>Gw (by exact Nat.le.intro (congrFun (congrArg HAdd.hAdd hn) k));have oC:OC.get? n=none:=Gw (by exact BM hn);have sz:306<=n:=hn▸B7 F2.base;have N:∀b∈[n+4,n+2,n+3,n,n+1],OC.get? b=none/\306<=b:=λb hb=>by
   refine eN hb ?_ ?_ ?_ ?_ ?_
   .exact ⟨no 4,by exact Aw sz⟩
   .exact ⟨no 2,by exact Aw sz⟩
   .exact ⟨no 3,by exact Aw sz⟩
   .exact ⟨oC,sz⟩
   .exact ⟨no 1,by exact Aw sz⟩
  have lv:∀b∈[n+4,n+2,n+3,n,n+1],∃o,h3.get? b=some o:=λb hb=>by
   refine eN hb ?_ ?_ ?_ ?_ ?_
   .exact ⟨_,hz⟩
   .exact ⟨_,hi⟩
   .exact ⟨_,ho⟩
   .refine Bi j5 ?_;clear j5;intro V e V;exact⟨_,e⟩
   .refine Bi dS ?_;clear dS;intro V e V;exact⟨_,e⟩
  have sub:∀b∈[n+4,n+3,n,n+1],b∈[n+4,n+2,n+3,n,n+1]:=Fo [0,2,3,4] rfl;have oH:TP∉[n+4,n+3,n,n+1]:=λhb=>by
   refine CC (N _ (sub _ hb)) ?_;intro V b;exact absurd b (by decide)
  have wu:=ra.length;have wz:=rb.length;refine q (.ref (n+4)) (·∈[n+4,n+3,n,n+1]) h3 t2 QV (λb hb=>?_) ?_ ?_
  .refine CC (N _ (sub _ hb)) ?_;intro a1 a2;exact⟨Bx Gk (LO SQ a1) a1,a2,lv _ (sub _ hb)⟩
  .refine QA (Rp:=λX h=>Bf X c.w h rW ds/\Bf X c.w h UA es) (WalksT.zip2 F.ok.handled (n+4) (n+2) (n+3) n (n+1) a b (cw n a b la lb) rW.toArray UA.toArray) (λi h st b hb=>?_) (λi T h mid b hb=>?_) (UB ds es)
    (by unfold UB;rw[List.length_zipWith];simp;lia) (λV V V V r k=>⟨r.1.kn k,r.2.kn k⟩) (λX h j vs e rp pv hd=>?_) oH (UB ds es) 0 _ _ (Al _) rfl
    ⟨hz,hi,⟨_,_,ho⟩,j5,dS,EY p.isList λo e=>k3 _ o e,EY p'.isList λo e=>k3 _ o e⟩ ?_ λb' hb=>?_
   .refine oM st ?_;clear st;intro s1 s2 Cr Dv HW V;refine MC Cr ?_;intro V V s3;refine EJ Dv ?_;intro V s4 V d4;refine EJ HW ?_;intro V s5 V d5;refine dA hb ?_ ?_ ?_ ?_
    .exact ⟨_,s1,Cd.fd rfl (by intro t h;simp[rawInt]at h)⟩
    .exact ⟨_,s3,Cd.seq rfl⟩
    .exact ⟨_,s4,Cd.fd d4 (by intro t h;simp at h)⟩
    .exact ⟨_,s5,Cd.fd d5 (by intro t h;simp at h)⟩
   .refine oM mid ?_;clear mid;intro s1 s2 Jk W3 jU V;refine MC Jk ?_;intro V V s3;refine EJ W3 ?_;intro V s4 V d4;refine EJ jU ?_;intro V s5 V d5;refine dA hb ?_ ?_ ?_ ?_
    .exact ⟨_,s1,Cd.fd rfl (by intro t h;simp[rawInt]at h)⟩
    .exact ⟨_,s3,Cd.seq rfl⟩
    .exact ⟨_,s4,Cd.fd d4 (by intro t h;simp at h)⟩
    .exact ⟨_,s5,Cd.fd d5 (by intro t h;simp at h)⟩
   .refine Du pv ?_;clear pv;rintro x' y' e1 e2 rfl;rw[BK]at e1 e2;unfold UB at hd;rw[List.getElem?_zipWith]at hd;cases Oi:ds[j]? with
    |none=>rw[Oi]at hd;cases hd
    |some d1=>
     cases Jo:es[j]? with
     |none=>rw[Oi,Jo]at hd;cases hd
     |some d2=>
      rw[Oi,Jo]at hd;cases hd;refine Bi (rp.1.get Oi) ?_;intro u1 q1 r1;refine Bi (rp.2.get Jo) ?_;intro u2 q2 r2;rw[e1]at q1;cases q1;rw[e2]at q2;cases q2;exact .cons r1 (.cons r2 .nil)
   .have mv:∀ {vs:DW}{ds:Cs},Bf c.X c.w OC vs ds->Bf (DH c.X λb=>b∈[n+4,n+3,n,n+1]) c.w h3 vs ds:=λr=>
     Bf.le (r.move (ET λb z=>z.imp_right λz=>(N _ (sub _ z)).1)) l3
    exact⟨mv ra,mv rb⟩
   .by_cases Pk:b'∈[n+4,n+2,n+3,n,n+1]
    .refine CC (N _ Pk) ?_;intro a1 a2;refine B6 (lv _ Pk) ?_;intro o e;refine⟨?_,LO SQ a1,o,e⟩;by_cases hw:b'∈[n+4,n+3,n,n+1]
     .exact .inl hw
     .refine .inr λz=>z.elim (λz=>?_) hw;obtain⟨_,o',e'⟩:=F2.Ck _ z;rw[a1]at e';cases e'
    .have VT:b'=a\/b'=b:=by
      simp only[AJ,An,or_false]at hb Pk;rcases hb with e|e|e|e|e|e|e
      .exact absurd (.inl e) Pk
      .exact absurd (.inr (.inl e)) Pk
      .exact absurd (.inr (.inr (.inl e))) Pk
      .exact absurd (.inr (.inr (.inr (.inl e)))) Pk
      .exact absurd (.inr (.inr (.inr (.inr e)))) Pk
      .exact .inl e
      .exact .inr e
     have hw:∀b',b'<n->b'∉[n+4,n+3,n,n+1]:=λb' Dx z=>by
      simp only[AJ,An,or_false]at z;rcases z with e|e|e|e
      .exact absurd (e▸Dx) (by(clear Dx;lia))
      .exact absurd (e▸Dx) (by(clear Dx;lia))
      .exact absurd (e▸Dx) (by exact Aa n)
      .exact absurd (e▸Dx) (by exact Nat.not_succ_lt_self)
     rcases VT with rfl|rfl
     .refine B6 p ?_;clear p;intro V e;exact⟨.inr λz=>z.elim nx (hw _ la),nt,_,k3 _ _ e⟩
     .refine B6 p' ?_;clear p';intro V e;exact⟨.inr λz=>z.elim nx' (hw _ lb),vP,_,k3 _ _ e⟩
  .refine λs' l Q E h=>wpAny_pyIter_zip (f0:=.none) (TI:=n+2) (TO:=n+3) (l.keep _ _ ?_ id hz) h;exact LO SQ (no 4))
theorem Kk(a b x y:D):(D.tup [a,b]).eqv (.tup [x,y])=(a.eqv x&&b.eqv y):=by
 show PyData.eqv (.tuple (D.KM [a,b])) (.tuple (D.KM [x,y]))=_;rw[PyData.eqv,D.Ga,D.Ga];simp only[AI,List.map_nil];rw[PyData.eqvAll,PyData.eqvAll,PyData.eqvAll,Bool.and_true];rfl
noncomputable def B8(p:Nat×Nat):D:=.tup [.str (sg p.1),.str (sg p.2)]
theorem Hh(a b:Nat):(D.str (sg a)).eqv (.str (sg b))=decide (a=b):=by
 rw[DK];simp only[Zl]
theorem OT(p q:Nat×Nat):(B8 p).eqv (B8 q)=decide (p=q):=by
 unfold B8;rw[Kk,Hh,Hh];obtain⟨a,b⟩:=p;obtain⟨x,y⟩:=q;by_cases h1:a=x<;>by_cases h2:b=y<;>simp[h1,h2]
theorem OJ(l:List (Nat×Nat))(p:Nat×Nat):D.L2 (l.map B8) (B8 p)=l.contains p:=by
 unfold D.L2;rw[List.any_map];induction l with
 |nil=>rfl
 |cons q l ih=>
  rw[List.any_cons,ih,List.contains_cons];show((B8 q).eqv (B8 p)||_)=_;rw[OT];congr 1;by_cases h:q=p
  .simp [h]
  .rw [decide_eq_false h];symm;simpa using λe:p=q=>h e.symm
theorem NQ{p:Nat×Nat}(h1:p.1<128)(h2:p.2<128):Gm 1 (B8 p):=.tup λd hd=>by
 refine Sd hd ?_ ?_
 .exact .str (DT h1)
 .exact .str (DT h2)
theorem H8{l:List (Nat×Nat)}(h:∀p∈l,p.1<128/\p.2<128):Gm 2 (.list (l.map B8)):=.list λd hd=>by
 refine Bi (AF.mp hd) ?_;rintro p hp rfl;exact NQ (h p hp).1 (h p hp).2
noncomputable abbrev A2:=List ((Nat×Nat)×Int)
noncomputable def k2(p:Nat×Nat):Str:=tx [p.1,p.2]
theorem Ev.Lz{pos}{a b:Nat}(x:Ev c J l (.str (sg a)))(y:Ev c J r (.str (sg b))):Ev c J (.BinOp l .Add r pos) (.str (k2 (a,b))):=Ev.eK x y (by show 1+1<=1000000;decide)
theorem Ni{p q:Nat×Nat}(h:k2 p=k2 q):p=q:=by
 have:=Wt h;obtain⟨a,b⟩:=p;obtain⟨x,y⟩:=q;simp only[List.cons.injEq,and_true]at this;rw[this.1,this.2]
noncomputable def dI(A:A2):List (Str×D):=A.map λp=>(k2 p.1,.int p.2)
noncomputable def DX(A:A2)(k:Nat×Nat):Int:=(A.lookup k).getD 0
noncomputable def GI(A:A2)(k:Nat×Nat)(v:Int):A2:=if A.any (λp=>decide (p.1=k))then A.map (λp=>if p.1=k then(p.1,v)else p)else A++[(k,v)]
def ED(A:A2)(k:Nat×Nat):Prop:=k∈A.map (·.1)
theorem FI{β:Type}[BEq α][LawfulBEq α]{γ:Type}[BEq γ][LawfulBEq γ]{δ:Type}(f:α->γ)(hf:∀a b,f a=f b->a=b)(g:β->δ)(k:α):∀l:List (α×β),(l.map λp=>(f p.1,g p.2)).lookup (f k)=(l.lookup k).map g:=by
 intro l;induction l with
 |nil=>exact  rfl
 |cons p0 l ih=>
  obtain⟨a,b⟩:=p0;rw[AI,AK,AK,ih];by_cases h:k=a
  .rw [h,beq_self_eq_true,beq_self_eq_true];rfl
  .rw [show(k==a)=false by simpa using h,show(f k==f a)=false by simpa using λe=>h (hf _ _ e)]
theorem LF{β:Type}{k:Nat×Nat}:∀ {l:List ((Nat×Nat)×β)},k∈l.map (·.1)->∃v,l.lookup k=some v
 |(a,b)::l,h=>by
  rw[AK];by_cases e:k=a
  .rw [e,beq_self_eq_true];exact⟨b,rfl⟩
  .rw [show(k==a)=false by simpa using e];rcases AJ.mp h with h|h
   .exact absurd h e
   .exact LF h
theorem Hg{A:A2}{k:Nat×Nat}(h:ED A k):(dI A).lookup (k2 k)=some (.int (DX A k)):=by
 unfold dI;rw[FI k2 (λV V=>Ni) D.int k A];refine B6 (LF h) ?_;intro v e;rw[DX,e];rfl
theorem Uo(A:A2)(k:Nat×Nat)(v:Int):dput (dI A) (k2 k) (.int v)=dI (GI A k v):=by
 unfold dput dI GI;have e:(A.map λp=>(k2 p.1,D.int p.2)).any (λp=>decide (p.1=k2 k))=A.any λp=>decide (p.1=k):=by
  rw[List.any_map];congr 1;funext p;show decide (k2 p.1=k2 k)=_;congr 1;exact propext ⟨Ni,λh=>h▸rfl⟩
 rw[e];split
 .rw [AB,AB];apply AW;intro p V;show(if k2 p.1=k2 k then(k2 p.1,D.int v)else(k2 p.1,D.int p.2))=(λp=>(k2 p.1,D.int p.2)) (if p.1=k then(p.1,v)else p);by_cases h:p.1=k
  .rw [if_pos (h▸rfl),if_pos h]
  .rw [if_neg (λe=>h (Ni e)),if_neg h]
 .rw [Af];rfl
theorem KW(A:A2)(k k':Nat×Nat)(v:Int)(h:ED A k'):ED (GI A k v) k':=by
 unfold GI ED at *;split
 .rw [AB];have e:((λp:(Nat×Nat)×Int=>p.1)∘λp=>if p.1=k then(p.1,v)else p)=λp=>p.1:=by
   funext p;show(if p.1=k then(p.1,v)else p).1=p.1;split<;>rfl
  rw[e];exact h
 .rw [Af];exact List.mem_append_left _ h
theorem UT(A:A2)(k:Nat×Nat)(v:Int)(h:ED A k):(GI A k v).length=A.length:=by
 unfold GI;rw[if_pos,AA];refine Bi (AF.mp h) ?_;intro p hp e;exact Aq.mpr ⟨p,hp,by simpa using e⟩
theorem MS:∀(os es:B4),(es.map (·.1)++os.map (·.1)).Nodup->DC es os=es++os:=by
 intro l;induction l with
 |nil=>exact λes V=>by simp[DC]
 |cons p os ih=>
  intro es h;show DC (dput es p.1 p.2) os=_;have hn:¬p.1∈es.map (·.1):=λm=>by
   rw[AI]at h;exact(List.nodup_append.mp h).2.2 _ m _ (.head _) rfl
  have e:dput es p.1 p.2=es++[p]:=by
   unfold dput;rw[if_neg];intro z;refine Bi (Aq.mp z) ?_;intro q hq e;exact hn (by simp at e;exact e▸Ab (f:=(·.1)) hq)
  rw[e,ih (es++[p]) (by simpa using h)];simp
theorem RR:CA 261 (Ba 24) (S "_law_steps") 260 .none CY:=⟨λP=>rfl,λP=>⟨_,_,_,rfl,rfl,rfl⟩,rfl,rfl,rfl⟩
noncomputable def HC(cs:BZ):List (Nat×Nat):=cs.flatMap λx=>cs.map λy=>(x,y)
noncomputable def EN(cs:BZ):List (Nat×Nat×Nat):=cs.flatMap λm=>cs.flatMap λx=>cs.map λy=>(m,x,y)
noncomputable def Lh(cs:BZ)(ts:List (Nat×Nat))(p:Nat×Nat):Int:=if p.1=p.2 then 0 else if(ts.contains (p.1,p.2)||ts.contains (p.2,p.1))=true then 1 else cs.length
noncomputable def D5(cs:BZ)(ts:List (Nat×Nat)):A2:=(HC cs).map λp=>(p,Lh cs ts p)
noncomputable def HH(A:A2)(t:Nat×Nat×Nat):A2:=GI A (t.2.1,t.2.2) (min (DX A (t.2.1,t.2.2)) (DX A (t.2.1,t.1)+DX A (t.1,t.2.2)))
noncomputable def Cf(cs:BZ)(ts:List (Nat×Nat)):A2:=(EN cs).foldl HH (D5 cs ts)
theorem LU{x y:Nat}:(x,y)∈HC cs↔x∈cs/\y∈cs:=by
 unfold HC;rw[Am];constructor
 .intro Cr;refine Bi Cr ?_;intro a ha h;refine Bi (AF.mp h) ?_;intro b hb e;cases e;exact⟨ha,hb⟩
 .intro Dv;refine CC Dv ?_;intro h1 h2;exact⟨x,h1,AF.mpr ⟨y,h2,rfl⟩⟩
theorem Qh(cs:BZ):(HC cs).length=cs.length*cs.length:=by
 unfold HC;rw[BR];simp[List.map_const']
theorem Nw(h:cs.Nodup):(HC cs).Nodup:=by
 unfold HC List.Nodup;rw[List.pairwise_flatMap];refine⟨λx V=>?_,h.imp λ{a b} hab p h1 q h2 e=>?_⟩
 .rw [List.pairwise_map];exact h.imp λ{a b} hab e=>hab (Prod.mk.inj e).2
 .refine Bi (AF.mp h1) ?_;rintro V V rfl;refine Bi (AF.mp h2) ?_;rintro V V rfl;exact hab (Prod.mk.inj e).1
def GH(cs:BZ)(A:A2):Prop:=A.length=cs.length*cs.length/\∀x∈cs,∀y∈cs,ED A (x,y)
theorem Mu(cs:BZ)(ts:List (Nat×Nat)):GH cs (D5 cs ts):=by
 refine⟨by unfold D5;rw[AA,Qh],λx hx y hy=>?_⟩;unfold ED D5;rw[AB];exact AF.mpr ⟨(x,y),LU.mpr ⟨hx,hy⟩,rfl⟩
theorem PW{A:A2}(h:GH cs A){t:Nat×Nat×Nat}(h1:t.2.1∈cs)(h2:t.2.2∈cs):GH cs (HH A t):=
 ⟨by unfold HH;rw[UT _ _ _ (h.2 _ h1 _ h2),h.1],λx hx y hy=>KW _ _ _ _ (h.2 x hx y hy)⟩
theorem HS{t:Nat×Nat×Nat}(h:t∈EN cs):t.1∈cs/\t.2.1∈cs/\t.2.2∈cs:=by
 refine Bi (Am.mp h) ?_;intro m hm h;refine Bi (Am.mp h) ?_;intro x hx h;refine Bi (AF.mp h) ?_;rintro y hy rfl;exact⟨hm,hx,hy⟩
theorem IW(cs:BZ)(ts:List (Nat×Nat)):∀(l:List (Nat×Nat×Nat)) (A:A2),(∀t∈l,t∈EN cs)->GH cs A->GH cs (l.foldl HH A)
 |[],A,_,h=>h
 |t::l,A,hl,h=>IW cs ts l (HH A t) (λq hq=>hl q (.tail _ hq)) (PW h (HS (hl t (.head _))).2.1 (HS (hl t (.head _))).2.2)
theorem Xb(A:A2):∀p∈dI A,p.2.flat=true:=λp hp=>by refine Bi (AF.mp hp) ?_;rintro q V rfl;rfl
theorem aK(A:A2):(dI A).length=A.length:=AA _
theorem ae(w:World)(k:Nat)(cs:BZ)(ts:List (Nat×Nat))(h5:cs.length<=10)(Nc:∀a∈cs,a<128)(nd:cs.Nodup)(qV:∀p∈ts,p.1<128/\p.2<128) :
  DA w 261 (k+1) [.str (tx cs),.list (ts.map B8)] (.dict (dI (Cf cs ts))):=by
 refine Ef RR (names:=[S "names",S "ties"]) (λvs e=>?_) rfl (.of (by decide +kernel)) λc X h0 F=>?_
 .refine MC (Ou e) ?_;rintro v1 v2 rfl;rfl
 .have E:=F.env;have sq:cs.length*cs.length<=100:=Nat.mul_le_mul h5 h5;refine Be.cons (Ex.lR (x:=S "steps") (Ji:=λa=>[(S "steps",.obj (.ref a)),(S "names",.str (tx cs)),(S "ties",.list (ts.map B8))]) E (os:=dI (D5 cs ts)) (es:=dI (D5 cs ts)) ?_ ?_ (Xb _) (λa=>by rfl)) ?_
  .refine JR.eq (JR.two (J0:=[(S "names",.str (tx cs)),(S "ties",.list (ts.map B8))]) cs (λx=>.str (sg x)) (λV=>cs) (λV y=>.str (sg y)) (λV V=>true) (λx y=>k2 (x,y)) (λx y=>.int (Lh cs ts (x,y))) E.co (Bb.tx Ev.n)
    (λx=>[(S "x",.str (sg x)),(S "names",.str (tx cs)),(S "ties",.list (ts.map B8))]) (λV V h=>.tail _ h) (λV V V sc=>Bind.n) (λV V V sc=>Bb.tx Ev.n) (λx y=>[(S "y",.str (sg y)),(S "x",.str (sg x)),(S "names",.str (tx cs)),(S "ties",.list (ts.map B8))]) (λV V V h=>.tail _ h)
    (λV V V V V sc=>Bind.n) (λV V V V V V=>CM.nil) (λx hx y hy V cc sc=>⟨Ev.Lz Ev.n Ev.n,?_⟩) ?_) ?_
   .have QP:=Nc x hx;have YC:=Nc y hy;refine Ev.eq (Ev.G5 (CL.cmp (Bh.mF Ev.n Ev.n QP YC)) (λV=>Ev.cInt) λV=>Ev.G5 (CL.XB (CL.cmp (Bh.eq (Bh.qZ (n:=1) (Ev.tp (.cons Ev.n (.cons Ev.n .nil))) Ev.n (NQ (p:=(x,y)) QP YC) (H8 qV)) (OJ ts (x,y))))
     λV=>CL.cmp (Bh.eq (Bh.qZ (n:=1) (Ev.tp (.cons Ev.n (.cons Ev.n .nil))) Ev.n (NQ (p:=(y,x)) YC QP) (H8 qV)) (OJ ts (y,x)))) (λV=>Ev.cInt) λV=>Ev.Nn Ev.b Ev.n (by rw[DY];exact lb h5 rfl)) ?_
    unfold Lh;dsimp only;rw[DY];by_cases h:x=y
    .simp [h]
    .simp only[h,decide_false,AR,if_false];split<;>rfl
   .simp only[By,BR,AA,List.map_const',List.sum_replicate_nat];exact lb sq rfl
   .unfold dI D5 HC;simp only[By,AB,BP];rfl
  .refine (MS _ _ ?_).trans (BT _);rw[List.map_nil,BT];unfold dI D5;rw[AB,AB];have e:(((λx:Str×D=>x.1)∘(λp:(Nat×Nat)×Int=>(k2 p.1,D.int p.2)))∘λp=>(p,Lh cs ts p))=k2:=rfl;rw[e];unfold List.Nodup;rw[List.pairwise_map];exact(Nw nd).imp λ{a b} hab e=>hab (Ni e)
  .intro h HW;refine Fq HW ?_;intro a X1 nw F1;have E1:Bj (c.on X1 (c.G.star (Bw a (dI (D5 cs ts))))) w (BY (Ba 24)) k:=E.on;refine⟨c.on X1 (c.G.star (Bw a (dI (D5 cs ts)))),_,⟨rfl,rfl,rfl⟩,F1,?_⟩;let At:Nat->A2:=λi=>((EN cs).take i).foldl HH (D5 cs ts);have At_ok:∀i,GH cs (At i):=λi=>IW cs ts _ _ (λt ht=>Ay ht) (Mu cs ts);have tl:(EN cs).length<=1000:=by
    unfold EN;rw[BR];simp only[BR,AA,List.map_const',List.sum_replicate_nat];calc cs.length*(cs.length*cs.length)<=10*100:=Nat.mul_le_mul h5 sq
     _=1000:=rfl
   refine Be.cons (Ex.for (ds:=(EN cs).map λt=>.tup [.str (sg t.1),.str (sg t.2.1),.str (sg t.2.2)]) E1.ro (λi=>c.G.star (Bw a (dI (At i)))) (λV=>[(S "steps",.obj (.ref a)),(S "names",.str (tx cs)),(S "ties",.list (ts.map B8))]) rfl rfl
    (Bb.list (CE.ev (CE.eq (CE.ej cs (λx=>.str (sg x)) cs (λx=>.str (sg x)) cs (λx=>.str (sg x)) (λm x y=>.tup [.str (sg m),.str (sg x),.str (sg y)]) (J0:=[(S "names",.str (tx cs))]) E1.co (Bb.tx Ev.n)
     (λm=>[(S "m",.str (sg m)),(S "names",.str (tx cs))]) (λV V h=>.tail _ h) (λV V V sc=>Bind.n) (λV V V sc=>Bb.tx Ev.n)
     (λm x=>[(S "x",.str (sg x)),(S "m",.str (sg m)),(S "names",.str (tx cs))]) (λV V V h=>.tail _ h) (λV V V V V sc=>Bind.n) (λV V V V V sc=>Bb.tx Ev.n)
     (λm x y=>[(S "y",.str (sg y)),(S "x",.str (sg x)),(S "m",.str (sg m)),(S "names",.str (tx cs))]) (λV V V V h=>.tail _ h) (λV V V V V V V sc=>Bind.n)
     (λm V x V y V cc sc=>Ev.tp (.cons Ev.n (.cons Ev.n (.cons Ev.n .nil)))) ?_) ?_)))
    (λi d hd X T hX=>?_)) ?_
   .have e:(cs.flatMap λx=>cs.flatMap λy=>cs.map λz=>D.tup [D.str (sg x),D.str (sg y),D.str (sg z)]).length=(EN cs).length:=by
     unfold EN;simp only[BR,AA]
    rw[e];exact lb tl rfl
   .unfold EN;simp only[BP,AB];rfl
   .have E2:Bj ((c.on X1 (c.G.star (Bw a (dI (D5 cs ts))))).on X ((c.G.star (Bw a (dI (At i)))).star T)) w (BY (Ba 24)) k:=E.on;rw[AL,AS]at hd;refine Bi hd ?_;clear hd;rintro Jk ht rfl;obtain⟨m,x,y⟩:=Jk;have hm:=AQ ht;refine FP (HS hm) ?_;intro nG nV nY;dsimp only at nG nV nY;have ok:=At_ok i;have hA:At (i+1)=GI (At i) (x,y) (min (DX (At i) (x,y)) (DX (At i) (x,m)+DX (At i) (m,y))):=by
     show((EN cs).take (i+1)).foldl HH _=_;rw[A3,ht,BH];rfl
    refine⟨[(S "y",.str (sg y)),(S "x",.str (sg x)),(S "m",.str (sg m)),(S "steps",.obj (.ref a)),(S "names",.str (tx cs)),(S "ties",.list (ts.map B8))],Bind.tup (.cons Bind.n (.cons Bind.n (.cons Bind.n .nil))),?_⟩;have hG:∀X' h,((c.on X1 (c.G.star (Bw a (dI (D5 cs ts))))).on X ((c.G.star (Bw a (dI (At i)))).star T)).G.P c.w X' h->(Bw a (dI (At i))).P c.w X' h:=λX' h z=>z.1.2.1;refine Be.EM (X':=X) (G':=(c.G.star (Bw a (dI (At (i+1))))).star T) (Ex.i8 (a:=a) (es:=dI (At i)) (es':=dI (At (i+1))) (k:=k2 (x,y)) E2.ro (by rw[hA,<- Uo]) (Upd.lf (Upd.rt (Upd.self λb=>Iff.rfl)))
     (Ev.min2 Ev.b (Ev.G6 hG Ev.n (Ev.Lz Ev.n Ev.n) (Hg (ok.2 x nV y nY))) (Ev.Il (Ev.G6 hG Ev.n (Ev.Lz Ev.n Ev.n) (Hg (ok.2 x nV m nG))) (Ev.G6 hG Ev.n (Ev.Lz Ev.n Ev.n) (Hg (ok.2 m nG y nY))))) Ev.n (Ev.Lz Ev.n Ev.n)
     (by rw[aK,ok.1];exact lb sq rfl)) ?_
    refine Be.nil (Be.done λh3 F3=>⟨X,hX,?_⟩);exact F3.sub λp hp=>.tail _ (.tail _ (.tail _ hp))
   .intro h2 W3;refine Bi W3 ?_;intro X2 Hk F2;have hA:At ((EN cs).map λt=>D.tup [.str (sg t.1),.str (sg t.2.1),.str (sg t.2.2)]).length=Cf cs ts:=by
     show((EN cs).take _).foldl HH _=_;rw[AA,BF];rfl
    rw[hA]at F2;have F3:Fr (c.on (λb=>X2 b/\¬b=a) c.G) [(S "steps",.dict (dI (Cf cs ts)))] h2:=Fr.Xu (c:=c) F2 nw.old λp hp=>by
     rw[AG.mp hp];exact .inr ⟨rfl,.head _⟩
    refine⟨c.on (λb=>X2 b/\¬b=a) c.G,_,⟨rfl,rfl,rfl⟩,F3,Be.imp (Be.ret (Ex.ret Ev.n)) (λV z=>z) λv h z=>HT.on (λb z=>⟨Hk b (nw.sub b z),λe=>nw.out (e▸z)⟩) z⟩
noncomputable def Bq:List Nat:=[98,99,100,101,102,66,67,68,69,70]
noncomputable def G9:List Nat:=[38,60,62,34,13,10,9]
noncomputable def Bz:List Nat:=Bq++G9
noncomputable def Ha:List (List Str):=[
 [S "&amp;",S "&lt;",S "&gt;",S "&quot;",S "&#13;",S "&#10;",S "&#09;"],[S "&amp;",S "<",S "&gt;",S "&quot;",S "\r",S "\n",S "\t"],[S "&amp;",S "&lt;",S "&gt;",S "\"",S "\r",S "\n",S "\t"],
 [S "&amp;",S "&lt;",S "&gt;",S "\"",S "&#xD;",S "\n",S "\t"],[S "&amp;",S "&lt;",S ">",S "&quot;",S "&#xD;",S "&#xA;",S "&#x9;"]]
noncomputable def JI(a:Nat):Nat:=G9.findIdx (· == a)
noncomputable def CP(num a:Nat):Str:=if G9.contains a then(Ha.getD num []).getD (JI a) ⟨#[]⟩else sg a
theorem Vz:∀a∈Bz,Txt.contains (S "&<>\"\r\n\t") (sg a)=G9.contains a:=by decide +kernel
theorem Vy:∀a∈Bz,G9.contains a=true->Txt.find (S "&<>\"\r\n\t") (sg a)=(JI a:Int):=by decide +kernel
theorem Dp:∀a∈Bz,a<128:=by decide
theorem TS{a:Nat}(h:G9.contains a=true):JI a<7:=by
 have:JI a<G9.length:=by
  unfold JI;rw[List.findIdx_lt_length];exact⟨a,by simpa using h,by simp⟩
 exact this
noncomputable def litS:Expr->Option Str
 |.Constant (.str x) _ _=>some x
 |_=>none
noncomputable def Vv:List Expr->Option (List Str)
 |[]=>some []
 |e::es=>(litS e).bind λx=>(Vv es).map (x::·)
noncomputable def bP(f:List Expr->Option α):Expr->Option α
 |.List es _=>f es
 |_=>none
noncomputable abbrev n8:Expr->Option (List Str):=bP Vv
noncomputable def Vu:List Expr->Option (List (List Str))
 |[]=>some []
 |e::es=>(n8 e).bind λx=>(Vu es).map (x::·)
theorem TQ(h:litS e=some x):∃t p,e=.Constant (.str x) t p:=by
 cases e with
 |Constant k t p=>cases k with
  |str y=>exact⟨t,p,by rw[BV h]⟩
  |_=>exact absurd h (by intro z;cases z)
 |_=>exact absurd h (by intro z;cases z)
theorem FQ.lits:∀ {es:Cy}{xs:B3},Vv es=some xs->FQ c J es (xs.map .str)
 |[],xs,h=>by cases h;exact .nil
 |e::es,xs,h=>by
  refine Bi (Option.bind_eq_some_iff.mp h) ?_;intro x h1 h2;refine Bi (AS.mp h2) ?_;rintro ys h3 rfl;refine MC (TQ h1) ?_;rintro t p rfl;exact .cons Ev.cStr (FQ.lits h3) rfl
theorem Mg{f:List Expr->Option α}{xs:α}(h:bP f e=some xs):∃es pos,e=.List es pos/\f es=some xs:=by
 cases e with
 |List es pos=>exact⟨_,_,rfl,h⟩
 |_=>exact absurd h (by intro z;cases z)
theorem FQ.Zd:∀ {es:Cy}{xs:List (List Str)},Vu es=some xs->(∀x∈xs,x.length<=1000)->FQ c J es (xs.map λr=>.list (r.map .str))
 |[],xs,h,_=>by cases h;exact .nil
 |e::es,xs,h,hl=>by
  refine Bi (Option.bind_eq_some_iff.mp h) ?_;intro x h1 h2;refine Bi (AS.mp h2) ?_;rintro ys h3 rfl;refine Fq (Mg h1) ?_;rintro es' pos rfl h4;exact .cons (Ev.list (FQ.lits h4) (by rw[AA];exact hl x (.head _))) (FQ.Zd h3 λy hy=>hl y (.tail _ hy)) rfl
noncomputable abbrev Rr:Expr->Option (List (List Str)):=bP Vu
theorem Ev.Rr{e:Expr}{xs:List (List Str)}(h:Rr e=some xs)(hl:(xs.length<=1000/\∀x∈xs,x.length<=1000)):Ev c J e (.list (xs.map λr=>.list (r.map .str))):=by
 refine Fq (Mg h) ?_;rintro es' pos rfl h4;exact Ev.list (FQ.Zd h4 hl.2) (by rw[AA];exact hl.1)
noncomputable def Lf:Expr:=(match((Bt (Ba 27))[1]?.getD default)with|.Assign _ e _=>e|_=>default)
theorem Qz:Rr Lf=some Ha:=by decide +kernel
theorem Qq:Ha.length<=1000/\∀x∈Ha,x.length<=1000:=by decide
noncomputable def PI:D:=.list (Ha.map λr=>.list (r.map .str))
theorem Tx:Ev c J Lf PI:=@Ev.Rr c J Lf Ha Qz Qq
noncomputable def WX:Stmt:=(Bt (Ba 27))[1]?.getD default
noncomputable def iS:Expr->Pos
 |.Name _ p=>p
 |_=>default
noncomputable def WW:Pos:=iS (match WX with|.Assign ts _ _=>ts.headD default|_=>default)
noncomputable def Zm:Pos:=match WX with|.Assign _ _ p=>p|_=>default
theorem Zj:∀n<5,(Ha.getD n []).length=7:=by decide +kernel
theorem MW:CA 278 (Ba 27) (S "_law_spelled") 277 .none CY:=⟨λP=>rfl,λP=>⟨_,_,_,rfl,rfl,rfl⟩,rfl,rfl,rfl⟩
theorem VL(w:World)(k:Nat)(ss:BZ)(num:Nat)(hn:num<5)(hs:∀a∈ss,a∈Bz)(hl:ss.length<=1000):DA w 278 (k+1) [.str (tx ss),.int (num:Nat)] (.list (ss.map λa=>.str (CP num a))):=by
 refine Ef MW (names:=[S "signs",S "number"]) (λvs e=>?_) rfl (.of (by decide +kernel)) λc X h0 F=>?_
 .refine MC (Ou e) ?_;rintro v1 v2 rfl;rfl
 .have E:=F.env;refine Be.step (J':=[(S "marks",.str (S "&<>\"\r\n\t")),(S "signs",.str (tx ss)),(S "number",.int (num:Nat))]) (Ex.sc E (d:=.str (S "&<>\"\r\n\t")) (Ev.eq Ev.cStr (by rfl))) ?_;have gS:Ex c [(S "marks",.str (S "&<>\"\r\n\t")),(S "signs",.str (tx ss)),(S "number",.int (num:Nat))] (.Assign [.Name (S "rows") WW] Lf Zm) (Fr c [(S "rows",PI),(S "marks",.str (S "&<>\"\r\n\t")),(S "signs",.str (tx ss)),(S "number",.int (num:Nat))]) (HT c (.list (ss.map λa=>.str (CP num a)))):=
   @Ex.sc c _ _ _ (S "rows") WW Zm Lf PI w _ k E (@Tx c _) rfl rfl rfl rfl
  refine @Be.step c _ _ _ _ _ _ _ (@gS) ?_;refine Be.ret (Ex.ret (CE.ev (CE.eq (CE.C1 ss (λa=>.str (sg a)) (λV=>true) (λa=>.str (CP num a)) (J0:=[(S "rows",PI),(S "marks",.str (S "&<>\"\r\n\t")),(S "number",.int (num:Nat))]) E.co (Bb.tx Ev.n)
   (λa=>[(S "sign",.str (sg a)),(S "rows",PI),(S "marks",.str (S "&<>\"\r\n\t")),(S "number",.int (num:Nat))]) (λV V h=>.tail _ h) (λV V V sc=>Bind.n) (λV V V V=>CM.nil)
   (λa ha V cc sc=>?_) (lb hl rfl)) (by rw[By]))))
  have h1:=Vz a (hs a ha);refine Ev.eq (Ev.G5 (d:=.str (CP num a)) (CL.cmp (Bh.eq (Bh.nj Ev.n Ev.n) h1)) (λh=>Ev.FH (i:=(JI a:Nat)) (ds:=(Ha.getD num []).map .str) (Ev.FH (i:=(num:Nat)) Ev.n Ev.n (BD _) ?_ ?_) (Ev.eq (Ev.index Ev.n Ev.n (h1.trans h)) ?_) (BD _) ?_ ?_) λh=>Ev.n) ?_
  .rw [Int.toNat_natCast,AL];have hr:Ha[num]? = some (Ha.getD num []):=getD_some _ hn;rw[hr];rfl
  .show 5<=1000000;decide
  .exact congrArg D.int (Vy a (hs a ha) h)
  .rw [Int.toNat_natCast,AL];have uR:=Zj num hn;have hm:=TS h;rw[getD_some (⟨#[]⟩:Str) (by rw[uR];exact hm)];unfold CP;rw[if_pos h];rfl
  .rw [AA,Zj num hn];decide
  .cases hc:G9.contains a
   .unfold CP;rw[hc];rfl
   .rfl
noncomputable def Qv(is:List Int):Str:=(D.list (is.map .int)).py.shown
theorem PQ:∀i<30,(PyData.shown (.int (i:Nat))).length<=2:=by decide +kernel
theorem PE(is:List Int):D.KM (is.map .int)=is.map PyData.int:=by
 rw[D.Ga,AB];apply AW;intro i V;show D.py (.int i)=_;rw[Qm]
theorem N7(l:List PyData):PyData.shownAll l=l.map PyData.shown:=by
 induction l with
 |nil=>rw[PyData.shownAll];rfl
 |cons x l ih=>rw[PyData.shownAll,ih];rfl
theorem MI{is:List Int}(h:∀i∈is,0<=i/\i<30):(D.list (is.map .int)).py.showable=true:=by
 rw[Ff,PyData.showable,PE];induction is with
 |nil=>rw[List.map_nil,PyData.showableAll]
 |cons i is ih=>
  rw[AI,PyData.showableAll,ih λj hj=>h j (.tail _ hj),Bool.and_true,PyData.showable];refine CC (h i (.head _)) ?_;intro h1 h2;rw[decide_eq_true_eq];have:i.natAbs<30:=by lia
  refine BA (Nat.log2_le_self _) (kD this rfl)
theorem Qw{is:List Int}(h:∀i∈is,0<=i/\i<30)(hl:is.length<=1000):(D.list (is.map .int)).py.shown.length<=100000:=by
 rw[Ff,PyData.shown,PE,N7];refine AD (listText_len_le _) ?_;rw[AA,AA,AB,AB];have key:∀l:List Int,(∀i∈l,0<=i/\i<30)->(l.map (((λx:Str=>x.length)∘PyData.shown)∘PyData.int)).sum<=2*l.length:=λl=>by
  induction l with
  |nil=>intro V;simp
  |cons i l ih=>
   intro h;have h1:=ih λj hj=>h j (.tail _ hj);refine CC (h i (.head _)) ?_;intro h2 h3;have h4:=PQ i.toNat ((Int.toNat_lt h2).mpr h3);rw[Int.toNat_of_nonneg h2]at h4;rw[AI,BC,AZ];exact qu h4 h1
 have:=key is h;omega
theorem Ev.Yu{np:Pos}{is:List Int}(f:Ev c J (.Name x np) (.obj (.type "str")))(y:Ev c J e (.list (is.map .int)))(h:∀i∈is,0<=i/\i<30)(hl:is.length<=1000)(he:autoParam (D9 c e []) Bd) :
  Ev c J (.Call (.Name x np) [e] [] pos) (.str (Qv is)):=
 Ev.strOf (n:=1) f y (.list λd hd=>by refine Bi (AF.mp hd) ?_;rintro i V rfl;exact .int) (by decide) (MI h) (Qw h hl) he
theorem Bh.V4{t:Str}(x:Ev c J l (.str t))(y:Ev c J r (.str t))(hm:autoParam (behindInMarks .NotEq r=false) Dz):Bh c J l .NotEq r false:=
 Bh.of x y (λV V s F ra rb Q E q=>by
  cases ra;cases rb;refine PySem.P.ne_str ?_;have e:(t.cps.toList != t.cps.toList)=false:=by simp
  rw[e];exact q _ s.heap s.toks (.refl _) (.bool _)) hm
theorem Ev.YM{np:Pos}{xs:List α}{g:α->D}(f:Ev c J (.Name x np) (.obj (.builtin "len")))(y:Ev c J e (.list (xs.map g)))(hz:xs.length<=1000000)(he:autoParam (D9 c e []) Bd):Ev c J (.Call (.Name x np) [e] [] pos) (.int (xs.length:Nat)):=Ev.eq (Ev.iA f y (by rw[AA];exact hz) he) (by rw[AA])
theorem Bh.vI{a b:Nat}(x:Ev c J l (.str (sg a)))(y:Ev c J r (.str (sg b)))(hm:autoParam (behindInMarks .NotEq r=false) Dz):Bh c J l .NotEq r (a != b):=
 Bh.of x y (λV V s F ra rb Q E q=>by
  cases ra;cases rb;refine PySem.P.ne_str ?_;have e:((sg a).cps.toList != (sg b).cps.toList)=(a != b):=by
   show([a] != [b])=(a != b);by_cases h:a=b<;>simp[h,bne]
  rw[e];exact q _ s.heap s.toks (.refl _) (.bool _)) hm
theorem Kw:∀a∈Bz,PyData.strOk (sg a)=true/\PyData.strOk (Txt.lower (sg a))=true/\(sg a).length<=100:=by decide +kernel
noncomputable def Jr(a b:BZ)(m:Int):Int:=Gp (a.map sg) (b.map sg) m
theorem Ra(w:World)(k:Nat){a b:BZ}{m:Int}(ha:∀x∈a,x∈Bz)(hb:∀x∈b,x∈Bz)(la:a.length<=1000)(lb:b.length<=1000)(hm : -1000000<m/\m<1000000):DA w 45 (k+2) [.str (tx a),.str (tx b),.int m] (.int (Jr a b m)):=by
 have:=aa kU w k (a:=a.map sg) (b:=b.map sg) (m:=m) (Nv λx hx=>Dp x (ha x hx)) (Nv λx hx=>Dp x (hb x hx)) (by rw[AA];exact la) (by rw[AA];exact lb)
  (λx hx=>by refine Bi (AF.mp hx) ?_;rintro y hy rfl;exact Kw y (ha y hy)) (λx hx=>by refine Bi (AF.mp hx) ?_;rintro y hy rfl;exact Kw y (hb y hy)) hm
 have e:∀l:List Nat,kU.Co (l.map sg)=.str (tx l):=λl=>by show D.str (cat _)=_;rw[UY]
 rw[e,e]at this;exact this
theorem RQ:CA 283 (Ba 28) (S "_law_lacks") 282 .none CY:=⟨λP=>rfl,λP=>⟨_,_,_,rfl,rfl,rfl⟩,rfl,rfl,rfl⟩
noncomputable def CK(ls:BZ):List (Nat×Nat):=ls.zipIdx.flatMap λp=>(ls.drop p.2).map λy=>(p.1,y)
noncomputable abbrev W2:=List (Nat×List Nat)
noncomputable def dW(W:W2):List (Str×D):=W.map λp=>(sg p.1,.str (tx p.2))
noncomputable def Bo(W:W2)(x:Nat):List Nat:=(W.lookup x).getD []
noncomputable def Et(W:W2)(n:Nat)(p:Nat×Nat):Int:=Jr (Bo W p.1) (Bo W p.2) (2*n)
noncomputable def unlike(a b:BZ):Nat:=((List.zip a b).filter λp=>p.1 != p.2).length
noncomputable def Nj(ls:BZ)(W:W2)(A:A2):A2:=(CK ls).flatMap λp=>[((p.1,p.2),Et W ls.length p-DX A (p.1,p.2)),((p.2,p.1),Et W ls.length p-DX A (p.2,p.1))]
noncomputable def RD(A os:A2):A2:=os.foldl (λA p=>GI A p.1 p.2) A
noncomputable def Eg(ls:BZ)(W:W2)(A:A2):A2:=RD [] (Nj ls W A)
theorem RK:∀(os A:A2),DC (dI A) (os.map λp=>(k2 p.1,D.int p.2))=dI (RD A os)
 |[],A=>rfl
 |p::os,A=>by
  show DC (dput (dI A) (k2 p.1) (.int p.2)) _=_;rw[Uo,RK os];rfl
theorem CN{W:W2}{x:Nat}(h:x∈W.map (·.1)):(dW W).lookup (sg x)=some (.str (tx (Bo W x))):=by
 unfold dW;rw[FI sg (λV V=>Ek) (λw=>D.str (tx w)) x W];have:∃v,W.lookup x=some v:=by
  induction W with
  |nil=>cases h
  |cons p W ih=>
   obtain⟨a,b⟩:=p;rw[AK];by_cases e:x=a
   .rw [e,beq_self_eq_true];exact⟨b,rfl⟩
   .rw [show(x==a)=false by simpa using e];rcases AJ.mp h with h|h
    .exact absurd h e
    .exact ih h
 refine B6 this ?_;clear this;intro v e;rw[Bo,e];rfl
theorem Cu{ls:BZ}{p:Nat×Nat}(h:p∈CK ls):p.1∈ls/\p.2∈ls:=by
 refine Bi (Am.mp h) ?_;intro q hq h;refine Bi (AF.mp h) ?_;rintro y hy rfl;exact⟨(mem_zipIdx hq).2.1,Aj hy⟩
theorem Qk{ls:BZ}(h:ls.length<=10):(CK ls).length<=100:=by
 unfold CK;rw[BR];have key:∀l:List (Nat×Nat),(l.map λp=>((ls.drop p.2).map λy=>(p.1,y)).length).sum<=10*l.length:=λl=>by
  induction l with
  |nil=>simp
  |cons p l ih=>rw[AI,BC,AA,AM,AZ];exact qu (AD (BN _ _) h) ih
 have:=key ls.zipIdx;rw[List.length_zipIdx]at this;exact AD this (Nat.mul_le_mul_left 10 h)
theorem aZ(w:World)(k:Nat)(ls:BZ)(W:W2)(A:A2)(h5:ls.length<=10)(Nc:∀a∈ls,a<128)(hW:∀x∈ls,x∈W.map (·.1))(hA:∀x∈ls,∀y∈ls,ED A (x,y))(ZZ:∀x∈ls,(Bo W x).length<=100/\∀a∈Bo W x,a∈Bz)(gW:∀x∈ls,∀y∈ls,(Bo W x).length=(Bo W y).length)(gB:∀p∈CK ls,Et W ls.length p=(unlike (Bo W p.1) (Bo W p.2):Int))(nS:∀p∈CK ls,unlike (Bo W p.1) (Bo W p.2)<30) :
  DA w 283 (k+3) [.list (ls.map λa=>.str (sg a)),.dict (dW W),.dict (dI A)] (.dict (dI (Eg ls W A))):=by
 refine Ef RQ (names:=[S "line",S "words",S "steps"]) (λvs e=>?_) rfl (.of (by decide +kernel)) λc X h0 F=>?_
 .refine bq (Ov e) ?_;rintro v1 v2 v3 rfl;rfl
 .have E:=F.env;have hw:=F.hw;have gO:=Qk h5;let J1:List (Str×D):=[(S "line",.list (ls.map λa=>.str (sg a))),(S "words",.dict (dW W)),(S "steps",.dict (dI A))]
  refine Be.step (J':=[(S "pairs",.list ((CK ls).map B8)),(S "line",.list (ls.map λa=>.str (sg a))),(S "words",.dict (dW W)),(S "steps",.dict (dI A))]) (Ex.cL E (d:=.list ((CK ls).map B8))
   (CE.eq (CE.OP ls.zipIdx (λp=>.tup [.int (p.2:Nat),.str (sg p.1)]) (λp=>ls.drop p.2) (λV y=>.str (sg y)) (λV V=>true) (λp y=>B8 (p.1,y)) (J0:=[(S "line",.list (ls.map λa=>.str (sg a)))]) E.co
    (Bb.eq (Bb.enum Ev.b Ev.n) (Fy _ _)) (λp=>[(S "x",.str (sg p.1)),(S "k",.int (p.2:Nat)),(S "line",.list (ls.map λa=>.str (sg a)))]) (λV V h=>.tail _ (.tail _ h)) (λV V V sc=>Bind.tup (.cons Bind.n (.cons Bind.n .nil)))
    (λp hp cc sc=>Bb.list (Ev.eq (Ev.EI Ev.n (Part.int Ev.n) Part.no ?_) ?_)) (λp y=>[(S "y",.str (sg y)),(S "x",.str (sg p.1)),(S "k",.int (p.2:Nat)),(S "line",.list (ls.map λa=>.str (sg a)))]) (λV V V h=>.tail _ h)
    (λV V V V V sc=>Bind.n) (λV V V V V V=>CM.nil) (λp hp y hy V cc sc=>Ev.tp (.cons Ev.n (.cons Ev.n .nil))) ?_) ?_)) ?_
  .rw [AA];exact lb h5 rfl
  .rw [Dj,List.map_drop]
  .simp only[By];have:=gO;unfold CK at this;rw[BR]at this ⊢;simp only[AA]at this ⊢;exact lb this rfl
  .simp only[By];unfold CK;rw[BP];simp only[AB];rfl
  .refine Be.step (J':=[(S "told",.list (((CK ls).map (Et W ls.length)).map .int)),(S "pairs",.list ((CK ls).map B8)),(S "line",.list (ls.map λa=>.str (sg a))),(S "words",.dict (dW W)),(S "steps",.dict (dI A))]) (Ex.cL E (d:=.list (((CK ls).map (Et W ls.length)).map .int))
    (CE.eq (CE.C1 (CK ls) B8 (λV=>true) (λp=>.int (Et W ls.length p)) (J0:=[(S "line",.list (ls.map λa=>.str (sg a))),(S "words",.dict (dW W))]) E.co (Bb.list Ev.n)
     (λp=>[(S "y",.str (sg p.2)),(S "x",.str (sg p.1)),(S "line",.list (ls.map λa=>.str (sg a))),(S "words",.dict (dW W))]) (λV V h=>.tail _ (.tail _ h)) (λV V V sc=>Bind.tup (.cons Bind.n (.cons Bind.n .nil))) (λV V V V=>CM.nil)
     (λp hp V cc sc=>Ev.FW (fa:=45) (k:=k+2) (ds:=[.str (tx (Bo W p.1)),.str (tx (Bo W p.2)),.int (2*(ls.length:Int))]) Ev.g (.cons (Ev.CR Ev.n Ev.n ?_) (.cons (Ev.CR Ev.n Ev.n ?_) (.cons (Ev.TV Ev.cInt (Ev.YM Ev.b Ev.n (lb h5 rfl)) (by decide)) .nil))) ?_ ?_ ⟨_,_,_,_,_,Kq⟩) ?_) ?_)) ?_
   .exact CN (hW _ (Cu hp).1)
   .exact CN (hW _ (Cu hp).2)
   .have m1:=(Cu hp).1;have m2:=(Cu hp).2;rw[sc.w,hw];exact Ra w k (λa ha=>(ZZ _ m1).2 a ha) (λa ha=>(ZZ _ m2).2 a ha) (by have:=(ZZ _ m1).1;exact lb this rfl) (by have:=(ZZ _ m2).1;exact lb this rfl) (by omega)
   .rw [sc.k,E.hk];exact Ad _
   .exact lb gO rfl
   .rw [By,AB];rfl
   .have fr:∀p∈CK ls,p.1∈ls/\p.2∈ls:=λp hp=>Cu hp;have cnt:(CK ls).map (Et W ls.length)=(CK ls).map λp=>(unlike (Bo W p.1) (Bo W p.2):Int):=AW gB;have small:∀i∈(CK ls).map (Et W ls.length),0<=i/\i<30:=λi hi=>by
     refine Bi (AF.mp hi) ?_;rintro p hp rfl;rw[gB p hp];exact⟨BD _,Int.ofNat_lt.mpr (nS p hp)⟩
    refine Be.if (CL.cmp (Bh.V4 (t:=Qv ((CK ls).map (Et W ls.length))) (Ev.Yu (is:=(CK ls).map (Et W ls.length)) Ev.b Ev.n small (by rw[AA];exact lb gO rfl)) (Ev.Yu (is:=(CK ls).map (Et W ls.length)) Ev.b ?_ small (by rw[AA];exact lb gO rfl)))) (λh=>by cases h) λV=>?_
    .refine CE.ev (CE.eq (CE.C1 (CK ls) B8 (λV=>true) (λp=>.int (unlike (Bo W p.1) (Bo W p.2):Nat)) (J0:=[(S "words",.dict (dW W))]) E.co (Bb.list Ev.n)
      (λp=>[(S "y",.str (sg p.2)),(S "x",.str (sg p.1)),(S "words",.dict (dW W))]) (λV V h=>.tail _ (.tail _ h)) (λV V V sc=>Bind.tup (.cons Bind.n (.cons Bind.n .nil))) (λV V V V=>CM.nil)
      (λp hp V cc sc=>?_) (lb gO rfl)) ?_)
     .have m1:=(Cu hp).1;have m2:=(Cu hp).2;refine Ev.eq (Ev.YM Ev.b (CE.ev (CE.C1 (List.zip (Bo W p.1) (Bo W p.2)) B8 (λq=>q.1 != q.2) (λq=>.str (sg q.1)) (J0:=[]) (Sub.co sc) (Bb.eq (Bb.jW Ev.b (Ev.CR Ev.n Ev.n (CN (hW _ m1))) (Ev.CR Ev.n Ev.n (CN (hW _ m2))) (λa ha=>Dp a ((ZZ _ m1).2 a ha)) (λa ha=>Dp a ((ZZ _ m2).2 a ha)) (gW _ m1 _ m2)) ?_)
       (λq=>[(S "b",.str (sg q.2)),(S "a",.str (sg q.1))]) (λV V h=>by cases h) (λV V V iz=>Bind.tup (.cons Bind.n (.cons Bind.n .nil))) (λV V V iz=>CM.one (CL.cmp (Bh.vI Ev.n Ev.n))) (λV V V V iz=>Ev.n) ?_)) ?_) ?_
      .unfold Q7;rw[List.map_zipWith,List.zip_eq_zipWith,List.map_zipWith];rfl
      .have:=(ZZ _ m1).1;rw[List.length_zip];exact qq this rfl
      .have:=(ZZ _ m1).1;refine AD (AV _ _) ?_;rw[List.length_zip];exact qq this rfl
      .rfl
     .rw [By,cnt,AB];rfl
    .refine Be.nil (Be.ret (Ex.ret (CE.ev (CE.eq (CE.aI (CK ls) (λp=>.tup [B8 p,.int (Et W ls.length p)]) (λp=>[(p.1,p.2),(p.2,p.1)]) (λV q=>.str (k2 q)) (λV V=>true) (λV q=>k2 q) (λp q=>.int (Et W ls.length p-DX A q)) (J0:=[(S "steps",.dict (dI A))]) E.co
      (Bb.eq (Bb.pC Ev.b Ev.n Ev.n) ?_) (λp=>[(S "far",.int (Et W ls.length p)),(S "y",.str (sg p.2)),(S "x",.str (sg p.1)),(S "steps",.dict (dI A))]) (λV V h=>.tail _ (.tail _ (.tail _ h)))
      (λp hp cc sc=>Bind.tup (.cons (Bind.tup (.cons Bind.n (.cons Bind.n .nil))) (.cons Bind.n .nil))) (λp hp cc sc=>Bb.tup (Ev.tp (.cons (Ev.Lz Ev.n Ev.n) (.cons (Ev.Lz Ev.n Ev.n) .nil))))
      (λp q=>[(S "one",.str (k2 q)),(S "far",.int (Et W ls.length p)),(S "y",.str (sg p.2)),(S "x",.str (sg p.1)),(S "steps",.dict (dI A))]) (λV V V h=>.tail _ h) (λV V V V V sc=>Bind.n) (λV V V V V V=>CM.nil)
      (λp hp q hq V cc sc=>⟨Ev.n,Ev.Li Ev.n (Ev.CR Ev.n Ev.n (Hg ?_))⟩) ?_) ?_))))
     .unfold UB;rw[AB,List.map_zipWith,List.zipWith_map,List.zipWith_self];rfl
     .refine CC (Cu hp) ?_;intro m1 m2;refine Sd hq ?_ ?_
      .exact hA _ m1 _ m2
      .exact hA _ m2 _ m1
     .simp only[By];rw[BR];have key:∀l:List (Nat×Nat),(l.map λp:Nat×Nat=>([(p.1,p.2),(p.2,p.1)].map λq=>(k2 q,D.int (Et W ls.length p-DX A q))).length).sum<=2*l.length:=λl=>by
       induction l with
       |nil=>simp
       |cons p l ih=>rw[AI,BC,AZ];simp only[AA,AZ,BS]at ih ⊢;lia
      have:=key (CK ls);omega
     .have e:((CK ls).flatMap λx=>([(x.1,x.2),(x.2,x.1)].filter λV=>true).map λy=>(k2 y,D.int (Et W ls.length x-DX A y)))=(Nj ls W A).map λp=>(k2 p.1,D.int p.2):=by
       simp only[By];unfold Nj;rw[BP];rfl
      rw[e];exact congrArg D.dict (RK (Nj ls W A) [])
noncomputable abbrev TT:=List (Nat×Value×List Nat×Option Nat)
noncomputable def Ll(L:TT):List (Str×D):=L.map λt=>(sg t.1,D.obj t.2.1)
noncomputable def Ic(way:BZ)(ab:Option Nat):List (Str×D):=(S "way",.str (tx way))::(ab.toList.map λa=>(S "above",.str (sg a)))
noncomputable def HI(L:TT):Res:=wR (L.map λt=>(t.2.1,Ic t.2.2.1 t.2.2.2))
noncomputable def Em(a:Nat):Nat:=a-32
noncomputable def DF:List Nat:=[9,10,13,38,60,62,34]
noncomputable def kY(A:A2)(x:Nat)(ab:Nat->Nat)(y:Nat):Int:=DX A (x,y)-DX A (x,ab y)
noncomputable def Jh(A:A2)(x:Nat)(os:BZ)(ab:Nat->Nat)(p:Nat×Nat):Bool:=
 decide (kY A x ab p.1=2)||(decide (kY A x ab p.1=1)&&(decide (DX A (x,p.1)%2=0) == !(os.drop p.2).contains x))
noncomputable def Io(A:A2)(x:Nat)(os:BZ)(wx:BZ)(ab:Nat->Nat)(t:Nat)(p:Nat×Nat):Nat:=
 if wx.contains p.1 then Em p.1 else if Jh A x os ab p then DF.getD ((p.2+t)%7) 0 else p.1
noncomputable def EC(A:A2)(x:Nat)(os:BZ)(wx:BZ)(ab:Nat->Nat)(t:Nat):List Nat:=os.zipIdx.map (Io A x os wx ab t)
theorem XG(l:BZ)(x:Nat):D.L2 (l.map λa=>D.str (sg a)) (.str (sg x))=l.contains x:=by
 unfold D.L2;rw[List.any_map];induction l with
 |nil=>rfl
 |cons a l ih=>
  rw[List.any_cons,ih,List.contains_cons];show((D.str (sg a)).eqv (.str (sg x))||_)=_;rw[Hh];congr 1;by_cases h:a=x
  .simp [h]
  .rw [decide_eq_false h];symm;simpa using λe:x=a=>h e.symm
theorem KE{l:BZ}(h:∀a∈l,a<128):Gm 1 (.list (l.map λa=>D.str (sg a))):=.list λd hd=>by
 refine Bi (AF.mp hd) ?_;rintro a ha rfl;exact .str (DT (h a ha))
theorem Bh.V7{x:Nat}{os:BZ}(a:Ev c J l (.str (sg x)))(b:Ev c J r (.list (os.map λa=>.str (sg a))))(hx:x<128)(ho:∀a∈os,a<128)(hm:autoParam (behindInMarks .NotIn r=false) Dz):Bh c J l .NotIn r (!os.contains x):=
 (Bh.bh (n:=0) a b (.str (DT hx)) (KE ho) (by decide) hm).eq (by rw[XG])
theorem Kj(a b:Bool):(D.bool a).eqv (.bool b)=(a==b):=by
 show PyData.eqv (.bool a) (.bool b)=_;rw[PyData.eqv]
theorem Bh.tJ{a b:Bool}(x:Ev c J l (.bool a))(y:Ev c J r (.bool b))(hm:autoParam (behindInMarks .Eq r=false) Dz):Bh c J l .Eq r (a==b):=
 (Bh.UC (n:=0) (m:=0) x y .bool .bool (by decide) hm).eq (Kj a b)
theorem Bh.qa{a:Nat}(x:Ev c J l (.str (sg a)))(y:Ev c J r (.str (tx cs)))(hm:autoParam (behindInMarks .In r=false) Dz):Bh c J l .In r (cs.contains a):=
 (Bh.nj x y hm).eq (JX cs a)
theorem Pd:∀a∈[98,99,100,101,102],Txt.upper (sg a)=sg (Em a):=by decide +kernel
theorem MU:CA 290 (Ba 29) (S "_law_address") 289 .none CY:=⟨λP=>rfl,λP=>⟨_,_,_,rfl,rfl,rfl⟩,rfl,rfl,rfl⟩
theorem N9{L:TT}{y:Nat}{wy:BZ}{a:Option Nat}(h:L.lookup y=some (v,wy,a)):(Ll L).lookup (sg y)=some (.obj v):=by
 unfold Ll;rw[FI sg (λV V=>Ek) (λt:Value×List Nat×Option Nat=>D.obj t.1) y L,h];rfl
theorem Pa{hp:Heap}{L:TT}{y:Nat}{wy:BZ}{a:Option Nat}(h:L.lookup y=some (v,wy,a))(g:(HI L).P w X hp):OH w X hp v (Ic wy a):=
 g _ (AF.mpr ⟨_,lookup_mem h,rfl⟩)
theorem VI(w:World)(k:Nat)(x:Nat)(os:BZ)(L:TT)(A:A2)(t:Nat)(wx:BZ)(ab:Nat->Nat)(ax:Option Nat)(vx:Value)(h5:os.length<=10)(hx:x<128)(Nc:∀a∈os,a∈[98,99,100,101,102])(qF:L.lookup x=some (vx,wx,ax))(hL:∀y∈os,∃v wy,L.lookup y=some (v,wy,some (ab y)))(hA:∀y∈os,ED A (x,y)/\ED A (x,ab y))(ht:t<7) :
  CU w 290 (k+1) (HI L) [.str (sg x),.list (os.map λa=>.str (sg a)),.dict (Ll L),.dict (dI A),.int (t:Nat)] (.str (tx (EC A x os wx ab t))) (HI L):=by
 refine Kv MU (names:=[S "x",S "order",S "things",S "lacks",S "turn"]) (λvs e=>?_) rfl (.of (by decide +kernel)) λc X h0 F=>?_
 .refine iY (hZ e) ?_;rintro v1 v2 v3 v4 v5 rfl;rfl
 .have E:=F.env;have oN:∀a∈os,a<128:=λa ha=>by
   have:=Nc a ha;simp only[AJ,An,or_false]at this;lia
  let base:List (Str×D):=[(S "x",.str (sg x)),(S "order",.list (os.map λa=>.str (sg a))),(S "things",.dict (Ll L)),(S "lacks",.dict (dI A)),(S "turn",.int (t:Nat))]
  refine Be.step (J':=[(S "signs",.str (tx [])),(S "x",.str (sg x)),(S "order",.list (os.map λa=>.str (sg a))),(S "things",.dict (Ll L)),(S "lacks",.dict (dI A)),(S "turn",.int (t:Nat))]) (Ex.sn (d:=.str (tx [])) (Ev.eq Ev.cStr (congrArg D.str (by decide +kernel)))) ?_;refine Be.cons (Ex.for (ds:=(os.zipIdx).map λp=>.tup [.int (p.2:Nat),.str (sg p.1)]) E.ro (λV=>c.G) (λi=>[(S "signs",.str (tx ((EC A x os wx ab t).take i))),(S "x",.str (sg x)),(S "order",.list (os.map λa=>.str (sg a))),(S "things",.dict (Ll L)),(S "lacks",.dict (dI A)),(S "turn",.int (t:Nat))]) rfl rfl
   (Bb.eq (Bb.enum Ev.b Ev.n) (Fy _ _)) (λi d hd X1 T hX=>?_)) ?_
  .rw [AL,AS]at hd;refine Bi hd ?_;clear hd;rintro Cr hz rfl;obtain⟨y,kk⟩:=Cr;refine FP (mem_zipIdx (AQ hz)) ?_;intro m1 m2 m3;have hk:kk=i:=by
    rw[List.getElem?_zipIdx]at hz;cases hc:os[i]? with
    |none=>rw[hc]at hz;cases hz
    |some q=>rw[hc]at hz;simp at hz;(clear m1;lia)
   subst hk;dsimp only at m1 m2 m3;refine MC (hL y m2) ?_;intro v wy qG;have E1:Bj (c.on X1 (c.G.star T)) w (BY (Ba 29)) k:=E.on;have fz:∀ {v wy a y},L.lookup y=some (v,wy,a)->∀X' h',(c.on X1 (c.G.star T)).G.P (c.on X1 (c.G.star T)).w X' h'->OH (c.on X1 (c.G.star T)).w X' h' v (Ic wy a):=λhl X' h' z=>by
    have z1:c.G.P c.w X' h':=z.1;rw[F.hG]at z1;exact Pa hl z1
   let up:=kY A x ab y;let st:=Jh A x os ab (y,kk);let R0:List (Str×D):=[(S "signs",.str (tx ((EC A x os wx ab t).take kk))),(S "x",.str (sg x)),(S "order",.list (os.map λa=>.str (sg a))),(S "things",.dict (Ll L)),(S "lacks",.dict (dI A)),(S "turn",.int (t:Nat))]
   refine⟨(S "y",.str (sg y))::(S "k",.int (kk:Nat))::R0,Bind.tup (.cons Bind.n (.cons Bind.n .nil)),?_⟩;refine Be.step (J':=(S "lack",.int (DX A (x,y)))::(S "y",.str (sg y))::(S "k",.int (kk:Nat))::R0) (Ex.sn (d:=.int (DX A (x,y))) (Ev.CR Ev.n (Ev.Lz Ev.n Ev.n) (Hg (hA y m2).1))) ?_;refine Be.step (J':=(S "up",.int up)::(S "lack",.int (DX A (x,y)))::(S "y",.str (sg y))::(S "k",.int (kk:Nat))::R0) (Ex.sn (d:=.int up) (Ev.Li Ev.n (Ev.CR Ev.n (Ev.Lz Ev.n (Ev.CR (es:=Ic wy (some (ab y))) (Ev.Pw (fz qG) (Ev.CR Ev.n Ev.n (N9 qG))) Ev.cStr (by rfl))) (Hg (hA y m2).2)))) ?_;refine Be.step (J':=(S "star",.bool st)::(S "up",.int up)::(S "lack",.int (DX A (x,y)))::(S "y",.str (sg y))::(S "k",.int (kk:Nat))::R0) (Ex.sn (d:=.bool st) (Ev.oY (Ev.cmp (Bh.dG Ev.n Ev.cInt)) λV=>Ev.ZC (Ev.cmp (Bh.dG Ev.n Ev.cInt)) λV=>Ev.cmp (Bh.tJ (Ev.cmp (Bh.dG (Ev.MB Ev.n Ev.cInt (by decide)) Ev.cInt)) (Ev.cmp (Bh.V7 Ev.n (Ev.eq (Ev.EI Ev.n (Part.int Ev.n) Part.no ?_) ?_) hx λa ha=>oN a (Aj ha)))))) ?_
   .rw [AA];exact lb h5 rfl
   .rw [Dj,List.map_drop]
   .have Mc:(EC A x os wx ab t).take (kk+1)=(EC A x os wx ab t).take kk++[Io A x os wx ab t (y,kk)]:=by
     rw[A3];congr 1;unfold EC;rw[AL,hz];rfl
    refine Be.step (J':=(S "signs",.str (tx ((EC A x os wx ab t).take (kk+1))))::(S "star",.bool st)::(S "up",.int up)::(S "lack",.int (DX A (x,y)))::(S "y",.str (sg y))::(S "k",.int (kk:Nat))::R0.drop 1) (Ex.lO (a:=tx ((EC A x os wx ab t).take kk)) (b:=sg (Io A x os wx ab t (y,kk))) (lookup_mem (by rfl)) ?_ (E1.name (.inl rfl)) (DG.of ?_) ?_) ?_
    .refine Ev.eq (Ev.G5 (d:=.str (sg (Em y))) (CL.cmp (Bh.qa (cs:=wx) Ev.n (Ev.CR (es:=Ic wx ax) (Ev.Pw (fz qF) (Ev.CR Ev.n Ev.n (N9 qF))) Ev.cStr (by rfl)))) (λV=>Ev.eq (Ev.upper Ev.n (AE rfl)) ?_) λV=>Ev.G5 (d:=.str (sg (DF.getD ((kk+t)%7) 0))) (CL.val (d:=.bool st) Ev.n trivial) (λV=>Ev.Om (cs:=DF) (i:=(kk+t)%7) (Ev.eq Ev.cStr (congrArg D.str (by decide +kernel))) (Ev.eq (Ev.MB (Ev.Il Ev.n Ev.n) Ev.cInt (by decide)) ?_) ?_ (by decide) (by decide)) λV=>Ev.n) ?_
     .exact congrArg D.str (Pd y (Nc y m2))
     .congr 1
     .have hm:(kk+t)%7<DF.length:=Nat.mod_lt _ (by decide);exact getD_some _ hm
     .unfold Io;dsimp only;have e1:(D.bool st).Lm=Jh A x os ab (y,kk):=rfl;rw[e1];cases wx.contains y
      .cases Jh A x os ab (y,kk)<;>rfl
      .rfl
    .have e2:tx ((EC A x os wx ab t).take kk)++sg (Io A x os wx ab t (y,kk))=tx ((EC A x os wx ab t).take (kk+1)):=by
      rw[Mc,jA,Ws]
     rw[e2];rfl
    .rw [DY];have:=List.length_take_le kk (EC A x os wx ab t);show _+1<=_;omega
    .refine Be.nil (Be.done λh Fh=>⟨X1,hX,?_⟩);exact Fh.sub (Fo [0,6,7,8,9,10] rfl)
  .intro h2 Dv;refine Bi Dv ?_;intro X2 Hk F2;have hl:((os.zipIdx).map λp=>D.tup [.int (p.2:Nat),.str (sg p.1)]).length=(EC A x os wx ab t).length:=by unfold EC;rw[AA,AA]
   rw[hl,BF]at F2;refine⟨c.on X2 c.G,_,⟨rfl,rfl,rfl⟩,F2,?_⟩;refine Be.ret (λs' F' Q E' n r=>wpAny_Return_some ((Ev.n (d:=.str (tx (EC A x os wx ab t)))) s' F' _ _ λv h3 t3 l3 r3=>r v h3 t3 ?_));have F3:=F'.le l3;exact⟨r3.move (Ce Hk),F3.old,F3.base,by have:=F3.g;rw[show(c.on X2 c.G).G=HI L from F.hG]at this;exact Res.CD this Hk⟩
theorem NJ(L:List α)(i:Nat):cut L none (some (i:Int))=L.take i:=by
 unfold cut;show(L.drop 0).take (clipAt L.length i-0)=_;rw[clipAt_nat,List.drop_zero,Nat.sub_zero];by_cases hi:i<=L.length
 .rw [Nat.min_eq_left hi]
 .rw [Nat.min_eq_right (by exact Nat.le_of_not_ge hi),BF,List.take_of_length_le (by exact Nat.le_of_not_ge hi)]
noncomputable def Dg(cs:BZ):List Nat:=(List.replicate 20 cs).flatten
theorem V1(cs:BZ):Txt.mul (tx cs) 20=tx (Dg cs):=by
 unfold Txt.mul;rw[if_neg (by decide)];have key:∀(n:Nat) (acc:Array Nat),((List.replicate n cs.toArray).foldl (·++·) acc)=acc++(List.replicate n cs).flatten.toArray:=λn=>by
  induction n with
  |zero=>intro acc;simp
  |succ n ih=>intro acc;rw[List.replicate_succ,As,ih,List.replicate_succ,List.flatten_cons];simp[Array.append_assoc]
 by_cases h:cs=[]
 .subst h;rw[if_pos (by decide)];show tx []=tx (Dg []);congr 1
 .rw [if_neg (by rw[DY];simpa using h)];show(⟨(List.replicate 20 cs.toArray).foldl (·++·) #[]⟩:Str)=_;rw[key];unfold tx Dg;simp
theorem Tg(cs:BZ):(Dg cs).length=20*cs.length:=by
 unfold Dg;generalize 20=n;induction n with
 |zero=>simp
 |succ n ih=>rw[List.replicate_succ,List.flatten_cons,Ac,ih,Nat.succ_mul,Nat.add_comm]
theorem Tj{a:Nat}(ha:a∈Dg cs):a∈cs:=by
 unfold Dg at ha;refine Bi (List.mem_flatten.mp ha) ?_;intro l hl ha;rw[List.eq_of_mem_replicate hl]at ha;exact ha
noncomputable def GQ(a:Nat):Bool:=Txt.isalpha (sg a)
noncomputable def bT(a b:BZ):Nat:=((List.zip a b).filter λq=>GQ q.1 != GQ q.2).length
noncomputable abbrev P2:=List (Nat×List Str)
noncomputable def dP(P:P2):List (Str×D):=P.map λp=>(sg p.1,.list (p.2.map .str))
noncomputable def Cz(P:P2)(x:Nat):List Str:=(P.lookup x).getD []
theorem GV{β:Type}{W:List (Nat×β)}{x:Nat}(h:x∈W.map (·.1)):∃v,W.lookup x=some v:=by
 induction W with
 |nil=>cases h
 |cons p W ih=>
  obtain⟨a,b⟩:=p;rw[AK];by_cases e:x=a
  .rw [e,beq_self_eq_true];exact⟨b,rfl⟩
  .rw [show(x==a)=false by simpa using e];rcases AJ.mp h with h|h
   .exact absurd h e
   .exact ih h
theorem EP{P:P2}{x:Nat}(h:x∈P.map (·.1)):(dP P).lookup (sg x)=some (.list ((Cz P x).map .str)):=by
 unfold dP;rw[FI sg (λV V=>Ek) (λw:List Str=>D.list (w.map .str)) x P];refine B6 (GV h) ?_;intro v e;rw[Cz,e];rfl
noncomputable def ER(A:A2)(G:W2)(x y:Nat):Int:=DX A (x,y)+2*(bT (Bo G x) (Bo G y):Nat)
noncomputable def Dn(P:P2)(x:Nat)(k:Nat):List Str:=(Cz P x).take (k-1)++(Cz P x).drop k
noncomputable def Dt(A:A2)(G:W2)(x y:Nat)(k:Nat):Int:=if GQ ((Bo G x).getD (k-1) 0)=true then ER A G x y+1 else ER A G x y
theorem Bh.vJ{a b:Int}(x:Ev c J l (.int a))(y:Ev c J r (.int b))(hm:autoParam (behindInMarks .NotEq r=false) Dz):Bh c J l .NotEq r (!decide (a=b)):=
 (Bh.W9 (n:=0) (m:=0) x y .int .int (by decide) hm).eq (by rw[RO])
theorem Bh.vH{a b:Bool}(x:Ev c J l (.bool a))(y:Ev c J r (.bool b))(hm:autoParam (behindInMarks .NotEq r=false) Dz):Bh c J l .NotEq r (a != b):=
 (Bh.W9 (n:=0) (m:=0) x y .bool .bool (by decide) hm).eq (by rw[Kj];rfl)
theorem OU:CA 300 (Ba 31) (S "_law_prices") 299 .none CY:=⟨λP=>rfl,λP=>⟨_,_,_,rfl,rfl,rfl⟩,rfl,rfl,rfl⟩
structure M5(A:A2)(G:W2)(P:P2)(hd:Nat)(k y x:Nat):Prop where
 small:0<=ER A G x y/\ER A G x y<29
 p1:Jr (Bo G x) (Bo G y) (ER A G x y)=ER A G x y
 p2:Gp (Cz P y) (Dn P x k) (Dt A G x y k)=Dt A G x y k
 q1:x=hd->ER A G x y<=Jr (Bo G y) (Bo G x) (ER A G x y-1)
 q2:x=hd->2<=Gp (Dn P x k) (Cz P y) 1
 q3:x=hd->Jr (Dg (Bo G x)) (Dg (Bo G y)) 200=201
theorem Xv(w:World)(kk:Nat)(ls:BZ)(hd:Nat)(A:A2)(G:W2)(P:P2)(h5:ls.length<=10)(Nc:∀a∈ls,a<128)(gC:ls.head? = some hd)(hG:∀x∈ls,x∈G.map (·.1))(hP:∀x∈ls,x∈P.map (·.1))(hA:∀x∈ls,∀y∈ls,ED A (x,y))(qD:∀x∈ls,(Bo G x).length+1=ls.length/\∀a∈Bo G x,a∈Bz)(qH:∀x∈ls,(Cz P x).length<=100/\∀a∈Cz P x,FE a)(nN:∀k y,ls[k]? = some y->∀x∈ls.take k,M5 A G P hd k y x) :
  DA w 300 (kk+3) [.list (ls.map λa=>.str (sg a)),.dict (dW G),.dict (dP P),.dict (dI A)] (.bool true):=by
 refine Ef OU (names:=[S "line",S "signs",S "pieces",S "steps"]) (λvs e=>?_) rfl (.of (by decide +kernel)) λc X h0 F=>?_
 .refine rD (hY e) ?_;rintro v1 v2 v3 v4 rfl;rfl
 .have E:=F.env;let R0:List (Str×D):=[(S "line",.list (ls.map λa=>.str (sg a))),(S "signs",.dict (dW G)),(S "pieces",.dict (dP P)),(S "steps",.dict (dI A))]
  refine Be.cons (Ex.for (ds:=(ls.zipIdx).map λp=>.tup [.int (p.2:Nat),.str (sg p.1)]) E.ro (λV=>c.G) (λi=>R0) rfl rfl (Bb.eq (Bb.enum Ev.b Ev.n) (Fy _ _)) (λi d Xz X1 T hX=>?_)) ?_
  .rw [AL,AS]at Xz;refine Bi Xz ?_;clear Xz;rintro Cr hz rfl;obtain⟨y,k⟩:=Cr;refine FP (mem_zipIdx (AQ hz)) ?_;intro m1 m2 m3;dsimp only at m1 m2 m3;have E1:Bj (c.on X1 (c.G.star T)) w (BY (Ba 31)) (kk+2):=E.on;refine⟨(S "y",.str (sg y))::(S "k",.int (k:Nat))::R0,Bind.tup (.cons Bind.n (.cons Bind.n .nil)),?_⟩;refine Be.cons (Ex.for (ds:=(ls.take k).map λa=>.str (sg a)) E1.ro (λV=>c.G.star T) (λi=>(S "y",.str (sg y))::(S "k",.int (k:Nat))::R0) rfl rfl (Bb.list (Ev.eq (Ev.EI Ev.n Part.no (Part.int Ev.n) ?_) ?_)) (λj d hj X2 T2 Hk=>?_)) ?_
   .rw [AA];exact lb h5 rfl
   .rw [NJ,List.map_take]
   .rw [AL,AS]at hj;refine Bi hj ?_;clear hj;rintro x ug rfl;have mx:=AQ ug;have V2:=Ay mx;have PO:=nN k y m3 x mx;have E2:Bj ((c.on X1 (c.G.star T)).on X2 ((c.G.star T).star T2)) w (BY (Ba 31)) (kk+2):=E.on;refine CC (qD x V2) ?_;intro ai dH;refine CC (qD y m2) ?_;intro fv js;refine CC (qH x V2) ?_;intro cC rM;refine CC (qH y m2) ?_;intro om kO;have k1:1<=k:=by
     have:=List.length_pos_of_mem mx;rw[Ae]at this;exact Ai this (BU _ _)
    let pr:=ER A G x y;refine⟨(S "x",.str (sg x))::(S "y",.str (sg y))::(S "k",.int (k:Nat))::R0,Bind.n,?_⟩;refine Be.step (J':=(S "price",.int pr)::(S "x",.str (sg x))::(S "y",.str (sg y))::(S "k",.int (k:Nat))::R0) (Ex.sn (d:=.int pr) (Ev.Il (Ev.CR Ev.n (Ev.Lz Ev.n Ev.n) (Hg (hA x V2 y m2))) (Ev.TV Ev.cInt (Ev.YM Ev.b (CE.ev (CE.C1 (List.zip (Bo G x) (Bo G y)) B8 (λq=>GQ q.1 != GQ q.2) (λq=>.int 1) (J0:=[]) E2.co
     (Bb.eq (Bb.jW Ev.b (Ev.CR Ev.n Ev.n (CN (hG x V2))) (Ev.CR Ev.n Ev.n (CN (hG y m2))) (λa ha=>Dp a (dH a ha)) (λa ha=>Dp a (js a ha)) (Nat.succ.inj (ai.trans fv.symm))) ?_)
     (λq=>[(S "b",.str (sg q.2)),(S "a",.str (sg q.1))]) (λV V h=>by cases h) (λV V V iz=>Bind.tup (.cons Bind.n (.cons Bind.n .nil))) (λq V V iz=>CM.one (CL.cmp (Bh.vH (Ev.isalpha Ev.n) (Ev.isalpha Ev.n)))) (λV V V V iz=>Ev.cInt) ?_)) ?_) (by decide)))) ?_
    .unfold Q7;rw[List.map_zipWith,List.zip_eq_zipWith,List.map_zipWith];rfl
    .rw [List.length_zip];exact AD (BU _ _) (YL ai h5 rfl)
    .refine AD (AV _ _) ?_;rw[List.length_zip];exact AD (BU _ _) (YL ai h5 rfl)
    .refine Be.step (J':=(S "short",.list ((Dn P x k).map .str))::(S "more",.int (Dt A G x y k))::(S "price",.int pr)::(S "x",.str (sg x))::(S "y",.str (sg y))::(S "k",.int (k:Nat))::R0)
      (Ex.SN (n1:=S "short") (n2:=S "more") (d1:=.list ((Dn P x k).map .str)) (d2:=.int (Dt A G x y k)) (J1:=(S "more",.int (Dt A G x y k))::(S "price",.int pr)::(S "x",.str (sg x))::(S "y",.str (sg y))::(S "k",.int (k:Nat))::R0) ?_ ⟨by decide,by decide⟩ ⟨by decide,by decide⟩ (E2.name (.inl rfl)) (E2.name (.inl rfl)) (DG.of (by rfl)) (DG.of (by rfl)) ?_) ?_
     .refine Ev.tp (.cons (Ev.eq (Ev.eI (a:=((Cz P x).take (k-1)).map .str) (b:=((Cz P x).drop k).map .str) (Ev.eq (Ev.EI (ku:=some ((k-1:Nat):Int)) (Ev.CR Ev.n Ev.n (EP (hP x V2))) Part.no (Part.int (Ev.eq (Ev.Li Ev.n Ev.cInt) ?_)) ?_) ?_) (Ev.eq (Ev.EI (Ev.CR Ev.n Ev.n (EP (hP x V2))) (Part.int Ev.n) Part.no ?_) ?_) ?_) ?_)
       (.cons (Ev.eq (Ev.G5 (d:=.int (pr+1)) (d':=.int pr) (CL.val (d:=.bool (GQ ((Bo G x).getD (k-1) 0))) (Ev.isalpha (Ev.Om (i:=k-1) (Ev.CR Ev.n Ev.n (CN (hG x V2))) (Ev.eq (Ev.Li Ev.n Ev.cInt) ?_) ?_ ?_ ?_)) trivial) (λV=>Ev.Il Ev.n Ev.cInt) λV=>Ev.n) ?_) .nil))
      .congr 1;exact(Int.ofNat_sub k1).symm
      .rw [AA];exact lb cC rfl
      .rw [NJ,List.map_take]
      .rw [AA];exact lb cC rfl
      .rw [Dj,List.map_drop]
      .rw [AA,AA,Ae,AM];exact g9 (AD (A9 _ _) cC) (AD (BN _ _) cC) rfl
      .unfold Dn;rw[Af]
      .congr 1;exact(Int.ofNat_sub k1).symm
      .exact getD_some _ (by(clear fv cC om;omega))
      .exact YL ai h5 rfl
      .exact λa ha=>Dp a (dH a ha)
      .unfold Dt;cases hb:GQ ((Bo G x).getD (k-1) 0)<;>rfl
     .unfold swappedStores Env.blockKind Env.kindOf;rw[E2.hs];rfl
     .have hw:=F.hw;have we:∀a∈Bo G x,a∈Bz:=dH;have kN:∀ {l:B3},(∀a∈l,FE a)->o8.ok l:=λh a ha=>(h a ha).1;have jq:∀a∈Dn P x k,FE a:=λa ha=>by
       unfold Dn at ha;rcases Ar.mp ha with h|h
       .exact rM a (Ay h)
       .exact rM a (Aj h)
      have qt:(Dn P x k).length<=1000:=by unfold Dn;rw[Ac,Ae,AM];exact g9 (AD (A9 _ _) cC) (AD (BN _ _) cC) rfl
      have ps:=PO.small;have ms:0<=Dt A G x y k/\Dt A G x y k<30:=by unfold Dt;split<;>lia
      have g1:DA c.w 45 (kk+2) [.str (tx (Bo G x)),.str (tx (Bo G y)),.int pr] (.int pr):=by
       have:=Ra c.w kk (a:=Bo G x) (b:=Bo G y) (m:=pr) dH js (YL ai h5 rfl) (YL fv h5 rfl) (by omega);rwa [PO.p1]at this
      have g2:DA c.w 45 (kk+2) [.list ((Cz P y).map .str),.list ((Dn P x k).map .str),.int (Dt A G x y k)] (.int (Dt A G x y k)):=by
       have:=aa o8 c.w kk (a:=Cz P y) (b:=Dn P x k) (m:=Dt A G x y k) (kN kO) (kN jq) (lb om rfl) qt kO jq (u5 ms rfl);rwa [PO.p2]at this
      have lk:kk+2<=c.k:=by rw[F.hk];exact Ad _
      let R1:List (Str×D):=(S "short",.list ((Dn P x k).map .str))::(S "more",.int (Dt A G x y k))::(S "price",.int pr)::(S "x",.str (sg x))::(S "y",.str (sg y))::(S "k",.int (k:Nat))::R0;refine Be.step (J':=(S "told",.list ([pr,Dt A G x y k].map .int))::R1) (Ex.sn (d:=.list ([pr,Dt A G x y k].map .int)) (Ev.ls (.cons (Ev.FW (fa:=45) (k:=kk+2) (ds:=[.str (tx (Bo G x)),.str (tx (Bo G y)),.int pr]) Ev.g (.cons (Ev.CR Ev.n Ev.n (CN (hG x V2))) (.cons (Ev.CR Ev.n Ev.n (CN (hG y m2))) (.cons Ev.n .nil))) g1 lk ⟨_,_,_,_,_,Kq⟩)
       (.cons (Ev.FW (fa:=45) (k:=kk+2) (ds:=[.list ((Cz P y).map .str),.list ((Dn P x k).map .str),.int (Dt A G x y k)]) Ev.g (.cons (Ev.CR Ev.n Ev.n (EP (hP y m2))) (.cons Ev.n (.cons Ev.n .nil))) g2 lk ⟨_,_,_,_,_,Kq⟩) .nil)))) ?_
      have rR:∀i∈[pr,Dt A G x y k],0<=i/\i<30:=λi hi=>by
       refine Sd hi ?_ ?_
       .omega
       .exact ms
      refine Be.if (CL.cmp (Bh.V4 (t:=Qv [pr,Dt A G x y k]) (Ev.Yu (is:=[pr,Dt A G x y k]) Ev.b Ev.n rR (AE rfl)) (Ev.Yu (is:=[pr,Dt A G x y k]) Ev.b (Ev.ls (.cons Ev.n (.cons Ev.n .nil))) rR (AE rfl)))) (λh=>by cases h) λV=>Be.nil ?_
      have Gy:(ls.map λa=>D.str (sg a))[(0:Int).toNat]? = some (.str (sg hd)):=by
       rw[AL];cases ls with
       |nil=>cases gC
       |cons a l=>cases gC;rfl
      have uD:hd<128:=Nc hd (List.mem_of_mem_head? gC);refine Be.if (b:=false) (CL.eq (CL.Zx (a:=decide (x=hd)) (b:=false) (CL.cmp (Bh.mF Ev.n (Ev.FH (i:=0) Ev.n Ev.cInt (by decide) Gy (by rw[AA];exact lb h5 rfl)) (Nc x V2) uD)) λhx=>CL.boolOp (b:=false) ?_) (by rw[Bool.and_false])) (λh=>by cases h) λV=>Be.nil (Be.nil (Be.done λh Fh=>⟨X2,Hk,?_⟩))
      .have QP:=of_decide_eq_true hx;have g3:=Ra c.w kk (a:=Bo G y) (b:=Bo G x) (m:=pr-1) js dH (YL fv h5 rfl) (YL ai h5 rfl) (by omega);have g4:=aa o8 c.w kk (a:=Dn P x k) (b:=Cz P y) (m:=1) (kN jq) (kN kO) qt (lb om rfl) jq kO (by decide);have qj:=Tg;have qv:∀ {cs:BZ}{a:Nat},a∈Dg cs->a∈cs:=λh=>Tj h;have g5:=Ra c.w kk (a:=Dg (Bo G x)) (b:=Dg (Bo G y)) (m:=200) (λa ha=>dH a (qv ha)) (λa ha=>js a (qv ha)) (by rw[qj];exact iD (YL (c:=9) ai h5 rfl) rfl) (by rw[qj];exact iD (YL (c:=9) fv h5 rfl) rfl) (by decide);rw[PO.q3 QP]at g5;refine Hc.LP (a:=false) (b:=false) (CL.eq (CL.cmp (Bh.ltI (Ev.FW (fa:=45) (k:=kk+2) (ds:=[.str (tx (Bo G y)),.str (tx (Bo G x)),.int (pr-1)]) Ev.g (.cons (Ev.CR Ev.n Ev.n (CN (hG y m2))) (.cons (Ev.CR Ev.n Ev.n (CN (hG x V2))) (.cons (Ev.Li Ev.n Ev.cInt) .nil))) g3 lk ⟨_,_,_,_,_,Kq⟩) Ev.n)) ?_) λV=>
        Hc.LP (a:=false) (b:=false) (CL.eq (CL.cmp (Bh.ltI (Ev.FW (fa:=45) (k:=kk+2) (ds:=[.list ((Dn P x k).map .str),.list ((Cz P y).map .str),.int 1]) Ev.g (.cons Ev.n (.cons (Ev.CR Ev.n Ev.n (EP (hP y m2))) (.cons Ev.cInt .nil))) g4 lk ⟨_,_,_,_,_,Kq⟩) Ev.cInt)) ?_) λV=>
        Hc.LP (a:=false) (b:=false) (CL.eq (CL.cmp (Bh.vJ (Ev.FW (fa:=45) (k:=kk+2) (ds:=[.str (tx (Dg (Bo G x))),.str (tx (Dg (Bo G y))),.int 200]) Ev.g (.cons (Ev.eq (Ev.bV (Ev.CR Ev.n Ev.n (CN (hG x V2))) Ev.cInt ?_) ?_) (.cons (Ev.eq (Ev.bV (Ev.CR Ev.n Ev.n (CN (hG y m2))) Ev.cInt ?_) ?_) (.cons Ev.cInt .nil))) g5 lk ⟨_,_,_,_,_,Kq⟩) Ev.cInt)) ?_) λV=>Hc.Zi
       .have:=PO.q1 QP;exact decide_eq_false (by show ¬Jr (Bo G y) (Bo G x) (ER A G x y-1)<ER A G x y;omega)
       .have:=PO.q2 QP;exact decide_eq_false (by omega)
       .rw [DY];omega
       .rw [V1]
       .rw [DY];omega
       .rw [V1]
       .rfl
      .exact Fh.sub λp hp=>.tail _ (.tail _ (.tail _ (.tail _ (.tail _ hp))))
   .intro h2 Dv;refine Bi Dv ?_;intro X3 ZQ F3;refine⟨c.on X3 (c.G.star T),_,⟨rfl,rfl,rfl⟩,F3,Be.nil (Be.done λh Fh=>⟨X3,λb z=>ZQ b (hX b z),?_⟩)⟩;exact Fh.sub λp hp=>.tail _ (.tail _ hp)
  .intro h2 HW;refine Bi HW ?_;intro X2 Hk F2;exact⟨c.on X2 c.G,_,⟨rfl,rfl,rfl⟩,F2,Be.imp (Be.ret (Ex.ret Ev.cBool)) (λV z=>z) λv h z=>HT.on Hk z⟩
section
open PySem.Builtin PySem.Builtin.Re
noncomputable def IZ:Array Nat:=#[14,14,4,1,1,9,4294966783,0,0,2147483648,0,0,0,0,0,13,11,9,4294966783,0,0,2147483648,0,0,0,0,0,1]
theorem Qt:∀a∈Bq,((PySem.Sre.forSearch IZ #[a] 0 0 1 false).runFor 4).outcome=some .failed:=by
 intro a ha;simp only[Bq,AJ,An,or_false]at ha;rcases ha with rfl|rfl|rfl|rfl|rfl|rfl|rfl|rfl|rfl|rfl<;>kernel_rfl
theorem WB:PlainAttrs "re.Pattern":=⟨⟨"object.__getattribute__",by rw[Ap,builtinLookup_eq_fast];kernel_rfl,by decide +kernel⟩,by rw[Ap,builtinLookup_eq_fast];kernel_rfl⟩
theorem Fg:Slot "re.Pattern" "search" "re.Pattern.search":=
 .of (owner:="re.Pattern") (n:="search") (by rw[Ap,builtinLookup_eq_fast];kernel_rfl) (by decide +kernel) (by decide +kernel) (by decide +kernel)
  (by first|exact .inl (by decide +kernel)|exact .inr (by decide +kernel)) (by rw[isSubtype_type];kernel_rfl)
theorem Jj:typeOf (.builtin "re.Pattern.search")=pure (.type "method_descriptor"):=by rw[builtinType_eq_fast];kernel_rfl
theorem H5:entryFor table "re.Pattern.search"=some Builtin.«re.Pattern.search»:=entryFor_of_tree (by kernel_rfl)
theorem JU(a b:Value):argsOk "re.Pattern.search" ⟨[a,b],[]⟩:=by kernel_rfl
section
variable {w:World}{A:Around}{E:CH}{s:Shared}
theorem MH{a:Nat}{t:Tok}{ot:Obj}(ha:a∈Bq)(h1:s.heap.get? 60=some {cls:=.type "re.Pattern",data:=.fields #[(.str (Str.ofString "[\\x00-\\x08\\x0A-\\x1F\\x7F]") 381:Value),(.int 32 412:Value),(.int 0 0:Value),(.none:Value),(.none:Value),(.ref 59:Value),(.int 0 0:Value)]})(h2:s.heap.get? 59=some ot)(h3:ot.data=.seq (IZ.map λn:Nat=>Value.int n 0) 0)(q0:Q .none s) :
  wpAny (model prog w) A (Builtin.«re.Pattern.search» ⟨[.ref 60,.str (sg a) t],[]⟩) (λfin s'=>∃v,fin=.done (.ret v)/\Q v s') E s:=by
 have tg:wpAny (model prog w) A (reTarget "re.Pattern.search" "search" ⟨[.ref 60,.str (sg a) t],[]⟩) (λr s'=>r={pattern:=.ref 60,string:=.str (sg a) t,code:=IZ,text:=#[a],kind:=0,groups:=0,pos:=0,lim:=1}/\s'=s) E s:=by
  obtain⟨h,g,d,tk,os⟩:=s;have hn:reNamed "re.Pattern.search" "search" ["string","pos","endpos"] 1 [.str (sg a) t] []=pure [some (.str (sg a) t),none,none]:=by kernel_rfl
  rw[hn];wp_walk;rw[h3];refine wpAny_pure (wpAny_pure (wpAny_pure ⟨?_,rfl⟩));have e1:((((some (IZ.map λn:Nat=>Value.int n 0)).getD #[]).map reRawOf).map λi:Int=>i.toNat)=IZ:=by decide +kernel
  have e2:min (Int.toNat (2^63-1)) (sg a).cps.size=1:=by show min (Int.toNat (2^63-1)) 1=1;decide
  have e3:min (Int.toNat 0) (sg a).cps.size=0:=Nat.zero_min _;rw[e1,e2,e3];rfl
 refine wpAny_bind (wpAny_mono tg (λr s' z=>?_) λV V z=>z);refine CC z ?_;clear z;rintro rfl rfl;refine wpAny_bind (Jg (.inl ⟨Qt a ha,wpAny_pure ⟨_,rfl,q0⟩⟩))
end
inductive Ii:Addr->Str->Prop
 |name {x:Str}:Dk x=false->1<=x.length->x.length<=1000000->Ii 55 x
 |val {a:Nat}:a∈Bq->Ii 60 (sg a)
theorem Ev.WS{apos:Pos}{p:Addr}(hx:Ii p x)(a:Ev c J o (.obj (.ref p)))(y:Ev c J e (.str x))(he:autoParam (D9 c e []) Bd)(hb:autoParam (attributeBase o "search" c.env (eval o c.env)=eval o c.env) Bd)(Dw:autoParam (((backTo pos (starEach [e] c.env)).all (λx=>!x.1)&&(backToKw pos (keywordEach [] c.env)).all (λx=>x.1.isSome)
   && decide ([e].length+([]:List Keyword).length+(if([]:List Keyword).isEmpty then 0 else 1)<30))=true) Bd)(hl:autoParam (J8 apos pos) Bd):Ev c J (.Call (.Attribute o "search" apos) [e] [] pos) .none:=
 λs F Q E q=>wpAny_Call_method_lateS hb Dw hl (a s F _ _ λv h1 t1 l1 r1=>by
  cases r1;have F1:=F.le l1;have gM:∃ob,h1.get? p=some ob/\ob.cls=.type "re.Pattern"/\ob.dict=none:=by
   cases hx with
   |name=>exact⟨_,F1.base.k 55 _ rfl,rfl,rfl⟩
   |val=>exact⟨_,F1.base.k 60 _ rfl,rfl,rfl⟩
  refine EJ gM ?_;clear gM;intro ob e1 e2 e3;refine⟨"re.Pattern","re.Pattern.search",WB,Fg,Jj,⟨ob,e1,e2⟩,(λa' e=>by cases e;exact⟨ob,e1,e3⟩),?_⟩;refine BI (wpAny_items_cons (y _ F1 _ _ λv h2 t2 l2 r2=>wpAny_items_nil ?_) he) he rfl;cases r2;have F2:=F1.le l2;have n0:∀b,b=p->b≠TP:=λb e=>by cases hx<;>(rw[e];decide)
  refine wpAny_call_entry Fg ⟨ob,Bu.keep l2 _ _ (n0 _ rfl) id e1,e2⟩ H5 ?_ (JU _ _);cases hx with
  |name h0 h1 h2=>exact HE (F2.base.k 55 _ rfl) (F2.base.k 54 _ rfl) (by kernel_rfl) h2 h1 (λV=>q _ _ _ (Bu.trans l1 l2) .none) (λh=>by rw[h0]at h;cases h)
  |val ha=>exact MH ha (F2.base.k 60 _ rfl) (F2.base.k 59 _ rfl) (by kernel_rfl) (q _ _ _ (Bu.trans l1 l2) .none))
end
noncomputable abbrev EF:Value:=.str (Str.ofString "cpy313.wsgiref.headers") 318
theorem D6:CA 90 (Bv 1) (S "Headers._convert_string_type") 89 .none EF:=⟨λP=>rfl,λP=>⟨_,_,_,rfl,rfl,rfl⟩,rfl,rfl,rfl⟩
theorem Ev.Zr{np:Pos}{t:Str}(f:Ev c J (.Name x np) (.obj (.type "type")))(y:Ev c J e (.str t))(he:autoParam (D9 c e []) Bd):Ev c J (.Call (.Name x np) [e] [] pos) (.obj (.type "str")):=
 .RF f (.cons y .nil he) (λvs s F r Q E q=>by
  refine Du (Bf.Bp r) ?_;rintro V V rfl a b;cases b;cases a;exact PySem.call_type_of (typeIs_str _ _ _) (by decide +kernel) (q _ s.heap s.toks (.refl _) (.obj _))) he
theorem Bh.isType{T:String}(x:Ev c J l (.obj (.type T)))(y:Ev c J r (.obj (.type T)))(hm:autoParam (behindInMarks .Is r=false) Dz):Bh c J l .Is r true:=
 Bh.of x y (λV V s F ra rb Q E q=>by
  cases ra;cases rb;exact wpAny_is_self rfl (q _ s.heap s.toks (.refl _) (.bool _))) hm
def CF(b:Bool)(x:Str):Prop:=Ii (if b then 55 else 60) x
theorem VJ(w:World)(k:Nat)(b:Bool)(x:Str)(hx:CF b x)(A:Around)(X:CG)(s:Shared)(self:Value)(t:Tok)(ok:E9 (k+1) A)(B:CW w s.heap)(xk:FU X s.heap) :
  Run w A Hw (call (.ref 90) [self,.str x t] [(Str.ofString "name",.bool b)]) s λv h'=>B9 X w h' v (.str x):=by
 refine VD D6 ok B xk (G:=Res.emp) trivial (λV z=>z.elim) (names:=[S "self",S "value",S "name"]) (vs:=[self,.str x t,.bool b]) (ds:=[.obj self,.str x,.bool b]) (.cons (.obj _) (.cons (.str _ _) (.cons (.bool _) .nil))) (by rfl) rfl (.of (by decide +kernel)) λc F=>?_
 .have E:=F.env;have fB:Be c [(S "self",.obj self),(S "value",.str x),(S "name",.bool b)] [Bt (Bv 1)] (λV=>False) (HT c (.str x)):=by
   refine Be.if (CL.cmp (Bh.isType (Ev.Zr Ev.b Ev.n) Ev.b)) (λV=>?_) (λh=>by cases h)
   refine Be.step (J':=[(S "regex",.obj (.ref (if b then 55 else 60))),(S "self",.obj self),(S "value",.str x),(S "name",.bool b)]) (Ex.sn (d:=.obj (.ref (if b then 55 else 60))) (Ev.eq (Ev.G5 (d:=.obj (.ref 55)) (d':=.obj (.ref 60)) (CL.val (d:=.bool b) Ev.n trivial) (λV=>Ev.g) λV=>Ev.g) (by cases b<;>rfl))) ?_;refine Be.if (CL.val (d:=.none) (Ev.WS hx Ev.n Ev.n) trivial) (λh=>by cases h) λV=>Be.nil ?_
   exact Be.ret (Ex.ret Ev.n)
  exact fB.imp (λV z=>z.elim) λv h z=>F.iy z
noncomputable abbrev JJ:Str:=Str.ofString "_headers"
noncomputable def Br(rows:Ci):List D:=rows.map λp=>.tup [.str p.1,.str p.2]
noncomputable def Bc(x dx l:Addr)(rows:Ci):Res where
 fp:=λb=>b=x\/b=dx\/b=l
 P:=λw X h=>∃ox vs,h.get? x=some ox/\ox.cls=.ref 189/\notCls ox=true/\ox.dict=some dx/\(∃m,h.Ns1 dx m/\m JJ=some (.ref l)/\∀n,n≠JJ->m n=none)/\h.PlainList l vs.toArray/\Bf X w h vs (Br rows)/\x≠TP/\dx≠TP/\l≠TP
 mv:=by
  intro w X X' h h' H k;refine bo H ?_;clear H;intro ox vs h1 h2 h3 h4 Cr h7 h8 n1 n2 n3;refine Bi Cr ?_;intro m h5 h6;refine⟨ox,vs,(k x ox (.inl (.inl rfl)) n1 h1).1,h2,h3,h4,⟨m,IM h5 λo e=>(k dx o (.inl (.inr (.inl rfl))) n2 e).1,h6⟩,?_,?_,n1,n2,n3⟩
  .refine B6 h7 ?_;clear h7;intro n e;exact⟨n,(k l _ (.inl (.inr (.inr rfl))) n3 e).1⟩
  .exact h8.move λb o n t e=>by refine CC (k b o (.inr (.inl n)) t e) ?_;intro x y;exact⟨x,y n⟩
theorem Mh{o:Obj}(N:h.Ns1 a m)(e:h.get? a=some o)(name:Str):lookIn name o=some (m name):=by
 refine rC N ?_;clear N;intro o' es ep e' hd hk V hf;rw[e]at e';cases e';unfold lookIn;rw[hd];dsimp only;have f:=hf name;unfold nsFind findBy at f;rw[<- Array.find?_toList]at f;cases hq:es.toList.find? λe=>e.key.isStr name with
 |some en=>rw[hq]at f;dsimp only;rw[<- f];rfl
 |none=>
  rw[hq]at f;dsimp only;rw[if_neg,<- f];rfl;intro z;refine Bi (Aq.mp z) ?_;intro en m7 hz;refine MC (hk en (by simpa using m7)) ?_;intro n t ek;unfold DictEntry.refKey at hz;rw[ek]at hz;cases hz
theorem ID{x dx l:Addr}{rows:Ci}(H:(Bc x dx l rows).P w X h):∃ox od,InstAt h x ox 189 (some od)/\lookIn JJ od=some (some (.ref l))/\∀n,n≠JJ->lookIn n od=some none:=by
 refine V8 H ?_;clear H;intro ox vs h1 h2 h3 h4 Dv V;refine EJ Dv ?_;intro m h5 h6 h7;refine Ju (id h5) ?_;intro od es ep e r;refine⟨ox,od,⟨h1,h2,h3,?_⟩,?_,λn hn=>?_⟩
 .rw [h4];exact e
 .rw [Mh h5 e,h6]
 .rw [Mh h5 e,h7 n hn]
theorem Py(P:Params):findIn (Kx P) (.ref 189) "__getattribute__"=some (some (.builtin "object.__getattribute__")):=by kernel_rfl
theorem aF(P:Params):findIn (Kx P) (.ref 189) "__getattr__"=some none:=by kernel_rfl
theorem aG(P:Params):findIn (Kx P) (.ref 189) JJ=some none:=by kernel_rfl
theorem Kr{P:Params}{od:Obj}(h:lookIn JJ od=some (some v)):findObj (Kx P) 189 (some od) JJ=some (.value v):=by
 unfold findObj;have hc:clsIn (Kx P) 189=some JB:=rfl;rw[hc,Option.bind_some,aG,Option.bind_some];show(PySem.W.ownOf JB (some od) JJ).bind _=_;have e:PySem.W.ownOf JB (some od) JJ=some (some v):=by
  unfold PySem.W.ownOf;exact(if_pos rfl).trans h
 rw[e];rfl
noncomputable def CJ(x dx l:Addr)(rows:Ci):Res where
 fp:=λV=>False
 P:=λw X h=>(Bc x dx l rows).P w X h/\¬X x/\¬X dx/\¬X l
 mv:=by
  intro w X X' h h' Cr k;refine Hv Cr ?_;intro H n1 n2 n3;refine bo (id H) ?_;intro ox vs h1 h2 h3 h4 Dv h7 h8 t1 t2 t3;refine Bi Dv ?_;intro m h5 h6;have kx:=k x ox (.inr (.inl n1)) t1 h1;refine Ju (id h5) ?_;intro od es ep e5 r5;have kd:=k dx od (.inr (.inl n2)) t2 e5;refine B6 (id h7) ?_;intro n e7;have kl:=k l _ (.inr (.inl n3)) t3 e7;refine⟨(Bc x dx l rows).mv H λb o q t e=>?_,kx.2 n1,kd.2 n2,kl.2 n3⟩;rcases q with q|q
  .rcases q with rfl|rfl|rfl
   .exact k _ o (.inr (.inl n1)) t e
   .exact k _ o (.inr (.inl n2)) t e
   .exact k _ o (.inr (.inl n3)) t e
  .exact k b o (.inr q) t e
def DI(c:Cx)(x:Addr):Prop:=∀X h,c.G.P c.w X h->∃ox od,InstAt h x ox 189 (some od)/\∀n,n≠JJ->lookIn n od=some none
theorem DI.res{x dx l:Addr}{rows:Ci}(h:∀X h,c.G.P c.w X h->(Bc x dx l rows).P c.w X h):DI c x:=λX hp z=>by refine Du (ID (h X hp z)) ?_;intro ox od a V b;exact⟨ox,od,a,b⟩
theorem Ez{name:Str}{apos:Pos}{args:Cy}{QT:List Keyword}{x f:Addr}(a:Ev c J o (.obj (.ref x)))(F:Fr c J s.heap)(hI:DI c x)(hn:name≠JJ)(hf:∀P,findIn (Kx P) (.ref 189) name=some (some (.ref f)))(hd:∃st qual code dflt mod,CA f st qual code dflt mod)(hb:attributeBase o name c.env (eval o c.env)=eval o c.env)(Dw:((backTo pos (starEach args c.env)).all (λx=>!x.1)&&(backToKw pos (keywordEach QT c.env)).all (λx=>x.1.isSome)
   && decide (args.length+QT.length+(if(backToKw pos (keywordEach QT c.env)).isEmpty then 0 else 1)<30))=true)(hl:(apos.endLine==pos.line)=true)(y:∀s1,Fr c J s1.heap->Le s.heap s1.heap->s1={s with heap:=s1.heap,toks:=s1.toks}->wpAny (model prog c.w) c.A (evalArgs (.ref f) true (backTo pos (starEach args c.env)) (backToKw pos (keywordEach QT c.env))) (λv s2=>CW c.w s2.heap/\wpAny (model prog c.w) c.A (call (.ref f) (.ref x::v.pos) v.kw) Q E s2) E s1) :
  wpAny (model prog c.w) c.A (eval (.Call (.Attribute o name apos) args QT pos) c.env) Q E s:=by
 rw[arm_eval_Call,hb];refine wpAny_bind (a s F _ _ λv h1 t1 l1 r1=>?_);cases r1;have F1:Fr c J h1:=F.le l1;refine iY hd ?_;clear hd;intro st qual code dflt mod fd;refine wpAny_bind (wpAny_standAt ?_);have VZ:methodCallForm (args.length+QT.length) (backTo pos (starEach args c.env)) (backToKw pos (keywordEach QT c.env))=true:=Dw;have QN:methodCallPos true o c.env apos pos=pure pos:=by unfold methodCallPos;simp[hl]
 unfold methodCall;rw[VZ];refine Fq (hI _ _ F1.g) ?_;intro ox od I sh;have ht:typeIn (Kx c.w.params) (.ref f)=some (.type "function"):=by
  show Option.map (λx:Obj=>x.cls) (List.lookup f (Kx c.w.params))=_;rw[fd.here];rfl
 refine wpAny_bind (wpAny_holding (method_fn (F1.base.k) I (Py _) (aF _) (hf _) ht (by show Option.map (λx:Option Value=>x.isSome) (lookIn name od)=some false;rw[sh name hn];rfl) ?_));refine wpAny_bind (wpAny_of_eq QN ?_);refine callWith_function_kw (o:=Eu st qual dflt mod (.ref code)) (fd:=EW st qual dflt mod (.ref code)) (wpAny_mono (y {s with heap:=h1,toks:=t1} F1 l1 rfl) (λv s2 z=>?_) λV V z=>z);exact⟨⟨z.1.k _ _ (fd.here _),rfl⟩,z.2⟩
theorem Rh(P:Params):findIn (Kx P) (.ref 189) "_convert_string_type"=some (some (.ref 90)):=by kernel_rfl
theorem Ev.conv{apos kp bp:Pos}{bk:Nat}{b:Bool}{x:Addr}{t:Str}(hx:CF b t)(hI:DI c x)(hk:1<=c.k)(a:Ev c J o (.obj (.ref x)))(y:Ev c J e (.str t))(he:autoParam (D9 c e []) Bd)(hb:autoParam (attributeBase o "_convert_string_type" c.env (eval o c.env)=eval o c.env) Bd)(Dw:autoParam (((backTo pos (starEach [e] c.env)).all (λx=>!x.1)&&(backToKw pos (keywordEach [⟨some (Str.ofString "name"),.Constant (.bool b) bk bp,kp⟩] c.env)).all (λx=>x.1.isSome)
   && decide ([e].length+1+(if(backToKw pos (keywordEach [⟨some (Str.ofString "name"),.Constant (.bool b) bk bp,kp⟩] c.env)).isEmpty then 0 else 1)<30))=true) Bd)(hl:autoParam (J8 apos pos) Bd) :
  Ev c J (.Call (.Attribute o "_convert_string_type" apos) [e] [⟨some (Str.ofString "name"),.Constant (.bool b) bk bp,kp⟩] pos) (.str t):=λs F Q E q=>by
 refine Ez (f:=90) a F hI (by decide) Rh ⟨_,_,_,_,_,D6⟩ hb Dw hl λs1 F1 l1 e1=>?_;rw[he];refine evalArgs_kw (by rfl) ?_;refine PySem.Calls.spliced_cons (y s1 F1 _ _ λv h2 t2 l2 r2=>PySem.Calls.spliced_nil ?_);cases r2;refine wpAny_evalAll_cons ?_;refine wpAny_bind (wpAny_Constant_bool (wpAny_bind (wpAny_standAt (wpAny_pure (wpAny_evalAll_nil ?_)))));have F2:Fr c J h2:=F1.le l2;refine⟨F2.base,?_⟩;exact VJ c.w 0 b t hx c.A c.X {s1 with heap:=h2,toks:=t2} (.ref x) _ (F2.ok.CD hk) F2.base F2.Ck Q E λv h3 t3 l3 r3=>by
  rw[e1];exact q v h3 t3 (Bu.trans (Bu.trans l1 l2) l3) r3
theorem Ex.SF{G1 G':Res}(y:Ev (c.on X G1) J e d)(hX:∀b,c.X b->X b)(hG:∀w' X' h,G1.P w' X' h->G'.P w' X' h):Ex (c.on X G1) J (.Return (some e) pos) N (M6 c d G'):=λs F Q E n r=>
 wpAny_Return_some (y s F _ _ λv h1 t1 l1 r1=>r v h1 t1 (by
  have F1:=F.le l1;exact⟨r1.move (Ce hX),F1.old,F1.base,Res.CD (hG _ _ _ F1.g) hX⟩))
theorem Ex.N3{G':Res}(y:Ev c J e d)(hG:∀w' X' h,c.G.P w' X' h->G'.P w' X' h):Ex c J (.Return (some e) pos) N (M6 c d G'):=Ex.SF (X:=c.X) (G1:=c.G) y (λV z=>z) hG
theorem DI.ro{x dx l:Addr}{rows:Ci}(h:∀X h,c.G.P c.w X h->(CJ x dx l rows).P c.w X h):DI c x:=DI.res (dx:=dx) (l:=l) (rows:=rows) λX hp z=>(h X hp z).1
theorem Ev.MZ{x dx l:Addr}{rows:Ci}(hG:∀X h,c.G.P c.w X h->(CJ x dx l rows).P c.w X h)(a:Ev c J o (.obj (.ref x)))(he:autoParam (eval (.Attribute o JJ pos) c.env=(do
   let o' <- eval o c.env;standAt pos.atName;let r <- holding [o'] (getAttr o' JJ true);letTemporaryGo o o' r;pure r)) Dz):Ev c J (.Attribute o JJ pos) (.list (Br rows)):=λs F Q E q=>
 BQ (a s F _ _ λv' h1 t1 l1 r1=>by
  cases r1;have F1:=F.le l1;refine Hv (hG _ _ F1.g) ?_;intro H n1 n2 n3;refine Du (ID H) ?_;intro ox od I sh V;refine bo H ?_;clear H;intro V vs V V V V V h7 h8 V V t3;exact get_value (F1.base.k) I (Py _) (Kr sh) (by rfl) (q _ h1 _ l1 (.list n3 t3 h7 h8))) he
theorem cM{i n:Nat}(h:i<n):seqIndex? (i:Int) n=some i:=by
 unfold seqIndex?;simp only[show ¬((i:Int)<0)by exact Int.not_ofNat_neg i,if_false];rw[if_pos (by simp only[Bool.and_eq_true,decide_eq_true_eq];lia)];simp
theorem Ev.Ve{value slice:Expr}{pos}{i:Nat}(x:Ev c J value (.tup ds))(y:Ev c J slice (.int (i:Nat)))(hz:ds.length<=1000000)(hd:ds[i]? = some d)(hs:autoParam (∀o i,XE slice o i) Ng):Ev c J (.Subscript value slice pos) d:=
 .item x y (λo iv s F ra rb=>by
  cases rb;cases ra with|tup nx nt p r=>
  refine Bi (r.get hd) ?_;intro v hv rv;have Dx:=(AP.mp hd).1;have hl:=r.length;exact⟨⟨_,_,p.typeIs,PySem.F.slot_tuple_getitem.lookup⟩,λQ E q=>getItem_tuple p (by exact Int.neg_ofNat_le_natCast (2^63) i) (by omega) (j:=i) (by rw[AY];exact cM (by exact place_lt hv)) (by simpa using hv) (q _ s.heap s.toks (.refl _) rv)⟩) hs
structure JT(r:Str×Str):Prop where
 len:r.1.length<=1000000
 ok:PyData.strOk (Txt.lower r.1)=true
noncomputable def HO(rows:Ci)(n:Str):List Str:=(rows.filter λr=>decide (Txt.lower r.1=Txt.lower n)).map (·.2)
noncomputable def EX(rows:Ci)(n:Str):D:=(rows.find? λr=>decide (Txt.lower r.1=Txt.lower n)).elim .none λr=>.str r.2
theorem H7:CA 128 (Bv 7) (S "Headers.get_all") 127 .none EF:=⟨λP=>rfl,λP=>⟨_,_,_,rfl,rfl,rfl⟩,rfl,rfl,rfl⟩
theorem MV:CA 136 (Bv 8) (S "Headers.get") 135 (.ref 129) EF:=⟨λP=>rfl,λP=>⟨_,_,_,rfl,rfl,rfl⟩,rfl,rfl,rfl⟩
theorem U3:CA 141 (Bv 9) (S "Headers.keys") 140 .none EF:=⟨λP=>rfl,λP=>⟨_,_,_,rfl,rfl,rfl⟩,rfl,rfl,rfl⟩
theorem RP:CA 153 (Bv 11) (S "Headers.items") 152 .none EF:=⟨λP=>rfl,λP=>⟨_,_,_,rfl,rfl,rfl⟩,rfl,rfl,rfl⟩
theorem aY(w:World)(k:Nat)(x dx l:Addr)(rows:Ci)(hl:rows.length<=1000):CU w 153 (k+1) (CJ x dx l rows) [.obj (.ref x)] (.list (Br rows)) (CJ x dx l rows):=by
 refine Kv RP (names:=[S "self"]) (λvs e=>?_) rfl (.of (by decide +kernel)) λc X h0 F=>?_
 .refine B6 (MA e) ?_;rintro v1 rfl;rfl
 .have E:=F.env;have hG:∀X h,c.G.P c.w X h->(CJ x dx l rows).P c.w X h:=λX h z=>by rw[F.hG]at z;exact z
  refine Be.ret (Ex.N3 (Ev.eq (Ev.EI (Ev.MZ hG Ev.n) Part.no Part.no ?_) ?_) λw' X' h z=>by rw[F.hG]at z;exact z)
  .unfold Br;rw[AA];exact lb hl rfl
  .congr 1;unfold cut;simp
theorem ff(w:World)(k:Nat)(x dx l:Addr)(rows:Ci)(hl:rows.length<=1000):CU w 141 (k+1) (CJ x dx l rows) [.obj (.ref x)] (.list (rows.map λr=>.str r.1)) (CJ x dx l rows):=by
 refine Kv U3 (names:=[S "self"]) (λvs e=>?_) rfl (.of (by decide +kernel)) λc X h0 F=>?_
 .refine B6 (MA e) ?_;rintro v1 rfl;rfl
 .have E:=F.env;have hG:∀X h,c.G.P c.w X h->(CJ x dx l rows).P c.w X h:=λX h z=>by rw[F.hG]at z;exact z
  refine Be.ret (Ex.N3 (CE.ev (CE.eq (CE.C1 rows (λr=>.tup [.str r.1,.str r.2]) (λV=>true) (λr=>.str r.1) (J0:=[]) E.co (Bb.list (Ev.MZ hG Ev.n)) (λr=>[(S "v",.str r.2),(S "k",.str r.1)]) (λV V h=>by cases h)
   (λV V V sc=>Bind.tup (.cons Bind.n (.cons Bind.n .nil))) (λV V V V=>CM.nil) (λV V V cc sc=>Ev.n) (lb hl rfl)) (by rw[By]))) λw' X' h z=>by rw[F.hG]at z;exact z)
theorem NW(w:World)(k:Nat)(x dx l:Addr)(rows:Ci)(n:Str)(hl:rows.length<=1000)(hr:∀r∈rows,JT r)(hn:n.length<=1000000)(hc:CF true (Txt.lower n))(S4:PyData.strOk (Txt.lower n)=true) :
  CU w 128 (k+2) (CJ x dx l rows) [.obj (.ref x),.str n] (.list ((HO rows n).map .str)) (CJ x dx l rows):=by
 refine Kv H7 (names:=[S "self",S "name"]) (λvs e=>?_) rfl (.of (by decide +kernel)) λc X h0 F=>?_
 .refine MC (Ou e) ?_;rintro v1 v2 rfl;rfl
 .have E:=F.env;have hG:∀X h,c.G.P c.w X h->(CJ x dx l rows).P c.w X h:=λX h z=>by rw[F.hG]at z;exact z
  have Jq:1<=c.k:=by rw[F.hk];exact A1 1 k
  refine Be.step (J':=[(S "name",.str (Txt.lower n)),(S "self",.obj (.ref x))]) (Ex.sc E (d:=.str (Txt.lower n)) (Ev.conv hc (DI.ro hG) Jq Ev.n (Ev.lower Ev.n hn))) ?_;refine Be.ret (Ex.N3 (CE.ev (CE.eq (CE.C1 rows (λr=>.tup [.str r.1,.str r.2]) (λr=>decide (Txt.lower r.1=Txt.lower n)) (λr=>.str r.2) (J0:=[(S "name",.str (Txt.lower n))]) E.co (Bb.list (Ev.MZ hG Ev.n)) (λr=>[(S "kv",.tup [.str r.1,.str r.2]),(S "name",.str (Txt.lower n))]) (λV V h=>.tail _ h)
   (λV V V sc=>Bind.n) (λr Rj cc sc=>CM.one (CL.cmp (Bh.mH (Ev.lower (Ev.Ve (i:=0) (d:=.str r.1) Ev.n Ev.cInt (AE rfl) rfl) (hr r Rj).len) Ev.n (hr r Rj).ok S4))) (λr V V cc sc=>Ev.Ve (i:=1) (d:=.str r.2) Ev.n Ev.cInt (AE rfl) rfl) (lb hl rfl)) (by unfold HO;rw[AB];rfl))) λw' X' h z=>by rw[F.hG]at z;exact z)
theorem get_bind{v1 v2:Value}{Q:List (Str×Value)->Shared->Prop}(B:CW w s.heap)(q:Q [(S "self",v1),(S "name",v2),(S "default",.none)] s) :
  wpAny (model prog w) A (bindArgs (EW (Bv 8) (S "Headers.get") (.ref 129) EF (.ref 135)) ⟨[v1,v2],[]⟩) Q E s:=by
 obtain⟨h,g,d,tk,os⟩:=s;have e:=B.k 129 _ rfl;unfold bindArgs;wp_walk;exact q
theorem ag{f:Addr}{st:Stmt}{qual:Str}{code:Addr}{dflt mod:Value}(fd:CA f st qual code dflt mod){G G':Res}{names:B3}{es:Cs}(hb:∀(X:CG) (A:Around) (s:Shared) (vs:DW),CW w s.heap->FU X s.heap->Bf X w s.heap vs ds->∀(Q:List (Str×Value)->Shared->Prop) (E:CH),(∀h1 tk us,Le s.heap h1->Bf X w h1 us es->names.length=us.length->Q (names.zip us) {s with heap:=h1,toks:=tk})->
   wpAny (model prog w) A (bindArgs (EW st qual dflt mod (.ref code)) ⟨vs,[]⟩) Q E s)(ck:DZ (BY st) names)(body:∀c X h0,FnAt c w (BY st) k X G h0->Be c (names.zip es) [Bt st] (λV=>False) (M6 c d G')):CU w f (k+1) G ds d G':=λA X s vs ok B xk r g gx=>
 OY fd ok B xk (G:=G) g gx (hb X A.in1 s vs B xk r) ck λc h0 FA=>(body c X h0 FA).imp (λV z=>z.elim) λv h z=>FA.N3 (λg s=>Res.CD g s) z
theorem VK(w:World)(k:Nat)(x dx l:Addr)(rows:Ci)(n:Str)(hl:rows.length<=1000)(hr:∀r∈rows,JT r)(hn:n.length<=1000000)(hc:CF true (Txt.lower n))(S4:PyData.strOk (Txt.lower n)=true) :
  CU w 136 (k+2) (CJ x dx l rows) [.obj (.ref x),.str n] (EX rows n) (CJ x dx l rows):=by
 refine ag MV (names:=[S "self",S "name",S "default"]) (es:=[.obj (.ref x),.str n,.none]) (λX A s vs B xk r Q E q=>?_) (.of (by decide +kernel)) λc X h0 F=>?_
 .refine Du (Bf.Bp r) ?_;rintro V V rfl a r;refine Du (Bf.Bp r) ?_;rintro V V rfl b r;cases r;exact get_bind B (q s.heap s.toks [_,_,.none] (.refl _) (.cons a (.cons b (.cons .none .nil))) rfl)
 .have E:=F.env;have hG:∀X h,c.G.P c.w X h->(CJ x dx l rows).P c.w X h:=λX h z=>by rw[F.hG]at z;exact z
  have Jq:1<=c.k:=by rw[F.hk];exact A1 1 k
  let R0:List (Str×D):=[(S "name",.str (Txt.lower n)),(S "self",.obj (.ref x)),(S "default",.none)]
  refine Be.step (J':=R0) (Ex.sn (d:=.str (Txt.lower n)) (Ev.conv hc (DI.ro hG) Jq Ev.n (Ev.lower Ev.n hn))) ?_;refine Be.cons (Ex.aT (ds:=rows.map λr=>.tup [.str r.1,.str r.2]) E.ro (λi=>∀r∈rows.take i,¬Txt.lower r.1=Txt.lower n) (λr hr=>by simp at hr) (λV=>c.G) (λV=>R0) rfl rfl (Bb.list (Ev.MZ hG Ev.n)) (λi d hd hΦ X1 T hX=>?_)) ?_
  .rw [AL,AS]at hd;refine Bi hd ?_;clear hd;rintro r gQ rfl;have E1:Bj (c.on X1 (c.G.star T)) w (BY (Bv 8)) (k+1):=E.on;have gR:=AQ gQ;refine⟨(S "v",.str r.2)::(S "k",.str r.1)::R0,Bind.tup (.cons Bind.n (.cons Bind.n .nil)),?_⟩;refine Be.if (CL.cmp (Bh.mH (Ev.lower Ev.n (hr r gR).len) Ev.n (hr r gR).ok S4)) (λh=>?_) λh=>?_
   .refine Be.ret (Ex.SF (Ev.eq Ev.n ?_) hX λw' X' h z=>by have z1:=z.1;rw[F.hG]at z1;exact z1);have Xz:=of_decide_eq_true h;unfold EX;have hf:rows.find? (λr=>decide (Txt.lower r.1=Txt.lower n))=some r:=by
     refine B6 (AP.mp gQ) ?_;intro hi er;rw[List.find?_eq_some_iff_getElem];refine⟨by simpa using Xz,i,hi,er,λj hj=>?_⟩;have:rows[j]∈rows.take i:=List.mem_take_iff_getElem.mpr ⟨j,by(clear hl;lia),rfl⟩;simpa using hΦ _ this
    rw[hf];rfl
   .refine Be.nil (Be.nil (Be.done λh2 Fh=>⟨?_,X1,hX,Fh.sub λp hp=>.tail _ (.tail _ hp)⟩));intro r' Rj;rw[A3,Ar]at Rj;rcases Rj with Rj|Rj
    .exact hΦ r' Rj
    .rw [gQ]at Rj;simp at Rj;rw[Rj];exact of_decide_eq_false h
  .intro h2 Cr;obtain⟨hΦ,X2,Hk,F2⟩:=Cr;refine⟨c.on X2 c.G,_,⟨rfl,rfl,rfl⟩,F2,Be.ret (Ex.SF (Ev.eq Ev.n ?_) Hk λw' X' h z=>by rw[F.hG]at z;exact z)⟩;unfold EX;rw[AA,BF]at hΦ;have hf:rows.find? (λr=>decide (Txt.lower r.1=Txt.lower n))=none:=List.find?_eq_none.mpr λr hr=>by simpa using hΦ r hr
   rw[hf];rfl
theorem JC(rows:Ci)(n:Str):(EX rows n).flat=true:=by
 unfold EX;cases rows.find? λr=>decide (Txt.lower r.1=Txt.lower n)<;>rfl
noncomputable def Bl(l:Addr)(ds:Cs):Res where
 fp:=(·=l)
 P:=λw X h=>∃vs:List Value,h.PlainList l vs.toArray/\Bf X w h vs ds/\l≠TP
 mv:=by
  intro w X X' h h' Cr k;refine EJ Cr ?_;clear Cr;rintro vs ⟨n,e⟩ r nt;exact⟨vs,⟨n,(k l _ (.inl rfl) nt e).1⟩,r.move λb o n t e=>by refine CC (k b o (.inr (.inl n)) t e) ?_;intro x y;exact⟨x,y n⟩,nt⟩
theorem Ex.append{apos GF:Pos}{l:Addr}{G':Res}(ro:¬c.ro)(hz:ds.length<=1000000)(u:Upd c.G (Bl l ds) (Bl l (ds++[d])) G')(a:Ev c J o (.obj (.ref l)))(y:Ev c J e d)(hint:interactive c.env=false)(he:autoParam (D9 c e []) Bd)(hb:autoParam (attributeBase o "append" c.env (eval o c.env)=eval o c.env) Bd)(Dw:autoParam (((backTo pos (starEach [e] c.env)).all (λx=>!x.1)&&(backToKw pos (keywordEach [] c.env)).all (λx=>x.1.isSome)&&decide ([e].length+([]:List Keyword).length+(if([]:List Keyword).isEmpty then 0 else 1)<30))=true) Bd)(hl:autoParam (J8 apos pos) Bd)(hs:autoParam (swapsWith (.Call (.Attribute o "append" apos) [e] [] pos) none GF.line c.env=pure false) Bd) :
  Ex c J (.Expr (.Call (.Attribute o "append" apos) [e] [] pos) GF) (Fr (c.on c.X G') J) R:=λs F Q E n r=>
 wpAny_Expr_any (wpAny_Call_method_lateS hb Dw hl (a s F _ _ λv h1 t1 l1 r1=>by
  cases r1;have F1:Fr c J h1:=F.le l1;refine EJ (u.has _ _ _ F1.g) ?_;intro vs pl rr nt;refine B6 (id pl) ?_;intro n0 e0;refine⟨"list","list.append",PySem.F.plainAttrs_list,slot_list_append,PySem.F.type_list_append,⟨_,e0,rfl⟩,(λa' e=>by cases e;exact⟨_,e0,rfl⟩),?_⟩;refine BI (wpAny_items_cons (y {s with heap:=h1,toks:=t1} F1 _ _ λv h2 t2 l2 r2=>wpAny_items_nil ?_) he) he rfl;have E6:Le h1 h2:=l2;have F2:Fr c J h2:=F1.le E6;refine EJ (u.has _ _ _ F2.g) ?_;intro UA Td Yn V;have Nb:=Yn.length;refine wpAny_list_append_plain Td (λh3 p3 s3=>?_) (by rw[AY,sizeLine_eq];exact Je Nb hz rfl);refine B6 (id p3) ?_;intro n3 e3;have l3:Bu (·=l) h2 h3:=Cp s3 _ e3 nt (by refine B6 Td ?_;clear Td;intro V e;exact Cd.at e (Cd.seq rfl));have lx:c.X l:=(F2.gx l (u.fp l rfl)).1.1;refine n h3 t2 (F2.upd ro u l3 ⟨UA++[v],?_,(Yn.append (.cons r2 .nil)).move (DR l3 λb z=>z▸lx),nt⟩);exact⟨n3,by rw[e3];simp⟩)) hint hs
theorem Rd{x dx l:Addr}{rows rows':Ci}(hx:l≠x)(hd:l≠dx):Upd (Bc x dx l rows) (Bl l (Br rows)) (Bl l (Br rows')) (Bc x dx l rows') where
 has:=λw X h zz=>by refine bo zz ?_;clear zz;intro ox vs h1 h2 h3 h4 h5 h7 h8 t1 t2 t3;exact⟨vs,h7,h8,t3⟩
 fp:=λb z=>.inr (.inr z)
 same:=λb=>Iff.rfl
 same':=λb=>Iff.rfl
 put:=λw X h h' zz gx le y=>bo zz λox vs h1 h2 h3 h4 h5 h7 h8 t1 t2 t3=>EJ y λWv p' r' V=>
  ⟨ox,Wv,le.keep _ _ t1 (λz=>hx z.symm) h1,h2,h3,h4,h5.imp λm z=>⟨IM z.1 λo e=>le.keep _ o t2 (λz=>hd z.symm) e,z.2⟩,p',r',t1,t2,t3⟩
theorem Ev.L6{x dx l:Addr}{rows:Ci}(hG:∀X h,c.G.P c.w X h->(Bc x dx l rows).P c.w X h)(a:Ev c J o (.obj (.ref x)))(he:autoParam (eval (.Attribute o JJ pos) c.env=(do
   let o' <- eval o c.env;standAt pos.atName;let r <- holding [o'] (getAttr o' JJ true);letTemporaryGo o o' r;pure r)) Dz):Ev c J (.Attribute o JJ pos) (.obj (.ref l)):=λs F Q E q=>
 BQ (a s F _ _ λv' h1 t1 l1 r1=>by
  cases r1;have F1:=F.le l1;refine Du (ID (hG _ _ F1.g)) ?_;intro ox od I sh V;exact get_value (F1.base.k) I (Py _) (Kr sh) (by rfl) (q _ h1 _ l1 (.obj _))) he
theorem JZ:CA 186 (Bv 16) (S "Headers.add_header") 185 .none EF:=⟨λP=>rfl,λP=>⟨_,_,_,rfl,rfl,rfl⟩,rfl,rfl,rfl⟩
theorem OI{v1 v2 v3:Value}{Q:List (Str×Value)->Shared->Prop}(q:Q [(S "self",v1),(S "_name",v2),(S "_value",v3),(S "_params",.ref s.heap.objs.size)] {s with heap:=s.heap.push {cls:=.type "dict",data:=.dict #[]}}) :
  wpAny (model prog w) A (bindArgs (EW (Bv 16) (S "Headers.add_header") .none EF (.ref 185)) ⟨[v1,v2,v3],[]⟩) Q E s:=by
 obtain⟨h,g,d,tk,os⟩:=s;unfold bindArgs;wp_walk;exact q
section
variable {c cc:Cx}{J J' KU J0:B4}{N:Eo}{R:Ct}{h h':Heap}{Ji:Addr->List (Str×D)}
theorem NM:entryFor table "dict_itemiterator.__iter__"=some PySem.Builtin.«dict_keyiterator.__iter__»:=
 entryFor_alias (id':="dict_keyiterator.__iter__") (by kernel_rfl) (by first|rfl|decide +kernel) (by decide +kernel) (by kernel_rfl)
theorem MF{it d:Addr}{i n ep:Nat}{ok ov:Value}(hz:IsItemIter s.heap it d i n ep ok ov)(h:Q (.ref it) s):wpAny (model prog w) A (pyIter (.ref it)) Q E s:=by
 have hT:s.TypeIs (.ref it) "dict_itemiterator":=⟨_,hz,rfl⟩
 refine wpAny_pyIter_slot hT PySem.F.slot_dict_itemiterator_iter (wpAny_call_entry PySem.F.slot_dict_itemiterator_iter hT NM ?_ (PySem.F.args_dict_itemiterator_iter_1 _));show wpAny _ _ (ret (.ref it)) _ _ s;exact wpAny_pure ⟨_,rfl,"dict_itemiterator",_,hT,PySem.F.slot_dict_itemiterator_next.lookup,h⟩
theorem Bb.Vf{target:Expr}{apos:Pos}(a:Ev c J o (.dict []))(hb:autoParam (attributeBase o "items" c.env (eval o c.env)=eval o c.env) Bd)(hl:autoParam (J8 apos pos) Bd) :
  Bb c J target (.Call (.Attribute o "items" apos) [] [] pos) []:=λs F Q E q=>
 Call_method0 hb hl (a s F _ _ λv h1 t1 l1 r1=>by
  refine V8 (B9.Iv r1) ?_;rintro d kvs rfl nx nt ns p r;cases r;have F1:Fr c J h1:=F.le l1;refine Mo (id p) ?_;intro od es ep e1 ex V;refine⟨"dict","dict.items",PySem.F.plainAttrs_dict,PySem.F.slot_dict_items,PySem.F.type_dict_items,Eb (s:={s with heap:=h1,toks:=t1}) p,(λa' e=>by cases e;exact⟨od,e1,ex.2.1⟩),?_⟩;refine PyProof.Rows.callWith_method0 (env:=c.env) ?_;refine call_meetsIn PySem.F.slot_dict_items (Eb (s:={s with heap:=h1,toks:=t1}) p) PySem.F.entry_dict_items (PySem.F.args_dict_items_1 _) (meets_dict_items (KS c.w) d ns) ⟨⟨_,p⟩,?_⟩;have l2:Le h1 (h1.push {cls:=.type "dict_items",data:=.fields #[.ref d]}):=Le.push _ _;have xC:=F1.base.tab;have p2:(h1.push {cls:=.type "dict_items",data:=.fields #[.ref d]}).DictOf (KS c.w) d []:=C2 p λo e=>l2.keep _ o nt id e;refine B6 p2.dictAt ?_;intro aO at2;refine wpAny_pyIter_items (knd:=KS c.w) (d:=d) (kvs:=[]) (ep:=aO) ⟨_,AH _ rfl,rfl,rfl⟩ at2 ?_;dsimp only;generalize wm:h1.push {cls:=.type "dict_items",data:=.fields #[.ref d]}=h2 at *;have F2:Fr c J h2:=F1.le l2;have SQ:=F2.base.tab;have l3:Le h2 (h2.push {cls:=.type "dict_itemiterator",data:=.fields #[.none,.bool false,.ref d,.int 0 0,.int 0 0,.int aO 0,.none,.none]}):=Le.push _ _;have QV:Le s.heap (h2.push {cls:=.type "dict_itemiterator",data:=.fields #[.none,.bool false,.ref d,.int 0 0,.int 0 0,.int aO 0,.none,.none]}):=Bu.trans (Bu.trans l1 l2) l3;have hI:IsItemIter (h2.push {cls:=.type "dict_itemiterator",data:=.fields #[.none,.bool false,.ref d,.int 0 0,.int 0 0,.int aO 0,.none,.none]}) h2.objs.size d 0 0 aO .none .none:=AH _ rfl;have q9:h2.objs.size≠TP:=B5 SQ;have uC:d≠h2.objs.size:=λz=>by refine Fq at2 ?_;clear at2;intro o V e V;exact Aa _ (z▸Ag e)
  refine q (.ref h2.objs.size) (·=h2.objs.size) _ t1 QV (λb hb=>?_) ?_ ?_
  .have Pk:b=h2.objs.size:=hb;rw[Pk];exact⟨GO (Bu.trans l1 l2) SQ,B7 F2.base,_,hI⟩
  .intro X' s' k sx Q' E' q';have qE:IsItemIter s'.heap h2.objs.size d 0 0 aO .none .none:=(k _ _ (.inl rfl) q9 hI).1;have sK:s'.heap.DictAt (KS c.w) d [] aO:=by
    refine Fq at2 ?_;clear at2;intro o es' e r;refine⟨o,es',(k d o (.inr (.inl λz=>z.elim nx uC)) nt (l3.keep _ o nt id e)).1,r⟩
   refine wpAny_pyNext_items_end (knd:=KS c.w) (kvs:=[]) F.ok.handled qE sK rfl λh4 x4=>q' h4 s'.toks λb o hb e=>x4 b o (hb.elim id λhc z=>Cd.at qE (Cd.fd rfl (by intro t h;simp at h)) o (by rw[<- z];exact e) hc) e
  .exact λs' l Q E h=>MF (l.keep _ _ q9 id hI) h)
theorem Fr.RY{G:Res}(F:Fr (c.on X' (G.star (Bl a ds))) J h)(nw:c.h0.get? a=none)(hJ:∀p∈J',p∈J\/(p.2=.list ds/\(p.1,D.obj (.ref a))∈J)):Fr (c.on (λb=>X' b/\¬b=a) G) J' h:=by
 have F':Fr (c.on (λb=>X' b/\¬(Bl a ds).fp b) G) J h:=F.Lo (λb z=>by have z':b=a:=z;rw[z'];exact nw) λb o V e=>e;have Y9:Fr (c.on (λb=>X' b/\¬b=a) G) J h:=F';refine{Y9 with names:=λx d m=>?_};rcases hJ _ m with m|⟨e,m⟩
 .exact Y9.names x d m
 .refine Bi (Y9.names _ _ m) ?_;intro v H r;have e':d=.list ds:=e;refine EJ F.g.2.1 ?_;intro vs p rr nt;cases r;refine⟨_,H,?_⟩;rw[e'];exact B9.list (λz=>z.2 rfl) nt p (rr.move (Ce λb z=>z.1))
theorem Ex.Zg{xp lp:Pos}(k:Nm c x)(p:∀a,Hs J x (.obj (.ref a))=Ji a)(hs:autoParam (swapsWith (.List [] lp) (some (.Name x xp)) pos.line c.env=pure false) Bd) :
  Ex c J (.Assign [.Name x xp] (.List [] lp) pos) (λh=>∃a X',Gh c a X'/\Fr (c.on X' (c.G.star (Bl a []))) (Ji a) h) R:=λs F Q E n r=>
 wpAny_Assign_Name (wpAny_List (wpAny_items_nil (pos:=lp) (by
  have le:Le s.heap (s.heap.push {cls:=.type "list",data:=.seq #[]}):=Le.push _ _;refine⟨by decide,?_⟩;have tb:=F.base.tab;have na:s.heap.get? s.heap.objs.size=none:=Bn _;have ba:=B7 F.base;have new:ML c s.heap.objs.size:=F.new na ba;have ea:(s.heap.push {cls:=.type "list",data:=.seq #[]}).get? s.heap.objs.size=some {cls:=.type "list",data:=.seq #[]}:=AH _ rfl;have F1:Fr (c.plus (·=s.heap.objs.size)) J (s.heap.push {cls:=.type "list",data:=.seq #[]}):=F.plus le λb z=>by
   have z':b=s.heap.objs.size:=z;rw[z'];exact⟨na,ba,_,ea⟩
  have F2:Fr (c.on (DH c.X (·=s.heap.objs.size)) (c.G.star (Bl s.heap.objs.size []))) J (s.heap.push {cls:=.type "list",data:=.seq #[]}):=F1.star (T:=Bl s.heap.objs.size []) ⟨[],⟨_,ea⟩,.nil,B5 tb⟩ λb z=>by
   have z':b=s.heap.objs.size:=z;rw[z'];exact new.off (fp:=(·=s.heap.objs.size)) rfl
  exact F2.store (s:={s with heap:=s.heap.push {cls:=.type "list",data:=.seq #[]}}) k.plain k.slot (.obj _) (DG.of (p _)) λh2 t2 l2 F3=>n h2 t2 ⟨_,_,⟨λb z=>.inl z,new.2.2.1,new.1⟩,F3⟩))) hs
end
section
variable {c cc:Cx}{J J' KU J0:B4}{N:Eo}{R:Ct}{h h':Heap}{Ji:Addr->List (Str×D)}
theorem Bj.quiet{sc:Scope}{n:Nat}(F:Bj c w sc n)(hk:sc.kind=.function):interactive c.env=false:=by
 unfold interactive;rw[F.hs,hk];rfl
theorem KH{f:Addr}{st:Stmt}{qual:Str}{code:Addr}{dflt mod:Value}(fd:CA f st qual code dflt mod){G G':Res}{names:B3}{es:Cs}(hb:∀(X:CG) (A:Around) (s:Shared) (vs:DW),CW w s.heap->FU X s.heap->Bf X w s.heap vs ds->∀(Q:List (Str×Value)->Shared->Prop) (E:CH),(∀h1 tk us,Le s.heap h1->Bf X w h1 us es->names.length=us.length->Q (names.zip us) {s with heap:=h1,toks:=tk})->
   wpAny (model prog w) A (bindArgs (EW st qual dflt mod (.ref code)) ⟨vs,[]⟩) Q E s)(ck:DZ (BY st) names)(body:∀c X h0,FnAt c w (BY st) k X G h0->Be c (names.zip es) [Bt st] (M6 c d G' .none) (M6 c d G')):CU w f (k+1) G ds d G':=λA X s vs ok B xk r g gx=>
 OY fd ok B xk (G:=G) g gx (hb X A.in1 s vs B xk r) ck λc h0 FA=>(body c X h0 FA).imp (λh z=>FA.N3 (λg s=>Res.CD g s) z) λv h z=>FA.N3 (λg s=>Res.CD g s) z
theorem join_one(sep v:Str):Txt.join sep [v]=v:=rfl
theorem mQ(w:World)(k:Nat)(x dx l:Addr)(rows:Ci)(n v:Str)(hl:rows.length<=1000)(Pl:l≠x)(L6:l≠dx)(hn:CF true n)(hv:CF false v)(qW:v.length<=1000) :
  CU w 186 (k+2) (Bc x dx l rows) [.obj (.ref x),.str n,.str v] .none (Bc x dx l (rows++[(n,v)])):=by
 refine KH JZ (names:=[S "self",S "_name",S "_value",S "_params"]) (es:=[.obj (.ref x),.str n,.str v,.dict []]) (λX A s vs B xk r Q E q=>?_) (.of (by decide +kernel)) λc X h0 F=>?_
 .refine Du (Bf.Bp r) ?_;rintro V V rfl a r;refine Du (Bf.Bp r) ?_;rintro V V rfl b r;refine Du (Bf.Bp r) ?_;rintro V V rfl d r;cases r;have le:Le s.heap (s.heap.push {cls:=.type "dict",data:=.dict #[]}):=Le.push _ _;have e:(s.heap.push {cls:=.type "dict",data:=.dict #[]}).get? s.heap.objs.size=some {cls:=.type "dict",data:=.dict #[]}:=AH _ rfl;have ns:(s.heap.objs.size==sysModules)=false:=by
   have:=B7 B;rw[Av];intro z;rw[z]at this;exact absurd this (by decide)
  exact OI (q _ s.toks [_,_,_,.ref s.heap.objs.size] le (.cons (a.le le) (.cons (b.le le) (.cons (d.le le) (.cons (.dict (fresh_ne xk) (B5 B.tab) ns (C4 e) .nil) .nil)))) rfl)
 .have E:=F.env;have Jq:1<=c.k:=by rw[F.hk];exact A1 1 k
  have hint:interactive c.env=false:=E.quiet rfl;have hG:∀X h,c.G.P c.w X h->(Bc x dx l rows).P c.w X h:=λX h z=>by rw[F.hG]at z;exact z
  let R0:List (Str×D):=[(S "self",.obj (.ref x)),(S "_name",.str n),(S "_value",.str v),(S "_params",.dict [])]
  refine Be.cons (Ex.Zg (x:=S "parts") (Ji:=λa=>(S "parts",.obj (.ref a))::R0) (E.nm (.inl rfl)) (λa=>by rfl)) ?_;intro h1 Cr;refine Fq Cr ?_;intro a X1 nw F1;refine⟨c.on X1 (c.G.star (Bl a [])),_,⟨rfl,rfl,rfl⟩,F1,?_⟩;have E1:Bj (c.on X1 (c.G.star (Bl a []))) w (BY (Bv 16)) (k+1):=E.on;have ml:DI (c.on X1 (c.G.star (Bl a []))) x:=DI.res (dx:=dx) (l:=l) (rows:=rows) λX h z=>hG X h z.1;refine Be.if (b:=true) (CL.cmp (Bh.isNotNone (d:=.str v) Ev.n true (λh u r=>by cases r;rfl))) (λV=>?_) (λh=>by cases h)
  refine Be.step (J':=[(S "_value",.str v),(S "parts",.obj (.ref a)),(S "self",.obj (.ref x)),(S "_name",.str n),(S "_params",.dict [])]) (Ex.sn (d:=.str v) (Ev.conv hv ml Jq Ev.n Ev.n)) ?_;refine Be.EM (X':=X1) (G':=c.G.star (Bl a ([]++[.str v]))) (Ex.append (l:=a) (ds:=[]) (d:=.str v) E1.ro (by decide) (Upd.rt (Upd.self (T:=Bl a []) (T':=Bl a ([]++[.str v])) λb=>Iff.rfl)) Ev.n Ev.n hint) ?_;refine Be.nil ?_;have E2:Bj (c.on X1 (c.G.star (Bl a ([]++[.str v])))) w (BY (Bv 16)) (k+1):=E.on;let R1:List (Str×D):=[(S "_value",.str v),(S "parts",.obj (.ref a)),(S "self",.obj (.ref x)),(S "_name",.str n),(S "_params",.dict [])]
  refine Be.cons (Ex.for (ds:=[]) E2.ro (λV=>c.G.star (Bl a ([]++[.str v]))) (λV=>R1) rfl rfl (Bb.Vf Ev.n) (λi d hd=>by cases i<;>cases hd)) ?_;intro h2 Dv;refine Bi Dv ?_;intro X2 Hk F2;have F3:Fr (c.on (λb=>X2 b/\¬b=a) c.G) [(S "parts",.list [.str v]),(S "self",.obj (.ref x)),(S "_name",.str n)] h2:=Fr.RY (c:=c) (ds:=[.str v]) F2 nw.old λp hp=>by
   refine lE hp ?_ ?_ ?_
   .exact .inr ⟨rfl,by simp[R1]⟩
   .exact .inl (by simp[R1])
   .exact .inl (by simp[R1])
  refine⟨c.on (λb=>X2 b/\¬b=a) c.G,_,⟨rfl,rfl,rfl⟩,F3,?_⟩;have E3:Bj (c.on (λb=>X2 b/\¬b=a) c.G) w (BY (Bv 16)) (k+1):=E.on;have te:DI (c.on (λb=>X2 b/\¬b=a) c.G) x:=DI.res (dx:=dx) (l:=l) (rows:=rows) λX h z=>hG X h z;have e1:Br rows++[.tup [.str n,.str v]]=Br (rows++[(n,v)]):=by unfold Br;rw[Af];rfl
  refine Be.EM (X':=λb=>X2 b/\¬b=a) (G':=Bc x dx l (rows++[(n,v)])) (Ex.append (l:=l) (ds:=Br rows) (d:=.tup [.str n,.str v]) E3.ro (by unfold Br;rw[AA];exact lb hl rfl) ?_ (Ev.L6 (λX h z=>hG X h z) Ev.n) (Ev.tp (.cons (Ev.conv hn te Jq Ev.n Ev.n) (.cons (Ev.eq (Ev.join (ys:=[v]) Ev.cStr Ev.n ?_) ?_) .nil))) hint) ?_
  .rw [e1];rw[F.hG];exact Rd Pl L6
  .simp only[AI,List.map_nil,BC,List.sum_nil,AZ,BS];show v.length+0+(0+1)*2<=1000000;omega
  .rw [join_one]
  .refine Be.nil (Be.done λh Fh=>?_);exact⟨.none,Fh.old,Fh.base,Res.CD Fh.g λb z=>⟨Hk b (nw.sub b z),λe=>nw.out (e▸z)⟩⟩
end
section
variable {c cc:Cx}{J J' KU J0:B4}{N:Eo}{R:Ct}{h h':Heap}{Ji:Addr->List (Str×D)}
def KR(w:World)(fa:Addr)(k:Nat)(G:Res)(ds:Cs)(d:D):Prop:=
 ∀(A:Around) (X:CG) (s:Shared) (vs:DW),E9 k A->CW w s.heap->FU X s.heap->Bf X w s.heap vs ds->G.P w X s.heap->Run w A Hw (call (.ref fa) vs) s λv h'=>B9 X w h' v d
theorem CU.ro{f:Addr}{x dx l:Addr}{rows:Ci}(g:CU w f k (CJ x dx l rows) ds d (CJ x dx l rows)):KR w f k (CJ x dx l rows) ds d:=
 λA X s vs ok B xk r H Q E q=>g A X s vs ok B xk r H (λb z=>z.elim) Q E λv h' tk l' p=>q v h' tk l' p.1
theorem CU.rw{f:Addr}{x dx l:Addr}{rows:Ci}(g:CU w f k (CJ x dx l rows) ds d (CJ x dx l rows))(fl:d.flat=true):KR w f k (Bc x dx l rows) ds d:=
 λA X s vs ok B xk r H Q E q=>by
  let X':Addr->Prop:=λb=>X b/\¬(Bc x dx l rows).fp b;have wX:FU X' s.heap:=λb z=>xk b z.1;have H':(CJ x dx l rows).P w X' s.heap:=⟨Res.CD H λb z=>z.1,λz=>z.2 (.inl rfl),λz=>z.2 (.inr (.inl rfl)),λz=>z.2 (.inr (.inr rfl))⟩
  exact g A X' s vs ok B wX (r.move (Ce λb z=>z.1)) H' (λb z=>z.elim) Q E λv h' tk l' p=>q v h' tk l' (p.1.flat fl)
theorem Ev.JV{name:Str}{apos:Pos}{es:Cy}{x f:Addr}{G:Res}(a:Ev c J o (.obj (.ref x)))(y:FQ c J (e::es) ds)(g:KR c.w f k G (.obj (.ref x)::ds) d)(hk:k<=c.k)(hG:∀X h,c.G.P c.w X h->G.P c.w X h)(hI:DI c x)(hf:∀P,findIn (Kx P) (.ref 189) name=some (some (.ref f)))(hd:∃st qual code dflt mod,CA f st qual code dflt mod)(hn:autoParam (name≠JJ) Fj)(he:autoParam (D9 c e es) Bd)(hb:autoParam (ja c o name) Bd)(Dw:autoParam (((backTo pos (starEach (e::es) c.env)).all (λx=>!x.1)&&(backToKw pos (keywordEach [] c.env)).all (λx=>x.1.isSome)
   && decide ((e::es).length+([]:List Keyword).length+(if(backToKw pos (keywordEach [] c.env)).isEmpty then 0 else 1)<30))=true) Bd)(hl:autoParam (J8 apos pos) Bd) :
  Ev c J (.Call (.Attribute o name apos) (e::es) [] pos) d:=λs F Q E q=>by
 refine Ez a F hI hn hf hd hb Dw hl λs1 F1 l1 e1=>?_;rw[he];refine PySem.Calls.evalArgs_plain ?_;have z:=y pos s1 F1 (λvs s2=>CW c.w s2.heap/\wpAny (model prog c.w) c.A (call (.ref f) (.ref x::vs) []) Q E s2) E (λvs h2 t2 l2 r2=>?_)
 .rw [he]at z;exact z
 have F2:Fr c J h2:=F1.le l2;refine⟨F2.base,?_⟩;exact g c.A c.X {s1 with heap:=h2,toks:=t2} (.ref x::vs) (F2.ok.CD hk) F2.base F2.Ck (.cons (.obj _) r2) (hG _ _ F2.g) Q E λv h3 t3 l3 r3=>by
  rw[e1];exact q v h3 t3 (Bu.trans (Bu.trans l1 l2) l3) r3
theorem Ev.UW{name:Str}{apos:Pos}{x f:Addr}{G:Res}(a:Ev c J o (.obj (.ref x)))(g:KR c.w f k G [.obj (.ref x)] d)(hk:k<=c.k)(hG:∀X h,c.G.P c.w X h->G.P c.w X h)(hI:DI c x)(hf:∀P,findIn (Kx P) (.ref 189) name=some (some (.ref f)))(hd:∃st qual code dflt mod,CA f st qual code dflt mod)(hn:autoParam (name≠JJ) Fj)(hb:autoParam (ja c o name) Bd)(hl:autoParam (J8 apos pos) Bd) :
  Ev c J (.Call (.Attribute o name apos) [] [] pos) d:=λs F Q E q=>by
 refine Ez a F hI hn hf hd hb (by rfl) hl λs1 F1 l1 e1=>?_;refine PyProof.Rows.evalArgs_none ?_;refine⟨F1.base,?_⟩;exact g c.A c.X s1 [.ref x] (F1.ok.CD hk) F1.base F1.Ck (.cons (.obj _) .nil) (hG _ _ F1.g) Q E λv h3 t3 l3 r3=>by
  rw[e1];exact q v h3 t3 (Bu.trans l1 l3) r3
theorem K5(P:Params):findIn (Kx P) (.ref 189) "get"=some (some (.ref 136)):=by kernel_rfl
theorem JA(P:Params):findIn (Kx P) (.ref 189) "get_all"=some (some (.ref 128)):=by kernel_rfl
theorem X7(P:Params):findIn (Kx P) (.ref 189) "keys"=some (some (.ref 141)):=by kernel_rfl
theorem VV(P:Params):findIn (Kx P) (.ref 189) "items"=some (some (.ref 153)):=by kernel_rfl
theorem S2(P:Params):findIn (Kx P) (.ref 189) "setdefault"=some (some (.ref 179)):=by kernel_rfl
theorem VU(P:Params):findIn (Kx P) (.ref 189) "add_header"=some (some (.ref 186)):=by kernel_rfl
theorem QL(P:Params):findIn (Kx P) (.ref 189) "__setitem__"=some (some (.ref 104)):=by kernel_rfl
theorem QJ(P:Params):findIn (Kx P) (.ref 189) "__delitem__"=some (some (.ref 109)):=by kernel_rfl
theorem X6(P:Params):findIn (Kx P) (.ref 189) "__init__"=some (some (.ref 83)):=by kernel_rfl
theorem OV:CA 179 (Bv 15) (S "Headers.setdefault") 178 .none EF:=⟨λP=>rfl,λP=>⟨_,_,_,rfl,rfl,rfl⟩,rfl,rfl,rfl⟩
noncomputable def Ey(rows:Ci)(n v:Str):List (Str×Str):=if(rows.find? λr=>decide (Txt.lower r.1=Txt.lower n)).isSome then rows else rows++[(n,v)]
noncomputable def FF(rows:Ci)(n v:Str):Str:=((rows.find? λr=>decide (Txt.lower r.1=Txt.lower n)).map (·.2)).getD v
theorem Xw(w:World)(k:Nat)(x dx l:Addr)(rows:Ci)(n v:Str)(hl:rows.length<=1000)(Pl:l≠x)(L6:l≠dx)(hr:∀r∈rows,JT r)(hn:CF true n)(hv:CF false v)(ua:n.length<=1000000)(hc:CF true (Txt.lower n))(S4:PyData.strOk (Txt.lower n)=true) :
  CU w 179 (k+3) (Bc x dx l rows) [.obj (.ref x),.str n,.str v] (.str (FF rows n v)) (Bc x dx l (Ey rows n v)):=by
 refine Kv OV (names:=[S "self",S "name",S "value"]) (λvs e=>?_) rfl (.of (by decide +kernel)) λc X h0 F=>?_
 .refine bq (Ov e) ?_;rintro v1 v2 v3 rfl;rfl
 .have E:=F.env;have hint:interactive c.env=false:=E.quiet rfl;have Jq:1<=c.k:=by rw[F.hk];exact A1 1 (k+1)
  have UD:k+2<=c.k:=by rw[F.hk];exact Ad _
  have hG:∀X h,c.G.P c.w X h->(Bc x dx l rows).P c.w X h:=λX h z=>by rw[F.hG]at z;exact z
  have hI:DI c x:=DI.res hG;have gg:KR c.w 136 (k+2) (Bc x dx l rows) [.obj (.ref x),.str n] (EX rows n):=CU.rw (VK c.w k x dx l rows n hl hr ua hc S4) (JC _ _);refine Be.step (J':=[(S "result",EX rows n),(S "self",.obj (.ref x)),(S "name",.str n),(S "value",.str v)]) (Ex.sn (d:=EX rows n) (Ev.JV Ev.n (.cons Ev.n .nil) gg UD hG hI K5 ⟨_,_,_,_,_,MV⟩)) ?_;cases hf:rows.find? λr=>decide (Txt.lower r.1=Txt.lower n)with
  |none=>
   have e0:EX rows n=.none:=by unfold EX;rw[hf];rfl
   have e1:Ey rows n v=rows++[(n,v)]:=by unfold Ey;rw[hf];rfl
   have e2:FF rows n v=v:=by unfold FF;rw[hf];rfl
   rw[e0,e1,e2];refine Be.if (b:=true) (CL.cmp (Bh.isNone (d:=.none) Ev.n true (λh u r=>by cases r;rfl))) (λV=>?_) (λh=>by cases h)
   have e3:Br rows++[.tup [.str n,.str v]]=Br (rows++[(n,v)]):=by unfold Br;rw[Af];rfl
   refine Be.EM (X':=c.X) (G':=Bc x dx l (rows++[(n,v)])) (Ex.append (l:=l) (ds:=Br rows) (d:=.tup [.str n,.str v]) E.ro (by unfold Br;rw[AA];exact lb hl rfl) ?_ (Ev.L6 hG Ev.n) (Ev.tp (.cons (Ev.conv hn hI Jq Ev.n Ev.n) (.cons (Ev.conv hv hI Jq Ev.n Ev.n) .nil))) hint) ?_
   .rw [e3,F.hG];exact Rd Pl L6
   .exact Be.ret (Ex.SF Ev.n (λb z=>z) λw' X' h z=>z)
  |some r=>
   have e0:EX rows n=.str r.2:=by unfold EX;rw[hf];rfl
   have e1:Ey rows n v=rows:=by unfold Ey;rw[hf];rfl
   have e2:FF rows n v=r.2:=by unfold FF;rw[hf];rfl
   rw[e0,e1,e2];refine Be.if (b:=false) (CL.cmp (Bh.isNone (d:=.str r.2) Ev.n false (λh u r=>by cases r;rfl))) (λh=>by cases h) λV=>?_
   exact Be.ret (Ex.N3 Ev.n λw' X' h z=>by rw[F.hG]at z;exact z)
end
theorem Qu{a b:Nat}(ha:a<=100000)(hb:b<=100000):PySem.Builtin.List.listTooLong (a+b)=false:=by
 exact decide_eq_false (Nat.not_lt.mpr (AD (Nat.add_le_add ha hb) (by rw[sizeLine_eq];decide)))
theorem Oy{l sl:Addr}{xs ys:Array Value}{n n2:Nat}{Q:PySem.Fin->Shared->Prop}(hx:xs.size<=100000)(hy:ys.size<=100000)(h1:s.heap.get? l=some {cls:=.type "list",data:=.seq xs n})(h2:s.heap.get? a=some {cls:=.type "list",data:=.seq ys n2})(uU:(l==a)=false)(h3:s.heap.get? sl=some {cls:=.type "slice",data:=.fields #[.none,.none,.none]})(q:∀h',(∃n',h'.get? l=some {cls:=.type "list",data:=.seq ys n'})->Heap.SameBut l s.heap h'->Q (.done (.ret .none)) {s with heap:=h'}) :
  wpAny (model prog w) A (PySem.Builtin.«list.__setitem__» ⟨[.ref l,.ref sl,.ref a],[]⟩) Q E s:=by
 obtain⟨h,g,d,tk,os⟩:=s;have z:min (if(1:Int)>0 then 0 else(xs.size:Int)-1).toNat xs.size-0+ys.size+(min xs.size xs.size-(max (if(1:Int)>0 then(0:Int)else(xs.size:Int)-1) (if(1:Int)>0 then(xs.size:Int)else -1)).toNat)<=16777216+1:=by
  rw[if_pos Int.one_pos,if_pos Int.one_pos,Int.max_eq_right (BD _),Int.toNat_natCast,Nat.min_self,Nat.sub_self];exact AD (Nat.add_le_add_right (AD (BN _ _) (BU _ _)) _) (AD (BM (Nat.zero_add _)) (lb hy rfl))
 have f1:typeLookup (.type "slice") "__index__"=pure none:=by rw[Ap,builtinLookup_eq_fast];kernel_rfl
 wp_walk
 have f2:PySem.Builtin.List.listSameRef (.ref l) (.ref a)=false:=uU;rw[f2];simp only[AR,if_false];wp_walk;rw[Qu hx hy];simp only[AR,if_false];refine wpAny_bind ?_;refine wpAny_updateSeq h1 rfl ?_;refine wpAny_bind (wpAny_letGo (wpAny_pure ?_));refine q _ ?_ (Heap.SameBut.update ..);rw[BJ _ h1 rfl];simp[Obj.mapSeq]
def jY(c:Cx)(J:B4)(e:Expr)(ds:Cs):Prop:=
 ∀s,Fr c J s.heap->Run c.w c.A Hw (eval e c.env) s λv h'=>∃a vs,v=.ref a/\s.heap.get? a=none/\h'.PlainList a vs.toArray/\Bf c.X c.w h' vs ds
theorem jY.C1{elt target iter:Expr}{ifs:Cy}(xs:List α)(Co:α->D)(p:α->Bool)(g:α->D)(CO:C9 c J scope J0)(Fl:Bb c J target iter (xs.map Co))(Jx:α->List (Str×D))(D8:∀x,∀q∈J0,q∈Jx x)(hb:∀x∈xs,∀cc,Sub c cc scope->Bind cc J0 target (Co x) (Jx x))(hi:∀x∈xs,∀cc,Sub c cc scope->CM cc (Jx x) ifs (p x))(he:∀x∈xs,p x=true->∀cc,Sub c cc scope->Ev cc (Jx x) elt (g x))(sz:xs.length<=1000000)(hs:autoParam (∀e x,Q9 iter e x) Go) :
  jY c J (.ListComp elt [⟨target,iter,ifs,0⟩] scope pos) ((xs.filter p).map g):=λs F Q E q=>by
 have e:(xs.map λx=>(Co x,if p x then[g x]else[])).flatMap (·.2)=(xs.filter p).map g:=by
  rw[Ak,AB];exact Fc p g xs
 have ZY:∀g'∈[(⟨target,iter,ifs,0⟩:Comprehension)],g'.is_async=0/\∀env x,foldedSetIterable g'.iter env x=pure x:=λg' hg=>by rw[AG.mp hg];exact⟨rfl,hs⟩
 rw[eval_ListComp];show wpAny _ _ (comprehension _ scope c.env _ (newList []) (firstAsync [⟨target,iter,ifs,0⟩]) (firstIter [⟨target,iter,ifs,0⟩] c.env) none) _ _ _;rw[DV (ZY _ (.head _)).1,Dq];refine Fv (ds:=xs.map λx=>(Co x,if p x then[g x]else[])) (newAcc:=newList []) (Hf ZY) Jl.list (o0:={cls:=.type "list",data:=.seq #[]}) (λM A s Q E h=>wpAny_newObj_type h) rfl (λw X h a e V=>⟨[],⟨_,e⟩,.nil⟩) CO (by rw[AB];exact Fl) (λd hd=>?_) (by rw[e,AA];exact AD (AV _ _) sz) F ?_
 .refine Bi (AF.mp hd) ?_;rintro x hx rfl;refine⟨Jx x,p x,D8 x,hb x hx,hi x hx,λhp=>by simp[hp],λhp=>⟨g x,by simp[hp],λcc sc=>Ih.list (he x hx hp cc sc)⟩⟩
 .intro acc C h' tk m sa sC ba bC ac KL OE l ns Cr;refine Bi Cr ?_;intro vs pl r;rw[e]at r;refine⟨m,ns,λHj sb=>?_⟩;refine CC (Kf (X:=c.X) l sC OE sb (Cd.ns ns)) ?_;intro l2 kn;exact q _ Hj tk l2 ⟨acc,vs,rfl,sa,pl.at λo e=>sb.extBut _ _ ac e,r.kn kn⟩
theorem Fr.ro{x dx l:Addr}{rows:Ci}(F:Fr c J h)(hG:c.G=Bc x dx l rows):Fr (c.on (λb=>c.X b/\¬(Bc x dx l rows).fp b) (CJ x dx l rows)) J h:=
 have gx:∀b,(Bc x dx l rows).fp b->b≠c.env.locals/\∀y,c.env.cells.lookup y≠some b:=λb z=>(F.gx b (by rw[hG];exact z)).2
 {base:=F.base
  Ck:=λa z=>F.Ck a z.1
  kind:=F.kind,glob:=F.glob,blt:=F.blt,ok:=F.ok,old:=F.old
  loc:=⟨⟨F.loc.1,λz=>(gx _ z).1 rfl⟩,F.loc.2⟩
  E0:=λx a e=>by refine Hv (F.E0 x a e) ?_;intro a1 a2 a3 a4;exact⟨a1,a2,a3,λo=>⟨⟨(a4 o).1,λz=>(gx _ z).2 x e⟩,(a4 o).2⟩⟩
  apart:=F.apart
  names:=λx d m=>by refine Bi (F.names x d m) ?_;intro v H r;exact⟨v,H,r.move (Ce λb z=>z.1)⟩
  g:=by
   have g:=F.g;rw[hG]at g;exact⟨Res.CD g λb z=>z.1,λz=>z.2 (.inl rfl),λz=>z.2 (.inr (.inl rfl)),λz=>z.2 (.inr (.inr rfl))⟩
  gx:=λb z=>z.elim}
theorem Mm{vs:Array Value}(t:h.IsTuple a vs){x dx l:Addr}{rows:Ci}(H:(Bc x dx l rows).P w X h):¬(Bc x dx l rows).fp a:=by
 obtain⟨ot,et,ct,n,dt⟩:=t;refine kI H ?_;clear H;intro ox us h1 h2 h3 h4 Dv HW V;refine Bi Dv ?_;clear Dv;rintro m ⟨od,es,ep,e5,d5,_⟩ _;refine B6 HW ?_;intro n7 e7;rintro(rfl|rfl|rfl)
 .rw [h1]at et;cases et;rw[h2]at ct;cases ct
 .rw [e5]at et;cases et;rw[d5]at dt;cases dt
 .rw [e7]at et;cases et;exact absurd (Value.type.inj ct) (by decide)
theorem Ts{x dx l:Addr}{rows rows':Ci}(H:(Bc x dx l rows).P w X h):∀ {vs:DW},Bf (λb=>X b/\¬(Bc x dx l rows).fp b) w h vs (Br rows')->Bf X w h vs (Br rows'):=by
 induction rows' with
 |nil=>intro vs r;cases r;exact .nil
 |cons p rows' ih=>
  intro vs r;refine Du (Bf.Bp r) ?_;rintro V V rfl a b;refine .cons ?_ (ih b);refine Qg (B9.M3 a) ?_;rintro V V rfl nx nt p' r';refine .tup (λz=>nx ⟨z,Mm p' H⟩) nt p' (r'.flat λd hd=>?_);simp only[AJ,An,or_false]at hd;rcases hd with rfl|rfl<;>rfl
theorem Ex.WU{value:Expr}{sp rS:Pos}{x dx l:Addr}{rows rows':Ci}(ro:¬c.ro)(hG:c.G=Bc x dx l rows)(Pl:l≠x)(L6:l≠dx)(hz:rows.length<=1000)(nZ:rows'.length<=1000)(z:jY (c.on (λb=>c.X b/\¬(Bc x dx l rows).fp b) (CJ x dx l rows)) J value (Br rows'))(a:Ev c J o (.obj (.ref l)))(hs:autoParam (swapsWith value (some (.Subscript o (.Slice none none none rS) sp)) pos.line c.env=pure false) Bd) :
  Ex c J (.Assign [.Subscript o (.Slice none none none rS) sp] value pos) (Fr (c.on c.X (Bc x dx l rows')) J) R:=λs F Q E n r=>
 wpAny_Assign_Subscript (z s (F.ro hG) _ _ λv h1 t1 l1 zz=>dw zz λb vs ev nb pl rl=>by
  subst ev;have F1:Fr c J h1:=F.le l1;refine a {s with heap:=h1,toks:=t1} F1 _ _ λov h2 t2 l2 r2=>?_;cases r2;have F2:Fr c J h2:=F1.le l2;refine wpAny_Slice ?_;rw[evalPart_none];refine wpAny_pure (wpAny_pure (wpAny_pure ?_));have l3:Le h2 (h2.push {cls:=.type "slice",data:=.fields #[.none,.none,.none]}):=Le.push _ _;have e3:(h2.push {cls:=.type "slice",data:=.fields #[.none,.none,.none]}).get? h2.objs.size=some {cls:=.type "slice",data:=.fields #[.none,.none,.none]}:=AH _ rfl;dsimp only;generalize jx:h2.push {cls:=.type "slice",data:=.fields #[.none,.none,.none]}=h3 at *;have F3:Fr c J h3:=F2.le l3;have g3:=F3.g;rw[hG]at g3;refine bo (id g3) ?_;intro ox us p1 p2 p3 p4 p5 p7 p8 q1 q2 q3;have g0:=F.g;rw[hG]at g0;have lb:l≠b:=λe=>by
   refine kI g0 ?_;clear g0;intro V V V V V V V Jk V;refine B6 Jk ?_;intro n0 e0;rw[<- e,e0]at nb;cases nb
  have iV:b≠TP:=λe=>by refine Bi F.base.tab ?_;intro ps e' V;rw[e]at nb;rw[nb]at e';cases e'
  refine B6 pl ?_;clear pl;intro n1 tA;have tB:h3.get? b=some {cls:=.type "list",data:=.seq vs.toArray n1}:=l3.keep _ _ iV id (Bu.keep l2 _ _ iV id tA);refine B6 p7 ?_;clear p7;intro n3 mB;have YA:=p8.length;have Nb:=rl.length;unfold Br at YA Nb;rw[AA]at YA Nb;have hT:({s with heap:=h3,toks:=t2}:Shared).TypeIs (.ref l) "list":=⟨_,mB,rfl⟩
  unfold setItem;refine wpAny_holding (wpAny_bind (wpAny_sequenceKey hT (by decide) ?_));refine wpAny_bind (wpAny_callSpecial?_slot (name:=Str.ofString "__setitem__") hT PySem.F.slot_list_setitem (wpAny_call_entry PySem.F.slot_list_setitem hT PySem.F.entry_list_setitem
   (Oy (by rw[AY];exact Je YA hz rfl) (by rw[AY];exact Je Nb nZ rfl) mB tB (by simpa using lb) e3 λh4 rK s4=>⟨_,rfl,?_⟩) (PySem.F.args_list_setitem_3 _ _ _)))
  refine wpAny_pure ?_;refine B6 rK ?_;clear rK;intro n4 e4;have l4:Bu (·=l) h3 h4:=Cp s4 _ e4 q3 (Cd.at mB (Cd.seq rfl));have kQ:Bf c.X c.w h3 vs (Br rows'):=Ts g3 (Bf.le (Bf.le rl l2) l3);have lx:c.X l:=(F3.gx l (by rw[hG];exact .inr (.inr rfl))).1.1;have u:Upd c.G (Bl l (Br rows)) (Bl l (Br rows')) (Bc x dx l rows'):=by rw[hG];exact Rd Pl L6
  exact n h4 t2 (F3.upd ro u l4 ⟨vs,⟨n4,e4⟩,kQ.move (DR l4 λb z=>z▸lx),q3⟩)) hs
theorem Bh.vK{a b:Str}(x:Ev c J l (.str a))(y:Ev c J r (.str b))(ha:PyData.strOk a=true)(hb:PyData.strOk b=true)(hm:autoParam (behindInMarks .NotEq r=false) Dz):Bh c J l .NotEq r (!decide (a=b)):=
 (Bh.W9 (n:=0) (m:=0) x y (.str ha) (.str hb) (by decide) hm).eq (by rw[DK])
theorem O7(P:Params):noSeq (Kx P) 189=true:=by kernel_rfl
section
variable {w:World}{A:Around}{E:CH}{s:Shared}{x:Addr}{ox od:Obj}{k v:Value}
theorem NS(P:Params){f:Addr}{st:Stmt}{qual:Str}{code:Addr}{dflt mod:Value}(fd:CA f st qual code dflt mod):typeIn (Kx P) (.ref f)=some (.type "function"):=by
 show Option.map (λx:Obj=>x.cls) (List.lookup f (Kx P))=_;rw[fd.here];rfl
theorem QI{Q:EU}{st:Stmt}{qual:Str}{code:Addr}{dflt mod:Value}(fd:CA 109 st qual code dflt mod)(X:(Kx w.params).In s.heap)(I:InstAt s.heap x ox 189 (some od))(h:wpAny (model prog w) A (call (.ref 109) [.ref x,k]) (λV=>Q ()) E s):wpAny (model prog w) A (delItem (.ref x) k) Q E s:=by
 refine wpAny_holding (wpAny_bind (wpAny_bind (I.type.here ?_)));refine wpAny_bind ((anyM_none X (O7 _)).here ?_);rw[if_pos (show(!false)=true from rfl)];exact wpAny_pure (wpAny_bind (special_fn X I (QJ _) (NS _ fd) (wpAny_mono h (λV V z=>wpAny_pure z) λV V z=>z)))
theorem QK{Q:EU}{st:Stmt}{qual:Str}{code:Addr}{dflt mod:Value}(fd:CA 104 st qual code dflt mod)(X:(Kx w.params).In s.heap)(I:InstAt s.heap x ox 189 (some od))(h:wpAny (model prog w) A (call (.ref 104) [.ref x,k,v]) (λV=>Q ()) E s):wpAny (model prog w) A (setItem (.ref x) k v) Q E s:=by
 refine wpAny_holding (wpAny_bind (wpAny_bind (I.type.here ?_)));refine wpAny_bind ((anyM_none X (O7 _)).here ?_);rw[if_pos (show(!false)=true from rfl)];exact wpAny_pure (wpAny_bind (special_fn X I (QL _) (NS _ fd) (wpAny_mono h (λV V z=>wpAny_pure z) λV V z=>z)))
end
theorem ZI:CA 109 (Bv 4) (S "Headers.__delitem__") 108 .none EF:=⟨λP=>rfl,λP=>⟨_,_,_,rfl,rfl,rfl⟩,rfl,rfl,rfl⟩
theorem ZK:CA 104 (Bv 3) (S "Headers.__setitem__") 103 .none EF:=⟨λP=>rfl,λP=>⟨_,_,_,rfl,rfl,rfl⟩,rfl,rfl,rfl⟩
noncomputable def Gz(rows:Ci)(n:Str):List (Str×Str):=rows.filter λr=>!decide (Txt.lower r.1=Txt.lower n)
theorem mR(w:World)(k:Nat)(x dx l:Addr)(rows:Ci)(n:Str)(hl:rows.length<=1000)(Pl:l≠x)(L6:l≠dx)(hr:∀r∈rows,JT r)(hn:n.length<=1000000)(hc:CF true (Txt.lower n))(S4:PyData.strOk (Txt.lower n)=true) :
  CU w 109 (k+2) (Bc x dx l rows) [.obj (.ref x),.str n] .none (Bc x dx l (Gz rows n)):=by
 refine KH ZI (names:=[S "self",S "name"]) (es:=[.obj (.ref x),.str n]) (λX A s vs B xk r Q E q=>?_) (.of (by decide +kernel)) λc X h0 F=>?_
 .refine Du (Bf.Bp r) ?_;rintro V V rfl a r;refine Du (Bf.Bp r) ?_;rintro V V rfl b r;cases r;exact wpAny_pure (q s.heap s.toks [_,_] (.refl _) (.cons a (.cons b .nil)) rfl)
 .have E:=F.env;have hG:∀X h,c.G.P c.w X h->(Bc x dx l rows).P c.w X h:=λX h z=>by rw[F.hG]at z;exact z
  have Jq:1<=c.k:=by rw[F.hk];exact A1 1 k
  refine Be.step (J':=[(S "name",.str (Txt.lower n)),(S "self",.obj (.ref x))]) (Ex.sc E (d:=.str (Txt.lower n)) (Ev.conv hc (DI.res hG) Jq Ev.n (Ev.lower Ev.n hn))) ?_;have Er:Bj (c.on (λb=>c.X b/\¬(Bc x dx l rows).fp b) (CJ x dx l rows)) w (BY (Bv 4)) (k+1):=E.on;have ev:Br (Gz rows n)=(rows.filter λr=>!decide (Txt.lower r.1=Txt.lower n)).map λr=>D.tup [.str r.1,.str r.2]:=rfl;refine Be.EM (X':=c.X) (G':=Bc x dx l (Gz rows n)) (Ex.WU (rows:=rows) (rows':=Gz rows n) E.ro F.hG Pl L6 hl (AD (AV _ _) hl) (ev▸jY.C1 rows (λr=>.tup [.str r.1,.str r.2]) (λr=>!decide (Txt.lower r.1=Txt.lower n)) (λr=>.tup [.str r.1,.str r.2]) (J0:=[(S "name",.str (Txt.lower n))]) Er.co
   (Bb.list (Ev.MZ (λX h z=>z) Ev.n)) (λr=>[(S "kv",.tup [.str r.1,.str r.2]),(S "name",.str (Txt.lower n))]) (λV V h=>.tail _ h) (λV V V sc=>Bind.n)
   (λr Rj cc sc=>CM.one (CL.cmp (Bh.vK (Ev.lower (Ev.Ve (i:=0) (d:=.str r.1) Ev.n Ev.cInt (AE rfl) rfl) (hr r Rj).len) Ev.n (hr r Rj).ok S4))) (λr V V cc sc=>Ev.n) (lb hl rfl)) (Ev.L6 hG Ev.n)) ?_
  exact Be.nil (Be.done λh Fh=>⟨.none,Fh.old,Fh.base,Fh.g⟩)
noncomputable def L7(rows:Ci)(n v:Str):List (Str×Str):=Gz rows n++[(n,v)]
theorem mT(w:World)(k:Nat)(x dx l:Addr)(rows:Ci)(n v:Str)(hl:rows.length<=1000)(Pl:l≠x)(L6:l≠dx)(hr:∀r∈rows,JT r)(gI:CF true n)(hv:CF false v)(hn:n.length<=1000000)(hc:CF true (Txt.lower n))(S4:PyData.strOk (Txt.lower n)=true) :
  CU w 104 (k+3) (Bc x dx l rows) [.obj (.ref x),.str n,.str v] .none (Bc x dx l (L7 rows n v)):=by
 refine KH ZK (names:=[S "self",S "name",S "val"]) (es:=[.obj (.ref x),.str n,.str v]) (λX A s vs B xk r Q E q=>?_) (.of (by decide +kernel)) λc X h0 F=>?_
 .refine Du (Bf.Bp r) ?_;rintro V V rfl a r;refine Du (Bf.Bp r) ?_;rintro V V rfl b r;refine Du (Bf.Bp r) ?_;rintro V V rfl d r;cases r;exact wpAny_pure (q s.heap s.toks [_,_,_] (.refl _) (.cons a (.cons b (.cons d .nil))) rfl)
 .have E:=F.env;have hint:interactive c.env=false:=E.quiet rfl;have Jq:1<=c.k:=by rw[F.hk];exact A1 1 (k+1)
  have UD:k+2<=c.k:=by rw[F.hk];exact Ad _
  let R0:List (Str×D):=[(S "self",.obj (.ref x)),(S "name",.str n),(S "val",.str v)]
  have del:Ex c R0 (((Bt (Bv 3))[0]?).getD default) (Fr (c.on c.X (Bc x dx l (Gz rows n))) R0) (M6 c .none (Bc x dx l (L7 rows n v))):=λs Fs Q E nn r=>by
   refine wpAny_Delete (wpAny_deleteEach_cons ?_);rw[arm_delete_Subscript];refine wpAny_bind ((Ev.n (d:=.obj (.ref x)):Ev c R0 _ _) s Fs _ _ λv1 h1 t1 l1 r1=>wpAny_bind (wpAny_holding ((Ev.n (d:=.str n):Ev c R0 _ _) {s with heap:=h1,toks:=t1} (Fs.le l1) _ _ λv2 h2 t2 l2 r2=>wpAny_bind (wpAny_standAt (wpAny_bind (wpAny_holding ?_))))));cases r1;have F2:Fr c R0 h2:=(Fs.le l1).le l2;have g2:=F2.g;rw[F.hG]at g2;refine Fq (ID g2) ?_;intro ox od I V;refine QI (od:=od) ZI (F2.base.k) I ?_;have gx:∀b,(Bc x dx l rows).fp b->c.X b:=λb z=>(F2.gx b (by rw[F.hG];exact z)).1.1;refine mR c.w k x dx l rows n hl Pl L6 hr hn hc S4 c.A c.X {s with heap:=h2,toks:=t2} [.ref x,v2] (F2.ok.CD UD) F2.base F2.Ck (.cons (.obj _) (.cons r2 .nil)) g2 gx _ _ λv3 h3 t3 l3 r3=>?_;have u:Upd c.G (Bc x dx l rows) (Bc x dx l (Gz rows n)) (Bc x dx l (Gz rows n)):=by rw[F.hG];exact Upd.self λb=>Iff.rfl
   exact wpAny_release (wpAny_deleteEach_nil (nn h3 t3 (F2.upd F.ro u l3 r3.2)))
  refine Be.EM (X':=c.X) (G':=Bc x dx l (Gz rows n)) del ?_;have dK:∀X h,(c.on c.X (Bc x dx l (Gz rows n))).G.P c.w X h->(Bc x dx l (Gz rows n)).P c.w X h:=λX h z=>z;have hI:DI (c.on c.X (Bc x dx l (Gz rows n))) x:=DI.res dK;have E2:Bj (c.on c.X (Bc x dx l (Gz rows n))) w (BY (Bv 3)) (k+2):=E.on;have e3:Br (Gz rows n)++[.tup [.str n,.str v]]=Br (L7 rows n v):=by unfold L7 Br;rw[Af];rfl
  have Nb:(Gz rows n).length<=1000:=AD (AV _ _) hl;refine Be.EM (X':=c.X) (G':=Bc x dx l (L7 rows n v)) (Ex.append (l:=l) (ds:=Br (Gz rows n)) (d:=.tup [.str n,.str v]) E2.ro (by unfold Br;rw[AA];exact lb Nb rfl) (by rw[e3];exact Rd Pl L6) (Ev.L6 dK Ev.n) (Ev.tp (.cons (Ev.conv gI hI Jq Ev.n Ev.n) (.cons (Ev.conv hv hI Jq Ev.n Ev.n) .nil))) hint) ?_;exact Be.nil (Be.done λh Fh=>⟨.none,Fh.old,Fh.base,Fh.g⟩)
theorem E9.Um{n:Nat}(x:E9 (n+1) A)(C:Addr)(rest:DW)(kw:Di):E9 n (A.under (.builtin "type.__call__" ⟨.ref C::rest,kw⟩)):=by
 have hw:(Code.builtin "type.__call__" ⟨.ref C::rest,kw⟩).weight=1:=by rfl
 have hu:(Code.builtin "type.__call__" ⟨.ref C::rest,kw⟩).cUnits=1:=by rfl
 have hg:(Code.builtin "type.__call__" ⟨.ref C::rest,kw⟩).guards=[]:=by rfl
 refine⟨x.handled,?_,?_,?_⟩
 .have:=x.depth;show A.depth+(Code.builtin "type.__call__" ⟨.ref C::rest,kw⟩).weight+2*n+2<=900;lia
 .have:=x.units;show A.units+(Code.builtin "type.__call__" ⟨.ref C::rest,kw⟩).cUnits+10*n+80<=9000;lia
 .show pushGuards (Code.builtin "type.__call__" ⟨.ref C::rest,kw⟩).guards A.guards=some [];rw[hg,x.guards];rfl
def FO(c:Cx)(J:B4)(e:Expr)(P:D->Res->Prop):Prop:=
 ∀s,Fr c J s.heap->∀(Q:CH) (E:CH),(∀v h' tk d T,P d T->Le s.heap h'->(∀b,T.fp b->s.heap.get? b=none/\306<=b/\∃o,h'.get? b=some o)->T.P c.w (DH c.X T.fp) h'->B9 (DH c.X T.fp) c.w h' v d->Q v {s with heap:=h',toks:=tk})->
  wpAny (model prog c.w) c.A (eval e c.env) Q E s
theorem FO.pure(y:Ev c J e d):FO c J e λd' T=>d'=d/\T=Res.emp:=λs F Q E q=>
 y s F _ _ λv h1 t1 l1 r1=>q v h1 t1 d Res.emp ⟨rfl,rfl⟩ l1 (λb z=>z.elim) trivial (r1.move (Ce λb z=>z.elim id λz=>z.elim))
theorem Fr.got{T:Res}(F:Fr c J h)(l:Le h h')(n:∀b,T.fp b->h.get? b=none/\306<=b/\∃o,h'.get? b=some o)(t:T.P c.w (DH c.X T.fp) h'):Fr (c.on (DH c.X T.fp) (c.G.star T)) J h':=by
 have F1:Fr (c.plus T.fp) J h':=F.plus l n;exact F1.star (T:=T) t λb z=>(F.new (n b z).1 (n b z).2.1).off z
theorem Ex.KP{xp:Pos}{P:D->Res->Prop}(y:FO c J e P)(k:Nm c x)(hs:swapsWith e (some (.Name x xp)) pos.line c.env=pure false)(hN:∀d T h X',P d T->(∀b,c.X b->X' b)->(∀b,T.fp b->Gh c b X')->Fr (c.on X' (c.G.star T)) (Hs J x d) h->N h):Ex c J (.Assign [.Name x xp] e pos) N R:=λs F Q E n r=>
 wpAny_Assign_Name (y s F _ _ λv h1 t1 d T p l1 nw t r1=>by
  have F2:=F.got (T:=T) l1 nw t;refine F2.store (s:={s with heap:=h1,toks:=t1}) k.plain k.slot r1 (DG.of rfl) λh2 t2 l2 F3=>n h2 t2 (hN d T h2 _ p (λb z=>.inl z) (λb z=>?_) F3);have new:=F.new (nw b z).1 (nw b z).2.1;exact⟨λb z=>.inl z,new.2.2.1,new.1⟩) hs
theorem QC:CA 83 (Bv 0) (S "Headers.__init__") 82 (.ref 76) EF:=⟨λP=>rfl,λP=>⟨_,_,_,rfl,rfl,rfl⟩,rfl,rfl,rfl⟩
theorem QQ{v1:Value}{Q:List (Str×Value)->Shared->Prop}(B:CW w s.heap)(q:Q [(S "self",v1),(S "headers",.none)] s) :
  wpAny (model prog w) A (bindArgs (EW (Bv 0) (S "Headers.__init__") (.ref 76) EF (.ref 82)) ⟨[v1],[]⟩) Q E s:=by
 obtain⟨h,g,d,tk,os⟩:=s;have e:=B.k 76 _ rfl;unfold bindArgs;wp_walk;exact q
theorem QR{v1 v2:Value}{Q:List (Str×Value)->Shared->Prop}(B:CW w s.heap)(q:Q [(S "self",v1),(S "headers",v2)] s) :
  wpAny (model prog w) A (bindArgs (EW (Bv 0) (S "Headers.__init__") (.ref 76) EF (.ref 82)) ⟨[v1,v2],[]⟩) Q E s:=by
 obtain⟨h,g,d,tk,os⟩:=s;have e:=B.k 76 _ rfl;unfold bindArgs;wp_walk;exact q
theorem Ex.expr(y:Ev c J e d)(hint:interactive c.env=false)(hs:autoParam (swapsWith e none pos.line c.env=pure false) Bd):Ex c J (.Expr e pos) (Fr c J) R:=λs F Q E n r=>
 wpAny_Expr_any (y s F _ _ λv h1 t1 l1 r1=>n h1 t1 (F.le l1)) hint hs
noncomputable def Gy(x dx:Addr):Res where
 fp:=λb=>b=x\/b=dx
 P:=λw X h=>∃ox,h.get? x=some ox/\ox.cls=.ref 189/\notCls ox=true/\ox.dict=some dx/\h.Ns1 dx (λV=>none)/\x≠TP/\dx≠TP/\x≠dx
 mv:=by
  intro w X X' h h' Cr k;refine oO Cr ?_;intro ox h1 h2 h3 h4 h5 n1 n2 n3;exact⟨ox,(k x ox (.inl (.inl rfl)) n1 h1).1,h2,h3,h4,IM h5 λo e=>(k dx o (.inl (.inr rfl)) n2 e).1,n1,n2,n3⟩
theorem aH(P:Params):findIn (Kx P) (.ref 189) "__setattr__"=some (some (.builtin "object.__setattr__")):=by kernel_rfl
theorem Ul(P:Params):plainOver (Kx P) 189=true:=by kernel_rfl
theorem Si(P:Params):takerIn (Kx P) 189 JJ=some none:=by kernel_rfl
theorem VX{x dx:Addr}{ox:Obj}{tk:Tok}{b:Bool}{Q:PySem.Fin->Shared->Prop}(B:CW w s.heap)(h1:s.heap.get? x=some ox)(h2:ox.cls=.ref 189)(h4:ox.dict=some dx)(h5:s.heap.Ns1 dx λV=>none)(q:∀h' Wj,h'.Ns1 dx (λy=>if y=JJ then some v else none)->Heap.SameBut dx s.heap h'->Q (.done (.ret .none)) {s with heap:=h',toks:=Wj}) :
  wpAny (model prog w) A (PySem.Builtin.ObjectAttr.storeInOwnDict (.ref x) (.ref 189) (.str JJ tk) JJ v b) Q E s:=by
 obtain⟨h,g,d,t,os⟩:=s;have hC:=B.k 189 _ rfl;obtain⟨oc,od,w9,vU⟩:=ox;dsimp only at h2 h4;subst h2 h4;have hc:clsIn (Kx w.params) 189=some JB:=rfl;refine wpAny_bind (wpAny_pure (wpAny_bind (wpAny_bind (wpAny_loadPart h1 (wpAny_bind ((looks_clsIn B.k hc).here ?_))))));rw[show(!JB.hasDict)=false from rfl];refine wpAny_pure (a:=some dx) (wpAny_bind (wpAny_pure (wpAny_bind (wpAny_nsSet1 h5 λh' ZW hs=>?_))));refine Mo (ZW.count (Within.cons JJ v Within.nil)) ?_;intro oD pf pY gK f7 f5;refine wpAny_bind (wpAny_lookBehind gK (by rw[f7];exact pastItsLine_dict (AD f5 (by rw[AZ,BS,sizeLine_eq];exact A1 (0+1) 16777216))) ?_);exact wpAny_pure (q h' _ ZW hs)
theorem Ex.i9{ap:Pos}{x dx l:Addr}{rows:Ci}(ro:¬c.ro)(hG:c.G=(Gy x dx).star (Bl l (Br rows)))(a:Ev c J o (.obj (.ref x)))(y:Ev c J e (.obj (.ref l)))(hs:autoParam (swapsWith e (some (.Attribute o JJ ap)) pos.line c.env=pure false) Bd) :
  Ex c J (.Assign [.Attribute o JJ ap] e pos) (λh=>Fr (c.on c.X (Bc x dx l rows)) J h/\l≠x/\l≠dx) R:=λs F Q E n r=>
 plainObj_wpAny_Assign_Attribute (y s F _ _ λv h1 t1 l1 r1=>by
  cases r1;refine a {s with heap:=h1,toks:=t1} (F.le l1) _ _ λov h2 t2 l2 r2=>?_;cases r2;have F2:Fr c J h2:=(F.le l1).le l2;have g2:=F2.g;rw[hG]at g2;refine FP (id g2) ?_;intro Dv HW ap;refine oO Dv ?_;intro ox p1 p2 p3 p4 p5 n1 n2 n3;refine EJ HW ?_;intro vs pl rr n4;have lx:l≠x:=λe=>ap x (.inl rfl) e.symm;have ld:l≠dx:=λe=>ap dx (.inr rfl) e.symm;refine Ju (id p5) ?_;intro od es ep e5 r5;have I:InstAt h2 x ox 189 (some od):=⟨p1,p2,p3,by rw[p4];exact e5⟩
  refine set_plain (s:={s with heap:=h2,toks:=t2}) F2.base.k I (aH _) ?_;refine osa_open (s:={s with heap:=h2,toks:=t2+1}) F2.base.k I (Ul _) (Si _) λb=>?_;refine VX (s:={s with heap:=h2,toks:=t2+1}) F2.base p1 p2 p4 p5 λh3 t3 qS s3=>?_;refine Ju (id qS) ?_;intro o3 wc wa e3 r3;have l3:Bu (·=dx) h2 h3:=Cp s3 _ e3 n2 (Cd.at e5 (Cd.dict r5.1));have so:c.X dx:=(F2.gx dx (by rw[hG];exact .inl (.inr rfl))).1.1;refine n h3 t3 ⟨?_,lx,ld⟩;have iff:∀b,(Bc x dx l rows).fp b↔c.G.fp b:=λb=>by
   rw[hG];show(b=x\/b=dx\/b=l)↔((b=x\/b=dx)\/b=l);rw[or_assoc]
  have u:Upd c.G c.G (Bc x dx l rows) (Bc x dx l rows):=⟨λV V V z=>z,λV z=>z,iff,iff,λV V V V V V V z=>z⟩
  refine F2.upd ro u (l3.any λb z=>by rw[hG];exact .inl (.inr z)) ⟨ox,vs,l3.keep _ _ n1 n3 p1,p2,p3,p4,⟨_,qS,?_,λn hn=>?_⟩,?_,rr.move (DR l3 λb z=>z▸so),n1,n2,n4⟩
  .simp
  .simp [hn]
  .refine B6 pl ?_;clear pl;intro m em;exact⟨m,l3.keep _ _ n4 ld em⟩) hs
theorem Rg{x dx l:Addr}{rows:Ci}(H:(Bc x dx l rows).P w (λb=>X b/\¬(Bc x dx l rows).fp b) h):(Bc x dx l rows).P w X h:=by
 refine rB (id H) ?_;intro ox vs h1 h2 h3 h4 h5 h7 h8 t;have H0:(Bc x dx l ([]:Ci)).P w X (h)\/True:=.inr trivial;refine⟨ox,vs,h1,h2,h3,h4,h5,h7,?_,t⟩;have key:∀(rs:Ci){us:DW},Bf (λb=>X b/\¬(Bc x dx l rows).fp b) w h us (Br rs)->Bf X w h us (Br rs):=λrs=>by
  induction rs with
  |nil=>intro us r;cases r;exact .nil
  |cons p rs ih=>
   intro us r;refine Du (Bf.Bp r) ?_;rintro V V rfl a b;refine .cons ?_ (ih b);refine Qg (B9.M3 a) ?_;rintro V V rfl nx nt p' r';refine .tup (λz=>nx ⟨z,Mm p' H⟩) nt p' (r'.flat λd hd=>?_);simp only[AJ,An,or_false]at hd;rcases hd with rfl|rfl<;>rfl
 exact key rows h8
theorem Fr.vo{x dx l:Addr}{rows:Ci}(F:Fr c J h)(hG:c.G=Bc x dx l rows)(hJ:∀p∈J',p∈J\/(p.2=.list (Br rows)/\(p.1,D.obj (.ref l))∈J)):Fr (c.on (λb=>c.X b/\¬(Bc x dx l rows).fp b) (CJ x dx l rows)) J' h:=by
 have F':=F.ro hG;refine{F' with names:=λy d m=>?_};rcases hJ _ m with m|⟨e,m⟩
 .exact F'.names y d m
 .refine Bi (F'.names _ _ m) ?_;intro v H r;have e':d=.list (Br rows):=e;cases r;refine⟨_,H,?_⟩;rw[e'];refine Hv F'.g ?_;intro Cr n1 n2 n3;refine bo Cr ?_;intro ox vs h1 h2 h3 h4 h5 h7 h8 t1 t2 t3;exact B9.list n3 t3 h7 h8
theorem FO.YD{t:Expr}{P:D->Res->Prop}(x:CL c J t false)(y:FO c J r P):FO c J (.IfExp t l r pos) P:=λs F Q E q=>
 wpAny_IfExp (x s F _ _ λb h1 t1 l1 e=>by
  subst e;have Ec:Le s.heap h1:=l1;refine y {s with heap:=h1,toks:=t1} (F.le Ec) Q E λv h2 t2 d T p l2 nw t r=>q v h2 t2 d T p (Bu.trans l1 l2) (λb z=>?_) t r;refine FP (nw b z) ?_;intro a1 a2 a3;exact⟨Bx Ec (LO (F.le Ec).base.tab a1) a1,a2,a3⟩)
theorem FO.bZ:FO c J (.List [] pos) λd T=>∃l,d=.obj (.ref l)/\T=Bl l []:=λs F Q E q=>
 wpAny_List (wpAny_items_nil (pos:=pos) (by
  refine⟨by decide,?_⟩;have ea:(s.heap.push {cls:=.type "list",data:=.seq #[]}).get? s.heap.objs.size=some {cls:=.type "list",data:=.seq #[]}:=AH _ rfl;refine q _ _ s.toks (.obj (.ref s.heap.objs.size)) (Bl s.heap.objs.size []) ⟨_,rfl,rfl⟩ (Le.push _ _) (λb z=>?_) ⟨[],⟨_,ea⟩,.nil,B5 F.base.tab⟩ (.obj _);have z':b=s.heap.objs.size:=z;rw[z'];exact⟨Bn _,B7 F.base,_,ea⟩))
theorem Ev.jR{np:Pos}{l:Addr}(hG:∀X h,c.G.P c.w X h->(Bl l ds).P c.w X h)(f:Ev c J (.Name x np) (.obj (.type "type")))(y:Ev c J e (.obj (.ref l)))(he:autoParam (D9 c e []) Bd):Ev c J (.Call (.Name x np) [e] [] pos) (.obj (.type "list")):=
 .RF f (.cons y .nil he) (λvs s F r Q E q=>by
  refine Du (Bf.Bp r) ?_;rintro V V rfl a b;cases b;cases a;refine Bi (hG _ _ F.g) ?_;intro vs Dv V;refine B6 Dv ?_;intro n e0;exact PySem.call_type_of ⟨_,e0,rfl⟩ (by decide +kernel) (q _ s.heap s.toks (.refl _) (.obj _))) he
theorem Bh.S9{T:String}(x:Ev c J l (.obj (.type T)))(y:Ev c J r (.obj (.type T)))(hm:autoParam (behindInMarks .IsNot r=false) Dz):Bh c J l .IsNot r false:=
 Bh.of x y (λV V s F ra rb Q E q=>by
  cases ra;cases rb;refine wpAny_isNot_plain rfl ?_;rw[show(!(Value.type T==Value.type T))=false by simp];exact q _ s.heap s.toks (.refl _) (.bool _)) hm
theorem Be.pass{c':Cx}{ls:List (List Stmt)}(e:M7 c c')(f:∀h,Fr c J h->Fr c' J' h)(x:Be c' J' ls N R):Be c J ls N R:=λs F Q E n r=>HR e ls (x s (f _ F) Q E n r)
theorem Md{x dx l:Addr}{rows:Ci}(E:Bj c w (BY (Bv 0)) (k+1))(hG:c.G=(Gy x dx).star (Bl l (Br rows)))(hr:∀r∈rows,CF true r.1/\CF false r.2) :
  Be c [(S "headers",.obj (.ref l)),(S "self",.obj (.ref x))] [(Bt (Bv 0)).drop 1] (λh=>M6 c .none (Bc x dx l rows) .none h/\l≠x/\l≠dx) R:=by
 have Jq:1<=c.k:=by rw[E.hk];exact A1 1 k
 refine Be.if (b:=false) (CL.cmp (Bh.S9 (Ev.jR (l:=l) (ds:=Br rows) (λX h z=>by rw[hG]at z;exact z.2.1) Ev.b Ev.n) Ev.b)) (λh=>by cases h) λV=>Be.nil ?_
 refine Be.cons (Ex.i9 E.ro hG Ev.n Ev.n) λh1 zz=>?_;refine FP zz ?_;clear zz;intro F1 lx ld;refine⟨c.on c.X (Bc x dx l rows),_,⟨rfl,rfl,rfl⟩,F1,?_⟩;refine Be.if (b:=true) (CL.val Ev.cBool trivial) (λV=>?_) (λh=>by cases h)
 let R0:List (Str×D):=[(S "headers",.list (Br rows)),(S "self",.obj (.ref x))]
 let cr:Cx:=(c.on c.X (Bc x dx l rows)).on (λb=>c.X b/\¬(Bc x dx l rows).fp b) (CJ x dx l rows);have Er:Bj cr w (BY (Bv 0)) (k+1):=⟨E.hw,E.hs,E.hk,E.ro,E.slot⟩
 have hint:interactive cr.env=false:=E.quiet rfl;refine Be.pass (c':=cr) (J':=R0) ⟨rfl,rfl,rfl⟩ (λh F2=>Fr.vo (c:=c.on c.X (Bc x dx l rows)) F2 rfl λp hp=>?_) ?_
 .simp only[R0,AJ,An,or_false]at hp;rcases hp with rfl|rfl
  .exact .inr ⟨rfl,by simp⟩
  .exact .inl (by simp)
 have hz:rows.length=(Br rows).length:=by unfold Br;rw[AA]
 refine Be.cons (Ex.for (ds:=Br rows) Er.ro (λV=>cr.G) (λV=>R0) rfl rfl (Bb.list Ev.n) (λi d hd X1 T hX=>?_)) ?_
 .unfold Br at hd;rw[AL,AS]at hd;refine Bi hd ?_;clear hd;rintro r gQ rfl;have E1:Bj (cr.on X1 (cr.G.star T)) w (BY (Bv 0)) (k+1):=Er.on;have gR:=hr r (AQ gQ);have hI:DI (cr.on X1 (cr.G.star T)) x:=DI.ro (dx:=dx) (l:=l) (rows:=rows) λX h z=>z.1;refine⟨(S "v",.str r.2)::(S "k",.str r.1)::R0,Bind.tup (.cons Bind.n (.cons Bind.n .nil)),?_⟩;refine Be.step (Ex.expr (Ev.conv gR.1 hI Jq Ev.n Ev.n) hint) (Be.step (Ex.expr (Ev.conv gR.2 hI Jq Ev.n Ev.n) hint) ?_);exact Be.nil (Be.done λh2 Fh=>⟨X1,hX,Fh.sub λp hp=>.tail _ (.tail _ hp)⟩)
 .intro h2 Cr;refine Bi Cr ?_;intro X2 Hk F2;refine⟨cr.on X2 cr.G,_,⟨rfl,rfl,rfl⟩,F2,Be.nil (Be.nil (Be.done λh3 F3=>⟨⟨.none,F3.old,F3.base,?_⟩,lx,ld⟩))⟩;have z:(CJ x dx l rows).P c.w X2 h3:=F3.g;exact Rg (Res.CD z.1 Hk)
theorem RW{f:Addr}{st:Stmt}{qual:Str}{code:Addr}{dflt mod:Value}(fd:CA f st qual code dflt mod)(ok:E9 (k+1) A)(B:CW w s.heap)(xk:FU X s.heap){G:Res}(g:G.P w X s.heap)(gx:∀b,G.fp b->X b){names:B3}{Ww:DW}{kw:Di}(r:Bf X w s.heap vs ds)(hl:names.length=vs.length)(hb:∀(Q:List (Str×Value)->Shared->Prop) (E:CH),Q (names.zip vs) s->wpAny (model prog w) A.in1 (bindArgs (EW st qual dflt mod (.ref code)) ⟨Ww,kw⟩) Q E s)(ck:DZ (BY st) names){Post:Ct}(body:∀c,FnAt c w (BY st) k X G s.heap->Be c (names.zip ds) [Bt st] (FT G s.heap Post .none) (FT G s.heap Post))(q:∀a h' tk,Bu G.fp s.heap h'->Post a h'->Q a {s with heap:=h',toks:=tk}) :
  codeAny (model prog w) A (.call (.ref f) ⟨Ww,kw⟩) (λr s'=>match r with|.ok (.ret v)=>Q v s'|.ok _=>False|.error e=>E e s') s:=by
 have ho:=B.k _ _ (fd.here w.params);refine Mo (fd.code w.params) ?_;intro oc vc tc ec dc qc;refine A7 (o:=Eu st qual dflt mod (.ref code)) (fd:=EW st qual dflt mod (.ref code)) ok.room ho rfl fd.plain.1 fd.plain.2 rfl ⟨code,oc,vc,tc,rfl,B.k _ _ ec,dc,qc⟩ ?_;exact hb _ _ (NR (s:=s) fd ok B xk (G:=G) g gx r hl ck body q)
def UK(w:World)(X:CG)(x dx:Addr)(rows:Ci)(h0:Heap)(v:Value)(h:Heap):Prop:=
 v=.none/\∃l,(Bc x dx l rows).P w X h/\l≠x/\l≠dx/\h0.get? l=none/\306<=l/\∃o,h.get? l=some o
theorem gY(ok:E9 (k+2) A)(B:CW w s.heap)(xk:FU X s.heap){x dx:Addr}(g:(Gy x dx).P w X s.heap)(gx:∀b,(Gy x dx).fp b->X b)(q:∀a h' tk,Bu (Gy x dx).fp s.heap h'->UK w X x dx [] s.heap a h'->Q a {s with heap:=h',toks:=tk}) :
  codeAny (model prog w) A (.call (.ref 83) ⟨[.ref x],[]⟩) (λr s'=>match r with|.ok (.ret v)=>Q v s'|.ok _=>False|.error e=>E e s') s:=by
 refine RW QC ok B xk (G:=Gy x dx) g gx (names:=[S "self",S "headers"]) (vs:=[.ref x,.none]) (ds:=[.obj (.ref x),.none]) (.cons (.obj _) (.cons .none .nil)) rfl (λQ E q=>QQ B q) (.of (by decide +kernel)) (Post:=UK w X x dx [] s.heap) (λc F=>?_) q
 .have E:=F.env;refine Be.cons (Ex.KP (N:=λh=>∃l X',Gh c l X'/\(∀b,c.X b->X' b)/\Fr (c.on X' (c.G.star (Bl l []))) [(S "headers",.obj (.ref l)),(S "self",.obj (.ref x))] h) (FO.YD (CL.cmp (Bh.isNotNone (d:=.none) Ev.n false (λh u r=>by cases r;rfl))) FO.bZ) (E.nm (.inl rfl)) (by rfl) λd T h X' zz hX nw F1=>?_) ?_
  .refine Bi zz ?_;clear zz;intro l e1 e2;subst e1 e2;exact⟨l,X',nw l rfl,hX,F1⟩
  .intro h1 Cr;refine Du Cr ?_;intro l X1 nw OD F1;have E1:Bj (c.on X1 (c.G.star (Bl l []))) w (BY (Bv 0)) (k+1):=E.on;have XM:306<=l:=(F1.Ck l (F1.gx l (.inr rfl)).1.1).1;refine⟨c.on X1 (c.G.star (Bl l [])),_,⟨rfl,rfl,rfl⟩,F1,(Md E1 (rows:=[]) (x:=x) (dx:=dx) (l:=l) ?_ λr hr=>by cases hr).imp (λh zz=>?_) λv h z=>z⟩
   .rw [F.hG];rfl
   .refine FP zz ?_;clear zz;intro Dv lx ld;refine Hv Dv ?_;intro r1 r2 r3 r4;have e1:Bu c.M c.h0 h:=r2;have no:c.h0.get? l=none:=nw.old;have ix:(Bc x dx l []).P c.w X1 h:=r4;rw[F.hM,F.hh]at e1;rw[F.hh]at no;rw[F.hw]at ix;refine kI (id ix) ?_;intro V V V V V V V HW V;refine B6 HW ?_;intro n eo;exact⟨e1,rfl,l,Res.CD ix λb z=>OD b (F.hX b z),lx,ld,no,XM,_,eo⟩
theorem gZ(ok:E9 (k+2) A)(B:CW w s.heap)(xk:FU X s.heap){x dx l:Addr}{rows:Ci}(hr:∀r∈rows,CF true r.1/\CF false r.2)(g:((Gy x dx).star (Bl l (Br rows))).P w X s.heap)(gx:∀b,((Gy x dx).star (Bl l (Br rows))).fp b->X b)(q:∀a h' tk,Bu ((Gy x dx).star (Bl l (Br rows))).fp s.heap h'->(a=.none/\(Bc x dx l rows).P w X h'/\l≠x/\l≠dx)->Q a {s with heap:=h',toks:=tk}) :
  codeAny (model prog w) A (.call (.ref 83) ⟨[.ref x,.ref l],[]⟩) (λr s'=>match r with|.ok (.ret v)=>Q v s'|.ok _=>False|.error e=>E e s') s:=by
 refine RW QC ok B xk (G:=(Gy x dx).star (Bl l (Br rows))) g gx (names:=[S "self",S "headers"]) (vs:=[.ref x,.ref l]) (ds:=[.obj (.ref x),.obj (.ref l)]) (.cons (.obj _) (.cons (.obj _) .nil)) rfl (λQ E q=>QR B q) (.of (by decide +kernel)) (Post:=λv h'=>v=.none/\(Bc x dx l rows).P w X h'/\l≠x/\l≠dx) (λc F=>?_) q
 .have E:=F.env;refine Be.step (J':=[(S "headers",.obj (.ref l)),(S "self",.obj (.ref x))]) (Ex.sn (d:=.obj (.ref l)) (Ev.K7 (a:=true) (CL.cmp (Bh.isNotNone (d:=.obj (.ref l)) Ev.n true (λh u r=>by cases r;rfl))) (λV=>Ev.n) (λh=>by cases h))) ?_;refine(Md E (rows:=rows) (x:=x) (dx:=dx) (l:=l) F.hG hr).imp (λh zz=>?_) λv h z=>z;refine FP zz ?_;clear zz;intro Jk lx ld;refine Hv Jk ?_;intro r1 r2 r3 r4;rw[F.hM,F.hh]at r2;rw[F.hw]at r4;exact⟨r2,rfl,Res.CD r4 F.hX,lx,ld⟩
theorem VW(P:Params):makesIn (Kx P) 189=true:=by kernel_rfl
theorem MY(P:Params):keepIn (Kx P) (.ref 189)=true:=by kernel_rfl
theorem ZR{x dx l:Addr}{rows:Ci}(H:(Bc x dx l rows).P w X h)(s:∀b,X' b->X b\/(Bc x dx l rows).fp b):(Bc x dx l rows).P w X' h:=
 Rg (Res.CD H λb z=>(s b z.1).resolve_right z.2)
theorem YZ{o:Obj}(e:h.get? a=some o)(d:o.data=.dict #[]):h.Ns1 a λV=>none:=by
 refine⟨o,#[],_,e,d,λen m7=>by simp at m7,?_,λn=>rfl⟩;unfold UniqKeys;simp
theorem Rv(B:CW w s.heap){rest:DW}{kw:Di}{R:Result->Shared->Prop}(hq:∀x dx h2,x=s.heap.objs.size+1->dx=s.heap.objs.size->Le s.heap h2->(∀X,(Gy x dx).P w X h2)->(∀b,(Gy x dx).fp b->s.heap.get? b=none/\306<=b/\∃o,h2.get? b=some o)->
   codeAny (model prog w) (A.under (.builtin "type.__call__" ⟨.ref 189::rest,kw⟩)) (.call (.ref 83) ⟨.ref x::rest,kw⟩) (InitBack x R) {s with heap:=h2}) :
  codeAny (model prog w) A (.call (.ref 189) ⟨rest,kw⟩) R s:=by
 obtain⟨h,g,d,t,os⟩:=s;have ht:typeIn (Kx w.params) (.ref 83)=some (.type "function"):=NS _ QC;refine make_core (makes_of B.k (VW _)) (looks_findIn B.k (X6 _)) (λself=>bind_fn B.k self ht) (.inl rfl) ?_;have l2:Le h ((h.push emptyDict).push (instObj 189 h.objs.size)):=(Le.push _ _).trans (Le.push _ _);have ex:((h.push emptyDict).push (instObj 189 h.objs.size)).get? (h.objs.size+1)=some (instObj 189 h.objs.size):=by heap_get
 have ed:((h.push emptyDict).push (instObj 189 h.objs.size)).get? h.objs.size=some emptyDict:=AO _ (AH _ rfl);have sz:=B7 B;have wD:306<=h.objs.size:=sz;have nx:h.get? (h.objs.size+1)=none:=by
  cases e:h.get? (h.objs.size+1)with
  |none=>rfl
  |some o=>exact absurd (Ag e) (Nat.not_lt.mpr (Nat.le_succ _))
 refine hq _ _ _ rfl rfl l2 (λX=>⟨_,ex,rfl,rfl,rfl,YZ ed rfl,?_,?_,?_⟩) λb z=>?_
 .intro e;have:h.objs.size+1=263:=e;(clear sz e;lia)
 .intro e;have:h.objs.size=263:=e;(clear sz e;lia)
 .exact Nat.succ_ne_self _
 .rcases z with rfl|rfl
  .exact ⟨nx,by exact Aw sz,_,ex⟩
  .exact ⟨Bn _,wD,_,ed⟩
theorem E9.make{n:Nat}(x:E9 (n+1) A)(rest:DW)(kw:Di):E9 n (A.under (.builtin "type.__call__" ⟨.ref 189::rest,kw⟩)):=x.Um 189 rest kw
theorem iG(ok:E9 (k+3) A)(B:CW w s.heap)(xk:FU X s.heap)(q:∀x dx l h' tk,Le s.heap h'->l≠x->l≠dx->(∀b,(Bc x dx l []).fp b->s.heap.get? b=none/\306<=b/\∃o,h'.get? b=some o)->(Bc x dx l []).P w (DH X (Bc x dx l []).fp) h'->Q (.ref x) {s with heap:=h',toks:=tk}) :
  wpAny (model prog w) A (call (.ref 189) []) Q E s:=by
 refine wpAny_call (Rv B λx dx h2 ex tD l2 hP nw=>?_);have B2:CW w h2:=B.le l2 λV z=>z.elim;have cu:FU (DH X (Gy x dx).fp) h2:=λa z=>z.elim (λz=>(xk.le l2) a z) λz=>(nw a z).2;refine codeAny_mono (gY (k:=k) (X:=DH X (Gy x dx).fp) (s:={s with heap:=h2}) (ok.make _ _) B2 cu (hP _) (λb z=>.inr z) (Q:=λv s'=>v=.none/\Q (.ref x) s') (E:=E) λa h' tk le zz=>⟨zz.1,?_⟩) λr s' z=>?_
 .refine vR zz.2 ?_;intro l H lx ld nl bl ol;have hH:Le s.heap h':=⟨λb o nt V e=>le.keep b o nt (λz=>by rw[(nw b z).1]at e;cases e) (l2.keep b o nt id e),λb o V z=>z.elim,λt=>le.tab (l2.tab t),λb o e z=>le.code b o (l2.code b o e z) z⟩
  have oI:l≠TP:=λe=>by rw[e]at bl;exact absurd bl (by decide)
  refine q x dx l h' tk hH lx ld (λb z=>?_) (ZR H λb z=>?_)
  .rcases z with rfl|rfl|rfl
   .obtain ⟨a1,a2,o,a3⟩:=nw _ (.inl rfl);exact⟨a1,a2,le.alive (λe=>by rw[e]at a2;exact absurd a2 (by decide)) a3⟩
   .obtain ⟨a1,a2,o,a3⟩:=nw _ (.inr rfl);exact⟨a1,a2,le.alive (λe=>by rw[e]at a2;exact absurd a2 (by decide)) a3⟩
   .exact ⟨Bx l2 oI nl,bl,ol⟩
  .rcases z with z|z
   .exact .inl (.inl z)
   .exact .inr z
 .rcases r with e|(v|_|_|_)<;>exact z
theorem iH(ok:E9 (k+3) A)(B:CW w s.heap)(xk:FU X s.heap){l:Addr}{rows:Ci}(hr:∀r∈rows,CF true r.1/\CF false r.2)(g:(Bl l (Br rows)).P w X s.heap)(gx:X l)(q:∀x dx h' tk,Bu (·=l) s.heap h'->l≠x->l≠dx->(∀b,(Gy x dx).fp b->s.heap.get? b=none/\306<=b/\∃o,h'.get? b=some o)->(Bc x dx l rows).P w (DH X (Gy x dx).fp) h'->Q (.ref x) {s with heap:=h',toks:=tk}) :
  wpAny (model prog w) A (call (.ref 189) [.ref l]) Q E s:=by
 refine wpAny_call (Rv B λx dx h2 ex tD l2 hP nw=>?_);have B2:CW w h2:=B.le l2 λV z=>z.elim;have cu:FU (DH X (Gy x dx).fp) h2:=λa z=>z.elim (λz=>(xk.le l2) a z) λz=>(nw a z).2;have g2:(Bl l (Br rows)).P w (DH X (Gy x dx).fp) h2:=by
  refine(Bl l (Br rows)).mv g λb o z nt e=>⟨l2.keep b o nt id e,λnx z=>z.elim nx λz=>by rw[(nw b z).1]at e;cases e⟩
 have gG:((Gy x dx).star (Bl l (Br rows))).P w (DH X (Gy x dx).fp) h2:=by
  refine⟨hP _,g2,λb z z'=>?_⟩;have z1:b=l:=z';obtain⟨_,_,eo⟩:=xk l gx;rw[z1]at z;rw[(nw _ z).1]at eo;cases eo
 refine codeAny_mono (gZ (k:=k) (X:=DH X (Gy x dx).fp) (s:={s with heap:=h2}) (ok.make _ _) B2 cu hr gG (λb z=>z.elim .inr λz=>.inl (by have z':b=l:=z;rw[z'];exact gx)) (Q:=λv s'=>v=.none/\Q (.ref x) s') (E:=E) λa h' tk le zz=>Hv zz λev H lx ld=>⟨ev,?_⟩) λr s' z=>?_
 .have hH:Bu (·=l) s.heap h':=(Bu.trans l2.to le).fresh λb z=>z.elim (λz=>.inr (nw b z).1) .inl;refine q x dx h' tk hH lx ld (λb z=>?_) H;obtain⟨a1,a2,o,a3⟩:=nw _ z;exact⟨a1,a2,le.alive (λe=>by rw[e]at a2;exact absurd a2 (by decide)) a3⟩
 .rcases r with e|(v|_|_|_)<;>exact z
def d9(rows:Ci)(d:D)(T:Res):Prop:=∃x dx l,d=.obj (.ref x)/\T=Bc x dx l rows/\l≠x/\l≠dx
def eD(ds:Cs)(d:D)(T:Res):Prop:=∃l,d=.obj (.ref l)/\T=Bl l ds
theorem FO.Gy{np:Pos}(f:Ev c J (.Name x np) (.obj (.ref 189)))(hk:3<=c.k):FO c J (.Call (.Name x np) [] [] pos) (d9 []):=λs F Q E q=>
 wpAny_Call_NameR (f s F _ _ λv h1 t1 l1 r1=>by
  cases r1;have F1:Fr c J h1:=F.le l1;refine callWith_K0 (K:=Kx c.w.params) F1.base.k (MY _) ?_;have nt:∀ {b},306<=b->b≠TP:=λ{b} z e=>by rw[e]at z;exact absurd z (by decide)
  exact iG (k:=0) (s:={s with heap:=h1,toks:=t1}) (F1.ok.CD hk) F1.base F1.Ck λx dx l h2 t2 l2 lx ld nw H=>q _ h2 t2 (.obj (.ref x)) (Bc x dx l []) ⟨x,dx,l,rfl,rfl,lx,ld⟩ (Bu.trans l1 l2) (λb z=>by
   refine FP (nw b z) ?_;intro a1 a2 a3;exact⟨Bx l1 (nt a2) a1,a2,a3⟩) H (.obj _))
theorem FO.iB{es:Cy}(x:FQ c J es ds)(hn:autoParam (ds.length<=1000) Fj):FO c J (.List es pos) (eD ds):=λs F Q E q=>
 wpAny_List (x pos s F _ _ λvs h1 t1 l1 r1=>⟨by have:=r1.length;rw[sizeLine_eq];exact Je this hn rfl,by
  have Ec:Le s.heap h1:=l1;have F1:=F.le Ec;have ea:(h1.push {cls:=.type "list",data:=.seq vs.toArray}).get? h1.objs.size=some {cls:=.type "list",data:=.seq vs.toArray}:=AH _ rfl;refine q _ _ t1 (.obj (.ref h1.objs.size)) (Bl h1.objs.size ds) ⟨_,rfl,rfl⟩ (Bu.trans Ec (Le.push _ _)) (λb z=>?_) ⟨vs,⟨_,ea⟩,?_,B5 F1.base.tab⟩ (.obj _)
  .have z':b=h1.objs.size:=z;rw[z'];exact⟨GO Ec F1.base.tab,B7 F1.base,_,ea⟩
  .exact r1.move λa o nx nt e=>⟨AO _ e,λz=>z.elim nx λz=>by
    have z':a=h1.objs.size:=z;rw[z',Bn]at e;cases e⟩⟩)
theorem Cq{b:Addr}(z:306<=b):b≠TP:=λe=>by rw[e]at z;exact absurd z (by decide)
theorem FO.Oi{np:Pos}{rows:Ci}(hr:∀r∈rows,CF true r.1/\CF false r.2)(f:Ev c J (.Name x np) (.obj (.ref 189)))(y:FO c J e (eD (Br rows)))(hk:3<=c.k)(he:autoParam (D9 c e []) Bd):FO c J (.Call (.Name x np) [e] [] pos) (d9 rows):=λs F Q E q=>
 wpAny_Call_NameR (f s F _ _ λv h1 t1 l1 r1=>by
  cases r1;have F1:Fr c J h1:=F.le l1;refine callWith_K (K:=Kx c.w.params) (h₀:=h1) F1.base.k (MY _) (wpAny_items_cons (y {s with heap:=h1,toks:=t1} F1 _ _ λv h2 t2 d T zz l2 nw tP r2=>Bi zz λl e1 e2=>wpAny_items_nil ?_) he) he;subst e1 e2;cases r2;have E6:Le h1 h2:=l2;have Gk:Le s.heap h2:=Bu.trans l1 E6;have F2:Fr c J h2:=F1.le E6;refine FP (nw l rfl) ?_;intro n1 n2 n3;refine⟨F2.base.k,?_⟩;have cu:FU (DH c.X (·=l)) h2:=λa z=>z.elim (λz=>F2.Ck a z) λz=>by have z':a=l:=z;rw[z'];exact⟨n2,n3⟩
  exact iH (k:=0) (s:={s with heap:=h2,toks:=t2}) (X:=DH c.X (·=l)) (F2.ok.CD hk) F2.base cu hr tP (.inr rfl) λx dx h3 t3 l3 lx ld oK H=>by
   have n0:s.heap.get? l=none:=Bx l1 (Cq n2) n1;refine q _ h3 t3 (.obj (.ref x)) (Bc x dx l rows) ⟨x,dx,l,rfl,rfl,lx,ld⟩ ((Bu.trans Gk.to l3).fresh λb z=>.inr (by have z':b=l:=z;rw[z'];exact n0)) (λb z=>?_) (ZR H λb z=>?_) (.obj _)
   .rcases z with rfl|rfl|rfl
    .refine FP (oK _ (.inl rfl)) ?_;intro a1 a2 a3;exact⟨Bx Gk (Cq a2) a1,a2,a3⟩
    .refine FP (oK _ (.inr rfl)) ?_;intro a1 a2 a3;exact⟨Bx Gk (Cq a2) a1,a2,a3⟩
    .refine B6 n3 ?_;clear n3;intro o eo;exact⟨n0,n2,l3.alive (Cq n2) eo⟩
   .rcases z with z|z
    .exact .inl (.inl (.inl z))
    .exact .inr z)
theorem FO.cn{e1 e2:Expr}{P1 P2:D->Res->Prop}(x:FO c J e1 P1)(y:∀d T X',P1 d T->(∀b,c.X b->X' b)->FO (c.on X' (c.G.star T)) J e2 P2)(ZU:autoParam (D9 c e1 [e2]) Bd)(Jp:autoParam (D9 c e2 []) Bd) :
  FO c J (.Tuple [e1,e2] k pos) λd T=>∃d1 d2 T1 T2,d=.tup [d1,d2]/\T=T1.star T2/\P1 d1 T1/\P2 d2 T2:=λs F Q E q=>
 wpAny_Tuple (wpAny_items_cons (x s F _ _ λv1 h1 t1 d1 T1 p1 l1 iW wO r1=>by
  have F1:=F.got (T:=T1) l1 iW wO;refine wpAny_items_cons (y d1 T1 _ p1 (λb z=>.inl z) {s with heap:=h1,toks:=t1} F1 _ _ λv2 h2 t2 d2 T2 p2 l2 oJ wQ r2=>wpAny_items_nil ?_) Jp;have E6:Le h1 h2:=l2;have Gk:Le s.heap h2:=Bu.trans l1 E6;have F2:=F1.got (T:=T2) E6 oJ wQ;refine⟨AE rfl,?_⟩;have B2:CW c.w h2:=F2.base;have l3:Le h2 (h2.push {cls:=.type "tuple",data:=.seq [v1,v2].toArray}):=Le.push _ _;have F3:=F2.le l3;have et:(h2.push {cls:=.type "tuple",data:=.seq [v1,v2].toArray}).get? h2.objs.size=some {cls:=.type "tuple",data:=.seq [v1,v2].toArray}:=AH _ rfl;have sz:=B7 B2;have sub:∀b,DH c.X (T1.star T2).fp b->DH (DH c.X T1.fp) T2.fp b:=λb z=>z.elim (λz=>.inl (.inl z)) λz=>z.elim (λz=>.inl (.inr z)) .inr;have cu:FU (DH (DH c.X T1.fp) T2.fp) h2:=F2.Ck;refine q _ _ t2 (.tup [d1,d2]) (T1.star T2) ⟨d1,d2,T1,T2,rfl,rfl,p1,p2⟩ (Bu.trans Gk l3) (λb z=>?_) ?_ ?_
  .rcases z with z|z
   .obtain ⟨a1,a2,o,a3⟩:=iW b z;refine B6 (Bu.alive E6 (Cq a2) a3) ?_;intro o2 a4;exact⟨a1,a2,l3.alive (Cq a2) a4⟩
   .obtain ⟨a1,a2,o,a3⟩:=oJ b z;exact⟨Bx l1 (Cq a2) a1,a2,l3.alive (Cq a2) a3⟩
  .have g3:((c.G.star T1).star T2).P c.w (DH (DH c.X T1.fp) T2.fp) _:=F3.g;refine⟨Res.CD g3.1.2.1 sub,Res.CD g3.2.1 sub,λb z z'=>g3.2.2 b (.inr z) z'⟩
  .have cE:B9 (DH (DH c.X T1.fp) T2.fp) c.w h2 v1 d1:=r1.move λa o nx nt e=>⟨E6.keep a o nt id e,λz=>z.elim nx λz=>by rw[(oJ a z).1]at e;cases e⟩;refine .tup (λz=>?_) (B5 B2.tab) ⟨_,et,rfl,0,rfl⟩ ((Bf.cons cE (.cons r2 .nil)).move λa o nx nt e=>⟨l3.keep a o nt id e,λz=>nx (sub a z)⟩);exact fresh_ne cu (sub _ z)) ZU)
theorem Ex.setTR{elts:Cy}{tp:Pos}{P:D->Res->Prop}(y:FO c J e P)(hN:∀d T X',P d T->(∀b,c.X b->X' b)->(∀b,T.fp b->Gh c b X')->∃J',Bind (c.on X' (c.G.star T)) J (.Tuple elts k tp) d J'/\∀h,Fr (c.on X' (c.G.star T)) J' h->N h)(hs:autoParam (swapsWithSole [.Tuple elts k tp] e pos.line c.env=pure false) Bd)(hw:autoParam (swappedStores [.Tuple elts k tp] e c.env=pure none) Bd):Ex c J (.Assign [.Tuple elts k tp] e pos) N R:=λs F Q E n r=>
 Assign_Tuple (y s F _ _ λv h1 t1 d T p l1 nw t r1=>by
  have F2:=F.got (T:=T) l1 nw t;obtain⟨J',b,hn⟩:=hN d T (DH c.X T.fp) p (λb z=>.inl z) λb z=>(by
   have new:=F.new (nw b z).1 (nw b z).2.1;exact⟨λb z=>.inl z,new.2.2.1,new.1⟩)
  exact b v {s with heap:=h1,toks:=t1} F2 r1 _ _ λV h2 t2 l2 F3=>n h2 t2 (hn h2 F3)) hs hw
noncomputable def Oq(o:Obj):Obj:={o with data:=.freed}
noncomputable def hide(h:Heap):List Addr->Heap
 |[]=>h
 |L::r=>(hide h r).update L Oq
theorem TF(h:Heap)(a:Addr):(h.update a Oq).get? a=none:=by
 cases e:(h.update a Oq).get? a with
 |none=>rfl
 |some o=>
  refine CC (Heap.get?_some_iff.mp e) ?_;intro e1 e2;unfold Heap.update at e1;rw[show(h.objs.modify a Oq)[a]? = h.objs[a]?.map Oq by simp[Array.getElem?_modify]]at e1;refine Bi (AS.mp e1) ?_;rintro o' V rfl;cases e2
theorem JD:∀ {Ls:List Addr}{b:Addr}{o:Obj},(hide h Ls).get? b=some o->b∉Ls/\h.get? b=some o
 |[],b,o,e=>⟨An,e⟩
 |L::r,b,o,e=>by
  by_cases q:L=b
  .rw [q]at e;have k:=TF (hide h r) b;unfold hide at e;rw[k]at e;cases e
  .unfold hide at e;rw[Heap.get?_update_other _ _ q]at e;have z:=JD e;exact⟨λm=>(AJ.mp m).elim (λm=>q m.symm) z.1,z.2⟩
theorem IE:∀ {Ls:List Addr}{b:Addr},b∉Ls->(hide h Ls).get? b=h.get? b
 |[],b,n=>rfl
 |L::r,b,n=>by
  unfold hide;rw[Heap.get?_update_other _ _ λq=>n (by rw[q];exact .head _)];exact IE λm=>n (.tail _ m)
theorem X9{Ls:List Addr}{b:Addr}(m:b∈Ls):(hide h Ls).get? b=none:=by
 cases e:(hide h Ls).get? b with
 |none=>rfl
 |some o=>exact absurd m (JD e).1
noncomputable abbrev Bk(l:List Env):List Addr:=l.filterMap (·.frame)
def Lu(h:Heap)(l:List Env):Prop:=∀env∈l,env.scope.kind≠.module/\∃L o,env.frame=some L/\L≠TP/\h.get? L=some o/\∃es ep,o.data=.dict es ep
theorem Lu.memD{l:List Env}(F:Lu h l){b:Addr}(m:b∈Bk l):b≠TP/\∃o,h.get? b=some o/\∃es ep,o.data=.dict es ep:=by
 refine Bi (List.mem_filterMap.mp m) ?_;intro env me fe;obtain⟨_,L,o,e1,e2,e3⟩:=F env me;rw[e1]at fe;cases fe;exact⟨e2,o,e3⟩
theorem Lu.mem{l:List Env}(F:Lu h l){b:Addr}(m:b∈Bk l):b≠TP/\∃o,h.get? b=some o/\∀vs,o.data≠.fields vs:=by
 obtain⟨n,o,e,es,ep,d⟩:=F.memD m;exact⟨n,o,e,λvs z=>by rw[d]at z;cases z⟩
theorem Lu.fun{base:Heap}:∀ {l:List Env},Lu h l->(∀b∈Bk l,base.get? b=none)->h.FunFrames base l
 |[],_,_=>trivial
 |env::r,F,n=>by
  obtain⟨k,L,o,e1,_,e3,es,ep,e4⟩:=F env (.head _);refine⟨k,⟨L,o,e1,n L ?_,e3,λvs z=>by rw[e4]at z;cases z⟩,Lu.fun (λe m=>F e (.tail _ m)) λb m=>n b ?_⟩
  .exact List.mem_filterMap.mpr ⟨env,.head _,e1⟩
  .refine Bi (List.mem_filterMap.mp m) ?_;intro e me fe;exact List.mem_filterMap.mpr ⟨e,.tail _ me,fe⟩
def EO(l:List Env)(h0 h':Heap)(e:Addr)(msg:Str):Prop:=∃B t u,(∀b o,b≠TP->b∉Bk l->h0.get? b=some o->Heap.get? B b=some o)/\Tab B/\Heap.FlyingW B l e (.type "ValueError") (.ref t) h'/\h'.TupAt t [.str msg u]/\B.get? t=none/\
 ∀b∈Bk l,∀o,h0.get? b=some o->∃sl,h'.get? b=some {o with slots:=sl}
structure Dc(c:Cx)(l:List Env):Prop where
 fr:c.A.frames=some (c.env::l)
 own:c.env.frame=some c.env.locals
 Lv:Lu c.h0 l
 mOff:∀b,¬c.M b
theorem Dc.DQ{l:List Env}(S:Dc c l){b:Addr}:b∈Bk (c.env::l)↔b=c.env.locals\/b∈Bk l:=by
 unfold Bk;rw[List.filterMap_cons,S.own];exact AJ
theorem Fr.Lv{l:List Env}(F:Fr c J h)(S:Dc c l):Lu h (c.env::l):=λenv m=>by
 rcases AJ.mp m with rfl|m
 .refine iX F.loc.2.2 ?_;intro m o V V eo ed V;exact⟨λz=>(by have k:=F.kind;rw[k]at z;cases z),_,o,S.own,F.W7,eo,_,_,ed⟩
 .obtain ⟨k,L,o,e1,e2,e3,e4⟩:=S.Lv env m;exact⟨k,L,o,e1,e2,F.old.keep _ _ e2 (S.mOff _) e3,e4⟩
theorem QX{l:List Env}{h1:Heap}{e:Addr}{msg:Str}{u:Tok}{Q:EU}(F:Fr c J h1)(S:Dc c l)(hx:Heap.MadeExc h1 s.heap e "ValueError" [.str msg u])(q:∀h',EO l c.h0 h' e msg->Q () {s with heap:=h'}):wpAny (model prog c.w) c.A (leaving c.env (.ref e)) Q E s:=by
 have Fs:=F.Lv S;refine wpAny_leaves_madeW (base:=hide h1 (Bk (c.env::l))) (h:=h1) (cls:=.type "ValueError") (args:=[.str msg u]) S.fr S.own (λb o e=>(JD e).2) (Fs.fun λb m=>X9 m) ⟨hx.keeps,hx.new,hx.there⟩ λh' t fl tp nt up=>q h' ?_;refine⟨_,t,u,λb o n m eo=>?_,?_,fl,tp,nt,λb m o eo=>?_⟩
 .rw [IE λz=>(S.DQ.mp z).elim (λz=>by rw[z,F.loc.2.1]at eo;cases eo) m];exact F.old.keep b o n (S.mOff b) eo
 .exact F.base.tab.keep (λo e=>(IE λz=>(Fs.mem z).1 rfl).trans e) λc o V e zz=>Fq zz λvs t d V=>(IE λz=>by
   obtain⟨_,o',e',n'⟩:=Fs.mem z;rw[e]at e';cases e';exact n' vs d).trans e
 .obtain ⟨n,o',fC,nd⟩:=S.Lv.mem m;rw[eo]at fC;cases fC;exact up b o (hx.keeps b o (F.old.keep b o n (S.mOff b) eo)) nd
theorem Vn{l:List Env}{h1:Heap}{e:Addr}{msg:Str}{Q:EU}(F:Fr c J h1)(S:Dc c l)(hx:EO (c.env::l) h1 s.heap e msg)(q:∀h',EO l c.h0 h' e msg->Q () {s with heap:=h'}):wpAny (model prog c.w) c.A (leaving c.env (.ref e)) Q E s:=by
 refine Zh hx ?_;clear hx;intro B t u k1 k2 k3 k4 k5 k6;refine wpAny_leaves_onW S.fr S.own k3 λh' fl up=>q h' ⟨B,t,u,λb o n m eo=>?_,k2,fl,k4.of_slots up,k5,λb m o eo=>?_⟩
 .exact k1 b o n (λz=>(S.DQ.mp z).elim (λz=>by rw[z,F.loc.2.1]at eo;cases eo) m) (F.old.keep b o n (S.mOff b) eo)
 .obtain ⟨n,o',fC,nd⟩:=S.Lv.mem m;rw[eo]at fC;cases fC;refine B6 (k6 b (S.DQ.mpr (.inr m)) o (F.old.keep b o n (S.mOff b) eo)) ?_;intro sl e1;refine B6 (up b _ e1 nd) ?_;intro jB e2;exact⟨jB,e2⟩
noncomputable def Fn(h h':Heap):List Addr->Heap
 |[]=>h
 |b::r=>(h'.get? b).elim (Fn h h' r) λo'=>(Fn h h' r).update b λo=>{o with slots:=o'.slots}
theorem DO:∀ {ls:List Addr}{b:Addr},b∉ls->(Fn h h' ls).get? b=h.get? b
 |[],b,_=>rfl
 |a::r,b,n=>by
  have n1:a≠b:=λe=>n (by rw[e];exact .head _);have n2:b∉r:=λm=>n (.tail _ m);show((h'.get? a).elim (Fn h h' r) λo'=>(Fn h h' r).update a λo=>{o with slots:=o'.slots}).get? b=_;cases h'.get? a with
  |none=>exact DO n2
  |some o'=>exact(Heap.get?_update_other _ _ n1).trans (DO n2)
theorem HQ{o:Obj}{sl:Array (Option Value)}:∀ {ls:List Addr}{b:Addr},h.get? b=some o->h'.get? b=some {o with slots:=sl}->b∈ls->(Fn h h' ls).get? b=some {o with slots:=sl}
 |a::r,b,e,e',m=>by
  have nf:∀x:Array (Option Value),({o with slots:=x}:Obj).isFreed=false:=λx=>by
   refine CC (Heap.get?_some_iff.mp e) ?_;intro V z;obtain⟨_,_,dt,_⟩:=o;cases dt<;>exact z
  show((h'.get? a).elim (Fn h h' r) λo'=>(Fn h h' r).update a λo=>{o with slots:=o'.slots}).get? b=_;by_cases q:a=b
  .subst q;rw[e'];show((Fn h h' r).update a λo=>{o with slots:=sl}).get? a=_;by_cases q2:a∈r
   .rw [BJ _ (HQ e e' q2) (nf _)]
   .rw [BJ _ ((DO q2).trans e) (nf _)]
  .have m2:b∈r:=(AJ.mp m).resolve_left λz=>q z.symm;cases h'.get? a with
   |none=>exact HQ e e' m2
   |some o'=>exact(Heap.get?_update_other _ _ q).trans (HQ e e' m2)
structure Step(l:List Env)(h h':Heap):Prop where
 keep:∀b o,b≠TP->b∉Bk l->h.get? b=some o->h'.get? b=some o
 slots:∀b∈Bk l,∀o,h.get? b=some o->∃sl,h'.get? b=some {o with slots:=sl}
 tab:Tab h->Tab h'
theorem Step.refl(l:List Env)(h:Heap):Step l h h:=⟨λV V V V e=>e,λb V o e=>⟨o.slots,e⟩,id⟩
theorem Step.trans{l:List Env}{Hj:Heap}(x:Step l h h')(y:Step l h' Hj):Step l h Hj:=
 ⟨λb o n m e=>y.keep b o n m (x.keep b o n m e),λb m o e=>by refine B6 (x.slots b m o e) ?_;intro s1 e1;exact by refine B6 (y.slots b m _ e1) ?_;intro s2 e2;exact⟨s2,e2⟩,λt=>y.tab (x.tab t)⟩
theorem Step.le{l:List Env}(x:Le h h')(nt:TP∉Bk l):Step l h h':=
 ⟨λb o n V e=>x.keep b o n id e,λb m o e=>⟨o.slots,x.keep b o (λz=>nt (z▸m)) id e⟩,x.tab⟩
structure Q8(l:List Env)(h h':Heap):Prop where
 step:Step l h h'
 none:∀b,h.get? b=none->h'.get? b=none
theorem Q8.refl(l:List Env)(h:Heap):Q8 l h h:=⟨.refl l h,λV e=>e⟩
theorem Q8.trans{l:List Env}{Hj:Heap}(x:Q8 l h h')(y:Q8 l h' Hj):Q8 l h Hj:=⟨x.step.trans y.step,λb e=>y.none b (x.none b e)⟩
theorem Lu.nt{l:List Env}(F:Lu h l):TP∉Bk l:=λm=>(F.mem m).1 rfl
theorem Lu.step{l:List Env}(F:Lu h l)(s:∀b∈Bk l,∀o,h.get? b=some o->∃sl,h'.get? b=some {o with slots:=sl}):Lu h' l:=λenv m=>by
 obtain⟨k,L,o,e1,e2,e3,e4⟩:=F env m;refine B6 (s L (List.mem_filterMap.mpr ⟨env,m,e1⟩) o e3) ?_;intro sl e5;exact⟨k,L,_,e1,e2,e5,e4⟩
theorem cX{o:Obj}(t:Tab h)(e:h.get? TP=some o):¬Cd o:=λzz=>Fq zz λvs u d q=>by
 refine EJ t ?_;clear t;intro ps e1 tr V;rw[e]at e1;have e2:o={cls:=.none,data:=.fields ps}:=BV e1;have e3:ps=vs:=by rw[e2]at d;exact Obj.noConfusion (congrArg (λx=>({cls:=.none,data:=x}:Obj)) d) λV V z V=>by cases z<;>rfl
 subst e3;obtain⟨l⟩:=ps;cases l with
 |nil=>cases q
 |cons a r=>cases r with
  |nil=>cases q
  |cons b r=>
   have q':b=.str QW u:=by simpa using q
   subst q';cases a<;>exact tr
theorem Fr.rebase{l:List Env}(F:Fr c J h)(S:Dc c l)(ow:∀x,c.own x)(ro:¬c.ro)(sub:∀b∈Bk l,c.X b)(st:Step (c.env::l) h h'):∃D7,Q8 l c.h0 D7/\Fr {c with h0:=D7} J h'/\Dc {c with h0:=D7} l:=by
 let D7:=Fn c.h0 h' (Bk l);have fs:=F.Lv S;have inl:∀ {b},b∈Bk l->b∈Bk (c.env::l):=λm=>S.DQ.mpr (.inr m);have Sa:∀b∈Bk (c.env::l),c.X b:=λb m=>(S.DQ.mp m).elim (λe=>e▸F.loc.1) (sub b);have nX:∀ {b},¬c.X b->b∉Bk (c.env::l):=λn m=>n (Sa _ m);have small:∀ {b},b<306->b∉Bk (c.env::l):=λlt m=>Nat.not_le.mpr lt (F.Ck _ (Sa _ m)).1;have nC:∀ {b o},h.get? b=some o->Cd o->b∉Bk (c.env::l):=λe zz m=>Fq zz λvs V d V=>by
  obtain⟨_,o',e',n'⟩:=fs.mem m;rw[e]at e';cases e';exact n' vs d
 have live:∀b∈Bk l,∃o,c.h0.get? b=some o:=λb m=>by obtain⟨_,o,e,_⟩:=S.Lv.mem m;exact⟨o,e⟩
 have kS:∀b∈Bk l,∀o,c.h0.get? b=some o->∃sl,D7.get? b=some {o with slots:=sl}/\h'.get? b=some {o with slots:=sl}:=λb m o e=>by
  refine B6 (st.slots b (inl m) o (F.old.keep b o (S.Lv.mem m).1 (S.mOff b) e)) ?_;intro sl e2;exact⟨sl,HQ e e2 m,e2⟩
 have Ml:∀ {b},c.h0.get? b=none->b∉Bk l/\D7.get? b=none:=λ{b} e=>by
  have n:b∉Bk l:=λm=>by
   refine B6 (live b m) ?_;intro o e';rw[e]at e';cases e'
  exact⟨n,(DO n).trans e⟩
 have w5:c.env.locals∉Bk l:=(Ml F.loc.2.1).1;have new:∀ {b},c.h0.get? b=none->b≠c.env.locals->b∉Bk (c.env::l):=λe n m=>(S.DQ.mp m).elim n λm=>(Ml e).1 m;have alive:∀ {b o},b≠TP->h.get? b=some o->∃o',h'.get? b=some o':=λ{b o} n e=>by
  by_cases m:b∈Bk (c.env::l)
  .refine B6 (st.slots b m o e) ?_;intro sl z;exact⟨_,z⟩
  .exact ⟨o,st.keep b o n m e⟩
 have vO:∃m,h'.Ns c.env.locals m:=by refine iX F.loc.2.2 ?_;intro m o es ep e d k;exact by refine B6 (st.slots _ (S.DQ.mpr (.inl rfl)) o e) ?_;intro sl e';exact⟨m,_,es,ep,e',d,k⟩
 have kc:∀ {x a},c.env.cells.lookup x=some a->∀o,h.get? a=some o->h'.get? a=some o:=λ{x a} e o z=>
  Hv (F.E0 x a e) λc1 c2 V c4=>st.keep a o c2 (new (c4 (ow x)).2 c1) z
 refine⟨D7,⟨⟨λb o n m e=>(DO m).trans e,λb m o e=>by refine Bi (kS b m o e) ?_;intro sl z V;exact⟨sl,z⟩,λt=>t.keep (λo e=>(DO S.Lv.nt).trans e) λb o n e z=>(DO λm=>?_).trans e⟩,λb e=>(Ml e).2⟩,?_,⟨S.fr,S.own,S.Lv.step λb m o e=>by refine Bi (kS b m o e) ?_;intro sl z V;exact⟨sl,z⟩,S.mOff⟩⟩
 .refine Fq z ?_;clear z;intro vs V d V;obtain⟨_,o',e',n'⟩:=S.Lv.mem m;rw[e]at e';cases e';exact n' vs d
 .have bs:=F.base;exact{
   base:=⟨λa o e=>st.keep a o (Za e) (small (K8 e)) (bs.k a o e),by refine Bi bs.gl ?_;intro mg n r;exact⟨mg,Cm n λo e=>st.keep _ o (by decide) (small (by decide)) e,r⟩,
    by refine Bi bs.bt ?_;intro mg n r;exact⟨mg,Cm n λo e=>st.keep _ o (by decide) (small (by decide)) e,r⟩,by refine Bi bs.lim ?_;intro mc n r;exact⟨mc,Cm n λo e=>st.keep _ o (by decide) (small (by decide)) e,r⟩,st.tab bs.tab⟩
   Ck:=λa z=>by obtain⟨x1,o,e⟩:=F.Ck a z;exact⟨x1,alive (Cq x1) e⟩
   kind:=F.kind,glob:=F.glob,blt:=F.blt,ok:=F.ok
   old:=⟨λb o n V e=>(by
     by_cases m:b∈Bk l
     .refine B6 (live b m) ?_;intro o0 e0;refine Bi (kS b m o0 e0) ?_;intro sl e1 e2;have e':D7.get? b=some o:=e;rw[e1]at e';cases e';exact e2
     .have e':c.h0.get? b=some o:=(DO m).symm.trans e;refine st.keep b o n (λm'=>(S.DQ.mp m').elim (λz=>?_) m) (F.old.keep b o n (S.mOff b) e');rw[z,F.loc.2.1]at e';cases e'),
    λb V V m=>(S.mOff b m).elim,λV=>st.tab bs.tab,λb o e z=>(by
     by_cases m:b∈Bk l
     .refine Fq z ?_;clear z;intro vs V d V;obtain⟨_,o0,e0,n0⟩:=S.Lv.mem m;refine Bi (kS b m o0 e0) ?_;intro sl e1 V;have e':D7.get? b=some o:=e;rw[e1]at e';cases e';exact(n0 vs d).elim
     .have e1:=F.old.code b o ((DO m).symm.trans e) z;refine st.keep b o (λt=>?_) (nC e1 z) e1;rw[t]at e1;exact cX bs.tab e1 z)⟩
   loc:=⟨F.loc.1,(Ml F.loc.2.1).2,vO⟩
   E0:=λx a e=>by refine Hv (F.E0 x a e) ?_;intro c1 c2 Cr c4;refine B6 Cr ?_;intro v c3;exact⟨c1,c2,⟨v,B1 c3 (kc e)⟩,λq=>⟨(c4 q).1,(Ml (c4 q).2).2⟩⟩
   apart:=F.apart
   names:=λx d m=>by
    refine Bi (F.names x d m) ?_;intro v Dv r;refine CC Dv ?_;intro H1 H2;refine⟨v,⟨H1,H2.imp (λ⟨k,n,m,⟨o,es,ep,e,q⟩,z⟩=>by refine B6 (st.slots _ (S.DQ.mpr (.inl rfl)) o e) ?_;intro sl e';exact⟨k,n,m,⟨_,es,ep,e',q⟩,z⟩) λzz=>by refine UI zz ?_;clear zz;intro a k e n ic;exact⟨a,k,e,n,B1 ic (kc e)⟩⟩,r.move λa o n t e=>⟨st.keep a o t (nX n) e,n⟩⟩
   g:=c.G.mv F.g λb o q n e=>⟨st.keep b o n (by
    rcases q with q|q|q
    .refine FP (F.gx b q) ?_;intro HW g3 V;refine CC HW ?_;intro V g2;refine new ?_ g3;rcases g2 with g2|g2|g2
     .exact (ro g2).elim
     .exact (S.mOff b g2).elim
     .exact g2
    .exact nX q
    .exact nC e q) e,id⟩
   gx:=λb z=>by refine CC (F.gx b z) ?_;intro Jk g3;refine CC Jk ?_;intro g1 g2;exact⟨⟨g1,g2.imp_right λg=>g.imp_right λg=>(Ml g).2⟩,g3⟩}
section
open PySem.Builtin PySem.Builtin.Re
variable {c cc:Cx}{J J' KU J0:B4}{N:Eo}{R:Ct}{h h':Heap}{Z:Addr->Heap->Prop}
def Dh(c:Cx)(J:B4)(ls:List (List Stmt))(Z:Addr->Heap->Prop):Prop:=
 ∀s,Fr c J s.heap->∀(Q:Flow->Shared->Prop) (E:CH),(∀e h' tk,Z e h'->E (.ref e) {s with heap:=h',toks:=tk})->Qr c ls Q E s
theorem Dh.cons{st:Stmt}{rest:Dy}{ls:List (List Stmt)}(x:Ex c J st N (λV V=>False))(y:∀h,N h->∃c' J',M7 c c'/\Fr c' J' h/\Dh c' J' (rest::ls) Z):Dh c J ((st::rest)::ls) Z:=λs F Q E n=>
 Ao (x s F _ _ (λh1 t1 n1=>by
  refine Du (y h1 n1) ?_;intro c' J' e F' z;exact HR e (rest::ls) (z {s with heap:=h1,toks:=t1} F' Q E n)) λv h1 t1 r1=>r1.elim)
theorem Dh.step{st:Stmt}{rest:Dy}{ls:List (List Stmt)}(x:Ex c J st (Fr c J') (λV V=>False))(y:Dh c J' (rest::ls) Z):Dh c J ((st::rest)::ls) Z:=
 .cons x λh F=>⟨c,J',⟨rfl,rfl,rfl⟩,F,y⟩
theorem Dh.if{test:Expr}{body orelse:Dy}{rest:Dy}{ls:List (List Stmt)}(x:CL c J test true)(t:Dh c J (body::rest::ls) Z):Dh c J ((.If test body orelse pos::rest)::ls) Z:=λs F Q E n=>
 Ao (wpAny_If (x s F _ _ λb1 h1 t1 l1 e1=>by
  subst e1;have Ec:Le s.heap h1:=l1;have k:=t {s with heap:=h1,toks:=t1} (F.le Ec) Q E n;exact wpAny_mono k (λf s' k=>by cases f<;>exact k) λV V k=>k))
noncomputable def FD:Str:=Str.ofString "Control characters not allowed in headers"
theorem Dh.raise{np lS:Pos}{rest:Dy}{ls:List (List Stmt)}{msg:Str}(f:Ev c J (.Name (S "ValueError") np) (.obj (.type "ValueError")))(y:Ev c J e (.str msg))(he:autoParam (D9 c e []) Bd) :
  Dh c J ((.Raise (some (.Call (.Name (S "ValueError") np) [e] [] lS)) none pos::rest)::ls) λe h'=>∃h1 u,Fr c J h1/\Heap.MadeExc h1 h' e "ValueError" [.str msg u]:=λs F Q E n=>
 Ao (Raise_madeB PySem.F.excCall_ValueError PySem.F.excRaise_ValueError F.ok.handled (f s F _ _ λv h1 t1 l1 r1=>by
  cases r1;refine⟨rfl,wpAny_items_cons (y {s with heap:=h1,toks:=t1} (F.le l1) _ _ λv2 h2 t2 l2 r2=>wpAny_items_nil ?_) he⟩;cases r2;have E6:Le h1 h2:=l2;exact⟨AE rfl,λh' e hx=>n e h' _ ⟨h2,_,(F.le l1).le E6,hx⟩⟩) he)
theorem OB{vs:Array Value}{Q:Bool->Shared->Prop}(e:s.heap.get? a=some {cls:=.type "re.Match",data:=.fields vs})(q:Q true s):wpAny (model prog w) A (truthy (.ref a)) Q E s:=by
 have hT:s.TypeIs (.ref a) "re.Match":=⟨_,e,rfl⟩
 refine wpAny_bind (wpAny_callSpecial?_none (self:=.ref a) (name:="__bool__") hT (by rw[Ap,builtinLookup_eq_fast];kernel_rfl) ?_);refine wpAny_bind (wpAny_specialOf (v:=.ref a) (name:="__len__") (r:=none) hT (by rw[Ap,builtinLookup_eq_fast];kernel_rfl) ?_);exact wpAny_pure q
theorem CL.Tv{apos:Pos}(hx:Dk x=true)(h1:1<=x.length)(hz:x.length<=1000000)(a:Ev c J o (.obj (.ref 55)))(y:Ev c J e (.str x))(he:autoParam (D9 c e []) Bd)(hb:autoParam (attributeBase o "search" c.env (eval o c.env)=eval o c.env) Bd)(Dw:autoParam (((backTo pos (starEach [e] c.env)).all (λx=>!x.1)&&(backToKw pos (keywordEach [] c.env)).all (λx=>x.1.isSome)
   && decide ([e].length+([]:List Keyword).length+(if([]:List Keyword).isEmpty then 0 else 1)<30))=true) Bd)(hl:autoParam (J8 apos pos) Bd)(ht:autoParam (isTrue (.Call (.Attribute o "search" apos) [e] [] pos) c.env (eval (.Call (.Attribute o "search" apos) [e] [] pos) c.env)=(do let v <- eval (.Call (.Attribute o "search" apos) [e] [] pos) c.env;standAt (Expr.Call (.Attribute o "search" apos) [e] [] pos).pos;holding [v] (truthy v))) Bd):CL c J (.Call (.Attribute o "search" apos) [e] [] pos) true:=
 λs F Q E q=>wpAny_isTrue_value (wpAny_Call_method_lateS hb Dw hl (a s F _ _ λv VP t1 l1 r1=>by
  cases r1;have F1:=F.le l1;refine⟨"re.Pattern","re.Pattern.search",WB,Fg,Jj,⟨_,F1.base.k 55 _ rfl,rfl⟩,(λa' e=>by cases e;exact⟨_,F1.base.k 55 _ rfl,rfl⟩),?_⟩;refine BI (wpAny_items_cons (y _ F1 _ _ λv h2 t2 l2 r2=>wpAny_items_nil ?_) he) he rfl;cases r2;have F2:=F1.le l2;have Gk:Le s.heap h2:=Bu.trans l1 l2;refine wpAny_call_entry Fg ⟨_,F2.base.k 55 _ rfl,rfl⟩ H5 ?_ (JU _ _);refine HE (F2.base.k 55 _ rfl) (F2.base.k 54 _ rfl) (by kernel_rfl) hz h1 (λh=>by rw[hx]at h;cases h) λV h3 m k zz=>?_;refine B6 zz ?_;clear zz;intro vs em;exact OB (s:={s with heap:=h3,toks:=t2}) em (q true h3 t2 (Bu.trans Gk (Le.of k)) rfl))) ht
end
section
variable {c cc:Cx}{J J' KU J0:B4}{N:Eo}{R:Ct}{h h':Heap}{Z:Addr->Heap->Prop}
theorem EO.since{l:List Env}{h0 h1:Heap}{e:Addr}{msg:Str}(x:EO l h1 h' e msg)(le:Le h0 h1)(nt:TP∉Bk l):EO l h0 h' e msg:=
 Zh x λB t u k1 k2 k3 k4 k5 k6=>⟨B,t,u,λb o n m e=>k1 b o n m (le.keep b o n id e),k2,k3,k4,k5,λb m o e=>k6 b m o (le.keep b o (λz=>nt (z▸m)) id e)⟩
theorem Lu.le{l:List Env}{h0 h1:Heap}(F:Lu h0 l)(le:Le h0 h1):Lu h1 l:=F.step λb m o e=>⟨o.slots,le.keep b o (F.mem m).1 id e⟩
theorem PA{sc:Scope}{G:Res}{h0:Heap}{l:List Env}(FA:FnAt c w sc k X G h0)(hA:c.A=A.deeper c.env)(ow:c.env.frame=some c.env.locals)(ha:A.frames=some l)(fs:Lu h0 l)(ng:∀b,¬G.fp b):Dc c l:=
 ⟨by rw[hA];exact Around.frames_deeper ha,ow,by rw[FA.hh];exact fs,λb z=>by rw[FA.hM]at z;exact ng b z⟩
theorem WG(w:World)(k:Nat)(hx:Dk x=true)(h1:1<=x.length)(hz:x.length<=1000000){self:Value}{t:Tok}{l:List Env}(ok:E9 (k+1) A)(B:CW w s.heap)(xk:FU X s.heap)(ha:A.frames=some l)(fs:Lu s.heap l){E':CH}(q:∀ea h' tk,EO l s.heap h' ea FD->E' (.ref ea) {s with heap:=h',toks:=tk}):wpAny (model prog w) A (call (.ref 90) [self,.str x t] [(Str.ofString "name",.bool true)]) Q E' s:=by
 refine wpAny_call ?_;refine Mo (D6.code w.params) ?_;intro oc vc tc ec dc qc;refine A7 (o:=Eu (Bv 1) (S "Headers._convert_string_type") .none EF (.ref 89)) (fd:=EW (Bv 1) (S "Headers._convert_string_type") .none EF (.ref 89)) ok.room (B.k _ _ (D6.here w.params)) rfl D6.plain.1 D6.plain.2 rfl ⟨89,oc,vc,tc,rfl,B.k _ _ ec,dc,qc⟩ ?_;have hb:bindArgs (EW (Bv 1) (S "Headers._convert_string_type") .none EF (.ref 89)) ⟨[self,.str x t],[(Str.ofString "name",.bool true)]⟩=pure ([S "self",S "value",S "name"].zip [self,.str x t,.bool true]):=by rfl
 rw[hb];refine wpAny_pure (HN D6 ok B xk (G:=Res.emp) trivial (λV z=>z.elim) (ds:=[.obj self,.str x,.bool true]) (.cons (.obj _) (.cons (.str _ _) (.cons (.bool _) .nil))) rfl (.of (by decide +kernel)) λc h1 t1 FA hA zz V F=>CC zz λow V=>?_)
 .have E:=FA.env;have Sk:=PA FA hA ow ha fs λb z=>z;have body:Dh c [(S "self",.obj self),(S "value",.str x),(S "name",.bool true)] [Bt (Bv 1)] λe h'=>∃J h1 u,Fr c J h1/\Heap.MadeExc h1 h' e "ValueError" [.str FD u]:=by
   refine Dh.if (CL.cmp (Bh.isType (Ev.Zr Ev.b Ev.n) Ev.b)) ?_
   refine Dh.step (J':=[(S "regex",.obj (.ref 55)),(S "self",.obj self),(S "value",.str x),(S "name",.bool true)]) (Ex.sn (d:=.obj (.ref 55)) (Ev.K7 (d:=.obj (.ref 55)) (CL.val (d:=.bool true) Ev.n trivial) (λV=>Ev.g) λz=>by cases z)) ?_;refine Dh.if (CL.Tv hx ‹_› hz Ev.n Ev.n) ?_
   refine λs F Q E n=>(Dh.raise Ev.b Ev.cStr:Dh c _ _ _) s F Q E λea h' tk zz=>by refine Fq zz ?_;clear zz;intro h1 u F1 hx;exact n ea h' tk ⟨_,h1,u,F1,hx⟩
  have hw:c.w=w:=E.hw;have z:=body {s with heap:=h1,toks:=t1} F (λf s'=>Q (match f with|.ret v=>v|_=>.none) s') (λe s'=>wpAny (model prog c.w) c.A (leaving c.env e) (λV Gd=>E' e Gd) (λe' Gd=>E' e' Gd) s') λea h' tk zz=>Ju zz λJ h2 u F2 hx=>QX F2 Sk hx λh3 T=>(by
   rw[FA.hh]at T;exact q ea h3 tk T)
  exact wpAny_mono z (λf s' k=>by cases f<;>exact k) λV V k=>k
def jX(c:Cx)(J:B4)(e:Expr)(Z:Addr->Heap->Prop):Prop:=
 ∀s,Fr c J s.heap->∀(Q:CH) (E:CH),(∀ea h' tk,Z ea h'->E (.ref ea) {s with heap:=h',toks:=tk})->wpAny (model prog c.w) c.A (eval e c.env) Q E s
theorem jX.conv{apos kp bp:Pos}{bk:Nat}{x:Addr}{t:Str}{l:List Env}(hx:Dk t=true)(h1:1<=t.length)(hz:t.length<=1000000)(S:Dc c l)(hI:DI c x)(hk:1<=c.k)(a:Ev c J o (.obj (.ref x)))(y:Ev c J e (.str t))(he:autoParam (D9 c e []) Bd)(hb:autoParam (attributeBase o "_convert_string_type" c.env (eval o c.env)=eval o c.env) Bd)(Dw:autoParam (((backTo pos (starEach [e] c.env)).all (λx=>!x.1)&&(backToKw pos (keywordEach [⟨some (Str.ofString "name"),.Constant (.bool true) bk bp,kp⟩] c.env)).all (λx=>x.1.isSome)
   && decide ([e].length+1+(if(backToKw pos (keywordEach [⟨some (Str.ofString "name"),.Constant (.bool true) bk bp,kp⟩] c.env)).isEmpty then 0 else 1)<30))=true) Bd)(hl:autoParam (J8 apos pos) Bd) :
  jX c J (.Call (.Attribute o "_convert_string_type" apos) [e] [⟨some (Str.ofString "name"),.Constant (.bool true) bk bp,kp⟩] pos) λea h'=>∃h1,Fr c J h1/\EO (c.env::l) h1 h' ea FD:=λs F Q E q=>by
 refine Ez (f:=90) a F hI (by decide) Rh ⟨_,_,_,_,_,D6⟩ hb Dw hl λs1 F1 l1 e1=>?_;rw[he];refine evalArgs_kw (by rfl) ?_;refine PySem.Calls.spliced_cons (y s1 F1 _ _ λv h2 t2 l2 r2=>PySem.Calls.spliced_nil ?_);cases r2;refine wpAny_evalAll_cons ?_;refine wpAny_bind (wpAny_Constant_bool (wpAny_bind (wpAny_standAt (wpAny_pure (wpAny_evalAll_nil ?_)))));have F2:Fr c J h2:=F1.le l2;refine⟨F2.base,?_⟩;exact WG c.w 0 hx h1 hz (s:={s1 with heap:=h2,toks:=t2}) (F2.ok.CD hk) F2.base F2.Ck S.fr (F2.Lv S) λea h3 t3 T=>by
  rw[e1];exact q ea h3 t3 ⟨h2,F2,T⟩
theorem Dh.append{e1 e2:Expr}{tk:Nat}{apos tp GF:Pos}{rest:Dy}{ls:List (List Stmt)}(a:Ev c J o (.list ds))(y:jX c J e1 Z)(hint:interactive c.env=false)(he:autoParam (starEach [.Tuple [e1,e2] tk tp] c.env=(false,eval (.Tuple [e1,e2] tk tp) c.env)::starEach [] c.env) Bd)(ZU:autoParam (D9 c e1 [e2]) Bd)(hb:autoParam (attributeBase o "append" c.env (eval o c.env)=eval o c.env) Bd)(Dw:autoParam (((backTo pos (starEach [.Tuple [e1,e2] tk tp] c.env)).all (λx=>!x.1)&&(backToKw pos (keywordEach [] c.env)).all (λx=>x.1.isSome)&&decide ([Expr.Tuple [e1,e2] tk tp].length+([]:List Keyword).length+(if([]:List Keyword).isEmpty then 0 else 1)<30))=true) Bd)(hl:autoParam (J8 apos pos) Bd)(hs:autoParam (swapsWith (.Call (.Attribute o "append" apos) [.Tuple [e1,e2] tk tp] [] pos) none GF.line c.env=pure false) Bd) :
  Dh c J ((.Expr (.Call (.Attribute o "append" apos) [.Tuple [e1,e2] tk tp] [] pos) GF::rest)::ls) Z:=λs F Q E n=>
 Ao (wpAny_Expr_any (wpAny_Call_method_lateS hb Dw hl (a s F _ _ λv h1 t1 l1 r1=>by
  refine Qg (B9.Hn r1) ?_;rintro V V rfl nx nt pl rr;have F1:Fr c J h1:=F.le l1;refine B6 (id pl) ?_;intro n0 e0;refine⟨"list","list.append",PySem.F.plainAttrs_list,slot_list_append,PySem.F.type_list_append,⟨_,e0,rfl⟩,(λa' e=>by cases e;exact⟨_,e0,rfl⟩),?_⟩;exact BI (wpAny_items_cons (wpAny_Tuple (wpAny_items_cons (y {s with heap:=h1,toks:=t1} F1 _ _ λea h' tk z=>n ea h' tk z) ZU)) he) he rfl)) hint hs)
end
section
variable {c cc:Cx}{J J' KU J0:B4}{N:Eo}{R:Ct}{h h':Heap}{Z:Addr->Heap->Prop}
theorem Dh.nil{ls:List (List Stmt)}(x:Dh c J ls Z):Dh c J ([]::ls) Z:=λs F Q E n=>wpAny_execs_nil (x s F Q E n)
theorem Dc.on{l:List Env}{G:Res}(S:Dc c l):Dc (c.on X G) l:=⟨S.fr,S.own,S.Lv,S.mOff⟩
theorem oo(w:World)(k:Nat){x dx l:Addr}{rows:Ci}{n v:Str}(hn:Dk n=true)(nH:1<=n.length)(nI:n.length<=1000000)(hv:CF false v){fr:List Env}(ok:E9 (k+2) A)(B:CW w s.heap)(xk:FU X s.heap)(rv:Bf X w s.heap vs [.obj (.ref x),.str n,.str v])(g:(CJ x dx l rows).P w X s.heap)(ha:A.frames=some fr)(fs:Lu s.heap fr){E':CH}(q:∀ea h' tk,EO fr s.heap h' ea FD->E' (.ref ea) {s with heap:=h',toks:=tk}):wpAny (model prog w) A (call (.ref 186) vs) Q E' s:=by
 refine wpAny_call ?_;refine Mo (JZ.code w.params) ?_;intro oc vc tc ec dc qc;refine A7 (o:=Eu (Bv 16) (S "Headers.add_header") .none EF (.ref 185)) (fd:=EW (Bv 16) (S "Headers.add_header") .none EF (.ref 185)) ok.room (B.k _ _ (JZ.here w.params)) rfl JZ.plain.1 JZ.plain.2 rfl ⟨185,oc,vc,tc,rfl,B.k _ _ ec,dc,qc⟩ ?_;refine Du (Bf.Bp rv) ?_;rintro V V rfl ra r;refine Du (Bf.Bp r) ?_;rintro V V rfl rb r;refine Du (Bf.Bp r) ?_;rintro V V rfl rd r;cases r;have le:Le s.heap (s.heap.push {cls:=.type "dict",data:=.dict #[]}):=Le.push _ _;have e:(s.heap.push {cls:=.type "dict",data:=.dict #[]}).get? s.heap.objs.size=some {cls:=.type "dict",data:=.dict #[]}:=AH _ rfl;have ns:(s.heap.objs.size==sysModules)=false:=by
  have:=B7 B;rw[Av];intro z;rw[z]at this;exact absurd this (by decide)
 have rp:Bf X w (s.heap.push {cls:=.type "dict",data:=.dict #[]}) [_,_,_,.ref s.heap.objs.size] [.obj (.ref x),.str n,.str v,.dict []]:=.cons (ra.le le) (.cons (rb.le le) (.cons (rd.le le) (.cons (.dict (fresh_ne xk) (B5 B.tab) ns (C4 e) .nil) .nil)));refine OI ?_;refine HN (s:={s with heap:=s.heap.push {cls:=.type "dict",data:=.dict #[]}}) JZ ok (B.le le λV z=>z.elim) (xk.le le) (G:=CJ x dx l rows) ((CJ x dx l rows).mv g λb o z nt e=>⟨le.keep b o nt id e,id⟩) (λb z=>z.elim) (names:=[S "self",S "_name",S "_value",S "_params"]) rp rfl (.of (by decide +kernel)) λc h1 t1 FA hA zz V F=>CC zz λow V=>?_
 .have Ee:=FA.env;have nt:TP∉Bk fr:=fs.nt;have Sk:=PA FA hA ow ha (fs.le le) λb z=>z;have Jq:1<=c.k:=by rw[FA.hk];exact A1 1 k
  have hint:interactive c.env=false:=Ee.quiet rfl;have hG:∀X h,c.G.P c.w X h->(CJ x dx l rows).P c.w X h:=λX h z=>by rw[FA.hG]at z;exact z
  let R0:List (Str×D):=[(S "self",.obj (.ref x)),(S "_name",.str n),(S "_value",.str v),(S "_params",.dict [])]
  have body:Dh c R0 [Bt (Bv 16)] λea h'=>∃J X G h1,Fr (c.on X G) J h1/\EO (c.env::fr) h1 h' ea FD:=by
   refine Dh.cons (Ex.Zg (x:=S "parts") (Ji:=λa=>(S "parts",.obj (.ref a))::R0) (Ee.nm (.inl rfl)) (λa=>by rfl)) ?_;intro h1 Cr;refine Fq Cr ?_;intro a X1 nw F1;refine⟨c.on X1 (c.G.star (Bl a [])),_,⟨rfl,rfl,rfl⟩,F1,?_⟩;have E1:Bj (c.on X1 (c.G.star (Bl a []))) w (BY (Bv 16)) (k+1):=Ee.on;have ml:DI (c.on X1 (c.G.star (Bl a []))) x:=DI.ro (dx:=dx) (l:=l) (rows:=rows) λX h z=>hG X h z.1;refine Dh.if (CL.cmp (Bh.isNotNone (d:=.str v) Ev.n true (λh u r=>by cases r;rfl))) ?_
   refine Dh.step (J':=[(S "_value",.str v),(S "parts",.obj (.ref a)),(S "self",.obj (.ref x)),(S "_name",.str n),(S "_params",.dict [])]) (Ex.sn (d:=.str v) (Ev.conv hv ml Jq Ev.n Ev.n)) ?_;refine Dh.cons (Ex.append (l:=a) (ds:=[]) (d:=.str v) E1.ro (by decide) (Upd.rt (Upd.self (T:=Bl a []) (T':=Bl a ([]++[.str v])) λb=>Iff.rfl)) Ev.n Ev.n (E1.quiet rfl)) λh2 F2=>⟨c.on X1 (c.G.star (Bl a [.str v])),_,⟨rfl,rfl,rfl⟩,F2,?_⟩;refine Dh.nil ?_;have E2:Bj (c.on X1 (c.G.star (Bl a [.str v]))) w (BY (Bv 16)) (k+1):=Ee.on;let R1:List (Str×D):=[(S "_value",.str v),(S "parts",.obj (.ref a)),(S "self",.obj (.ref x)),(S "_name",.str n),(S "_params",.dict [])]
   refine Dh.cons (Ex.for (ds:=[]) E2.ro (λV=>c.G.star (Bl a [.str v])) (λV=>R1) rfl rfl (Bb.Vf Ev.n) (λi d hd=>by cases i<;>cases hd)) ?_;intro h2 Dv;refine Bi Dv ?_;intro X2 Hk F2;let c3:Cx:=c.on X2 (c.G.star (Bl a [.str v]));have E3:Bj c3 w (BY (Bv 16)) (k+1):=Ee.on;refine⟨c3,R1,⟨rfl,rfl,rfl⟩,F2,?_⟩;refine λs F Q E n=>(Dh.append (c:=c3) (Ev.MZ (λX h z=>hG X h z.1) Ev.n) (jX.conv hn nH nI (Sk.on (X:=X2) (G:=c.G.star (Bl a [.str v]))) (DI.ro (dx:=dx) (l:=l) (rows:=rows) λX h z=>hG X h z.1) Jq Ev.n Ev.n) (E3.quiet rfl):Dh c3 R1 _ _) s F Q E λea h' tk zz=>by refine Bi zz ?_;clear zz;intro h1 F1 T;exact n ea h' tk ⟨R1,X2,c.G.star (Bl a [.str v]),h1,F1,T⟩
  have hw:c.w=w:=Ee.hw;have z:=body {s with heap:=h1,toks:=t1} F (λf s'=>Q (match f with|.ret v=>v|_=>.none) s') (λe s'=>wpAny (model prog c.w) c.A (leaving c.env e) (λV Gd=>E' e Gd) (λe' Gd=>E' e' Gd) s') λea h' tk zz=>kJ zz λJ X2 G2 h2 F2 T=>Vn (c:=c.on X2 G2) F2 Sk.on T λh3 T3=>(by
   have T4:EO fr c.h0 h3 ea FD:=T3;rw[FA.hh]at T4;exact q ea h3 tk (T4.since le nt))
  exact wpAny_mono z (λf s' k=>by cases f<;>exact k) λV V k=>k
end
section
variable {c cc:Cx}{J J' KU J0:B4}{N:Eo}{R:Ct}{h h':Heap}{Z:Addr->Heap->Prop}
noncomputable def Ko(e t:Addr)(msg:Str)(u:Tok):Res where
 fp:=λV=>False
 P:=λw X h=>((¬X e/\e≠TP)/\¬X t/\t≠TP)/\h.ExcAt e "ValueError" (.ref t)/\h.TupAt t [.str msg u]
 mv:=λzz k=>by refine FP zz ?_;clear zz;intro Cr Dv HW;refine FP Cr ?_;clear Cr;rintro⟨n1,t1⟩ n2 t2;refine Fq Dv ?_;intro o vs e1 r;refine Fq HW ?_;intro o' n e2 r';exact let a:=k _ o (.inr (.inl n1)) t1 e1;let b:=k _ o' (.inr (.inl n2)) t2 e2;⟨⟨⟨a.2 n1,t1⟩,b.2 n2,t2⟩,⟨o,vs,a.1,r⟩,⟨o',n,b.1,r'⟩⟩
theorem Fr.land{l:List Env}{h1 h5 B:Heap}{e t:Addr}{msg:Str}{u:Tok}(F:Fr c J h1)(S:Dc c l)(ow:∀x,c.own x)(ro:¬c.ro)(sub:∀b∈Bk l,c.X b)(k1:∀b o,b≠TP->b∉Bk (c.env::l)->h1.get? b=some o->B.get? b=some o)(k2:Tab B)(fO:Heap.FlyingW B (c.env::l) e (.type "ValueError") (.ref t) h5)(tp:h5.TupAt t [.str msg u])(k5:B.get? t=none)(k6:∀b∈Bk (c.env::l),∀o,h1.get? b=some o->∃sl,h5.get? b=some {o with slots:=sl}) :
  ∃D7,Q8 l c.h0 D7/\Fr (({c with h0:=D7}:Cx).on c.X (c.G.star (Ko e t msg u))) J h5/\Dc {c with h0:=D7} l:=by
 have tb:∃o,B.get? TP=some o:=by refine Bi k2 ?_;clear k2;intro V z V;exact⟨_,z⟩
 have st:Step (c.env::l) h1 h5:=⟨λb o n m e=>fO.1 b o (k1 b o n m e),k6,λV=>k2.keep (λo e=>fO.1 _ o e) λc o n e z=>fO.1 c o e⟩
 refine EJ (F.rebase S ow ro sub st) ?_;intro D7 s0 F' S';refine dw fO.first ?_;intro oe vs e1 e2 e3 e4
 refine Du (id tp) ?_;intro ot nn t1 t2 t3;have out:∀ {b:Addr}{o:Obj},B.get? b=none->h5.get? b=some o->(∀es ep,o.data≠.dict es ep)->¬c.X b/\b≠TP:=λ{b o} hb ho hd=>by
  have ht:b≠TP:=λz=>by
   refine B6 tb ?_;clear tb;intro o z';rw[z,z']at hb;cases hb
  refine⟨λz=>?_,ht⟩;obtain⟨_,o1,x1⟩:=F.Ck b z;by_cases m:b∈Bk (c.env::l)
  .obtain ⟨_,o2,x2,es,ep,d⟩:=(F.Lv S).memD m;refine B6 (k6 b m o2 x2) ?_;intro sl x3;rw[ho]at x3;cases x3;exact hd es ep d
  .rw [k1 b o1 ht m x1]at hb;cases hb
 refine⟨D7,s0,F'.star (T:=Ko e t msg u) ⟨⟨out fO.2.1 e1 λes ep z=>(by rw[e3]at z;cases z),out k5 t1 λes ep z=>(by rw[t3]at z;cases z)⟩,⟨oe,vs,e1,e2,e3,e4⟩,tp⟩ (λb z=>z.elim),S'⟩
theorem Fr.mX{n:Str}(F:Fr c J s.heap)(kl:c.env.kindOf n=some .local)(hn:∀p∈J',p∈J/\p.1≠n){Q:EU}{M:Model}(q:∀h' tk,Fr c J' h'->Q () {s with heap:=h',toks:=tk}):wpAny M A (do bindName c.env n .none;unbindBehindTheSuite c.env n pos) Q E s:=by
 obtain⟨lx,l0,m,ns⟩:=F.loc;refine wpAny_nameGoes_keeps kl ns (by rw[F.kind];rfl) λh2 v n2 s2=>?_;obtain⟨o2,e2⟩:∃o,h2.get? c.env.locals=some o:=by refine Ju n2 ?_;clear n2;intro o V V e V;exact⟨o,e⟩
 have l:=Cp s2 o2 e2 F.W7 (Cd.ns ns);refine q h2 _ (F.re l (λa z=>by rw[z];exact⟨lx,.inr l0,λz=>(F.gx _ z).2.1 rfl⟩) ⟨_,n2⟩ (λy a e=>?_) λy dy my=>?_)
 .refine Hv (F.E0 y a e) ?_;intro a1 a2 Jk V;refine B6 Jk ?_;intro u a3;exact⟨u,B1 a3 λo z=>l.keep _ o a2 a1 z⟩
 .refine CC (hn _ my) ?_;intro my ny;refine Bi (F.names y dy my) ?_;intro u W3 ru;refine CC W3 ?_;intro hy H;refine⟨u,⟨hy,H.imp (λ⟨ky,ly,m',n',e'⟩=>⟨ky,ly,_,n2,?_⟩) λzz=>by refine UI zz ?_;clear zz;intro a ka ea na ca;exact⟨a,ka,ea,na,B1 ca λo z=>l.keep _ o na (F.E0 y a ea).1 z⟩⟩,ru.move (DR l λa z=>z▸lx)⟩;rw[if_neg ny,<- e',Nt n' ns]
end
noncomputable abbrev hF:Str:=Str.ofString "<lambda>"
noncomputable abbrev LB(params:Arguments)(body:Expr)(scope:Scope)(cl:List (Str×Addr))(pm cv ct:Value):FuncData:=
 {name:=hF,qualname:=QW,params:=params,body:=.expr body,scope:=scope,globals:=3,closure:=cl,defaults:=.none,kwdefaults:=.none,doc:=.none,pyModule:=pm,code:=cv,closureTuple:=ct,builtins:=0}
structure Ds(h:Heap)(f:Addr)(params:Arguments)(body:Expr)(scope:Scope)(cl:List (Str×Addr)):Prop where
 ex:∃o pm cv ct,h.get? f=some o/\o.cls=.type "function"/\o.data=.func (LB params body scope cl pm cv ct)/\OF h cv
theorem Sb{a b:Int}{c':Value}:∀ {l:DW},TriplesOk l->codeAmong pos (l++[rawInt a,rawInt b,c'])=some v->codeAmong pos l=some v\/v=c':=by
 intro l ht e;fun_induction TriplesOk l with
 |case1=>
  simp only[BT,codeAmong,rawInt]at e;split at e
  .cases e;exact .inr rfl
  .cases e
 |case2 a' t b' u x rest ih=>
  simp only[List.cons_append,codeAmong]at e ⊢;split at e
  .rename_i hc;rw[if_pos hc];exact .inl e
  .rename_i hc;rw[if_neg hc];exact ih ht e
 |case3 l h1 h2=>exact ht.elim
theorem Vm{M:Model}(B:CW w s.heap){env:Env}(hc:env.code=.ref 267){line:Nat}{params:Arguments}{body:FuncBody}(q:∀cv h' tk,Le s.heap h'->s.heap.objs.size<=h'.objs.size->OF h' cv->Q cv {s with heap:=h',toks:=tk}):wpAny M A (functionCode env pos line hF QW params scope body) Q E s:=by
 refine EJ B.tab ?_;intro ps eP tr lm;have C:=B.k 267 _ rfl;have qb:s.heap.IsCode 267 TP ps:=⟨_,_,_,_,_,_,_,_,_,_,C,rfl,rfl,rfl,rfl,rfl,rfl,eP,rfl,tr,by decide⟩
 cases ha:codeAmong pos ps.toList with
 |some cv=>exact wpAny_functionCode_hit hc qb ha (q cv s.heap s.toks (.refl _) (Ad _) (lm pos cv ha))
 |none=>
  refine wpAny_functionCodeX hc qb ⟨⟨_,_,C,rfl,rfl,rfl⟩,eP⟩ ha λc' h' tk hx jw Dx V gP ue V=>?_;refine Yb gP ?_;clear gP;intro c2 o2 UA t2 e2 g2 d2 x2;cases e2;have vQ:c'≠TP:=λz=>by
   have:=Ag eP;rw[z]at jw;exact Aa _ (Ai this jw)
  have lc:OF h' (.ref c'):=⟨c',o2,rfl,vQ,g2,UA,t2,d2,x2⟩
  have keep:∀b o,b≠TP->s.heap.get? b=some o->h'.get? b=some o:=λb o nt e=>hx b o nt e;refine q _ h' tk ⟨λb o nt V e=>keep b o nt e,λb o V w=>w.elim,λV=>?_,λb o e hc=>keep b o (λz=>by rw[z,eP]at e;cases e;refine Fq hc ?_;clear hc;intro vs t z1 z2;cases z1;exact triples_no_str tr _ _ (by simpa using z2)) e⟩ (AD jw (A4 Dx)) lc;have el:(ps++#[rawInt pos.line,rawInt pos.col,Value.ref c']).toList=ps.toList++[rawInt pos.line,rawInt pos.col,.ref c']:=by simp
  refine⟨_,ue.2,?_,λpos' v hv=>?_⟩
  .rw [el];exact TriplesOk_snoc _ _ _ _ tr
  .rw [el]at hv;rcases Sb tr hv with hv|rfl
   .refine dw (lm pos' v hv) ?_;intro c3 o3 e3 n3 g3 z3;exact⟨c3,o3,e3,n3,keep _ _ n3 g3,z3⟩
   .exact lc
theorem YI{M:Model}{b:Bool}{k:Value->Sem Value}(q:∀v h',Le s.heap h'->s.heap.objs.size<=h'.objs.size->wpAny M A (k v) Q E {s with heap:=h'}) :
  wpAny M A (if b=true then pure .none >>= k else newTextTuple vs >>= k) Q E s:=by
 cases b with
 |true=>exact wpAny_bind (wpAny_pure (q _ _ (.refl _) (Ad _)))
 |false=>exact wpAny_bind (wpAny_newTextTuple (q _ _ (Le.push _ _) (by rw[Heap.size_push];exact Nat.le_add_right s.heap.objs.size 1)))
theorem LC{params:Arguments}{body:Expr}(F:Fr c J s.heap)(K0:c.env.code=.ref 267)(hq:c.env.qual++"<lambda>"=QW)(m5:defaultsOf params c.env=([],[]))(tw:∀p∈scope.names,p.2=.free->(c.env.cells.lookup p.1).isSome=true)(q:∀f h' tk pm cv ct,Le s.heap h'->s.heap.get? f=none->306<=f->h'.get? f=some {cls:=.type "function",data:=.func (LB params body scope (FY c.env.cells scope.names []) pm cv ct)}->OF h' cv->Q (.ref f) {s with heap:=h',toks:=tk}) :
  wpAny (model prog c.w) c.A (eval (.Lambda params body scope pos) c.env) Q E s:=by
 have B:=F.base;have sz:=B7 B;rw[arm_eval_Lambda,m5];refine wpAny_bind (wpAny_pure (wpAny_bind (wpAny_holding (wpAny_pure ?_))));rw[hq,makeFunction_eq];simp only[List.zip_nil_right,List.filterMap_nil,List.isEmpty_nil,if_true,pure_bind];unfold makeTail;rw[HX tw,F.glob];refine wpAny_bind (wpAny_pure (YI λct h1 l1 z1=>wpAny_bind (Vm (s:={s with heap:=h1}) (B.le l1 λV z=>z.elim) K0 λcv h2 tk l2 z2 lc=>?_)));have B2:=(B.le l1 λV z=>z.elim).le l2 λV z=>z.elim;refine Bi B2.gl ?_;intro mg n r;refine wpAny_bind (wpAny_builtinsFor n (r (Str.ofString "__builtins__",some (.ref 4)) (.head _)) (by decide) (B2.k 4 _ rfl) rfl rfl rfl (wpAny_bind (wpAny_nsGet n (wpAny_bind (wpAny_pure (wpAny_newObj_type ?_ (by size_fits)))))));have zz:s.heap.objs.size<=h2.objs.size:=AD z1 z2;exact q h2.objs.size _ tk _ cv ct (.trans l1 (.trans l2 (Le.push _ _))) (Gw zz) (AD sz zz) (AH _ rfl) (by refine dw lc ?_;clear lc;intro c3 o3 e3 n3 g3 x3;exact⟨c3,o3,e3,n3,AO _ g3,x3⟩)
theorem LY:∀ {names:B3}{vs:DW}{x:Str}{v:Value},names.length=vs.length->(x,v)∈names.zip vs->names.Nodup->(names.zip vs).reverse.lookup x=some v:=by
 intro names vs x v hl m nd;have Zf:((names.zip vs).reverse.map (·.1)).Nodup:=by
  rw[List.map_reverse,(List.reverse_perm _).nodup_iff,List.map_fst_zip (by exact BM hl)];exact nd
 have m2:(x,v)∈(names.zip vs).reverse:=List.mem_reverse.mpr m;generalize(names.zip vs).reverse=l at Zf m2;induction l with
 |nil=>cases m2
 |cons p l ih=>
  rw[AK];rcases AJ.mp m2 with e|m2
  .rw [<- e];simp
  .have Hl:(x==p.1)=false:=by
    rw[Av];intro e;rw[AI,List.nodup_cons]at Zf;exact Zf.1 (e▸Ab (f:=(·.1)) m2)
   rw[Hl];exact ih (by rw[AI,List.nodup_cons]at Zf;exact Zf.2) m2
theorem Ds.at{f:Addr}{params:Arguments}{body:Expr}{cl:List (Str×Addr)}(L:Ds h f params body scope cl)(k:∀o,h.get? f=some o->h'.get? f=some o)(kc:∀b o,b≠TP->h.get? b=some o->Cd o->h'.get? b=some o):Ds h' f params body scope cl:=by
 obtain⟨o,pm,cv,ct,e1,e2,e3,c,oc,e4,e5,e6,e7⟩:=L.ex;exact⟨o,pm,cv,ct,k o e1,e2,e3,c,oc,e4,e5,kc _ _ e5 e6 e7,e7⟩
theorem TJ{f:Addr}{o:Obj}{fd:FuncData}{args:Args}{binds:Di}{T:Result->Shared->Prop}(room:A.depth<recursionLimit)(ho:s.heap.get? f=some o)(hd:o.data=.func fd)(hc:fd.scope.isCoroutine=false)(hg:fd.scope.isGenerator=false)(hb:fd.body=.expr e)(rec:s.heap.CodeRec fd.code fd.qualname)(sN:bindArgs fd args=pure binds)(y:wpAny (model prog w) A.in1 (newFunctionEnv fd.scope fd.globals fd.closure binds (fd.qualname++".<locals>.") (some f) fd.code none fd.builtins) (λenv s2=>s2.heap.NoLimit/\wpAny (model prog w) (A.deeper env) (eval e env) (λv s'=>T (.ok (.ret v)) s')
   (λe' s'=>wpAny (model prog w) (A.deeper env) (leaving env e') (λV Gd=>T (.error e') Gd) (λlY Gd=>T (.error lY) Gd) s') s2) (λe' s'=>T (.error e') s') s):codeAny (model prog w) A (.call (.ref f) args) T s:=by
 have inner:∀env s2,wpAny (model prog w) (A.deeper env) (eval e env) (λv s'=>T (.ok (.ret v)) s') (λe' s'=>wpAny (model prog w) (A.deeper env) (leaving env e') (λV Gd=>T (.error e') Gd) (λlY Gd=>T (.error lY) Gd) s') s2->codeAny (model prog w) A (.expr e env) T s2:=λenv s2 z=>by
  refine codeAny_of_tree ?_;show wpAny (model prog w) (A.deeper env) (point >>= λV=>(eval e env).onRaise (leaving env) >>= λv=>ret v) _ _ s2;exact wpAny_bind (wpAny_point (wpAny_bind (wpAny_onRaise (wpAny_mono z (λV V k=>wpAny_pure k) λV V k=>k))))
 refine codeAny_of_tree ?_;show wpAny (model prog w) A.in1 (callAny (.ref f) args) _ _ s;simp -iota only[callAny];refine wpAny_bind (wpAny_load ho ?_);refine Yb rec ?_;clear rec;intro a oc vs t e1 e2 e3 e4;simp only[hd,callFunction,hc,hg,hb,e1,sN];rw[e1]at y;refine wpAny_bind (wpAny_field e2 e3 e4 (wpAny_bind (wpAny_pure (wpAny_bind (wpAny_pure (wpAny_bind (wpAny_mono y (λenv s2 z=>?_) λV V k=>k)))))));exact wpAny_bind (wpAny_enterFrame z.1 room (wpAny_pure ⟨rfl,inner env s2 z.2⟩))
theorem Ro{f:Addr}{params:Arguments}{body:Expr}{cl:List (Str×Addr)}(ok:E9 (k+1) A)(L:Ds s.heap f params body scope cl)(B:CW w s.heap)(xk:FU X s.heap){G:Res}(g:G.P w X s.heap)(gx:∀b,G.fp b->X b){names:B3}{Jf:B4}(r:Bf X w s.heap vs ds)(hb:∀pm cv ct,bindArgs (LB params body scope cl pm cv ct) ⟨vs,[]⟩=pure (names.zip vs))(hl:names.length=vs.length)(nd:names.Nodup)(kinds:∀x∈names,scope.names.lookup x=some .local)(plain:∀x∈names,Cn x)(hk:scope.kind=.function)(uA:scope.isCoroutine=false)(aq:scope.isGenerator=false)(IC:∀x∈scope.names,x.2≠.cell)(aE:∀x a,cl.lookup x=some a->a≠TP/\(∃v,s.heap.IsCell a v)/\¬G.fp a)(inj:∀x y a,cl.lookup x=some a->cl.lookup y=some a->x=y)(fr:∀x d,(x,d)∈Jf->Cn x/\scope.names.lookup x=some .free/\∃a v,cl.lookup x=some a/\s.heap.IsCell a (some v)/\B9 X w s.heap v d){Post:Ct}(bd:∀c,FnAt c w scope k X G s.heap->∀s1:Shared,Fr c (names.zip ds++Jf) s1.heap->Run c.w c.A G.fp (eval body c.env) s1 Post):Run w A G.fp (call (.ref f) vs) s Post:=λQ E q=>by
 obtain⟨o,pm,cv,ct,e1,e2,e3,cd,oc,e4,e5,e6,UA,t2,e7,e8⟩:=L.ex;refine wpAny_call ?_;refine TJ ok.room e1 e3 uA aq rfl ⟨cd,oc,UA,t2,e4,e6,e7,e8⟩ (hb _ _ _) (wpAny_newFunctionEnv IC (λp hp=>?_) (λh1 Oj ud=>?_) hk)
 .have:p.1∈names:=by
   have hz:=Ab (f:=(·.1)) hp;rwa [List.map_fst_zip (by exact BM hl)]at hz
  exact kinds _ this
 have keep:∀b o,s.heap.get? b=some o->h1.get? b=some o:=λb o e=>ud.extBut b o (Nat.ne_of_lt (Ag e)) (AO _ e);have l1:Le s.heap h1:=Le.of keep;have sz:=B7 B;have nn:s.heap.get? s.heap.objs.size=none:=Bn _;refine⟨B.lim.keeps keep,?_⟩;let Cj:Env:=newEnv (LB params body scope cl pm cv ct).scope s.heap.objs.size (LB params body scope cl pm cv ct).globals (LB params body scope cl pm cv ct).closure ((LB params body scope cl pm cv ct).qualname++".<locals>.") (some f) (LB params body scope cl pm cv ct).code none (LB params body scope cl pm cv ct).builtins;let c:Cx:={w:=w,A:=A.deeper Cj,env:=Cj,k:=k,X:=DH X (·=s.heap.objs.size),G:=G,own:=λV=>False,h0:=s.heap,M:=G.fp,ro:=False}
 have n1:∀b,b=s.heap.objs.size->s.heap.get? b=none/\306<=b/\∃o,h1.get? b=some o:=λb z=>by
  refine Ju Oj ?_;clear Oj;intro o V V eo V;rw[z];exact⟨Bn _,sz,o,eo⟩
 have F:Fr c (names.zip ds++Jf) h1:=
  {base:=B.le l1 λV z=>z.elim
   Ck:=λa z=>z.elim (λz=>(xk.le l1) a z) λz=>(n1 a z).2
   kind:=hk,glob:=rfl,blt:=rfl,ok:=ok.deeper Cj
   old:=l1.to
   loc:=⟨.inr rfl,Bn _,_,Oj⟩
   E0:=λx a e=>by
    refine FP (aE x a e) ?_;intro a1 Cr a3;refine B6 Cr ?_;intro v a2;refine Bi (id a2) ?_;intro oa ea da;exact⟨λz=>(by have z':a=s.heap.objs.size:=z;rw[z',nn]at ea;cases ea),a1,⟨v,B1 a2 λo e=>keep _ o e⟩,λz=>z.elim⟩
   apart:=λx y a e e'=>inj x y a e e'
   names:=λx d m=>by
    rcases Ar.mp m with m|m
    .refine Bi (LX r m) ?_;intro v mv rv;have hm:x∈names:=by
      have hz:=Ab (f:=(·.1)) mv;rwa [List.map_fst_zip (by exact BM hl)]at hz
     exact⟨v,⟨plain x hm,.inl ⟨kinds x hm,λz=>B5 B.tab z,_,Oj,LY hl mv nd⟩⟩,(rv.move (ET λb z=>z.imp_right λz=>(n1 b z).1)).le l1⟩
    .obtain ⟨p1,p2,a,v,e1,e2,rv⟩:=fr x d m;exact⟨v,⟨p1,.inr ⟨a,.inr p2,e1,(aE x a e1).1,B1 e2 λo e=>keep _ o e⟩⟩,(rv.move (ET λb z=>z.imp_right λz=>(n1 b z).1)).le l1⟩
   g:=G.mv g λb o z nt e=>⟨keep b o e,λnx z=>z.elim nx λz=>by rw[(n1 b z).1]at e;cases e⟩
   gx:=λb z=>by
    obtain⟨_,o,eo⟩:=xk b (gx b z);refine⟨⟨.inl (gx b z),.inr (.inl z)⟩,λy=>?_,λx e=>(aE x b e).2.2 z⟩;have y':b=s.heap.objs.size:=y;rw[y',nn]at eo;cases eo}
 have FA:FnAt c w scope k X G s.heap:=⟨rfl,rfl,rfl,λb z=>.inl z,rfl,rfl,rfl,λz=>z,λx e=>absurd rfl (IC _ (lookup_mem e))⟩
 exact bd c FA {s with heap:=h1,toks:=s.toks+(names.zip vs).length} F _ _ λv h2 t2 l2 p2=>q v h2 t2 (Bu.trans l1.to l2) p2
theorem Fr.grow{fp:CG}(F:Fr c J h)(l:Bu W h h')(s:∀a,W a->Off c a)(n:∀b,fp b->h.get? b=none/\306<=b/\∃o,h'.get? b=some o):Fr (c.plus fp) J h':=
 have F':=F.off l s
 {base:=F'.base
  Ck:=λa q=>q.elim (λq=>F'.Ck a q) λq=>(n a q).2
  kind:=F.kind,glob:=F.glob,blt:=F.blt,ok:=F.ok,old:=F'.old
  loc:=⟨.inl F.loc.1,F.loc.2.1,F'.loc.2.2⟩
  E0:=λx a e=>by refine Hv (F'.E0 x a e) ?_;intro a1 a2 a3 a4;exact⟨a1,a2,a3,λo=>⟨.inl (a4 o).1,(a4 o).2⟩⟩
  apart:=F.apart
  names:=λx d m=>by
   refine Bi (F.names x d m) ?_;intro v H r;exact⟨v,H.keep (λo nt e=>l.keep _ o nt (λq=>(s _ q).2.2.2.1 rfl) e) (λa o nt ea e=>l.keep _ o nt (λq=>(s _ q).2.2.2.2 x ea) e),r.move λa o nx nt e=>⟨l.keep a o nt (λq=>nx (s a q).1) e,λz=>z.elim nx λz=>by rw[(n a z).1]at e;cases e⟩⟩
  g:=c.G.mv F.g λb o q nt e=>⟨l.at nt e λz=>q.elim (λy=>absurd y (s b z).2.2.1) λq=>q.elim (λy=>absurd (s b z).1 y) id,λnx z=>z.elim nx λz=>by rw[(n b z).1]at e;cases e⟩
  gx:=λb q=>by refine CC (F.gx b q) ?_;intro Cr a3;refine CC Cr ?_;intro a1 a2;exact⟨⟨.inl a1,a2⟩,a3⟩}
theorem ML.ia{f:Addr}(n:ML c f)(q:X' f):Off {c with X:=X'} f:=⟨q,.inr n.2.2.1,n.2.2.2.1,n.2.2.2.2.1,n.2.2.2.2.2⟩
noncomputable def jE:Stmt->Expr
 |.Assign _ e _=>e
 |_=>.Constant .none 0 ⟨0,0,0,0⟩
noncomputable def M0(i:Nat):Expr:=jE ((Bt (Ba 25))[i]?.getD (.Pass ⟨0,0,0,0⟩))
noncomputable def Vk:Expr->Arguments
 |.Lambda a _ _ _=>a
 |_=>⟨[],[],none,[],[],none,[]⟩
noncomputable def Vj:Expr->Expr
 |.Lambda _ b _ _=>b
 |e=>e
noncomputable def Vl:Expr->Scope
 |.Lambda _ _ s _=>s
 |_=>⟨.function,[],false,false,[]⟩
noncomputable abbrev dC:Arguments:=Vk (M0 4)
noncomputable abbrev dB:Expr:=Vj (M0 4)
noncomputable abbrev Zy:Scope:=Vl (M0 4)
noncomputable abbrev gd:Arguments:=Vk (M0 5)
noncomputable abbrev dT:Expr:=Vj (M0 5)
noncomputable abbrev dU:Scope:=Vl (M0 5)
theorem GK:CA 268 (Ba 25) (S "_law_thing") 267 .none CY:=⟨λP=>rfl,λP=>⟨_,_,_,rfl,rfl,rfl⟩,rfl,rfl,rfl⟩
noncomputable def Zo(av:Value)(fa fi:Addr):Str->Option Value:=λy=>if y=S "itertext" then some (.ref fi)else if y=S "append" then some (.ref fa)else if y=S "makeelement" then some (.ref 268)else if y=S "attrib" then some av else none
structure Made(h:Heap)(tv av:Value)(f dd ka fa fi ck ct:Addr):Prop where
 fn:Gq h f (some dd) (Zo av fa fi)
 kids:h.PlainList ka #[]
 ap:Ds h fa dC dB Zy [(S "kids",ck)]
 it:Ds h fi gd dT dU [(S "tag",ct),(S "kids",ck)]
 ck:h.IsCell ck (some (.ref ka))
 ct:h.IsCell ct (some tv)
theorem Gq.at{f:Addr}{dd:Option Addr}(x:Gq h f dd m):∃o,h.get? f=some o/\¬Cd o:=by refine UI x ?_;clear x;intro o e V Dv V;refine B6 Dv ?_;intro fd d;exact⟨o,e,λzz=>by refine Fq zz ?_;clear zz;intro V V z V;rw[d]at z;cases z⟩
theorem Gq.dd{f d:Addr}(x:Gq h f (some d) m):∃o,h.get? d=some o/\¬Cd o:=by
 obtain⟨_,_,_,_,_,_,o,es,ep,e,z,_⟩:=x;exact⟨o,e,Cd.dict z⟩
theorem aR{f d:Addr}{dd:Option Addr}{m':Hx}(x:Gq h f dd m)(y:Gq h' f (some d) m')(e:dd=some d\/(dd=none/\d=h.objs.size))(nf:f≠TP)(nd:d≠TP)(k:∀b o,b≠f->b≠d->h.get? b=some o->h'.get? b=some o):Bu (λb=>b=f\/b=d) h h':=
 Bu.of (λb o n e=>k b o (λz=>n (.inl z)) (λz=>n (.inr z)) e) (λb o z V=>by
  rcases z with z|z
  .rw [z];exact by refine Bi y.at ?_;intro o e V;exact⟨o,e⟩
  .rw [z];exact by refine Bi y.dd ?_;intro o e V;exact⟨o,e⟩) (λz=>z.elim (λz=>nf z.symm) λz=>nd z.symm) λb o z e'=>by
  rcases z with z|z
  .refine Bi x.at ?_;intro o1 e1 n1;rw[z,e1]at e';cases e';exact n1
  .rcases e with e|⟨e,e2⟩
   .subst e;refine Bi x.dd ?_;intro o1 e1 n1;rw[z,e1]at e';cases e';exact n1
   .rw [z,e2,Bn]at e';cases e'
theorem PlainList.keep{vs:Array Value}(x:h.PlainList a vs)(l:Bu W h h')(nt:a≠TP)(n:¬W a):h'.PlainList a vs:=x.at λo e=>l.keep _ o nt n e
theorem Ds.Nl{f:Addr}{params:Arguments}{body:Expr}{cl:List (Str×Addr)}(L:Ds h f params body scope cl)(l:Bu W h h')(nt:f≠TP)(n:¬W f):Ds h' f params body scope cl:=
 L.at (λo e=>l.keep _ o nt n e) λb o nb e z=>l.code b o e z
theorem Gq.Nl{f:Addr}{dd:Option Addr}(x:Gq h f dd m)(l:Bu W h h')(nt:f≠TP)(n:¬W f)(nd:∀d,dd=some d->d≠TP/\¬W d):Gq h' f dd m:=
 x.keep (λo e=>l.keep _ o nt n e) λd e o e2=>l.keep _ o (nd d e).1 (nd d e).2 e2
theorem IX{name:Str}{f:Addr}{dd:Option Addr}{ns:B3}{Q:EU}(F:Fr c J s.heap)(a:Ev c J o (.obj (.ref f)))(hB:typeLookup (.type "function") name=pure none)(I:Gq s.heap f dd m)(nt:f≠TP/\∀d,dd=some d->d≠TP)(hw:Within m ns)(L8:ns.length<=1000)(q:∀h1 h' tk d',Le s.heap h1->Gq h' f (some d') (λy=>if y=name then some v else m y)->(dd=some d'\/(dd=none/\d'=h1.objs.size))->Bu (λb=>b=f\/b=d') h1 h'->d'≠TP->Q () {s with heap:=h',toks:=tk}) :
  wpAny (model prog c.w) c.A (eval o c.env) (λov s₂=>wpAny (model prog c.w) c.A (setAttr ov name v) Q E s₂) E s:=
 a s F _ _ λov h1 t1 l1 r1=>by
  cases r1;have F1:Fr c J h1:=F.le l1;have I1:Gq h1 f dd m:=I.Nl l1 nt.1 id λd e=>⟨nt.2 d e,id⟩;refine Kt hB I1 hw L8 λh' Wj d' I' e k=>?_;have nd:d'≠TP:=by
   rcases e with e|⟨_,e⟩
   .exact nt.2 d' e
   .rw [e];exact B5 F1.base.tab
  exact q h1 h' Wj d' l1 I' e (aR I1 I' e nt.1 nd λb o n1 n2=>k b o (.inl n1) n2) nd
theorem Fr.holds(F:Fr c J h)(m:(x,D.obj v)∈J)(k:c.env.kindOf x=some .cell)(e:c.env.cells.lookup x=some a):h.IsCell a (some v):=by
 refine Bi (F.names x _ m) ?_;intro v' H r;cases r;rcases H.2 with⟨k',_⟩|⟨a',_,e',_,i⟩
 .rw [k]at k';cases k'
 .rw [e]at e';cases e';exact i
theorem Q2(ok:E9 (k+1) A)(B:CW w s.heap)(xk:FU X s.heap)(tv av:Value)(q:∀f dd ka fa fi ck ct h' tk,Le s.heap h'->(∀b∈[f,dd,ka,fa,fi,ck,ct],s.heap.get? b=none/\306<=b)->Made h' tv av f dd ka fa fi ck ct->Q (.ref f) {s with heap:=h',toks:=tk}) :
  wpAny (model prog w) A (call (.ref 268) [tv,av]) Q E s:=by
 refine wpAny_call ?_;have ho:=B.k _ _ (GK.here w.params);refine Mo (GK.code w.params) ?_;intro oc vc tc ec dc qc;refine A7 (o:=Eu (Ba 25) (S "_law_thing") .none CY (.ref 267)) (fd:=EW (Ba 25) (S "_law_thing") .none CY (.ref 267)) ok.room ho rfl GK.plain.1 GK.plain.2 rfl ⟨267,oc,vc,tc,rfl,B.k _ _ ec,dc,qc⟩ ?_;have hb:bindArgs (EW (Ba 25) (S "_law_thing") .none CY (.ref 267)) ⟨[tv,av],[]⟩=pure ([S "tag",S "attrib"].zip [tv,av]):=by rfl
 rw[hb];refine wpAny_pure (HN GK ok B xk (G:=Res.emp) trivial (λV z=>z.elim) (ds:=[.obj tv,.obj av]) (.cons (.obj _) (.cons (.obj _) .nil)) rfl (.of (by decide +kernel)) λc h1 t1 FA hA zz K0 F=>?_);refine CC zz ?_;clear zz;intro qP V;have hq:c.env.qual++"<lambda>"=QW:=by rw[K0.2];decide
 have EA:=FA.env;refine B6 (A6.mp (FA.slot (S "kids") rfl).2) ?_;intro ck W4;refine B6 (A6.mp (FA.slot (S "tag") rfl).2) ?_;intro ct ZH;have kk:c.env.kindOf (S "kids")=some .cell:=FA.kind rfl;have kt:c.env.kindOf (S "tag")=some .cell:=FA.kind rfl;have hh:=FA.hh;have tN:s.heap.get? ck=none:=by
  have z:=((F.E0 _ ck W4).2.2.2 (FA.slot (S "kids") rfl).1).2;rwa [hh]at z
 have tO:s.heap.get? ct=none:=by
  have z:=((F.E0 _ ct ZH).2.2.2 (FA.slot (S "tag") rfl).1).2;rwa [hh]at z
 have sL:306<=ck:=(F.Ck ck ((F.E0 _ ck W4).2.2.2 (FA.slot (S "kids") rfl).1).1).1;have sM:306<=ct:=(F.Ck ct ((F.E0 _ ct ZH).2.2.2 (FA.slot (S "tag") rfl).1).1).1;have big:∀ {b h2 J2}{c2:Cx},c2.h0=s.heap->Fr c2 J2 h2->h2.get? b=none->b≠TP->s.heap.get? b=none:=λ{b h2 J2 c2} e0 F2 e nt=>by
  cases z:s.heap.get? b with
  |none=>rfl
  |some o=>
   refine B6 (F2.old.alive nt (by rw[e0];exact z)) ?_;intro o' e';rw[e]at e';cases e'
 refine Ao (wpAny_Assign_Name (LC F K0.1 hq rfl (λp hp=>by cases hp) λf h2 t2 pm cv pQ l2 nf bf ef lc=>?_) (by rfl));have TY:f≠TP:=Cq bf;have Nf:ML c f:=F.new nf bf;have F1:Fr (c.plus (·=f)) _ h2:=F.plus l2 λb z=>by have z':b=f:=z;rw[z'];exact⟨nf,bf,_,ef⟩
 have E1:Bj (c.plus (·=f)) w (BY (Ba 25)) k:=⟨EA.hw,EA.hs,EA.hk,EA.ro,EA.slot⟩
 refine F1.store (s:={s with heap:=h2,toks:=t2}) ⟨by decide,by decide⟩ (E1.name (x:=S "thing") (.inl rfl)) (d:=.obj (.ref f)) (.obj _) (DG.of (J':=[(S "thing",.obj (.ref f)),(S "tag",.obj tv),(S "attrib",.obj av)]) rfl) λh3 t3 l3 F2=>?_;have I2:Gq h2 f none (λV=>none):=⟨_,ef,rfl,⟨_,rfl⟩,rfl,λV=>rfl⟩
 have I3:Gq h3 f none (λV=>none):=I2.Nl l3 TY (λz=>Hq Nf z) λd e=>by cases e
 refine Ao (wpAny_Assign_Name (wpAny_List (wpAny_items_nil ⟨by decide,?_⟩)) (by rfl));have l4:Le h3 (h3.push {cls:=.type "list",data:=.seq #[]}):=Le.push _ _;have e4:(h3.push {cls:=.type "list",data:=.seq #[]}).get? h3.objs.size=some {cls:=.type "list",data:=.seq #[]}:=AH _ rfl;have n4:=Bn h3;have b4:=B7 F2.base;generalize wo:h3.objs.size=ka at *;have UH:ka≠TP:=Cq b4;have Nk:ML (c.plus (·=f)) ka:=F2.new n4 b4;have F3:Fr ((c.plus (·=f)).plus (·=ka)) _ (h3.push {cls:=.type "list",data:=.seq #[]}):=F2.plus l4 λb z=>by have z':b=ka:=z;rw[z'];exact⟨n4,b4,_,e4⟩
 have E3:Bj ((c.plus (·=f)).plus (·=ka)) w (BY (Ba 25)) k:=⟨EA.hw,EA.hs,EA.hk,EA.ro,EA.slot⟩
 have P4:(h3.push {cls:=.type "list",data:=.seq #[]}).PlainList ka #[]:=⟨_,e4⟩
 have I4:Gq (h3.push {cls:=.type "list",data:=.seq #[]}) f none (λV=>none):=I3.Nl l4 TY id λd e=>by cases e
 generalize jy:h3.push {cls:=.type "list",data:=.seq #[]}=h4 at *;refine F3.store (s:={s with heap:=h4,toks:=t3}) ⟨by decide,by decide⟩ (E3.name (x:=S "kids") (.inr rfl)) (d:=.obj (.ref ka)) (.obj _) (DG.of (J':=[(S "kids",.obj (.ref ka)),(S "thing",.obj (.ref f)),(S "tag",.obj tv),(S "attrib",.obj av)]) rfl) λh5 t5 l5 F5=>?_;have I5:Gq h5 f none (λV=>none):=I4.Nl l5 TY (λz=>Hq Nf z) λd e=>by cases e
 have P5:h5.PlainList ka #[]:=PlainList.keep P4 l5 UH λz=>Hq Nk z;have kf:ka≠f:=λz=>by refine Bi I3.at ?_;intro o e V;rw[<- z,n4]at e;cases e
 refine Ao (plainObj_wpAny_Assign_Attribute ((Ev.n (d:=.obj av):Ev _ _ _ _) {s with heap:=h5,toks:=t5} F5 _ _ λv6 h6 t6 l6 r6=>?_) (by rfl));cases r6;have F6:=F5.le l6;refine IX (c:=(c.plus (·=f)).plus (·=ka)) (s:={s with heap:=h6,toks:=t6}) F6 Ev.n I7 (I5.Nl l6 TY id λd e=>by cases e) ⟨TY,λd e=>by cases e⟩ Within.nil (by decide) λh7 h8 t8 dd l7 I8 ed l8 Pm=>?_;have F7:=F6.le l7;have pX:dd=h7.objs.size:=by rcases ed with ed|⟨_,ed⟩;cases ed;exact ed
 have nd:h7.get? dd=none:=by rw[pX];exact Bn _
 have bd:306<=dd:=by rw[pX];exact B7 F7.base
 have qk:Le h5 h7:=Bu.trans l6 l7;have oP:Off ((c.plus (·=f)).plus (·=ka)) f:=Nf.ia (c:=c) (.inl (.inr rfl));have nv:Bu (·=f) h7 h8:=l8.fresh λa z=>z.imp_right λz=>by rw[z];exact nd
 have Nd:ML ((c.plus (·=f)).plus (·=ka)) dd:=F7.new nd bd;have F8:Fr (((c.plus (·=f)).plus (·=ka)).plus (·=dd)) _ h8:=F7.grow nv (λa z=>by have z':a=f:=z;rw[z'];exact oP) λb z=>by have z':b=dd:=z;rw[z'];exact⟨nd,bd,by refine Bi I8.dd ?_;intro o e V;exact⟨o,e⟩⟩
 have kd:ka≠dd:=λz=>by
  have P7:=PlainList.keep P5 qk UH id;refine B6 P7 ?_;clear P7;intro n e;rw[z,nd]at e;cases e
 have P8:h8.PlainList ka #[]:=PlainList.keep (PlainList.keep P5 qk UH id) l8 UH λz=>z.elim kf kd;have E8:Bj (((c.plus (·=f)).plus (·=ka)).plus (·=dd)) w (BY (Ba 25)) k:=⟨EA.hw,EA.hs,EA.hk,EA.ro,EA.slot⟩
 have br:∀a,a=f\/a=dd->Off (((c.plus (·=f)).plus (·=ka)).plus (·=dd)) a:=λa z=>by
  rcases z with z|z
  .rw [z];exact Nf.ia (c:=c) (.inl (.inl (.inr rfl)))
  .rw [z];exact Nd.off rfl
 have w8:=Within.cons (S "attrib") av Within.nil;generalize uB:((c.plus (·=f)).plus (·=ka)).plus (·=dd)=cx at *;have pW:cx.env=c.env/\cx.A=c.A/\cx.w=c.w/\cx.h0=c.h0/\cx.M=c.M:=by rw[<- uB];exact⟨rfl,rfl,rfl,rfl,rfl⟩
 refine oL pW ?_;clear pW;intro x1 x2 x3 x4 x5;rw[<- x1,<- x2,<- x3];rw[<- x1]at K0 hq W4 ZH kk kt;refine Ao (plainObj_wpAny_Assign_Attribute ((Ev.g (v:=.ref 268) (d:=.obj (.ref 268)) (E8.kd rfl):Ev cx _ _ _) {s with heap:=h8,toks:=t8} F8 _ _ λv9 h9 t9 l9 r9=>?_) (by rfl));cases r9;have F9:=F8.le l9;refine IX (s:={s with heap:=h9,toks:=t9}) F9 Ev.n ZN (I8.Nl l9 TY id λd e=>by cases e;exact⟨Pm,id⟩) ⟨TY,λd e=>by cases e;exact Pm⟩ w8 (by decide) λdJ jt wI lV dZ k8 ji qi V=>?_;have lh:lV=dd:=by rcases ji with ji|⟨ji,_⟩<;>cases ji;rfl
 subst lh;have ko:=(F9.le dZ).off qi br;have sB:jt.PlainList ka #[]:=PlainList.keep (PlainList.keep P8 (Bu.trans l9 dZ) UH id) qi UH λz=>z.elim kf kd;have rZ:=Within.cons (S "makeelement") (.ref 268) w8;refine Ao (plainObj_wpAny_Assign_Attribute (LC (s:={s with heap:=jt,toks:=wI}) ko K0.1 hq rfl (λp hp e=>?_) λfa pw wJ vX sS sQ Gk iQ pN tE u3=>?_) (by rfl))
 .have nL:p∈[(S "kid",NameKind.local),(S "kids",NameKind.free)]:=hp;refine Sd nL (λe=>?_) (λe=>?_) e
  .cases e
  .rw [W4];rfl
 have pD:=ko.le Gk;have TZ:fa≠TP:=Cq pN;have fa_f:fa≠f:=λz=>by refine Bi k8.at ?_;intro o e V;have bX:jt.get? fa=none:=iQ;rw[<- z,bX]at e;cases e
 have fa_d:fa≠lV:=λz=>by refine Bi k8.dd ?_;intro o e V;have bX:jt.get? fa=none:=iQ;rw[<- z,bX]at e;cases e
 have rj:Ds pw fa dC dB Zy [(S "kids",ck)]:=by
  have lg:FY cx.env.cells Zy.names []=[(S "kids",ck)]:=by
   show[(S "kids",(cx.env.cells.lookup (S "kids")).getD 0)]=_;rw[W4];rfl
  exact⟨_,_,_,_,tE,rfl,congrArg (λcl=>Data.func (LB dC dB Zy cl vX sS sQ)) lg,u3⟩
 refine IX (s:={s with heap:=pw,toks:=wJ}) pD Ev.n U9 (k8.Nl Gk TY id λd e=>by cases e;exact⟨Pm,id⟩) ⟨TY,λd e=>by cases e;exact Pm⟩ rZ (by decide) λwh fw wK lW QV k9 jj de V=>?_;have lj:lW=lV:=by rcases jj with jj|⟨jj,_⟩<;>cases jj;rfl
 subst lj;have kq:=(pD.le QV).off de br;have sD:fw.PlainList ka #[]:=PlainList.keep (PlainList.keep sB (Bu.trans Gk QV) UH id) de UH λz=>z.elim kf kd;have rm:Ds fw fa dC dB Zy [(S "kids",ck)]:=(rj.Nl QV TZ id).Nl de TZ λz=>z.elim fa_f fa_d;have wW:=Within.cons (S "append") (.ref fa) rZ;refine Ao (plainObj_wpAny_Assign_Attribute (LC (s:={s with heap:=fw,toks:=wK}) kq K0.1 hq rfl (λp hp e=>?_) λfi pz wL vY sT sR j7 oB pO tF u4=>?_) (by rfl))
 .have nL:p∈[(S "kids",NameKind.free),(S "tag",NameKind.free)]:=hp;refine Sd nL ?_ ?_
  .rw [W4];rfl
  .rw [ZH];rfl
 have pE:=kq.le j7;have Ya:fi≠TP:=Cq pO;have fi_f:fi≠f:=λz=>by refine Bi k9.at ?_;intro o e V;have bY:fw.get? fi=none:=oB;rw[<- z,bY]at e;cases e
 have fi_d:fi≠lW:=λz=>by refine Bi k9.dd ?_;intro o e V;have bY:fw.get? fi=none:=oB;rw[<- z,bY]at e;cases e
 have rn:Ds pz fi gd dT dU [(S "tag",ct),(S "kids",ck)]:=by
  have lg:FY cx.env.cells dU.names []=[(S "tag",ct),(S "kids",ck)]:=by
   show[(S "tag",(cx.env.cells.lookup (S "tag")).getD 0),(S "kids",(cx.env.cells.lookup (S "kids")).getD 0)]=_;rw[W4,ZH];rfl
  exact⟨_,_,_,_,tF,rfl,congrArg (λcl=>Data.func (LB gd dT dU cl vY sT sR)) lg,u4⟩
 refine IX (s:={s with heap:=pz,toks:=wL}) pE Ev.n ZM (k9.Nl j7 TY id λd e=>by cases e;exact⟨Pm,id⟩) ⟨TY,λd e=>by cases e;exact Pm⟩ wW (by decide) λwj ju wM pT j8 sA jk j9 V=>?_;have lq:pT=lW:=by rcases jk with jk|⟨jk,_⟩<;>cases jk;rfl
 subst lq;have pF:=(pE.le j8).off j9 br;have sE:ju.PlainList ka #[]:=PlainList.keep (PlainList.keep sD (Bu.trans j7 j8) UH id) j9 UH λz=>z.elim kf kd;have rq:Ds ju fa dC dB Zy [(S "kids",ck)]:=(rm.Nl (Bu.trans j7 j8) TZ id).Nl j9 TZ λz=>z.elim fa_f fa_d;have kj:Ds ju fi gd dT dU [(S "tag",ct),(S "kids",ck)]:=(rn.Nl j8 Ya id).Nl j9 Ya λz=>z.elim fi_f fi_d;refine Ao (wpAny_Return_some ((Ev.n (d:=.obj (.ref f)):Ev cx _ _ _) {s with heap:=ju,toks:=wM} pF _ _ λxE qA wN gv vf=>?_));cases vf;have kz:=pF.le gv;have hH:Le s.heap qA:=by
  have z:=kz.old;rw[x4,x5,FA.hM,FA.hh]at z;exact z.any λV y=>y
 have c0:cx.h0=s.heap:=x4.trans FA.hh;refine q f pT ka fa fi ck ct qA wN hH (λb hb=>?_) ⟨?_,PlainList.keep sE gv UH id,rq.Nl gv TZ id,kj.Nl gv Ya id,kz.holds (.head _) kk W4,kz.holds (x:=S "tag") (by simp) kt ZH⟩
 .refine pI hb ?_ ?_ ?_ ?_ ?_ ?_ ?_
  .exact ⟨big FA.hh F nf TY,bf⟩
  .exact ⟨big (c2:=(c.plus (·=f)).plus (·=ka)) FA.hh F7 nd Pm,bd⟩
  .exact ⟨big (c2:=c.plus (·=f)) FA.hh F2 n4 UH,b4⟩
  .exact ⟨big c0 ko iQ TZ,pN⟩
  .exact ⟨big c0 kq oB Ya,pO⟩
  .exact ⟨tN,sL⟩
  .exact ⟨tO,sM⟩
 .exact sA.Nl gv TY id λd e=>by cases e;exact⟨Pm,id⟩
structure Th where
 tag:Nat
 way:List Nat
 above:Option Nat
 tl:Option D
 f:Addr
 dd:Addr
 ka:Addr
 kids:List Addr
abbrev C0:=List Th
structure lA(m:Hx)(av:Value)(fa fi:Addr)(tl:Option D):Prop where
 at_:m (S "attrib")=some av
 mke:m (S "makeelement")=some (.ref 268)
 ap:m (S "append")=some (.ref fa)
 it:m (S "itertext")=some (.ref fi)
 wi:Within m [S "tail",S "itertext",S "append",S "makeelement",S "attrib"]
 tl:match tl with
  |none=>True
  |some d=>d.flat=true/\∃v,m (S "tail")=some v/\∀X w h,B9 X w h v d
structure Lx(w:World)(X:CG)(h:Heap)(t:Th)(fa fi ck ct:Addr)(tk:Tok)(av:Value)(m:Hx):Prop where
 nf:¬X t.f/\t.f≠TP
 nd:t.dd≠TP
 nk:t.ka≠TP
 fn:Gq h t.f (some t.dd) m
 ms:lA m av fa fi t.tl
 av:B9 X w h av (.dict (Ic t.way t.above))
 kids:h.PlainList t.ka (t.kids.map λa=>Value.ref a).toArray
 ap:(¬X fa/\fa≠TP)/\Ds h fa dC dB Zy [(S "kids",ck)]
 it:(¬X fi/\fi≠TP)/\Ds h fi gd dT dU [(S "tag",ct),(S "kids",ck)]
 ck:(¬X ck/\ck≠TP)/\h.IsCell ck (some (.ref t.ka))
 ct:(¬X ct/\ct≠TP)/\h.IsCell ct (some (.str (sg t.tag) tk))
def Ly(w:World)(X:CG)(h:Heap)(t:Th):Prop:=∃fa fi ck ct tk av m,Lx w X h t fa fi ck ct tk av m
theorem Lx.mv{t:Th}{fa fi ck ct:Addr}{tk:Tok}{av:Value}(x:Lx w X h t fa fi ck ct tk av m)(k:∀b o,(b=t.dd\/b=t.ka\/¬X b\/Cd o)->b≠TP->h.get? b=some o->h'.get? b=some o/\(¬X b->¬X' b)):Lx w X' h' t fa fi ck ct tk av m:=by
 have kx:∀ {a:Addr}{o:Obj},¬X a->a≠TP->h.get? a=some o->h'.get? a=some o/\¬X' a:=λ{a o} n t e=>by refine CC (k a o (.inr (.inr (.inl n))) t e) ?_;intro p q;exact⟨p,q n⟩
 have kc:∀b o,b≠TP->h.get? b=some o->Cd o->h'.get? b=some o:=λb o n e z=>(k b o (.inr (.inr (.inr z))) n e).1;have lm:∀ {f params body scope cl},(¬X f/\f≠TP)/\Ds h f params body scope cl->(¬X' f/\f≠TP)/\Ds h' f params body scope cl:=λ{f params body scope cl} zz=>CC zz λir L=>CC ir λn1 n2=>by
  refine kJ L.ex ?_;intro o V V V e V;exact⟨⟨(kx n1 n2 e).2,n2⟩,L.at (λo e=>(kx n1 n2 e).1) kc⟩
 have ce:∀ {a v},(¬X a/\a≠TP)/\h.IsCell a v->(¬X' a/\a≠TP)/\h'.IsCell a v:=λ{a v} zz=>CC zz λiu i=>CC iu λn1 n2=>by
  refine Bi i ?_;clear i;intro o e d;exact⟨⟨(kx n1 n2 e).2,n2⟩,o,(kx n1 n2 e).1,d⟩
 refine⟨?_,x.nd,x.nk,x.fn.keep (λo e=>(kx x.nf.1 x.nf.2 e).1) (λd e o e2=>?_),x.ms,x.av.move λb o n t e=>kx n t e,x.kids.at λo e=>(k _ o (.inr (.inl rfl)) x.nk e).1,lm x.ap,lm x.it,ce x.ck,ce x.ct⟩
 .refine Bi x.fn.at ?_;intro o e V;exact⟨(kx x.nf.1 x.nf.2 e).2,x.nf.2⟩
 .cases e;exact(k _ o (.inl rfl) x.nd e2).1
noncomputable def Bm(L:C0):Res where
 fp:=λb=>∃t∈L,b=t.dd\/b=t.ka
 P:=λw X h=>(∀t∈L,Ly w X h t)/\(L.flatMap λt:Th=>[t.dd,t.ka]).Nodup
 mv:=λ{w X X' h h'} zz k=>⟨λt ht=>by
  refine Mp (zz.1 t ht) ?_;intro fa fi ck ct tk av m z;exact⟨fa,fi,ck,ct,tk,av,m,z.mv λb o q n e=>k b o (q.elim (λq=>.inl ⟨t,ht,.inl q⟩) λq=>q.elim (λq=>.inl ⟨t,ht,.inr q⟩) .inr) n e⟩,zz.2⟩
def Zt(tag:Nat)(way:BZ)(ab:Option Nat)(d:D)(T:Res):Prop:=∃t:Th,d=.obj (.ref t.f)/\T=Bm [t]/\t.tag=tag/\t.way=way/\t.above=ab/\t.kids=[]/\t.tl=none
theorem cZ{av:Value}{fa fi:Addr}:lA (Zo av fa fi) av fa fi none:=by
 have n1:S "attrib"≠S "itertext":=by decide
 have n2:S "attrib"≠S "append":=by decide
 have n3:S "attrib"≠S "makeelement":=by decide
 have n4:S "makeelement"≠S "itertext":=by decide
 have n5:S "makeelement"≠S "append":=by decide
 have n6:S "append"≠S "itertext":=by decide
 refine⟨by simp only[Zo,if_neg n1,if_neg n2,if_neg n3,if_true],by simp only[Zo,if_neg n4,if_neg n5,if_true],by simp only[Zo,if_neg n6,if_true],by simp only[Zo,if_true],λy hy=>?_,trivial⟩;unfold Zo at hy;by_cases h1:y=S "itertext"
 .simp [h1]
 .by_cases h2:y=S "append"
  .simp [h2]
  .by_cases h3:y=S "makeelement"
   .simp [h3]
   .by_cases h4:y=S "attrib"
    .simp [h4]
    .simp [h1,h2,h3,h4]at hy
theorem iO{b:Addr}{o o':Obj}(e:h.get? a=some o)(e':h.get? b=some o')(n:o≠o'):a≠b:=λz=>by rw[z,e']at e;cases e;exact n rfl
theorem M1(ok:E9 (k+1) A)(B:CW w s.heap)(xk:FU X s.heap){tag:Nat}{way:BZ}{ab:Option Nat}(r:Bf X w s.heap vs [.str (sg tag),.dict (Ic way ab)])(q:∀t h' tk,t.tag=tag->t.way=way->t.above=ab->t.kids=[]->t.tl=none->Le s.heap h'->(∀b,(Bm [t]).fp b->s.heap.get? b=none/\306<=b/\∃o,h'.get? b=some o)->(Bm [t]).P w (DH X (Bm [t]).fp) h'->Q (.ref t.f) {s with heap:=h',toks:=tk}) :
  wpAny (model prog w) A (call (.ref 268) vs) Q E s:=by
 cases r with|cons r1 r=>
 cases r with|cons r2 r=>
 cases r;cases r1;rename_i av tk;refine Q2 ok B xk _ _ λf dd ka fa fi ck ct h' Wj l1 fr M=>?_;refine XA (id M.fn) ?_;intro of ef cf Cr V Dv;refine B6 Cr ?_;intro wd df;refine CC Dv ?_;intro w4 oF;refine Mo (id oF) ?_;intro od es ep ed aL V;refine B6 (id M.kids) ?_;intro nk ek;refine Yb (id M.ap.ex) ?_;intro oa V V V ea V da V;refine Yb (id M.it.ex) ?_;intro oi V V V ei V di V;refine Bi (id M.ck) ?_;intro rG W4 pR;refine Bi (id M.ct) ?_;intro ot ZH pS;let t:Th:=⟨tag,way,ab,none,f,dd,ka,[]⟩
 have nx:∀b∈[f,dd,ka,fa,fi,ck,ct],¬X b:=λb hb z=>by
  obtain⟨_,o,e⟩:=xk b z;rw[(fr b hb).1]at e;cases e
 have nt:∀b∈[f,dd,ka,fa,fi,ck,ct],b≠TP:=λb hb=>Cq (fr b hb).2;have mL:∀ {b},(Bm [t]).fp b->b=dd\/b=ka:=λ{b} zz=>Bi zz λt' ht z=>by rw[AG.mp ht]at z;exact z
 have out:∀ {b o},b∈[f,dd,ka,fa,fi,ck,ct]->h'.get? b=some o->(∀es ep,o.data≠.dict es ep)->(∀a n,o.data≠.seq a n)->¬DH X (Bm [t]).fp b:=λ{b o} hb e n1 n2 z=>by
  rcases z with z|z
  .exact nx b hb z
  .rcases mL z with z|z
   .rw [z,ed]at e;cases e;exact n1 _ _ aL
   .rw [z,ek]at e;cases e;exact n2 _ _ rfl
 refine q t h' Wj rfl rfl rfl rfl rfl l1 (λb z=>?_) ⟨λt' ht=>?_,?_⟩
 .rcases mL z with z|z
  .rw [z];exact⟨(fr dd (by simp)).1,(fr dd (by simp)).2,_,ed⟩
  .rw [z];exact⟨(fr ka (by simp)).1,(fr ka (by simp)).2,_,ek⟩
 .rw [AG.mp ht];refine⟨fa,fi,ck,ct,tk,av,Zo av fa fi,⟨out (b:=f) (by simp) ef (λV V z=>by rw[df]at z;cases z) (λV V z=>by rw[df]at z;cases z),nt f (by simp)⟩,nt dd (by simp),nt ka (by simp),M.fn,cZ,?_,M.kids,⟨⟨out (by simp) ea (λV V z=>by rw[da]at z;cases z) (λV V z=>by rw[da]at z;cases z),nt fa (by simp)⟩,M.ap⟩,
   ⟨⟨out (by simp) ei (λV V z=>by rw[di]at z;cases z) (λV V z=>by rw[di]at z;cases z),nt fi (by simp)⟩,M.it⟩,⟨⟨out (by simp) W4 (λV V z=>by rw[pR]at z;cases z) (λV V z=>by rw[pR]at z;cases z),nt ck (by simp)⟩,M.ck⟩,
   ⟨⟨out (by simp) ZH (λV V z=>by rw[pS]at z;cases z) (λV V z=>by rw[pS]at z;cases z),nt ct (by simp)⟩,M.ct⟩⟩
  exact r2.move λa o na KL e=>⟨l1.keep a o KL id e,λz=>z.elim na λz=>by
   rcases mL z with z|z
   .rw [z,(fr dd (by simp)).1]at e;cases e
   .rw [z,(fr ka (by simp)).1]at e;cases e⟩
 .have:dd≠ka:=iO ed ek λz=>by rw[z]at aL;cases aL
  simpa[t]using this
section
variable {w:World}{A:Around}{E:CH}{s:Shared}
theorem L5{d:Addr}{kvs:Di}{k:Str}{key:Value}{Q:EU}(S3:(KS w).is k key=true)(hm:s.heap.DictOf (KS w) d kvs)(L8:kvs.length<=1000)(hQ:∀h',h'.DictOf (KS w) d (stored kvs k v)->Heap.SameBut d s.heap h'->Q () {s with heap:=h'}):wpAny (model prog w) A (dictPut d ((KS w).hash k) key v) Q E s:=by
 refine Zh hm ?_;clear hm;intro o es ep ho hc hd hk hp hn;have el:es.toList.length=es.size:=by simp
 have uI:es.size<=sizeLine:=by rw[sizeLine_eq];have:=hp.length;lia
 have qR:(es.findIdx? λe=>(KS w).is k e.key)=kvs.findIdx? λkv=>decide (kv.1=k):=by
  rw[<- hp.findIdx k];obtain⟨l⟩:=es;simp
 refine wpAny_bind (wpAny_dictFind_of S3 ho hd hk ?_);cases hi:es.findIdx? λe=>(KS w).is k e.key with
 |some i=>
  have Oe:(kvs.any λkv=>decide (kv.1=k))=true:=any_of_findIdx_some (qR▸hi);refine wpAny_updateDict ho hd (hQ _ ⟨_,_,ep,BJ _ ho (Obj.isFreed_of_dict (Obj.data_mapDict hd _)),hc.mapDict _,Obj.data_mapDict hd _,hk.modify _ _,?_,?_⟩ (Heap.SameBut.update ..))
  .rw [stored,if_pos Oe];have hl:(es.toList.findIdx? λe=>(KS w).is k e.key)=some i:=by rw[<- hi];obtain⟨l⟩:=es;simp
   have:=hp.modify hn hl v;obtain⟨l⟩:=es;simpa using this
  .rw [stored,if_pos Oe,keys_map_store];exact hn
 |none=>
  have gJ:k∉kvs.map (·.1):=not_mem_of_findIdx_none (qR▸hi);have Oe:¬(kvs.any λkv=>decide (kv.1=k))=true:=by
   rw[Aq];intro Cr;refine Bi Cr ?_;intro kv uQ he;exact gJ (AF.mpr ⟨kv,uQ,of_decide_eq_true he⟩)
  refine wpAny_updateDictKeys (hz:=uI) ho hd (hQ _ ⟨_,_,ep+1,BJ _ ho (Obj.isFreed_of_dict (Obj.data_mapDictKeys hd _)),hc.mapDictKeys _,Obj.data_mapDictKeys hd _,hk.push S3 _,?_,?_⟩ (Heap.SameBut.update ..))
  .rw [stored,if_neg Oe];have:=hp.append S3 ((KS w).hash k) v;obtain⟨l⟩:=es;simpa using this
  .rw [stored,if_neg Oe,Af,List.nodup_append];refine⟨hn,by simp,λa ha b hb=>?_⟩;simp -iota only[AI,List.map_nil,AG]at hb;subst hb;exact λe=>gJ (e▸ha)
noncomputable def Fi(kvs:Di)(l:Di):List (Str×Value):=l.foldl (λa p=>stored a p.1 p.2) kvs
theorem Q1(kvs:Di)(k:Str)(v:Value):(stored kvs k v).length<=kvs.length+1:=by
 unfold stored;split<;>simp
theorem pairs_at{es:List DictEntry}{kvs:Di}(hp:Pairs (KS w) es kvs){i:Nat}{p:Str×Value}(hi:kvs[i]? = some p):∃e,es[i]? = some e/\(KS w).is p.1 e.key=true/\e.val=p.2:=by
 induction hp generalizing i with
 |nil=>cases hi
 |cons h1 h2 _ ih=>
  cases i with
  |zero=>cases hi;exact⟨_,rfl,h1,h2⟩
  |succ i=>exact ih (i:=i) hi
theorem TB:typeLookup (.type "dict") "__iter__"=pure (some (.builtin "dict.__iter__")):=by rw[Ap,builtinLookup_eq_fast];kernel_rfl
theorem Ho{d:Addr}{kvs JF:Di}{Q:EU}(hd:s.heap.DictOf (KS w) d kvs)(ha:s.heap.DictOf (KS w) a JF)(Hl:a≠d)(nS:(a==sysModules)=false)(h1:kvs.length<=100)(h2:JF.length<=100)(hQ:∀h',h'.DictOf (KS w) d (Fi kvs JF)->Heap.SameBut d s.heap h'->Q () {s with heap:=h'}):wpAny (model prog w) A (mergeMapping d (.ref a) false) Q E s:=by
 refine Zh (id ha) ?_;intro oa es ep ea xa da ka pa na;refine Zh (id hd) ?_;intro od fJ wb ed xd dd kd pd nd;have hT:s.TypeIs (.ref a) "dict":=Eb ha;have D8:isSubtype (.type "dict") (.type "dict")=pure true:=by rw[isSubtype_type];kernel_rfl
 have mA:∀e∈es,∀x,e.key≠.ref x:=λe he x z=>by
  refine Bi (ka e he) ?_;intro k hk V;refine B6 (Value.isStrOf_shape (by exact hk)) ?_;intro t et;rw[z]at et;cases et
 refine wpAny_bind (wpAny_isInstance hT D8 ?_);rw[if_pos rfl];refine wpAny_bind (wpAny_bind (wpAny_typeOf hT ?_));refine wpAny_of_eq TB ?_;rw[show(some (Value.builtin "dict.__iter__")==some (Value.builtin "dict.__iter__"))=true by simp];refine wpAny_bind (wpAny_pure ?_);dsimp only;rw[nS];simp -iota only[AR,if_false];have tail:wpAny (model prog w) A (dictEntries a >>= λes=>dictEpoch a >>= λfD=>(forIn (List.range es.size) PUnit.unit λi __s=>do
   let es <- dictEntries a;match es[i]? with
    |some e=>do
     holding [e.key,e.val] (dictPut d e.hash e.key e.val)
     let ep <- dictEpoch a;if(ep != fD)=true then do
       unsupported "dict.changed-during-merge"
       pure (ForInStep.yield PUnit.unit)
      else pure (ForInStep.yield PUnit.unit)
    |x=>do
     unsupported "dict.changed-during-merge"
     pure (ForInStep.yield PUnit.unit)) >>= λV=>pure ()) Q E s:=by
  refine wpAny_bind (wpAny_dictEntries ea da (wpAny_bind (wpAny_dictEpoch ea da (wpAny_bind ?_))));have L8:es.size=JF.length:=by have:=pa.length;simpa using this
  refine wpAny_forIn_list _ (λl V s'=>∃i,l=(List.range es.size).drop i/\i<=es.size/\∃h',s'={s with heap:=h'}/\h'.DictOf (KS w) d (Fi kvs (JF.take i))/\Heap.SameBut d s.heap h'/\(Fi kvs (JF.take i)).length<=100+i) _ ?_ ?_ _ _ ⟨0,by simp,Al _,s.heap,rfl,by simpa[Fi]using hd,Heap.SameBut.refl _ _,by simp -iota[Fi];exact(λ{i₁ i₂}=>String.Pos.Raw.mk_le_mk.mp) h1⟩
  .intro x rest b s1 Dv;obtain⟨i,e1,hi,hh,rfl,hD,hS,hL⟩:=Dv;have Dx:i<es.size:=by
    apply Nat.lt_of_not_le;intro z;rw[List.drop_eq_nil_of_le (by simpa using z)]at e1;cases e1
   have ex:x=i/\rest=(List.range es.size).drop (i+1):=by
    rw[List.drop_eq_getElem_cons (by simpa using Dx)]at e1;cases e1;exact⟨by simp,rfl⟩
   refine CC ex ?_;clear ex;rintro rfl fE;have pV:hh.get? a=some oa:=hS.extBut _ _ Hl ea;refine wpAny_bind (wpAny_dictEntries pV da ?_);have UD:JF[x]? = some (JF[x]'(by exact BE Dx L8)):=AU _;refine EJ (pairs_at pa UD) ?_;intro e he S3 nU;have ZT:es[x]? = some e:=by rw[<- Array.getElem?_toList];exact he
   rw[ZT];dsimp only;refine wpAny_bind (wpAny_holding ?_);have hash:e.hash=(KS w).hash (JF[x]'(BE Dx L8)).1:=by
    refine Bi (ka e (Array.mem_of_getElem? ZT)) ?_;intro k' Mb uO;rw[uO,(KS w).inj _ _ _ Mb S3]
   rw[hash,nU];refine L5 S3 hD (by lia) λh3 qB qI=>?_;have sy:h3.get? a=some oa:=qI.extBut _ _ Hl pV;refine wpAny_bind (wpAny_dictEpoch sy da ?_);rw[if_neg (by simp)];refine wpAny_pure ⟨x+1,fE,Dx,h3,rfl,?_,hS.trans qI,?_⟩
   .rw [A3,UD];unfold Fi at qB ⊢;rw[BH];exact qB
   .rw [A3,UD];unfold Fi at hL ⊢;rw[BH];have:=Q1 (List.foldl (λa p=>stored a p.1 p.2) kvs (JF.take x)) (JF[x]'(BE Dx L8)).1 (JF[x]'(BE Dx L8)).2;simp -iota only[Option.toList_some,As,List.foldl_nil];lia
  .intro b s1 HW;obtain⟨i,e1,hi,hh,rfl,hD,hS,_⟩:=HW;have jw:es.size<=i:=by
    have:=congrArg List.length e1;simp at this;(clear h2;lia)
   have:i=JF.length:=by(clear h2;lia)
   rw[this,BF]at hD;exact wpAny_pure (hQ hh hD hS)
 refine wpAny_bind (wpAny_dictEntries ed dd ?_);refine wpAny_ite ?_;split
 .refine wpAny_bind (wpAny_dictEntries ea da (wpAny_bind ?_));rw[<- Array.forIn_toList];refine wpAny_forIn_list _ (λl V s'=>s'=s/\∀e∈l,e∈es) _ (λx rest b s1 zz=>?_) (λb s1 zz=>by refine CC zz ?_;clear zz;intro e1 V;subst e1;exact tail) es.toList _ ⟨rfl,λe he=>by simpa using he⟩;refine CC zz ?_;clear zz;intro e1 hl;subst e1;have hx:=mA x (hl x (.head _));split
  .rename_i y hy;exact absurd hy (hx y)
  .exact wpAny_pure ⟨rfl,λe he=>hl e (.tail _ he)⟩
 .exact tail
end
theorem Tn:∀ {l:Di}{ld:B4},Cc X w h l ld->∀ {kvs:Di}{es:B4},Cc X w h kvs es->Cc X w h (Fi kvs l) (DC es ld):=by
 intro l ld r;induction ld generalizing l with
 |nil=>cases Cc.HB r;exact λr=>r
 |cons p ds ih=>intro kvs es r';refine Du (Cc.Bp r) ?_;rintro v Wv rfl a b;exact ih b (IS r' a)
theorem LJ{B:Sem α}{fp:CG}{cd:Cx}{e1:Expr}{d:Addr}{kvs:Di}{es1:B4}{Q:α->Shared->Prop}(F:Fr cd J s.heap)(off:Off cd d)(x:Ev cd J e1 (.dict es1))(hl:kvs.length<=60)(h1:es1.length<=20)(hd:s.heap.DictOf (KS cd.w) d kvs)(r:Cc cd.X cd.w s.heap kvs es)(q:∀gq h' tk,Fr cd J h'->Bu (·=d) s.heap h'->h'.DictOf (KS cd.w) d gq->Cc cd.X cd.w h' gq (DC es es1)->wpAny (model prog cd.w) cd.A B Q E {s with heap:=h',toks:=tk}) :
  wpAny (model prog cd.w) cd.A (do
   let m <- holding [Value.ref d] do
    let x <- eval e1 cd.env;standAt pos;pure x
   (((holding [Value.ref d,m] (mergeMapping d m false)).onRaise λx_2=>do
         let _ <- holding [Value.ref d,m,x_2] (runValue (Code.builtin "proto.let_go" {}));pure ()).tryCatch
       λe=>do
       let __do_lift <- isInstance e (Value.type "AttributeError");if __do_lift=true then do
         rule "dict.display.not-a-mapping"
         let __do_lift <- PySem.typeNameOf m;raiseErrorMade "TypeError"
           (toString "'"++toString __do_lift++toString "' object is not a mapping")
         throw e
        else throw e).onRaise
     λx_2=>do
     let _ <- holding [Value.ref d,x_2] (runValue (Code.builtin "proto.let_go" {}));pure ()
   B) Q E s:=by
 refine wpAny_bind (wpAny_holding (wpAny_bind (x s F _ _ λv h2 t2 l2 r2=>wpAny_bind (wpAny_standAt (wpAny_pure ?_)))));have E6:Le s.heap h2:=l2;refine V8 (B9.Iv r2) ?_;rintro a uq rfl nx nt ns p r2;have F2:=F.le E6;have Pm:d≠TP:=λz=>F.Ck.nt (z▸off.1);have Jo:h2.DictOf (KS cd.w) d kvs:=C2 hd λo e=>E6.keep _ o Pm id e;have Hl:a≠d:=λz=>nx (z▸off.1);have Ou:=Cc.length r2;refine wpAny_bind (wpAny_onRaise (wpAny_tryCatch (wpAny_onRaise (wpAny_holding (Ho (s:={s with heap:=h2,toks:=t2}) Jo p Hl ns (lb hl rfl) (Je Ou h1 rfl) λh3 al s3=>?_)))));refine V9 (id Jo) ?_;intro od V V ed V dd V;refine Ju (id al) ?_;intro o3 V V e3 V;have l3:Bu (·=d) h2 h3:=Cp s3 _ e3 Pm (Cd.at ed (Cd.dict dd));have mv:∀b o,¬cd.X b->b≠TP->h2.get? b=some o->h3.get? b=some o/\¬cd.X b:=DR l3 λb z=>z▸off.1;exact q _ h3 t2 (F2.off l3 λb z=>z▸off) (Bu.trans E6.to l3) al (Tn (r2.move mv) ((r.le E6).move mv))
theorem Ev.bR{e1 e2:Expr}{es1 es2:B4}(x:∀fp,Ev (c.plus fp) J e1 (.dict es1))(y:∀fp,Ev (c.plus fp) J e2 (.dict es2))(h1:es1.length<=20)(h2:es2.length<=20):Ev c J (.Dict [none,none] [e1,e2] pos) (.dict (DC (DC [] es1) es2)):=λs F Q E q=>by
 rw[arm_eval_Dict];refine wpAny_bind (wpAny_standAt ?_);show wpAny _ _ (dictDisplay [(none,do let x <- eval e1 c.env;standAt pos;pure x),(none,do let x <- eval e2 c.env;standAt pos;pure x)]) _ _ _;unfold dictDisplay;simp only[List.forIn_cons,List.forIn_nil,List.isEmpty_nil,if_true,pure_bind,bind_assoc];refine wpAny_bind (wpAny_alloc ?_);have l1:Le s.heap (s.heap.push {cls:=.type "dict",data:=.dict #[]}):=Le.push _ _;have dE:(s.heap.push {cls:=.type "dict",data:=.dict #[]}).get? s.heap.objs.size=some {cls:=.type "dict",data:=.dict #[]}:=AH _ rfl;have n1:=Bn s.heap;have b1:=B7 F.base;generalize hd:s.heap.objs.size=d at *;have F1:Fr (c.plus (·=d)) J (s.heap.push {cls:=.type "dict",data:=.dict #[]}):=F.plus l1 λb z=>by have z':b=d:=z;rw[z'];exact⟨n1,b1,_,dE⟩
 have off:Off (c.plus (·=d)) d:=(F.new n1 b1).off rfl;have l0:∀ {h3},Bu (·=d) s.heap h3->Le s.heap h3:=λl=>l.fresh λb z=>.inr (by rw[z];exact n1);refine(LJ (cd:=c.plus (·=d)) (fp:=Hw) (kvs:=[]) (es:=[]) (s:={s with heap:=s.heap.push {cls:=.type "dict",data:=.dict #[]},toks:=s.toks}) F1 off (x _) (Al _) h1 (C4 dE) .nil λuo uc t2 F2 l2 Jo r2=>?_);have MA:uo.length<=40:=by
  have a1:=Cc.length r2;have a2:=Iy es1 [];simp at a2;exact Je a1 (AD a2 h1) rfl
 refine(LJ (cd:=c.plus (·=d)) (fp:=Hw) (s:={s with heap:=uc,toks:=t2}) F2 off (y _) (lb MA rfl) h2 Jo r2 λuq h3 t3 F3 l3 al r3=>?_);have ns:(d==sysModules)=false:=by
  rw[Av];intro z;rw[z]at b1;exact absurd b1 (by decide)
 refine wpAny_pure (q _ h3 t3 (l0 (Bu.trans l1.to (Bu.trans l2 l3))) (.dict (λz=>?_) (Cq b1) ns al (r3.move (Ce λb z=>.inl z))));obtain⟨_,o,e⟩:=F.Ck d z;rw[n1]at e;cases e
def Stop(p:Prop):Prop:=p
theorem Ht{M:Model}{k:Str}{Q:EU}(h:Stop (wpAny M A (nsSet a k v) Q E s)):wpAny M A (nsSet a k v) Q E s:=h
theorem Mn{k:Str}{kvs:Di}{Q:EU}(hm:s.heap.DictOf (KS w) a kvs)(hn:k∉kvs.map (·.1))(hQ:∀h',h'.DictOf (KS w) a (kvs++[(k,v)])->Heap.SameBut a s.heap h'->Q () {s with heap:=h',toks:=s.toks+1}):wpAny (model prog w) A (nsSet a k v) Q E s:=λΓ p hΓ=>by
 refine Zh hm ?_;clear hm;intro o es ep ho hc hd hk hp j1;simp -iota only[nsSet,strHash,Sem.wp_bind',Sem.wp_cmd_ask,Sem.wp_pure',Sem.wp_cmd_mkText];rw[Sem.wp_loadPart_of _ Γ (λe x s'=>E e s') p {s with toks:=s.toks+1} (o:=o) _ ho];have key:∀e∈es,∃x t,e.key=.str x t:=λe he=>by
  refine Bi (hk e he) ?_;intro x hx V;refine B6 (Value.isStrOf_shape (by exact hx)) ?_;intro t et;exact⟨x,t,et⟩
 have Oe:es.any (·.refKey)=false:=by
  rw[Array.any_eq_false'];intro e he;refine MC (key e he) ?_;intro n t h;simp -iota[DictEntry.refKey,h]
 have hi:es.findIdx? (·.key.isStr k)=none:=by
  rw[Array.findIdx?_eq_none_iff];intro e he;refine MC (key e he) ?_;intro x t hx;rw[hx];have:x∈kvs.map (·.1):=by
   have ZT:e∈es.toList:=by simpa using he
   clear Oe j1 hn hk hd hQ;generalize es.toList=l at hp ZT;induction hp with
   |nil=>cases ZT
   |cons a1 a2 a3 ih=>
    rcases AJ.mp ZT with rfl|ZT
    .refine B6 (Value.isStrOf_shape (by exact a1)) ?_;intro t' et;rw[hx]at et;cases et;exact .head _
    .exact .tail _ (ih ZT)
  have Hl:x≠k:=λz=>hn (z▸this);show(x==k)=false;simpa using Hl
 simp only[hd,aRefKeyMayBeTheName_eq,aRefKeyMayBeTheNameByArray,Oe,Bool.and_false,AR,if_false,Sem.wp_cmd_updatePart];refine⟨by rw[ho];rfl,hQ _ ?_ (Heap.SameBut.update ..)⟩;obtain⟨cl,d,dt,sl⟩:=o;dsimp only at hd;subst hd;have bH:(KS w).is k (.str k s.toks)=true:=DL w k _;refine⟨_,_,ep+1,BJ _ ho (by simp -iota only[Obj.putName_eq,Obj.putNameByArray,hi];rfl),?_,by simp -iota only[Obj.putName_eq,Obj.putNameByArray,hi];rfl,hk.push bH _,?_,?_⟩
 .simp -iota only[Obj.putName_eq,Obj.putNameByArray,hi];exact hc
 .have:=hp.append bH ((KS w).hash k) v;obtain⟨l⟩:=es;simpa using this
 .rw [Af,List.nodup_append];refine⟨j1,by simp,λa ha b hb=>?_⟩;simp -iota only[AI,List.map_nil,AG]at hb;subst hb;exact λe=>hn (e▸ha)
noncomputable abbrev Km:Value:=.str (Str.ofString "cpy313.xml.etree.ElementTree") 582
theorem ZL:CA 202 (Ba 14) (S "SubElement") 201 (.ref 195) Km:=⟨λP=>rfl,λP=>⟨_,_,_,rfl,rfl,rfl⟩,rfl,rfl,rfl⟩
theorem Wf{v1 v2 v3 v4 v5:Value}{Q:List (Str×Value)->Shared->Prop}(B:CW w s.heap)(q:∀h1 tk a,Le s.heap h1->s.heap.get? a=none->306<=a->h1.DictOf (KS w) a [(S "way",v4),(S "above",v5)]->Q [(S "parent",v1),(S "tag",v2),(S "attrib",v3),(S "extra",.ref a)] {s with heap:=h1,toks:=tk}) :
  wpAny (model prog w) A (bindArgs (EW (Ba 14) (S "SubElement") (.ref 195) Km (.ref 201)) ⟨[v1,v2,v3],[(S "way",v4),(S "above",v5)]⟩) Q E s:=by
 obtain⟨h,g,d,tk,os⟩:=s;have e:=B.k 195 _ rfl;have na:h.get? h.objs.size=none:=Bn h;have ba:=B7 B;have ea:(h.push {cls:=.type "dict",data:=.dict #[]}).get? h.objs.size=some {cls:=.type "dict",data:=.dict #[]}:=AH _ rfl;have la:Le h (h.push {cls:=.type "dict",data:=.dict #[]}):=Le.push _ _;have da:(h.push {cls:=.type "dict",data:=.dict #[]}).DictOf (KS w) h.objs.size []:=C4 ea;unfold bindArgs;repeat(first|with_reducible refine Ht ?_|with_reducible_and_instances refine wpAny_pure ?_|with_reducible_and_instances refine wpAny_bind ?_|wp_delta|wp_step)
 refine Mn (s:=⟨h.push {cls:=.type "dict",data:=.dict #[]},g,d,tk,os⟩) da (by simp) λh1 d1 s1=>?_;repeat(first|with_reducible refine Ht ?_|with_reducible_and_instances refine wpAny_pure ?_|with_reducible_and_instances refine wpAny_bind ?_|wp_delta|wp_step)
 refine Mn (s:=⟨h1,g,d,tk+1,os⟩) d1 (show ¬S "above"∈[S "way"]by decide) λh2 d2 s2=>?_;repeat(first|with_reducible refine Ht ?_|with_reducible_and_instances refine wpAny_pure ?_|with_reducible_and_instances refine wpAny_bind ?_|wp_delta|wp_step)
 refine q h2 (tk+1+1) h.objs.size (Le.of λb o eb=>?_) na ba d2;have nb:b≠h.objs.size:=λz=>Aa _ (z▸Ag eb);exact s2.extBut _ _ nb (s1.extBut _ _ nb (AO _ eb))
theorem T5{f:Addr}{dd:Option Addr}{name:Str}{pl:Sem Bool}{Q:Value×List Value->Shared->Prop}(I:Gq s.heap f dd m)(hv:m name=some (.ref a))(hB:typeLookup (.type "function") name=pure none)(q:Q (.ref a,[]) {s with toks:=s.toks+1}):wpAny (model prog w) A (getMethod (.ref f) name pl) Q E s:=by
 obtain⟨h,g,d,tk,os⟩:=s;refine EJ (id I) ?_;intro o e1 e2 V;have hT:(⟨h,g,d,tk,os⟩:Shared).TypeIs (.ref f) "function":=⟨o,e1,e2⟩
 have mz:=PySem.F.canon_object_ga;unfold getMethod specialOf;refine wpAny_bind (wpAny_bind (wpAny_typeOf hT (wpAny_of_eq VA ?_)));dsimp only;rw[mz,if_neg (by decide)];refine wpAny_bind (wpAny_bind (wpAny_typeOf hT (wpAny_of_eq fN ?_)));rw[if_neg (by simp)];refine wpAny_bind (wpAny_bind (wpAny_typeOf hT (wpAny_of_eq hB ?_)));exact wpAny_bind (GL hB I.kX hv (Kz _) (wpAny_pure q))
theorem Kb{name:Str}{apos:Pos}{args:Cy}{QT:List Keyword}{f:Addr}(a:Ev c J o (.obj (.ref f)))(F:Fr c J s.heap)(hB:typeLookup (.type "function") name=pure none)(hI:∀h,Fr c J h->∃dd m g,Gq h f dd m/\m name=some (.ref g))(hb:attributeBase o name c.env (eval o c.env)=eval o c.env)(Dw:((backTo pos (starEach args c.env)).all (λx=>!x.1)&&(backToKw pos (keywordEach QT c.env)).all (λx=>x.1.isSome)
   && decide (args.length+QT.length+(if(backToKw pos (keywordEach QT c.env)).isEmpty then 0 else 1)<30))=true)(hl:(apos.endLine==pos.line)=true)(y:∀s1 g dd m,Fr c J s1.heap->Le s.heap s1.heap->s1={s with heap:=s1.heap,toks:=s1.toks}->Gq s1.heap f dd m->m name=some (.ref g)->∃og fd,og.data=.func fd/\wpAny (model prog c.w) c.A (evalArgs (.ref g) true (backTo pos (starEach args c.env)) (backToKw pos (keywordEach QT c.env))) (λv s2=>s2.heap.get? g=some og/\wpAny (model prog c.w) c.A (call (.ref g) v.pos v.kw) Q E s2) E s1) :
  wpAny (model prog c.w) c.A (eval (.Call (.Attribute o name apos) args QT pos) c.env) Q E s:=by
 rw[arm_eval_Call,hb];refine wpAny_bind (a s F _ _ λv h1 t1 l1 r1=>?_);cases r1;have F1:Fr c J h1:=F.le l1;refine wpAny_bind (wpAny_standAt ?_);have VZ:methodCallForm (args.length+QT.length) (backTo pos (starEach args c.env)) (backToKw pos (keywordEach QT c.env))=true:=Dw;have QN:methodCallPos true o c.env apos pos=pure pos:=by unfold methodCallPos;simp[hl]
 unfold methodCall;rw[VZ];refine Ju (hI _ F1) ?_;intro dd m g I hv;refine wpAny_bind (wpAny_holding (T5 (s:={s with heap:=h1,toks:=t1}) I hv hB ?_));refine wpAny_bind (wpAny_of_eq QN ?_);refine Fq (y {s with heap:=h1,toks:=t1+1} g dd m F1 l1 rfl I hv) ?_;intro og fd ed z;exact callWith_function_kw (o:=og) (fd:=fd) (wpAny_mono z (λv s2 z=>⟨⟨z.1,ed⟩,z.2⟩) λV V z=>z)
theorem JW{name:Str}{apos:Pos}{es:Cy}{f:Addr}(a:Ev c J o (.obj (.ref f)))(ya:FQ c J (e::es) ds)(F:Fr c J s.heap)(hB:typeLookup (.type "function") name=pure none)(hI:∀h,Fr c J h->∃dd m g,Gq h f dd m/\m name=some (.ref g)/\g≠TP/\∃og fd,h.get? g=some og/\og.data=.func fd)(he:starEach (e::es) c.env=(false,eval e c.env)::starEach es c.env)(hb:attributeBase o name c.env (eval o c.env)=eval o c.env)(Dw:((backTo pos (starEach (e::es) c.env)).all (λx=>!x.1)&&(backToKw pos (keywordEach [] c.env)).all (λx=>x.1.isSome)
   && decide ((e::es).length+([]:List Keyword).length+(if(backToKw pos (keywordEach [] c.env)).isEmpty then 0 else 1)<30))=true)(hl:(apos.endLine==pos.line)=true)(y:∀s2 g vs dd m,Fr c J s2.heap->Le s.heap s2.heap->s2={s with heap:=s2.heap,toks:=s2.toks}->Gq s2.heap f dd m->m name=some (.ref g)->Bf c.X c.w s2.heap vs ds->wpAny (model prog c.w) c.A (call (.ref g) vs) Q E s2)(nf:f≠TP)(nd:∀X h dd m,c.G.P c.w X h->Gq h f (some dd) m->dd≠TP) :
  wpAny (model prog c.w) c.A (eval (.Call (.Attribute o name apos) (e::es) [] pos) c.env) Q E s:=by
 refine Kb a F hB (λh z=>by refine Mo (hI h z) ?_;intro dd m g i e V;exact⟨dd,m,g,i,e⟩) hb Dw hl λs1 g dd m F1 l1 e1 I hv=>?_;obtain⟨aL,m',g',I',bI,ng,og,fd,eg,ed⟩:=hI _ F1;have gg:g'=g:=by
  refine XA I ?_;clear I;intro o1 a1 a2 a3 a4 a5;refine XA I' ?_;clear I';intro o2 b1 b2 b3 b4 b5;rw[a1]at b1;cases b1;rw[a4]at b4;subst b4;cases dd with
  |none=>rw[a5]at hv;cases hv
  |some d=>
   have:=Nt a5.2.ns b5.2.ns name;rw[hv,bI]at this;cases this;rfl
 subst gg;refine⟨og,fd,ed,?_⟩;rw[he];refine PySem.Calls.evalArgs_plain ?_;have z:=ya pos s1 F1 (λvs s2=>s2.heap.get? g'=some og/\wpAny (model prog c.w) c.A (call (.ref g') vs []) Q E s2) E (λvs h2 t2 l2 r2=>?_)
 .rw [he]at z;exact z
 have E6:Le s1.heap h2:=l2;have F2:=F1.le E6;refine⟨E6.keep _ _ ng id eg,?_⟩;refine y {s1 with heap:=h2,toks:=t2} g' vs dd m F2 (Bu.trans l1 E6) (by rw[e1]) (I.Nl E6 nf id λd e=>⟨?_,id⟩) hv r2;subst e;exact nd _ _ d m F1.g I
theorem Ps{apos:Pos}{l:Addr}(hG:c.G=Bl l ds)(hz:ds.length<=1000000)(a:Ev c J o (.obj (.ref l)))(y:Ev c J e d)(F:Fr c J s.heap)(he:autoParam (D9 c e []) Bd)(hb:autoParam (attributeBase o "append" c.env (eval o c.env)=eval o c.env) Bd)(Dw:autoParam (((backTo pos (starEach [e] c.env)).all (λx=>!x.1)&&(backToKw pos (keywordEach [] c.env)).all (λx=>x.1.isSome)&&decide ([e].length+([]:List Keyword).length+(if([]:List Keyword).isEmpty then 0 else 1)<30))=true) Bd)(hl:autoParam (J8 apos pos) Bd) :
  Run c.w c.A (·=l) (eval (.Call (.Attribute o "append" apos) [e] [] pos) c.env) s λv h'=>(Bl l (ds++[d])).P c.w c.X h':=λQ E q=>
 wpAny_Call_method_lateS hb Dw hl (a s F _ _ λv h1 t1 l1 r1=>by
  cases r1;have F1:Fr c J h1:=F.le l1;have g1:=F1.g;rw[hG]at g1;refine EJ g1 ?_;clear g1;intro vs pl rr nt;refine B6 (id pl) ?_;intro n0 e0;refine⟨"list","list.append",PySem.F.plainAttrs_list,slot_list_append,PySem.F.type_list_append,⟨_,e0,rfl⟩,(λa' e=>by cases e;exact⟨_,e0,rfl⟩),?_⟩;refine BI (wpAny_items_cons (y {s with heap:=h1,toks:=t1} F1 _ _ λv h2 t2 l2 r2=>wpAny_items_nil ?_) he) he rfl;have E6:Le h1 h2:=l2;have F2:Fr c J h2:=F1.le E6;have g2:=F2.g;rw[hG]at g2;refine EJ g2 ?_;clear g2;intro UA Td Yn V;have Nb:=Yn.length;refine wpAny_list_append_plain Td (λh3 p3 s3=>?_) (by rw[AY,sizeLine_eq];exact Je Nb hz rfl);refine B6 (id p3) ?_;intro n3 e3;have l3:Bu (·=l) h2 h3:=Cp s3 _ e3 nt (by refine B6 Td ?_;clear Td;intro V e;exact Cd.at e (Cd.seq rfl));have lx:c.X l:=(F2.gx l (by rw[hG];exact rfl)).1.1;refine q _ h3 t2 (Bu.trans (Le.to (Bu.trans l1 E6)) l3) ⟨UA++[v],?_,(Yn.append (.cons r2 .nil)).move (DR l3 λb z=>z▸lx),nt⟩;exact⟨n3,by rw[e3];simp⟩)
theorem Lx.vC{t:Th}{fa fi ck ct:Addr}{tk:Tok}{av:Value}{ks:List Addr}(x:Lx w X h t fa fi ck ct tk av m)(k:∀b o,(b=t.dd\/¬X b\/Cd o)->b≠TP->h.get? b=some o->h'.get? b=some o/\(¬X b->¬X' b))(p:h'.PlainList t.ka (ks.map λa=>Value.ref a).toArray):Lx w X' h' {t with kids:=ks} fa fi ck ct tk av m:=by
 have kx:∀ {a:Addr}{o:Obj},¬X a->a≠TP->h.get? a=some o->h'.get? a=some o/\¬X' a:=λ{a o} n t e=>by refine CC (k a o (.inr (.inl n)) t e) ?_;intro p q;exact⟨p,q n⟩
 have kc:∀b o,b≠TP->h.get? b=some o->Cd o->h'.get? b=some o:=λb o n e z=>(k b o (.inr (.inr z)) n e).1;have lm:∀ {f params body scope cl},(¬X f/\f≠TP)/\Ds h f params body scope cl->(¬X' f/\f≠TP)/\Ds h' f params body scope cl:=λ{f params body scope cl} zz=>CC zz λir L=>CC ir λn1 n2=>by
  refine kJ L.ex ?_;intro o V V V e V;exact⟨⟨(kx n1 n2 e).2,n2⟩,L.at (λo e=>(kx n1 n2 e).1) kc⟩
 have ce:∀ {a v},(¬X a/\a≠TP)/\h.IsCell a v->(¬X' a/\a≠TP)/\h'.IsCell a v:=λ{a v} zz=>CC zz λiu i=>CC iu λn1 n2=>by
  refine Bi i ?_;clear i;intro o e d;exact⟨⟨(kx n1 n2 e).2,n2⟩,o,(kx n1 n2 e).1,d⟩
 refine⟨?_,x.nd,x.nk,x.fn.keep (λo e=>(kx x.nf.1 x.nf.2 e).1) (λd e o e2=>?_),x.ms,x.av.move λb o n t e=>kx n t e,p,lm x.ap,lm x.it,ce x.ck,ce x.ct⟩
 .refine Bi x.fn.at ?_;intro o e V;exact⟨(kx x.nf.1 x.nf.2 e).2,x.nf.2⟩
 .cases e;exact(k _ o (.inl rfl) x.nd e2).1
noncomputable def CX(L:C0)(tag:Nat)(kf:Addr):List Th:=L.map λt=>if t.tag=tag then{t with kids:=t.kids++[kf]}else t
theorem Im(L:C0)(tag:Nat)(kf b:Addr):(Bm (CX L tag kf)).fp b↔(Bm L).fp b:=by
 constructor
 .intro Cr;refine Bi Cr ?_;intro t ht z;refine Bi (AF.mp ht) ?_;rintro t0 h0 rfl;refine⟨t0,h0,?_⟩;split at z<;>exact z
 .intro Dv;refine Bi Dv ?_;intro t ht z;refine⟨_,Ab ht,?_⟩;split<;>exact z
theorem QD{L:C0}(nd:(L.flatMap λt=>[t.dd,t.ka]).Nodup){t p:Th}(ht:t∈L)(hp:p∈L)(ne:t≠p):t.dd≠p.ka/\t.ka≠p.ka:=by
 induction L with
 |nil=>cases ht
 |cons x L ih=>
  rw[AX,List.nodup_append]at nd;refine FP nd ?_;clear nd;intro n1 n2 n3;rcases AJ.mp ht with e1|h1
  .rcases AJ.mp hp with e2|h2
   .exact absurd (e1.trans e2.symm) ne
   .subst e1;have m:p.ka∈L.flatMap λt=>[t.dd,t.ka]:=Am.mpr ⟨p,h2,by simp⟩;exact⟨n3 _ (by simp) _ m,n3 _ (by simp) _ m⟩
  .rcases AJ.mp hp with e2|h2
   .subst e2;have m1:t.dd∈L.flatMap λt=>[t.dd,t.ka]:=Am.mpr ⟨t,h1,by simp⟩;have m2:t.ka∈L.flatMap λt=>[t.dd,t.ka]:=Am.mpr ⟨t,h1,by simp⟩;exact⟨(n3 _ (by simp) _ m1).symm,(n3 _ (by simp) _ m2).symm⟩
   .exact ih n2 h1 h2
theorem VB{L:C0}(nd:(L.flatMap λt=>[t.dd,t.ka]).Nodup){p:Th}(hp:p∈L):p.dd≠p.ka:=by
 induction L with
 |nil=>cases hp
 |cons x L ih=>
  rw[AX,List.nodup_append]at nd;rcases AJ.mp hp with rfl|hp
  .have:=nd.1;simpa using this
  .exact ih nd.2.1 hp
theorem Yx{L:C0}(nt:(L.map (·.tag)).Nodup){t p:Th}(ht:t∈L)(hp:p∈L)(e:t.tag=p.tag):t=p:=by
 induction L with
 |nil=>cases ht
 |cons x L ih=>
  rw[AI,List.nodup_cons]at nt;rcases AJ.mp ht with e1|h1
  .rcases AJ.mp hp with e2|h2
   .exact e1.trans e2.symm
   .subst e1;exact absurd (AF.mpr ⟨p,h2,e.symm⟩) nt.1
  .rcases AJ.mp hp with e2|h2
   .subst e2;exact absurd (AF.mpr ⟨t,h1,e⟩) nt.1
   .exact ih nt.2 h1 h2
theorem Xs{L:C0}{p:Th}{kf:Addr}(g:(Bm L).P w X h)(gx:∀b,(Bm L).fp b->X b)(nt:(L.map (·.tag)).Nodup)(hp:p∈L)(l:Bu (·=p.ka) h h')(pl:h'.PlainList p.ka ((p.kids++[kf]).map λa=>Value.ref a).toArray):(Bm (CX L p.tag kf)).P w X h':=by
 refine CC g ?_;clear g;intro g1 nd;have px:X p.ka:=gx _ ⟨p,hp,.inr rfl⟩;refine⟨λt ht=>?_,?_⟩
 .refine Bi (AF.mp ht) ?_;rintro t0 h0 rfl;refine Mp (g1 t0 h0) ?_;intro fa fi ck ct tk av m z;by_cases e:t0.tag=p.tag
  .have e0:=Yx nt h0 hp e;subst e0;rw[if_pos rfl];refine⟨fa,fi,ck,ct,tk,av,m,z.vC (λb o q n e=>⟨l.at n e λy=>?_,id⟩) pl⟩;have y':b=t0.ka:=y;rcases q with q|q|q
   .exact absurd (q.symm.trans y') (VB nd h0)
   .exact absurd (y'▸px) q
   .exact q
  .rw [if_neg e];have ne:t0≠p:=λz=>e (z▸rfl);refine CC (QD nd h0 hp ne) ?_;intro a1 a2;refine⟨fa,fi,ck,ct,tk,av,m,z.mv λb o q n e=>⟨l.at n e λy=>?_,id⟩⟩;have y':b=p.ka:=y;rcases q with q|q|q|q
   .exact absurd (q.symm.trans y') a1
   .exact absurd (q.symm.trans y') a2
   .exact absurd (y'▸px) q
   .exact q
 .have e:(CX L p.tag kf).flatMap (λt=>[t.dd,t.ka])=L.flatMap λt=>[t.dd,t.ka]:=by
   unfold CX;rw[List.flatMap_map];congr 1;funext t;split<;>rfl
  rw[e];exact nd
noncomputable def oD(l:List Addr):List D:=l.map λa=>D.obj (.ref a)
theorem Ms:∀l:List Addr,Bf X w h (l.map λa=>Value.ref a) (oD l):=by
 intro l;induction l with
 |nil=>exact .nil
 |cons a l ih=>exact .cons (.obj _) ih
theorem WL:∀ {l:List Addr}{vs:DW},Bf X w h vs (oD l)->vs=l.map λa=>Value.ref a:=by
 intro l;induction l with
 |nil=>exact Bf.HB
 |cons a l ih=>intro vs r;refine Du (Bf.Bp r) ?_;rintro V V rfl a b;cases a;exact congrArg _ (ih b)
theorem XH(ok:E9 (k+1) A)(B:CW w s.heap)(xk:FU X s.heap){p:Th}{fa fi ck ct:Addr}{tk:Tok}{av:Value}(z:Lx w X s.heap p fa fi ck ct tk av m)(px:X p.ka)(hk:p.kids.length<=1000){kf:Addr} :
  Run w A (·=p.ka) (call (.ref fa) [.ref kf]) s λv h'=>h'.PlainList p.ka ((p.kids++[kf]).map λa=>Value.ref a).toArray:=by
 have g:(Bl p.ka (oD p.kids)).P w X s.heap:=⟨_,z.kids,Ms _,z.nk⟩
 have ck_ka:ck≠p.ka:=λe=>z.ck.1.1 (e▸px);refine Run.imp (Ro (k:=k) ok z.ap.2 B xk (G:=Bl p.ka (oD p.kids)) g (λb y=>by have y':b=p.ka:=y;rw[y'];exact px) (names:=[S "kid"]) (ds:=[.obj (.ref kf)]) (Jf:=[(S "kids",.obj (.ref p.ka))]) (.cons (.obj _) .nil) (λpm cv ct=>by rfl) rfl (by decide) (λy hy=>?_) (λy hy=>?_) rfl rfl rfl (λy hy=>?_) (λy a e=>?_) (λx y a e e'=>?_) (λy d my=>?_) (Post:=λv h'=>(Bl p.ka (oD p.kids++[.obj (.ref kf)])).P w X h') (λc FA s1 F=>?_)) λv h' l p'=>?_
 .rw [AG.mp hy];rfl
 .rw [AG.mp hy];exact⟨by decide,by decide⟩
 .have YC:y∈[(S "kid",NameKind.local),(S "kids",NameKind.free)]:=hy;simp only[AJ,An,or_false]at YC;rcases YC with rfl|rfl<;>(intro e;cases e)
 .have:=lookup_mem e;simp only[AJ,An,or_false]at this;cases this;exact⟨z.ck.1.2,⟨_,z.ck.2⟩,λy=>ck_ka y⟩
 .have h1:=lookup_mem e;have h2:=lookup_mem e';simp only[AJ,An,or_false]at h1 h2;cases h1;cases h2;rfl
 .simp only[AJ,An,or_false]at my;cases my;exact⟨⟨by decide,by decide⟩,rfl,ck,_,rfl,z.ck.2,.obj _⟩
 .have E:=FA.env;have hG:c.G=Bl p.ka (oD p.kids):=FA.hG;have r:=Ps (c:=c) (J:=[(S "kid",.obj (.ref kf)),(S "kids",.obj (.ref p.ka))]) (o:=.Name (S "kids") ⟨248,31,248,35⟩) (e:=.Name (S "kid") ⟨248,43,248,46⟩) (apos:=⟨248,31,248,42⟩) (pos:=⟨248,31,248,47⟩) hG (by unfold oD;rw[AA];exact lb hk rfl) Ev.n Ev.n (s:=s1) F;refine Run.imp r λv h' l p'=>?_;have p2:(Bl p.ka (oD p.kids++[.obj (.ref kf)])).P w c.X h':=by rw[<- FA.hw];exact p'
  exact Res.CD p2 FA.hX
 .refine EJ p' ?_;clear p';intro vs pl rr V;have e1:oD p.kids++[D.obj (.ref kf)]=oD (p.kids++[kf]):=by unfold oD;rw[Af];rfl
  rw[e1]at rr;rw[WL rr]at pl;exact pl
theorem FL{t:Th}(z:Ly w X h t):∃m fa fi ck ct tk av,Lx w X h t fa fi ck ct tk av m:=by refine Mp z ?_;clear z;intro fa fi ck ct tk av m z;exact⟨m,fa,fi,ck,ct,tk,av,z⟩
theorem IA{f:Addr}{dd aL:Option Addr}{m':Hx}(I:Gq h f dd m)(I':Gq h f aL m'):dd=aL/\m=m':=by
 refine XA I ?_;clear I;intro o1 a1 a2 a3 a4 a5;refine XA I' ?_;clear I';intro o2 b1 b2 b3 b4 b5;rw[a1]at b1;cases b1;rw[a4]at b4;subst b4;refine⟨rfl,?_⟩;cases dd with
 |none=>funext y;rw[a5 y,b5 y]
 |some d=>funext y;exact Nt a5.2.ns b5.2.ns y
theorem Ex.CX{apos GF:Pos}{L:C0}{p:Th}{kf:Addr}{G':Res}(ro:¬c.ro)(nt:(L.map (·.tag)).Nodup)(hp:p∈L)(YA:p.kids.length<=1000)(u:Upd c.G (Bm L) (Bm (Mine.CX L p.tag kf)) G')(a:Ev c J o (.obj (.ref p.f)))(y:Ev c J e (.obj (.ref kf)))(hk:1<=c.k)(hint:interactive c.env=false)(he:autoParam (D9 c e []) Bd)(hb:autoParam (attributeBase o "append" c.env (eval o c.env)=eval o c.env) Bd)(Dw:autoParam (((backTo pos (starEach [e] c.env)).all (λx=>!x.1)&&(backToKw pos (keywordEach [] c.env)).all (λx=>x.1.isSome)&&decide ([e].length+([]:List Keyword).length+(if(backToKw pos (keywordEach [] c.env)).isEmpty then 0 else 1)<30))=true) Bd)(hl:autoParam (J8 apos pos) Bd)(hs:autoParam (swapsWith (.Call (.Attribute o "append" apos) [e] [] pos) none GF.line c.env=pure false) Bd) :
  Ex c J (.Expr (.Call (.Attribute o "append" apos) [e] [] pos) GF) (Fr (c.on c.X G') J) R:=λs F Q E n r=>by
 have gF:=u.has _ _ _ F.g;refine Mp (FL (gF.1 p hp)) ?_;intro m0 V V V V V V z0;refine wpAny_Expr_any (JW (ds:=[.obj (.ref kf)]) a (.cons y .nil he) F U9 (λh Fh=>?_) he hb Dw hl (λs2 g vs dd m F2 l2 e2 I hv rv=>?_) z0.nf.2 λX h dd m g I=>?_) hint hs
 .refine Mp (FL ((u.has _ _ _ Fh.g).1 p hp)) ?_;intro m fa fi ck ct tk av z;refine Yb z.ap.2.ex ?_;intro og pm cv pQ e1 e2 e3 V;exact⟨_,m,fa,z.fn,z.ms.ap,z.ap.1.2,og,_,e1,e3⟩
 .refine Du (Bf.Bp rv) ?_;rintro V V rfl r1 r2;cases r1;cases r2;have g2:=u.has _ _ _ F2.g;refine Mp (FL (g2.1 p hp)) ?_;intro m' fa fi ck ct tk av z;refine CC (IA I z.fn) ?_;intro V em;rw[em,z.ms.ap]at hv;cases hv;have px:c.X p.ka:=(F2.gx p.ka (u.fp _ ⟨p,hp,.inr rfl⟩)).1.1;have gx:∀b,(Bm L).fp b->c.X b:=λb y=>(F2.gx b (u.fp _ y)).1.1;refine XH (k:=0) (F2.ok.CD hk) F2.base F2.Ck z px YA _ _ λv h3 t3 l3 pl=>?_;rw[e2];refine n h3 t3 (F2.upd ro u (l3.any λb y=>?_) (Xs g2 gx nt hp l3 pl));have y':b=p.ka:=y;exact⟨p,hp,.inr y'⟩
 .refine Mp (FL ((u.has _ _ _ g).1 p hp)) ?_;intro m' fa fi ck ct tk av z;refine CC (IA I z.fn) ?_;intro e V;cases e;exact z.nd
theorem MX{f:Addr}{st:Stmt}{qual:Str}{code:Addr}{dflt mod:Value}(fd:CA f st qual code dflt mod)(ok:E9 (k+1) A)(B:CW w s.heap)(xk:FU X s.heap){G:Res}(g:G.P w X s.heap)(gx:∀b,G.fp b->X b){names:B3}{Ww:DW}{kw:Di}(hb:∀(Q:List (Str×Value)->Shared->Prop) (E:CH),(∀h1 tk vs,Le s.heap h1->Bf X w h1 vs ds->names.length=vs.length->Q (names.zip vs) {s with heap:=h1,toks:=tk})->wpAny (model prog w) A.in1 (bindArgs (EW st qual dflt mod (.ref code)) ⟨Ww,kw⟩) Q E s)(ck:DZ (BY st) names){Post:Ct}(body:∀c h0,Le s.heap h0->FnAt c w (BY st) k X G h0->Be c (names.zip ds) [Bt st] (FT G h0 Post .none) (FT G h0 Post)):Run w A G.fp (call (.ref f) Ww kw) s Post:=λQ E q=>by
 refine wpAny_call ?_;have ho:=B.k _ _ (fd.here w.params);refine Mo (fd.code w.params) ?_;intro oc vc tc ec dc qc;refine A7 (o:=Eu st qual dflt mod (.ref code)) (fd:=EW st qual dflt mod (.ref code)) ok.room ho rfl fd.plain.1 fd.plain.2 rfl ⟨code,oc,vc,tc,rfl,B.k _ _ ec,dc,qc⟩ ?_;refine hb _ _ λh1 tk vs l1 r1 hl=>?_;exact NR (s:={s with heap:=h1,toks:=tk}) fd ok (B.le l1 λV z=>z.elim) (xk.le l1) (G:=G) (G.mv g λb o z nt e=>⟨l1.keep b o nt id e,id⟩) gx r1 hl ck (λc F=>body c h1 l1 F) λa h' t l p=>q a h' t (Bu.trans l1.to l) p
theorem FO.oA{e1 e2:Expr}{apos:Pos}{p:Th}{tag:Nat}{way:BZ}{ab:Option Nat}(hG:∀X h,c.G.P c.w X h->Ly c.w X h p)(nf:p.f≠TP)(hk:1<=c.k)(a:Ev c J o (.obj (.ref p.f)))(y1:Ev c J e1 (.str (sg tag)))(y2:Ev c J e2 (.dict (Ic way ab)))(he:autoParam (D9 c e1 [e2]) Bd)(Jp:autoParam (D9 c e2 []) Bd)(hb:autoParam (attributeBase o "makeelement" c.env (eval o c.env)=eval o c.env) Bd)(Dw:autoParam (((backTo pos (starEach [e1,e2] c.env)).all (λx=>!x.1)&&(backToKw pos (keywordEach [] c.env)).all (λx=>x.1.isSome)&&decide ([e1,e2].length+([]:List Keyword).length+(if(backToKw pos (keywordEach [] c.env)).isEmpty then 0 else 1)<30))=true) Bd)(hl:autoParam (J8 apos pos) Bd):FO c J (.Call (.Attribute o "makeelement" apos) [e1,e2] [] pos) (Zt tag way ab):=λs F Q E q=>by
 refine JW (ds:=[.str (sg tag),.dict (Ic way ab)]) a (.cons y1 (.cons y2 .nil Jp) he) F ZN (λh Fh=>?_) he hb Dw hl (λs2 g vs dd m F2 l2 e2 I hv rv=>?_) nf λX h dd m g I=>?_
 .refine Mp (FL (hG _ h Fh.g)) ?_;intro m fa fi ck ct tk av z;exact⟨_,m,268,z.fn,z.ms.mke,by decide,_,_,Fh.base.k 268 _ (GK.here _),rfl⟩
 .refine Mp (FL (hG _ _ F2.g)) ?_;intro m' fa fi ck ct tk av z;refine CC (IA I z.fn) ?_;intro V em;rw[em,z.ms.mke]at hv;cases hv;refine M1 (k:=0) (F2.ok.CD hk) F2.base F2.Ck rv λt h3 t3 a1 a2 a3 a4 a5 l3 nw tP=>?_;rw[e2];refine q _ h3 t3 (.obj (.ref t.f)) (Bm [t]) ⟨t,rfl,rfl,a1,a2,a3,a4,a5⟩ (Bu.trans l2 l3) (λb z=>?_) tP (.obj _);refine FP (nw b z) ?_;intro b1 b2 b3;exact⟨Bx l2 (Cq b2) b1,b2,b3⟩
 .refine Mp (FL (hG X h g)) ?_;intro m' fa fi ck ct tk av z;refine CC (IA I z.fn) ?_;intro e V;cases e;exact z.nd
theorem Xo(way way':BZ)(ab:Option Nat)(a:Nat):DC (DC [] (Ic way ab)) [(S "way",.str (tx way')),(S "above",.str (sg a))]=Ic way' (some a):=by
 have n1:¬S "way"=S "above":=by decide
 have n2:¬S "above"=S "way":=by decide
 cases ab<;>simp[Ic,DC,dput,n1,n2]
theorem QE{L:C0}{t:Th}(g:((Bm L).star (Bm [t])).P w X h):(Bm (L++[t])).P w X h:=by
 refine FP g ?_;clear g;intro Cr Dv ap;refine CC Cr ?_;intro a1 a2;refine CC Dv ?_;intro b1 b2;refine⟨λx hx=>?_,?_⟩
 .rcases Ar.mp hx with hx|hx
  .exact a1 x hx
  .exact b1 x hx
 .rw [List.flatMap_append,List.nodup_append];refine⟨a2,b2,λa ha b hb e=>?_⟩;refine Bi (Am.mp ha) ?_;intro x hx z;refine Bi (Am.mp hb) ?_;intro y hy z';refine ap a ⟨x,hx,by simpa using z⟩ ⟨y,hy,?_⟩;rw[e];simpa using z'
theorem HZ{L:C0}{t:Th}{b:Addr}:(Bm (L++[t])).fp b↔((Bm L).star (Bm [t])).fp b:=by
 constructor
 .intro HW;refine Bi HW ?_;intro x hx z;rcases Ar.mp hx with hx|hx
  .exact .inl ⟨x,hx,z⟩
  .exact .inr ⟨x,hx,z⟩
 .rintro (⟨x,hx,z⟩|⟨x,hx,z⟩)
  .exact ⟨x,List.mem_append_left _ hx,z⟩
  .exact ⟨x,List.mem_append_right _ hx,z⟩
def XF(w:World)(X:CG)(L:C0)(p:Th)(q:Nat)(way':BZ)(a:Nat)(h0:Heap)(v:Value)(h:Heap):Prop:=
 ∃t:Th,v=.ref t.f/\t.tag=q/\t.way=way'/\t.above=some a/\t.kids=[]/\t.tl=none/\(∀b,(Bm [t]).fp b->h0.get? b=none/\306<=b/\∃o,h.get? b=some o)/\(Bm (CX L p.tag t.f++[t])).P w (DH X (Bm [t]).fp) h
theorem Wg(ok:E9 (k+3) A)(B:CW w s.heap)(xk:FU X s.heap){L:C0}(g:(Bm L).P w X s.heap)(gx:∀b,(Bm L).fp b->X b)(nt:(L.map (·.tag)).Nodup){p:Th}(hp:p∈L)(YA:p.kids.length<=1000){q a:Nat}{way':BZ}{v2 v3 v4 v5:Value}(r2:B9 X w s.heap v2 (.str (sg q)))(r3:B9 X w s.heap v3 (.dict (Ic p.way p.above)))(r4:B9 X w s.heap v4 (.str (tx way')))(r5:B9 X w s.heap v5 (.str (sg a))) :
  Run w A (Bm L).fp (call (.ref 202) [.ref p.f,v2,v3] [(S "way",v4),(S "above",v5)]) s (XF w X L p q way' a s.heap):=by
 refine MX ZL ok B xk (G:=Bm L) g gx (names:=[S "parent",S "tag",S "attrib",S "extra"]) (ds:=[.obj (.ref p.f),.str (sg q),.dict (Ic p.way p.above),.dict [(S "way",.str (tx way')),(S "above",.str (sg a))]]) (λQ E q=>?_) (.of (by decide +kernel)) λc h0 l0 FA=>?_
 .refine Wf B λh1 tk ad l1 n1 b1 d1=>q h1 tk [.ref p.f,v2,v3,.ref ad] l1 (.cons (.obj _) (.cons (r2.le l1) (.cons (r3.le l1) (.cons (.dict (λz=>?_) (Cq b1) ?_ d1 (.cons (r4.le l1) (.cons (r5.le l1) .nil))) .nil)))) rfl
  .obtain ⟨_,o,e⟩:=xk ad z;rw[n1]at e;cases e
  .rw [Av];intro z;rw[z]at b1;exact absurd b1 (by decide)
 .have E:=FA.env;have hint:interactive c.env=false:=E.quiet rfl;have Jq:1<=c.k:=by rw[FA.hk];exact A1 1 (k+1)
  have hG:∀X h,c.G.P c.w X h->Ly c.w X h p:=λX h z=>by rw[FA.hG]at z;exact z.1 p hp
  refine Mp (FL (g.1 p hp)) ?_;intro V V V V V V V zp;let es2:List (Str×D):=[(S "way",.str (tx way')),(S "above",.str (sg a))]
  refine Be.step (J':=[(S "attrib",.dict (Ic way' (some a))),(S "parent",.obj (.ref p.f)),(S "tag",.str (sg q)),(S "extra",.dict es2)]) (Ex.sn (d:=.dict (Ic way' (some a))) (Ev.eq (Ev.bR (es1:=Ic p.way p.above) (es2:=es2) (λfp=>Ev.n) (λfp=>Ev.n) (by cases p.above<;>simp[Ic]) (by simp[es2])) (by rw[Xo]))) ?_;refine Be.cons (Ex.KP (N:=λh=>∃(t:Th) (X':CG),t.tag=q/\t.way=way'/\t.above=some a/\t.kids=[]/\t.tl=none/\(∀b,c.X b->X' b)/\(∀b,(Bm [t]).fp b->Gh c b X')/\Fr (c.on X' (c.G.star (Bm [t]))) [(S "element",.obj (.ref t.f)),(S "attrib",.dict (Ic way' (some a))),(S "parent",.obj (.ref p.f)),(S "tag",.str (sg q)),(S "extra",.dict es2)] h)
   (FO.oA (p:=p) (tag:=q) (way:=way') (ab:=some a) hG zp.nf.2 Jq Ev.n Ev.n Ev.n) (E.nm (.inl rfl)) (by rfl) λd T h X' zz hX nw F1=>?_) ?_
  .refine rA zz ?_;clear zz;intro t e1 e2 a1 a2 a3 a4 a5;subst e1 e2;exact⟨t,X',a1,a2,a3,a4,a5,hX,nw,F1⟩
  .intro h1 Jk;refine rB Jk ?_;intro t X1 a1 a2 a3 a4 a5 OD nw F1;refine⟨c.on X1 (c.G.star (Bm [t])),_,⟨rfl,rfl,rfl⟩,F1,?_⟩;have E1:Bj (c.on X1 (c.G.star (Bm [t]))) w (BY (Ba 14)) (k+2):=E.on;have u:Upd (c.on X1 (c.G.star (Bm [t]))).G (Bm L) (Bm (CX L p.tag t.f)) ((Bm (CX L p.tag t.f)).star (Bm [t])):=by
    show Upd (c.G.star _) _ _ _;rw[FA.hG];exact Upd.lf (Upd.self λb=>Im L p.tag t.f b)
   refine Be.EM (X':=X1) (G':=(Bm (CX L p.tag t.f)).star (Bm [t])) (Ex.CX E1.ro nt hp YA u Ev.n Ev.n Jq hint) ?_;refine Be.ret (λs' F' Q E' n r=>wpAny_Return_some ((Ev.n (d:=.obj (.ref t.f))) s' F' _ _ λv h3 t3 l3 r3=>r v h3 t3 ?_));cases r3;have F3:=F'.le l3;have e1:Bu c.M c.h0 h3:=F3.old;rw[FA.hM,FA.hh]at e1;have g3:((Bm (CX L p.tag t.f)).star (Bm [t])).P c.w X1 h3:=F3.g;rw[FA.hw]at g3;refine⟨e1,t,rfl,a1,a2,a3,a4,a5,λb z=>?_,Res.CD (QE g3) λb z=>z.elim (λz=>OD b (FA.hX b z)) λz=>(F3.gx b (.inr z)).1.1⟩;obtain⟨XM,o,eo⟩:=F3.Ck b (F3.gx b (.inr z)).1.1;have no:c.h0.get? b=none:=(nw b z).old;rw[FA.hh]at no;exact⟨Bx l0 (Cq XM) no,XM,o,eo⟩
noncomputable def Ja(L:C0):Res where
 fp:=λV=>False
 P:=λw X h=>∀t∈L,Ly w X h t/\¬X t.dd/\¬X t.ka
 mv:=λ{w X X' h h'} x k t ht=>by
  refine FP (x t ht) ?_;intro Cr n1 n2;refine Mp Cr ?_;intro fa fi ck ct tk av m z;refine Bi z.fn.dd ?_;intro od ed V;refine B6 (id z.kids) ?_;intro nk ek;refine⟨⟨fa,fi,ck,ct,tk,av,m,z.mv λb o q n e=>k b o ?_ n e⟩,(k _ od (.inr (.inl n1)) z.nd ed).2 n1,(k _ _ (.inr (.inl n2)) z.nk ek).2 n2⟩;rcases q with q|q|q
  .rw [q];exact .inr (.inl n1)
  .rw [q];exact .inr (.inl n2)
  .exact .inr q
inductive DB(L:C0):List Addr->List Nat->Prop
 |nil:DB L [] []
 |cons {a:Addr}{b:Nat}{as:List Addr}{bs:BZ}:(∃t∈L,t.f=a/\t.tag=b)->DB L as bs->DB L (a::as) (b::bs)
theorem DB.zip{L:C0}:∀ {as:List Addr}{bs:BZ},DB L as bs->(as.zip bs).map (·.1)=as/\(as.zip bs).map (·.2)=bs/\∀p∈as.zip bs,∃t∈L,t.f=p.1/\t.tag=p.2:=by
 intro as bs k;induction k with
 |nil=>exact⟨rfl,rfl,λp hp=>by cases hp⟩
 |cons a b ih=>
  refine FP ih ?_;intro e1 e2 e3;exact⟨congrArg (_::·) e1,congrArg (_::·) e2,Ia a e3⟩
noncomputable def deep(kd:Nat->List Nat):Nat->Nat->Bool
 |0,_=>false
 |n+1,a=>(kd a).all (deep kd n)
noncomputable def CQ(kd:Nat->List Nat):Nat->Nat->List Nat
 |0,_=>[]
 |n+1,a=>a::(kd a).flatMap (CQ kd n)
theorem aM{kd:Nat->List Nat}{n a:Nat}:deep kd (n+1) a=(kd a).all (deep kd n):=rfl
theorem SX{kd:Nat->List Nat}{n a:Nat}:CQ kd (n+1) a=a::(kd a).flatMap (CQ kd n):=rfl
noncomputable def Cw(l:BZ):List D:=l.map λa=>D.str (sg a)
def XD(w:World)(L:C0)(kd:Nat->List Nat)(n k:Nat):Prop:=∀t∈L,deep kd n t.tag=true->∀(A:Around) (X:CG) (s:Shared),E9 (n+k) A->CW w s.heap->FU X s.heap->(Ja L).P w X s.heap->∀(fa fi ck ct:Addr) (tk:Tok) (av:Value) (m:Hx),Lx w X s.heap t fa fi ck ct tk av m->
  Run w A Hw (call (.ref fi) []) s λv h'=>B9 X w h' v (.list (Cw (CQ kd n t.tag)))
theorem Ev.Oo{apos:Pos}{L:C0}{t:Th}{kd:Nat->List Nat}{n:Nat}(hG:∀X h,c.G.P c.w X h->(Ja L).P c.w X h)(ht:t∈L)(nf:t.f≠TP)(hd:deep kd n t.tag=true)(IH:XD c.w L kd n k)(hk:n+k<=c.k)(a:Ev c J o (.obj (.ref t.f)))(hb:autoParam (attributeBase o "itertext" c.env (eval o c.env)=eval o c.env) Bd)(hl:autoParam (J8 apos pos) Bd):Ev c J (.Call (.Attribute o "itertext" apos) [] [] pos) (.list (Cw (CQ kd n t.tag))):=λs F Q E q=>by
 refine Kb a F ZM (λh Fh=>?_) hb (by rfl) hl λs1 g dd m F1 l1 e1 I hv=>?_
 .refine Mp (FL ((hG _ _ Fh.g) t ht).1) ?_;intro m fa fi ck ct tk av z;exact⟨_,m,fi,z.fn,z.ms.it⟩
 .refine Mp (FL ((hG _ _ F1.g) t ht).1) ?_;intro m' fa fi ck ct tk av z;refine CC (IA I z.fn) ?_;intro V em;rw[em,z.ms.it]at hv;cases hv;refine Yb z.it.2.ex ?_;intro og pm cv pQ eg V dg V;refine⟨og,_,dg,PyProof.Rows.evalArgs_none ⟨eg,?_⟩⟩;exact IH t ht hd c.A c.X s1 (F1.ok.CD hk) F1.base F1.Ck (hG _ _ F1.g) fa _ ck ct tk av m' z Q E λv h3 t3 l3 r3=>by
   rw[e1];exact q v h3 t3 (Bu.trans l1 l3) r3
theorem Pg(kd:BZ)(f:Nat->List α)(as:List Addr)(e:(as.zip kd).map (·.2)=kd):((as.zip kd).flatMap λp=>f p.2)=kd.flatMap f:=by
 conv=>rhs;rw[<- e]
 rw[List.flatMap_map]
theorem YG{L:C0}{kd:Nat->List Nat}(hL:∀t∈L,DB L t.kids (kd t.tag))(n k:Nat)(sz:∀t∈L,(CQ kd (n+1) t.tag).length<=5000)(IH:XD w L kd n k):XD w L kd (n+1) k:=λt ht hd A X s ok B xk g fa fi ck ct tk av m z=>by
  have rG:E9 ((n+k)+1) A:=ok.CD (by omega);refine FP ((hL t ht).zip) ?_;intro z1 z2 z3;have vL:¬X t.ka:=(g t ht).2.2;have rk:B9 X w s.heap (.ref t.ka) (.list (oD t.kids)):=.list vL z.nk z.kids (Ms _);have ne:ct≠ck:=λe=>by
   refine Bi z.ck.2 ?_;intro o1 e1 d1;refine Bi z.ct.2 ?_;intro o2 e2 d2;rw[e,e1]at e2;cases e2;rw[d1]at d2;cases d2
  refine Run.any (Ro (k:=n+k) rG z.it.2 B xk (G:=Ja L) g (λb y=>y.elim) (names:=[]) (ds:=[]) (Jf:=[(S "tag",.str (sg t.tag)),(S "kids",.list (oD t.kids))]) .nil (λpm cv ct=>by rfl) rfl (by decide) (λy hy=>by cases hy) (λy hy=>by cases hy) rfl rfl rfl (λy hy=>?_) (λy a e=>?_) (λx y a e e'=>?_) (λy d my=>?_) (Post:=λv h'=>B9 X w h' v (.list (Cw (CQ kd (n+1) t.tag)))) (λc FA s1 F=>?_)) λa y=>y
  .have YC:y∈[(S "kids",NameKind.free),(S "tag",NameKind.free)]:=hy;simp only[AJ,An,or_false]at YC;rcases YC with rfl|rfl<;>(intro e;cases e)
  .have:=lookup_mem e;simp only[AJ,An,or_false]at this;rcases this with this|this
   .cases this;exact⟨z.ct.1.2,⟨_,z.ct.2⟩,λy=>y⟩
   .cases this;exact⟨z.ck.1.2,⟨_,z.ck.2⟩,λy=>y⟩
  .have h1:=lookup_mem e;have h2:=lookup_mem e';simp only[AJ,An,or_false]at h1 h2;rcases h1 with h1|h1<;>rcases h2 with h2|h2<;>cases h1<;>cases h2
   .rfl
   .exact absurd rfl ne
   .exact absurd rfl ne
   .rfl
  .simp only[AJ,An,or_false]at my;rcases my with my|my
   .cases my;exact⟨⟨by decide,by decide⟩,rfl,ct,_,rfl,z.ct.2,.str _ _⟩
   .cases my;exact⟨⟨by decide,by decide⟩,rfl,ck,_,rfl,z.ck.2,rk⟩
  .have E:=FA.env;let R0:List (Str×D):=[(S "tag",.str (sg t.tag)),(S "kids",.list (oD t.kids))]
   have ev:Ev c R0 dT (.list (Cw (CQ kd (n+1) t.tag))):=by
    refine Ev.eq (Ev.eI (a:=[.str (sg t.tag)]) (b:=Cw ((kd t.tag).flatMap (CQ kd n))) (Ev.ls (.cons Ev.n .nil)) (Ev.eq (Ev.OP (t.kids.zip (kd t.tag)) (λp=>.obj (.ref p.1)) (λp=>CQ kd n p.2) (λV y=>.str (sg y)) (λV V=>true) (λV y=>.str (sg y)) (J0:=[]) E.co
     (Bb.eq (Bb.list Ev.n) ?_) (λp=>[(S "kid",.obj (.ref p.1))]) (λV V h=>by cases h) (λV V cc sc=>Bind.n) (λp hp cc sc=>Bb.list ?_) (λp y=>[(S "part",.str (sg y)),(S "kid",.obj (.ref p.1))]) (λV V V h=>.tail _ h) (λV V V V cc sc=>Bind.n) (λV V V V V V=>CM.nil) (λV V V V V cc sc=>Ev.n) ?_) ?_) ?_) ?_
    .unfold oD;rw[show(λp:Addr×Nat=>D.obj (.ref p.1))=(λa=>D.obj (.ref a))∘(·.1)from rfl,<- AB,z1]
    .refine EJ (z3 p hp) ?_;intro t' j3 e1 e2;have hk:n+k<=cc.k:=by rw[sc.k,FA.hk];exact Ad _
     have hG:∀X h,cc.G.P cc.w X h->(Ja L).P cc.w X h:=λX h z=>by
      have z1:=sc.g X h z;rw[FA.hG]at z1;rw[sc.w];exact z1
     have Xz:deep kd n t'.tag=true:=by
      rw[e2];have Jo:(kd t.tag).all (deep kd n)=true:=hd;exact Ah.mp Jo _ (List.of_mem_zip hp).2
     refine Mp (FL (g t' j3).1) ?_;intro V V V V V V V z';have:=Ev.Oo (c:=cc) (J:=[(S "kid",.obj (.ref p.1))]) (o:=.Name (S "kid") ⟨249,71,249,74⟩) (apos:=⟨249,71,249,83⟩) (pos:=⟨249,71,249,85⟩) hG j3 z'.nf.2 Xz (by rw[sc.w,FA.hw];exact IH) hk (by rw[e1];exact Ev.n);rw[e2]at this;exact this
    .simp only[By];have e:=Pg (kd t.tag) (λa=>(CQ kd n a).map λy=>D.str (sg y)) t.kids z2;rw[e];have:=sz t ht;have e2:((kd t.tag).flatMap λa=>(CQ kd n a).map λy=>D.str (sg y))=((kd t.tag).flatMap (CQ kd n)).map λy=>D.str (sg y):=by rw[BP]
     rw[e2,AA];have e3:(CQ kd (n+1) t.tag).length=((kd t.tag).flatMap (CQ kd n)).length+1:=rfl;omega
    .simp only[By];rw[Pg (kd t.tag) (λa=>(CQ kd n a).map λy=>D.str (sg y)) t.kids z2];unfold Cw;rw[BP]
    .unfold Cw;rw[AA];have:=sz t ht;have e3:(CQ kd (n+1) t.tag).length=((kd t.tag).flatMap (CQ kd n)).length+1:=rfl;simp only[AZ,BS];omega
    .rfl
   exact Run.imp (ev s1 F) λv h' l r=>(by rw[FA.hw]at r;exact r.move (Ce FA.hX))
theorem bK{L:C0}{kd:Nat->List Nat}(hL:∀t∈L,DB L t.kids (kd t.tag))(k:Nat):∀n,(∀m ≤n,∀t∈L,(CQ kd m t.tag).length<=5000)->XD w L kd n k:=by
 intro l;induction l with
 |zero=>exact λV=>λt ht hd=>by cases hd
 |succ n ih=>exact λsz=>YG hL n k (sz (n+1) (Ad _)) (ih λm hm=>sz m (Nat.le_succ_of_le hm))
section
theorem ux:typeLookup (.type "list") "append"=pure (some (.builtin "list.append")):=by rw[Ap,builtinLookup_eq_fast];kernel_rfl
theorem qx:typeLookup (.type "method_descriptor") "__get__"=pure (some (.builtin "method_descriptor.__get__")):=by rw[Ap,builtinLookup_eq_fast];kernel_rfl
theorem vB:typeLookup (.type "method_descriptor") "__set__"=pure none:=by rw[Ap,builtinLookup_eq_fast];kernel_rfl
theorem vA:typeLookup (.type "method_descriptor") "__delete__"=pure none:=by rw[Ap,builtinLookup_eq_fast];kernel_rfl
theorem Qx:Slot "method_descriptor" "__get__" "method_descriptor.__get__":=
 .of (owner:="method_descriptor") (n:="__get__") qx (by decide +kernel) (by decide +kernel) (by decide +kernel) (by first|exact .inl (by decide +kernel)|exact .inr (by decide +kernel)) (by rw[isSubtype_type];kernel_rfl)
theorem OS:entryFor table "method_descriptor.__get__"=some Builtin.«method_descriptor.__get__»:=entryFor_of_tree (by kernel_rfl)
theorem Pu(a b c:Value):argsOk "method_descriptor.__get__" ⟨[a,b,c],[]⟩:=by unfold argsOk;kernel_rfl
noncomputable abbrev Iq(l:Addr):Obj:={cls:=.type "builtin_function_or_method",data:=.fields #[.builtin "list.append",.ref l]}
theorem cH{l:Addr}{items:Array Value}{n:Nat}{P:PySem.Fin->Shared->Prop}(hx:s.heap.get? l=some {cls:=.type "list",data:=.seq items n})(hp:P (.done (.ret (.ref s.heap.objs.size))) {s with heap:=s.heap.push (Iq l)}) :
  wpAny (model prog w) A (Builtin.«method_descriptor.__get__» ⟨[.builtin "list.append",.ref l,.type "list"],[]⟩) P E s:=by
 have hT:s.TypeIs (.ref l) "list":=⟨_,hx,rfl⟩
 have D8:isSubtype (.type "list") (.type "list")=pure true:=by rw[isSubtype_type];kernel_rfl
 unfold Builtin.«method_descriptor.__get__»;refine wpAny_bind (wpAny_of_eq (a:=(.builtin "list.append",some (.ref l),some (.type "list"))) (by first|rfl|kernel_rfl) ?_);dsimp only;rw[if_neg (show ¬Manifest.toldItsClass.contains "list.append"=true by decide +kernel)];refine wpAny_bind (wpAny_bind (wpAny_of_eq (a:=(Str.ofString "append",Value.type "list")) (by first|rfl|kernel_rfl) ?_));dsimp only;refine wpAny_bind (wpAny_isInstance hT D8 ?_);rw[if_neg (by decide)];exact wpAny_pure (wpAny_bind (wpAny_newObj_type (wpAny_pure hp)))
theorem Uh{g:Array GenState}{d:Drawn}{t:Nat}{os:OsState}{l:Addr}{items:Array Value}{n:Nat}{Q:EU}(hx:h.get? l=some {cls:=.type "list",data:=.seq items n})(hq:Q () ⟨h,g,d,t,os⟩) :
  wpAny (model prog w) A (checkBoundCall "list.append" ⟨[.ref l,v],[]⟩) Q E ⟨h,g,d,t,os⟩:=by
 have hT:(⟨h,g,d,t,os⟩:Shared).TypeIs (.ref l) "list":=⟨_,hx,rfl⟩
 have D8:isSubtype (.type "list") (.type "module")=pure false:=by rw[isSubtype_type];kernel_rfl
 unfold checkBoundCall;refine wpAny_bind (wpAny_isInstance hT D8 ?_);rw[if_neg (by decide +kernel)];refine wpAny_bind (wpAny_bind (wpAny_loadPart hx (wpAny_pure ?_)));dsimp only;simp -iota only[AR,if_false];refine wpAny_bind (wpAny_typeOf hT ?_);exact wpAny_of_eq (by kernel_rfl) hq
theorem Sf{b l:Addr}{items:Array Value}(hb:s.heap.get? b=some (Iq l))(pl:s.heap.PlainList l items)(hz:items.size<=100000)(q:∀h',h'.PlainList l (items.push v)->Heap.SameBut l s.heap h'->Q .none {s with heap:=h'}):wpAny (model prog w) A (call (.ref b) [v]) Q E s:=by
 obtain⟨h,g,d,t,os⟩:=s;refine B6 (id pl) ?_;intro n hx;refine wpAny_call (codeAny_of_tree ?_);show wpAny _ A.in1 (callAny (.ref b) ⟨[v],[]⟩) _ _ _;simp -iota only[callAny];refine wpAny_bind (wpAny_load hb ?_);simp -iota only[Iq,show(Value.type "builtin_function_or_method" == Value.type "method" || Value.type "builtin_function_or_method" == Value.type "builtin_function_or_method" || Value.type "builtin_function_or_method" == Value.type "method-wrapper")=true by decide,if_true];show wpAny _ _ (if(Value.type "builtin_function_or_method" != Value.type "method")=true then(do checkBoundCall "list.append" ⟨[.ref l,v],[]⟩;again (.builtin "list.append" ⟨[.ref l,v],[]⟩))else _) _ _ _;rw[if_pos (by decide)];refine wpAny_bind (Uh hx ?_);refine wpAny_bind (wpAny_pure (wpAny_pure ?_));refine⟨Code.quiet_builtin _ (by decide +kernel),codeAny_builtin entry_list_append ?_⟩;show wpAny _ _ (updateSeq l (·.push v) >>= λV=>ret .none) _ _ _;refine wpAny_bind (wpAny_updateSeq hx rfl (wpAny_pure ?_));refine q _ ⟨n+1,?_⟩ (Heap.SameBut.update ..);rw[BJ _ hx (by rw[Obj.mapSeq_push_plain];rfl),Obj.mapSeq_push_plain]
open Builtin Builtin.ObjectAttr
theorem Px{g:Array GenState}{d:Drawn}{t:Nat}{os:OsState}{l:Addr}{items:Array Value}{n:Nat}{Q:Found->Shared->Prop}(hx:h.get? l=some {cls:=.type "list",data:=.seq items n})(hq:Q (.bind (.builtin "method_descriptor.__get__") (.builtin "list.append")) ⟨h,g,d,t,os⟩) :
  wpAny (model prog w) A (find (.ref l) (.type "list") (Str.ofString "append")) Q E ⟨h,g,d,t,os⟩:=by
 have e1:=PySem.F.type_list_append;unfold find;refine wpAny_bind (wpAny_of_eq ux ?_);refine wpAny_bind ?_;unfold getOf specialOf;refine wpAny_bind (wpAny_of_eq e1 (wpAny_of_eq qx ?_));refine wpAny_bind ?_;unfold dataDescriptor?;refine wpAny_bind ?_;unfold takesStores specialOf;refine wpAny_bind (wpAny_bind (wpAny_of_eq e1 (wpAny_of_eq vB ?_)));refine wpAny_bind (wpAny_bind (wpAny_of_eq e1 (wpAny_of_eq vA (wpAny_pure ?_))));refine wpAny_pure ?_;dsimp only;unfold ownThenClass;refine wpAny_bind ?_;unfold ObjectAttr.inOwnDict ObjectAttr.ownDict;refine wpAny_bind (wpAny_bind (wpAny_loadPart hx ?_));dsimp only;unfold instanceDict;refine wpAny_bind (wpAny_loadPart hx (wpAny_pure ?_));refine wpAny_pure ?_;dsimp only;refine wpAny_bind (wpAny_of_eq (a:=()) (by first|rfl|kernel_rfl) ?_);unfold byTheClass;exact wpAny_bind (wpAny_rule (wpAny_pure hq))
theorem Sg{g:Array GenState}{d:Drawn}{t:Nat}{os:OsState}{l:Addr}{items:Array Value}{n:Nat}{tk:Tok}{Q:PySem.Fin->Shared->Prop}(hx:h.get? l=some {cls:=.type "list",data:=.seq items n})(hq:Q (.done (.ret (.ref h.objs.size))) ⟨h.push (Iq l),g,d,t,os⟩) :
  wpAny (model prog w) A (Builtin.«object.__getattribute__» ⟨[.ref l,.str (Str.ofString "append") tk],[]⟩) Q E ⟨h,g,d,t,os⟩:=by
 have e1:=PySem.F.type_list_append;have hT:(⟨h,g,d,t,os⟩:Shared).TypeIs (.ref l) "list":=⟨_,hx,rfl⟩
 unfold Builtin.«object.__getattribute__»;refine wpAny_bind (wpAny_of_eq (a:=(Value.ref l,[Value.str (Str.ofString "append") tk])) (by rfl) ?_);dsimp only;refine wpAny_bind (wpAny_of_eq (a:=Str.ofString "append") (by rfl) ?_);refine wpAny_bind (wpAny_typeOf hT ?_);refine wpAny_bind (Px hx ?_);show wpAny _ _ (bindTo (.builtin "method_descriptor.__get__") (.builtin "list.append") (.ref l) (.type "list")) _ _ _;unfold bindTo;show wpAny _ _ (holding [.builtin "list.append"] (call (.builtin "method_descriptor.__get__") [.builtin "list.append",.ref l,.type "list"]) >>= λv=>ret v) _ _ _;refine wpAny_bind (wpAny_holding (wpAny_call_entry Qx (by exact e1) OS (cH hx ⟨_,rfl,?_⟩) (Pu _ _ _)));exact wpAny_pure hq
theorem JH{l:Addr}{items:Array Value}{expr:Bool}(pl:s.heap.PlainList l items)(hq:Q (.ref s.heap.objs.size) {s with heap:=s.heap.push (Iq l),toks:=s.toks+1}) :
  wpAny (model prog w) A (getAttr (.ref l) (Str.ofString "append") expr) Q E s:=by
 obtain⟨h,g,d,t,os⟩:=s;refine B6 (id pl) ?_;intro n hx;have hT:∀tk,(⟨h,g,d,tk,os⟩:Shared).TypeIs (.ref l) "list":=λV=>⟨_,hx,rfl⟩;have lk:=F.slot_list_getattribute.lookup;unfold getAttr getAttrBy;repeat(first|(with_reducible refine wpAny_loadPart_at hx ?_)|wp_step)
 rw[if_neg (show ¬(expr&&onTheHeap (Value.builtin "list.__getattribute__"))=true by rw[show onTheHeap (Value.builtin "list.__getattribute__")=false from rfl,Bool.and_false];exact Bool.false_ne_true)];unfold boundAndCalled;refine wpAny_bind (wpAny_of_eq (F.slot_list_getattribute.bind (.ref l)) ?_);refine wpAny_call_entry F.slot_list_getattribute (hT _) F.entry_list_ga (Sg hx ⟨_,rfl,?_⟩) (F.args_list_getattribute_2 _ _);exact wpAny_pure hq
end
noncomputable def OL(b l:Addr):Res where
 fp:=λV=>False
 P:=λw X h=>¬X b/\b≠TP/\h.get? b=some (Iq l)
 mv:=λzz k=>FP zz λn t e=>by refine CC (k _ _ (.inr (.inl n)) t e) ?_;intro e' n';exact⟨n' n,t,e'⟩
theorem L3{env:Env}{b l:Addr}(he:starEach [e] env=(false,eval e env)::starEach [] env)(h:wpAny (model prog w) A (eval e env) (λv s1=>s1.heap.get? b=some (Iq l)/\wpAny (model prog w) A (call (.ref b) [v]) Q E s1) E s):wpAny (model prog w) A (callWith pos (.ref b) [] (backTo pos (starEach [e] env)) []) Q E s:=by
 have h2:wpAny (model prog w) A (evalArgs (.ref b) true (backTo pos (starEach [e] env)) []) (λx s1=>s1.heap.get? b=some (Iq l)/\wpAny (model prog w) A (call (.ref b) ([]++x.pos) x.kw) Q E s1) E s:=by
  rw[he];refine PySem.Calls.evalArgs_plain ?_;exact PySem.Calls.spliced_cons (wpAny_mono h (λv s1 z=>PySem.Calls.spliced_nil z) λV V z=>z)
 have hp:(backTo pos (starEach [e] env)).any (·.1)=false:=by rw[he];rfl
 refine wpAny_bind (wpAny_holding (wpAny_mono h2 (λx s₁ h₁=>wpAny_bind (wpAny_standAt ?_)) λV V x=>x));refine CC h₁ ?_;clear h₁;intro ho f6;simp -iota only[hp,List.any_nil,Bool.or_false];refine wpAny_bind (m:=keeperOf (.ref b)) ?_;refine wpAny_bind (wpAny_load ho ?_);simp -iota only[Iq,show(Value.type "builtin_function_or_method" != Value.type "method")=true by decide,show(Value.type "builtin_function_or_method" == Value.type "builtin_function_or_method" || Value.type "builtin_function_or_method" == Value.type "method-wrapper")=true by decide,if_true];refine wpAny_pure ?_;exact wpAny_bind (wpAny_mono f6 (λr s₂ hr=>wpAny_bind (wpAny_holding (wpAny_point (wpAny_pure hr)))) λV V x=>x)
theorem Ex.write{np GF:Pos}{b l:Addr}{G':Res}(ro:¬c.ro)(hz:ds.length<=1000)(hb:∀X h,c.G.P c.w X h->(OL b l).P c.w X h)(u:Upd c.G (Bl l ds) (Bl l (ds++[d])) G')(f:Ev c J (.Name x np) (.obj (.ref b)))(y:Ev c J e d)(hint:interactive c.env=false)(he:autoParam (D9 c e []) Bd)(hs:autoParam (swapsWith (.Call (.Name x np) [e] [] pos) none GF.line c.env=pure false) Bd) :
  Ex c J (.Expr (.Call (.Name x np) [e] [] pos) GF) (Fr (c.on c.X G') J) R:=λs F Q E n r=>
 wpAny_Expr_any (wpAny_Call_NameR (f s F _ _ λv h1 t1 l1 r1=>by
  cases r1;have F1:Fr c J h1:=F.le l1;refine L3 (l:=l) he (y {s with heap:=h1,toks:=t1} F1 _ _ λv h2 t2 l2 r2=>?_);have E6:Le h1 h2:=l2;have F2:Fr c J h2:=F1.le E6;refine FP (hb _ _ F2.g) ?_;intro V V eb;refine⟨eb,?_⟩;refine EJ (u.has _ _ _ F2.g) ?_;intro UA Td Yn nt;have Nb:=Yn.length;refine Sf (s:={s with heap:=h2,toks:=t2}) eb Td (by rw[AY];exact Je Nb hz rfl) λh3 p3 s3=>?_;refine B6 (id p3) ?_;intro n3 e3;have l3:Bu (·=l) h2 h3:=Cp s3 _ e3 nt (by refine B6 Td ?_;clear Td;intro V e;exact Cd.at e (Cd.seq rfl));have lx:c.X l:=(F2.gx l (u.fp l rfl)).1.1;refine n h3 t2 (F2.upd ro u l3 ⟨UA++[v],?_,(Yn.append (.cons r2 .nil)).move (DR l3 λb z=>z▸lx),nt⟩);exact⟨n3,by rw[e3];simp⟩)) hint hs
theorem Ev.tail{t:Th}(hG:∀X h,c.G.P c.w X h->Ly c.w X h t)(ht:t.tl=some d)(hd:d=.none\/∃y,d=.str y)(x:Ev c J o (.obj (.ref t.f)))(he:autoParam (eval (.Attribute o (Str.ofString "tail") pos) c.env=(do
   let o' <- eval o c.env;standAt pos.atName;let r <- holding [o'] (getAttr o' (Str.ofString "tail") true);letTemporaryGo o o' r;pure r)) Dz):Ev c J (.Attribute o (Str.ofString "tail") pos) d:=λs F Q E q=>
 BQ (x s F _ _ λv' h1 t1 l1 r1=>by
  cases r1;have F1:=F.le l1;refine Mp (FL (hG _ _ F1.g)) ?_;intro m fa fi ck ct tk av z;have tl:=z.ms.tl;rw[ht]at tl;obtain⟨fl,v,ev,rv⟩:=tl;have hh:handedOut v=pure v:=by
   have:=rv c.X c.w h1;rcases hd with rfl|⟨y,rfl⟩<;>(cases this;rfl)
  exact GL RU z.fn.kX ev hh (q _ h1 _ l1 (rv _ _ _))) he
theorem ZJ:CA 209 (Ba 15) (S "_serialize_text") 208 .none Km:=⟨λP=>rfl,λP=>⟨_,_,_,rfl,rfl,rfl⟩,rfl,rfl,rfl⟩
noncomputable def tailD(d:D):List D:=if d.Lm then[d]else[]
theorem mS(w:World)(k n:Nat)(hn:n<=k)(L:C0)(kd:Nat->List Nat)(hL:∀t∈L,DB L t.kids (kd t.tag))(sz:∀m ≤n,∀t∈L,(CQ kd m t.tag).length<=500)(t:Th)(ht:t∈L)(hd:deep kd n t.tag=true)(nf:t.f≠TP)(gV:t.tl=some d)(Jo:d=.none\/∃y,d=.str y/\y.length<=1000)(bm la:Addr) :
  CU w 209 (k+1) (((Ja L).star (OL bm la)).star (Bl la [])) [.obj (.ref bm),.obj (.ref t.f)] .none (((Ja L).star (OL bm la)).star (Bl la (Cw (CQ kd n t.tag)++tailD d))):=by
 refine KH ZJ (names:=[S "write",S "elem"]) (es:=[.obj (.ref bm),.obj (.ref t.f)]) (λX A s vs B xk r Q E q=>?_) (.of (by decide +kernel)) λc X h0 F=>?_
 .refine Du (Bf.Bp r) ?_;rintro V V rfl a r;refine Du (Bf.Bp r) ?_;rintro V V rfl b r;cases r;exact wpAny_pure (q s.heap s.toks [_,_] (.refl _) (.cons a (.cons b .nil)) rfl)
 .have E:=F.env;have hint:interactive c.env=false:=E.quiet rfl;let S0:Res:=(Ja L).star (OL bm la);let R0:List (Str×D):=[(S "write",.obj (.ref bm)),(S "elem",.obj (.ref t.f))]
  let ds:=Cw (CQ kd n t.tag);have qm:ds.length<=500:=by show(List.map _ _).length<=_;rw[AA];exact sz n (Ad _) t ht
  refine Be.cons (Ex.for (ds:=ds) E.ro (λi=>S0.star (Bl la (ds.take i))) (λV=>R0) F.hG rfl (Bb.list (Ev.Oo (L:=L) (kd:=kd) (n:=n) (k:=0) (λX h z=>?_) ht nf hd (bK hL 0 n λm hm t ht=>AD (sz m hm t ht) (by decide)) (by rw[F.hk];exact(λ{i₁ i₂}=>String.Pos.Raw.mk_le_mk.mp) hn) Ev.n)) (λi d hd X1 T hX=>?_)) ?_
  .rw [F.hG]at z;exact z.1.1
  .have E1:Bj (c.on X1 ((S0.star (Bl la (ds.take i))).star T)) w (BY (Ba 15)) k:=E.on;refine⟨(S "part",d)::R0,Bind.n,?_⟩;have e1:ds.take (i+1)=ds.take i++[d]:=by rw[A3,hd];rfl
   refine Be.EM (X':=X1) (G':=(S0.star (Bl la (ds.take (i+1)))).star T) (Ex.write (l:=la) (b:=bm) (ds:=ds.take i) E1.ro (by rw[Ae];exact u7 qm rfl) (λX h z=>z.1.1.2.1) ?_ Ev.n Ev.n hint) ?_
   .rw [<- e1];exact Upd.lf (Upd.rt (Upd.self λb=>Iff.rfl))
   .exact Be.nil (Be.done λh2 Fh=>⟨X1,hX,Fh.sub λp hp=>.tail _ hp⟩)
  .intro h1 Cr;refine Bi Cr ?_;intro X1 OD F1;rw[BF]at F1;refine⟨c.on X1 (S0.star (Bl la ds)),_,⟨rfl,rfl,rfl⟩,F1,?_⟩;have E1:Bj (c.on X1 (S0.star (Bl la ds))) w (BY (Ba 15)) k:=E.on;have sm:d.small:=by
    rcases Jo with rfl|⟨y,rfl,hy⟩
    .trivial
    .show y.length<=1000000;exact lb hy rfl
   have fz:∀X h,(c.on X1 (S0.star (Bl la ds))).G.P (c.on X1 (S0.star (Bl la ds))).w X h->Ly (c.on X1 (S0.star (Bl la ds))).w X h t:=λX h z=>(z.1.1 t ht).1;have al:d=.none\/∃y,d=.str y:=Jo.imp_right λzz=>by refine Bi zz ?_;clear zz;intro y e V;exact⟨y,e⟩
   refine Be.if (CL.val (d:=d) (Ev.tail (t:=t) fz gV al Ev.n) sm) (λhb=>?_) λhb=>?_
   .have e1:ds++tailD d=ds++[d]:=by unfold tailD;rw[if_pos hb]
    refine Be.EM (X':=X1) (G':=S0.star (Bl la (ds++[d]))) (Ex.write (l:=la) (b:=bm) (ds:=ds) E1.ro (lb qm rfl) (λX h z=>z.1.2.1) (Upd.rt (Upd.self λb=>Iff.rfl)) Ev.n (Ev.tail (t:=t) fz gV al Ev.n) hint) ?_;refine Be.nil (Be.nil (Be.done λh2 F2=>⟨.none,F2.old,F2.base,?_⟩));have g2:(S0.star (Bl la (ds++[d]))).P c.w X1 h2:=F2.g;rw[<- e1]at g2;exact Res.CD g2 OD
   .have e1:ds++tailD d=ds:=by unfold tailD;rw[if_neg (by rw[hb];decide),List.append_nil]
    refine Be.nil (Be.nil (Be.done λh2 F2=>⟨.none,F2.old,F2.base,?_⟩));have g2:(S0.star (Bl la ds)).P c.w X1 h2:=F2.g;rw[<- e1]at g2;exact Res.CD g2 OD
noncomputable abbrev Cx.re(c:Cx)(h0:Heap):Cx:={c with h0:=h0}
theorem Ex.fP{target iter:Expr}{body:Dy}(ro:¬c.ro)(Inv:Nat->Heap->Res->List (Str×D)->Prop)(i0:Inv 0 c.h0 c.G J)(old:∀ {i h0 G J},Inv i h0 G J->∀b,c.h0.get? b=none->h0.get? b=none)(Fl:Bb c J target iter ds)(hb:∀i d,ds[i]? = some d->∀h0 G J,Inv i h0 G J->∀(X:CG) (T:Res),(∀b,c.X b->X b)->∃Jx,Bind ((c.re h0).on X (G.star T)) J target d Jx/\
   Be ((c.re h0).on X (G.star T)) Jx [body] (λh=>∃D7 G' J' X',Inv (i+1) D7 G' J'/\(∀b,c.X b->X' b)/\Fr ((c.re D7).on X' (G'.star T)) J' h) R)(hs:autoParam (∀x,foldedSetIterable iter c.env x=pure x) Go) :
  Ex c J (.For target iter body [] pos) (λh=>∃D7 G' J' X',Inv ds.length D7 G' J'/\(∀b,c.X b->X' b)/\Fr ((c.re D7).on X' G') J' h) R:=λs F Q E n r=>by
 refine wpAny_For (Fl s F _ _ λit fp h1 t1 l1 n1 dD i4=>?_) hs;have new:∀b,fp b->ML c b:=λb z=>F.new (n1 b z).1 (n1 b z).2.1;have F1:Fr (c.on (DH c.X fp) (c.G.star (Gj c.A target it fp ds))) J h1:=(F.plus l1 n1).star (T:=Gj c.A target it fp ds) dD λb z=>(new b z).off z;refine codeAny_loop' rfl (λm s'=>∃i X h tk h0 G J,m+i=ds.length/\Inv i h0 G J/\s'={s with heap:=h,toks:=tk}/\(∀b,c.X b->X b)/\Fr ((c.re h0).on X (G.star (Gj c.A target it fp (ds.drop i)))) J h) (λm s' hI=>?_) ds.length
  ⟨0,DH c.X fp,h1,t1,c.h0,c.G,J,rfl,i0,rfl,λb z=>Or.inl z,by rw[List.drop_zero];exact F1⟩
 refine vS hI ?_;clear hI;rintro i X h2 t2 h0 G J2 hm hΦ rfl hX F2;refine wpAny_noted ?_;have kr:Kp fp X X h2 h2:=λb o q nt e=>⟨e,id⟩;have fx:∀b,fp b->X b:=λb z=>(F2.gx b (.inr z)).1.1;have NK:Draws c.w c.A target it fp (ds.drop i) X h2:=F2.g.2.1;cases hd:ds.drop i with
 |nil=>
  rw[hd]at NK;refine Jb (s:={s with heap:=h2,toks:=t2}) (NK X {s with heap:=h2,toks:=t2} kr fx) λh3 t3 k3=>?_;have hi:i=ds.length:=Nat.le_antisymm (by omega) (BO.mp hd);subst hi;exact wpAny_pure (.inr ⟨rfl,codeAny_block (wpAny_execs_nil (n h3 t3 ⟨h0,G,J2,_,hΦ,λb z=>⟨hX b z,λy=>(new b y).1 z⟩,F2.Lo (c:=c.re h0) (λb z=>old hΦ b (new b z).2.2.1) k3⟩))⟩)
 |cons d Ib=>
  rw[hd]at NK;have EX:ds[i]? = some d:=by rw[<- List.head?_drop,hd];rfl
  have ao:ds.drop (i+1)=Ib:=by rw[<- List.drop_drop,hd];rfl
  have Dx:=(AP.mp EX).1;refine IB (s:={s with heap:=h2,toks:=t2}) (P:=λv h3=>Bu fp h2 h3/\B9 X c.w h3 v d/\Draws c.w c.A target it fp Ib X h3)
   (λQ' E' q'=>NK X {s with heap:=h2,toks:=t2} kr fx F2.Ck F2.base.tab Q' E' λv h3 t3 l3 r3 Ur=>q' v h3 t3 ⟨l3,r3,Ur⟩) λv h3 t3 zz=>?_
  refine FP zz ?_;clear zz;intro l3 r3 Ur;have F3:Fr ((c.re h0).on X (G.star (Gj c.A target it fp Ib))) J2 h3:=F2.turn (c:=c.re h0) ro l3 rfl Ur;refine Bi (hb i d EX h0 G J2 hΦ X (Gj c.A target it fp Ib) hX) ?_;intro Jx b x;refine b v {s with heap:=h3,toks:=t3} F3 r3 _ _ λV h4 t4 l4 F4=>?_;refine wpAny_mono (x {s with heap:=h4,toks:=t4} F4 (λf s'=>match f with
    |.next|.cont=>∃m',m'<m/\∃i X h tk h0 G J,m'+i=ds.length/\Inv i h0 G J/\s'={s with heap:=h,toks:=tk}/\(∀b,c.X b->X b)/\Fr ((c.re h0).on X (G.star (Gj c.A target it fp (ds.drop i)))) J h
    |.brk=>Q .next s'
    |.ret v=>Q (.ret v) s') _ (λh5 t5 zz=>by refine iX zz ?_;clear zz;intro D7 G' J' X' nh Sz F5;exact⟨m-1,by omega,i+1,X',h5,t5,D7,G',J',by omega,nh,rfl,Sz,ao▸F5⟩) λv h5 t5 r5=>r v h5 t5 r5) (λf s' z=>?_) λV V z=>z
  cases f with
  |next=>exact wpAny_pure (.inl ⟨rfl,z⟩)
  |cont=>exact wpAny_pure (.inl ⟨rfl,z⟩)
  |brk=>exact z
  |ret v=>exact z
theorem Ex.fQ{target iter:Expr}{body:Dy}(ro:¬c.ro)(Inv:Nat->Res->List (Str×D)->Prop)(i0:Inv 0 c.G J)(Fl:Bb c J target iter ds)(hb:∀i d,ds[i]? = some d->∀G J,Inv i G J->∀(X:CG) (T:Res),(∀b,c.X b->X b)->∃Jx,Bind (c.on X (G.star T)) J target d Jx/\
   Be (c.on X (G.star T)) Jx [body] (λh=>∃G' J' X',Inv (i+1) G' J'/\(∀b,c.X b->X' b)/\Fr (c.on X' (G'.star T)) J' h) R)(hs:autoParam (∀x,foldedSetIterable iter c.env x=pure x) Go) :
  Ex c J (.For target iter body [] pos) (λh=>∃G' J' X',Inv ds.length G' J'/\(∀b,c.X b->X' b)/\Fr (c.on X' G') J' h) R:=
 (Ex.fP ro (λi h0 G J=>h0=c.h0/\Inv i G J) ⟨rfl,i0⟩ (λz b e=>z.1▸e) Fl (λi d e h0 G J zz X T hX=>CC zz λe0 z=>by
  subst e0;refine Bi (hb i d e G J z X T hX) ?_;intro Jx b x;exact⟨Jx,b,x.imp (λh zz=>by refine bq zz ?_;clear zz;intro G' J' X' a;exact⟨c.h0,G',J',X',⟨rfl,a.1⟩,a.2⟩) λV V z=>z⟩) hs).imp (λh zz=>by refine kJ zz ?_;clear zz;intro h0 G' J' X' Cr b;refine CC Cr ?_;intro e a;subst e;exact⟨G',J',X',a,b⟩) λV V z=>z
theorem Fr.less{G G':Res}(F:Fr (c.on X G) J h)(a:∀w X h,G.P w X h->G'.P w X h)(b:∀b,G'.fp b->G.fp b):Fr (c.on X G') J h:=
 {base:=F.base,Ck:=F.Ck,kind:=F.kind,glob:=F.glob,blt:=F.blt,ok:=F.ok,old:=F.old,loc:=F.loc,E0:=F.E0,apart:=F.apart,names:=F.names,g:=a _ _ _ F.g,gx:=λx z=>F.gx x (b x z)}
theorem Bb.keys{n:Str}{np:Pos}(x:Ev c J e (.dict es)):Bb c J (.Name n np) e (es.map λp=>.str p.1):=λs F Q E q=>
 x s F _ _ λv h1 t1 l1 r1=>by
  refine V8 (B9.Iv r1) ?_;rintro a kvs rfl nx nt ns p r;have F1:=F.le l1;refine B6 p.dictAt ?_;intro ep jf;refine wpAny_pyIter_dict ns jf ?_;have lp:Le h1 (h1.push {cls:=.type "dict_keyiterator",data:=.fields #[.ref a,.int 0 0,.int (kvs.length:Int) 0,.int (ep:Int) 0]}):=Le.push _ _;have KJ:=B5 F1.base.tab;have Hl:a≠h1.objs.size:=λz=>by refine Fq jf ?_;clear jf;intro o V e V;exact Aa _ (z▸Ag e)
  have hW:=Walks.dictKeys (prog:=prog) (w:=c.w) (knd:=KS c.w) F.ok.handled h1.objs.size a Hl kvs ep;have hI:(h1.push {cls:=.type "dict_keyiterator",data:=.fields #[.ref a,.int 0 0,.int (kvs.length:Int) 0,.int (ep:Int) 0]}).IsKeyIter h1.objs.size a 0 kvs.length ep:=⟨_,AH _ rfl,rfl,rfl⟩
  have hA:(h1.push {cls:=.type "dict_keyiterator",data:=.fields #[.ref a,.int 0 0,.int (kvs.length:Int) 0,.int (ep:Int) 0]}).DictAt (KS c.w) a kvs ep:=jf.at' λo e=>lp.keep _ o nt id e;have ek:=Cc.keys r;have el:=Cc.length r;refine Fq (id hA) ?_;intro oa V ea V;refine q (.ref h1.objs.size) (·∈[h1.objs.size]) _ t1 (l1.trans lp) ?_ ?_ ?_
  .intro b hb;rw[AG.mp hb];exact LN F1.base l1 (AH _ rfl)
  .refine Kh hW (λi h st b hb=>?_) (λi v s' Q E st h=>wpAny_of_eq (t:=pure ()) rfl h) _ (by rw[AA,el]) (λV V=>True) (λV V V V V V=>trivial) (λX h j v d V pv hd=>?_) (by simp[Ne.symm KJ]) _ 0 _ _ (Al _) rfl ⟨hI,hA⟩ trivial ?_
   .rw [AG.mp hb];refine CC st ?_;clear st;intro Dv V;refine EJ Dv ?_;intro o e V ed;exact⟨o,e,Cd.fd ed (by intro t h;simp at h)⟩
   .refine Fq pv ?_;clear pv;intro k x e1 e2;refine B6 (Value.isStrOf_shape (by exact e2)) ?_;rintro t rfl;have:d=.str k:=by
     rw[AL,AS]at hd;refine Bi hd ?_;clear hd;rintro p2 e3 rfl;have e4:(kvs.map (·.1))[j]? = (es.map (·.1))[j]?:=by rw[ek]
     rw[AL,AL,e1,e3]at e4;simp at e4;rw[e4]
    rw[this];exact .str _ _
   .intro b hb;rcases AJ.mp hb with rfl|hb
    .exact ⟨.inl (AG.mpr rfl),KJ,_,AH _ rfl⟩
    .rw [AG.mp hb];exact⟨.inr λz=>z.elim nx λz=>Hl (AG.mp z),nt,_,ea⟩
  .exact λs' l Q E h=>wpAny_pyIter_keyiter (hI.at λo e=>l.keep _ o KJ id e) h
theorem Ev.fA{ke ve:Expr}{k:Str}(x:Ev c J ke (.str k))(y:Ev c J ve d)(fl:d.flat=true):Ev c J (.Dict [some ke] [ve] pos) (.dict [(k,d)]):=λs F Q E q=>by
 refine wpAny_Dict_walk (knd:=KS c.w) rfl rfl (by simp) (AE rfl) ?_;have l1:Le s.heap (s.heap.push {cls:=.type "dict",data:=.dict #[]}):=Le.push _ _;have e1:(s.heap.push {cls:=.type "dict",data:=.dict #[]}).get? s.heap.objs.size=some {cls:=.type "dict",data:=.dict #[]}:=AH _ rfl;have n1:=Bn s.heap;have b1:=B7 F.base;have d1:(s.heap.push {cls:=.type "dict",data:=.dict #[]}).DictOf (KS c.w) s.heap.objs.size []:=C4 e1;generalize hd:s.heap.objs.size=a at *;generalize uP:s.heap.push {cls:=.type "dict",data:=.dict #[]}=h1 at *;have F1:Fr c J h1:=F.le l1;refine pairTrees_cons_walk (x {s with heap:=h1,toks:=s.toks} F1 _ _ λkv h2 t2 l2 r2=>y {s with heap:=h2,toks:=t2} (F1.le l2) _ _ λvv h3 t3 l3 r3=>pairTrees_nil_walk ?_);cases r2;have bN:Le h1 h3:=Bu.trans l2 l3;have KL:a≠TP:=Cq b1;refine⟨[(k,vv)],⟨DL _ _ _,rfl,trivial⟩,C2 d1 λo e=>bN.keep _ o KL id e,λh4 d4 s4=>?_⟩;have ns:(a==sysModules)=false:=by
  rw[Av];intro z;rw[z]at b1;exact absurd b1 (by decide)
 have l4:Bu (·=a) h3 h4:=by
  refine Ju (id d4) ?_;intro o4 V V e4 V;exact Cp s4 _ e4 KL (Cd.at (bN.keep _ _ KL id e1) (Cd.dict rfl))
 refine q _ h4 _ ((Bu.trans (Le.to (Bu.trans l1 bN)) l4).fresh λb z=>.inr (by rw[z];exact n1)) (.dict (λz=>?_) KL ns d4 (.cons (r3.flat fl) .nil));obtain⟨_,o,e⟩:=F.Ck a z;rw[n1]at e;cases e
theorem FO.jH{np:Pos}{e1 e2:Expr}{tag:Nat}{way:BZ}{ab:Option Nat}(f:Ev c J (.Name x np) (.obj (.ref 268)))(y1:Ev c J e1 (.str (sg tag)))(y2:Ev c J e2 (.dict (Ic way ab)))(hk:1<=c.k)(he:autoParam (D9 c e1 [e2]) Bd)(Jp:autoParam (D9 c e2 []) Bd):FO c J (.Call (.Name x np) [e1,e2] [] pos) (Zt tag way ab):=λs F Q E q=>
 wpAny_Call_NameR (f s F _ _ λv h1 t1 l1 r1=>by
  cases r1;have Ec:Le s.heap h1:=l1;refine BG (o:=Eu (Ba 25) (S "_law_thing") .none CY (.ref 267)) (fd:=EW (Ba 25) (S "_law_thing") .none CY (.ref 267)) rfl ((FQ.cons y1 (FQ.cons y2 .nil Jp) he:FQ c J _ [.str (sg tag),.dict (Ic way ab)]) pos {s with heap:=h1,toks:=t1} (F.le Ec) _ _ λvs h2 t2 l2 r2=>?_) he;have E6:Le h1 h2:=l2;have F2:=(F.le Ec).le E6;have Gk:Le s.heap h2:=Bu.trans Ec E6;refine⟨F2.base.k _ _ (GK.here _),M1 (k:=0) (s:={s with heap:=h2,toks:=t2}) (F2.ok.CD hk) F2.base F2.Ck r2 λt h3 t3 a1 a2 a3 a4 a5 l3 nw tP=>?_⟩;refine q _ h3 t3 (.obj (.ref t.f)) (Bm [t]) ⟨t,rfl,rfl,a1,a2,a3,a4,a5⟩ (Bu.trans Gk l3) (λb z=>?_) tP (.obj _);refine FP (nw b z) ?_;intro b1 b2 b3;exact⟨Bx Gk (Cq b2) b1,b2,b3⟩)
def eE(tag:Nat)(way:BZ)(ab:Option Nat)(d:D)(T:Res):Prop:=∃(a:Addr) (t:Th),d=.obj (.ref a)/\T=(Bw a [(sg tag,.obj (.ref t.f))]).star (Bm [t])/\t.tag=tag/\t.way=way/\t.above=ab/\t.kids=[]/\t.tl=none
theorem FO.tab{ke ve:Expr}{tag:Nat}{way:BZ}{ab:Option Nat}(x:Ev c J ke (.str (sg tag)))(y:∀fp,FO (c.plus fp) J ve (Zt tag way ab)):FO c J (.Dict [some ke] [ve] pos) (eE tag way ab):=λs F Q E q=>by
 refine wpAny_Dict_walk (knd:=KS c.w) rfl rfl (by simp) (AE rfl) ?_;have l1:Le s.heap (s.heap.push {cls:=.type "dict",data:=.dict #[]}):=Le.push _ _;have e1:(s.heap.push {cls:=.type "dict",data:=.dict #[]}).get? s.heap.objs.size=some {cls:=.type "dict",data:=.dict #[]}:=AH _ rfl;have n1:=Bn s.heap;have b1:=B7 F.base;have d1:(s.heap.push {cls:=.type "dict",data:=.dict #[]}).DictOf (KS c.w) s.heap.objs.size []:=C4 e1;generalize hd:s.heap.objs.size=a at *;have F1:Fr (c.plus (·=a)) J (s.heap.push {cls:=.type "dict",data:=.dict #[]}):=F.plus l1 λb z=>by have z':b=a:=z;rw[z'];exact⟨n1,b1,_,e1⟩
 generalize uP:s.heap.push {cls:=.type "dict",data:=.dict #[]}=h1 at *;refine pairTrees_cons_walk (x {s with heap:=h1,toks:=s.toks} (F.le l1) _ _ λkv h2 t2 l2 r2=>y (·=a) {s with heap:=h2,toks:=t2} (F1.le l2) _ _ λvv h3 t3 d T zz l3 nw tP r3=>rA zz λt ed eT a1 a2 a3 a4 a5=>pairTrees_nil_walk ?_);subst ed eT;cases r2;cases r3;have E6:Le h1 h2:=l2;have L9:Le h2 h3:=l3;have bN:Le h1 h3:=Bu.trans E6 L9;have KL:a≠TP:=Cq b1;refine⟨[(sg tag,.ref t.f)],⟨DL _ _ _,rfl,trivial⟩,C2 d1 λo e=>bN.keep _ o KL id e,λh4 d4 s4=>?_⟩;have ns:(a==sysModules)=false:=by
  rw[Av];intro z;rw[z]at b1;exact absurd b1 (by decide)
 have l4:Bu (·=a) h3 h4:=by
  refine Ju (id d4) ?_;intro o4 V V e4 V;exact Cp s4 _ e4 KL (Cd.at (bN.keep _ _ KL id e1) (Cd.dict rfl))
 refine Ju (id d4) ?_;intro w7 V V s6 V;have q6:∃o,h2.get? a=some o:=⟨_,E6.keep _ _ KL id e1⟩
 have fa:∀b,(Bm [t]).fp b->b≠a:=λb z e=>by
  refine B6 q6 ?_;clear q6;intro o eo;rw[e]at z;have:=(nw a z).1;rw[eo]at this;cases this
 have o9:∀b,DH c.X ((Bw a [(sg tag,D.obj (.ref t.f))]).star (Bm [t])).fp b->DH (c.plus (·=a)).X (Bm [t]).fp b:=λb z=>z.elim (λz=>.inl (.inl z)) λz=>z.elim (λz=>.inl (.inr z)) λz=>.inr z;refine q _ h4 _ (.obj (.ref a)) ((Bw a [(sg tag,.obj (.ref t.f))]).star (Bm [t])) ⟨a,t,rfl,rfl,a1,a2,a3,a4,a5⟩ ((Bu.trans (Le.to (Bu.trans l1 bN)) l4).fresh λb z=>.inr (by rw[z];exact n1)) (λb z=>?_) ⟨⟨_,d4,.cons (.obj _) .nil,KL,ns⟩,?_,λb z z'=>fa b z' z⟩ (.obj _)
 .rcases z with z|z
  .have z':b=a:=z;rw[z'];exact⟨n1,b1,_,s6⟩
  .obtain ⟨b2,b3,o,b4⟩:=nw b z;have Gk:Le s.heap h2:=Bu.trans l1 E6;exact⟨Bx Gk (Cq b3) b2,b3,l4.alive (Cq b3) b4⟩
 .refine Res.CD ((Bm [t]).mv tP λb o z n e=>⟨l4.at n e λy=>?_,id⟩) o9;have y':b=a:=y;rcases z with z|z|z
  .exact absurd y' (fa b z)
  .exact absurd (.inl (.inr y')) z
  .exact z
theorem Ex.Ys{ap:Pos}{t:Th}{G':Res}(ro:¬c.ro)(gV:t.tl=none)(fl:d.flat=true)(hd:∀X w h v,B9 X w h v d->∀X' w' h',B9 X' w' h' v d)(u:Upd c.G (Bm [t]) (Bm [{t with tl:=some d}]) G')(a:Ev c J o (.obj (.ref t.f)))(y:Ev c J e d)(hs:autoParam (swapsWith e (some (.Attribute o (Str.ofString "tail") ap)) pos.line c.env=pure false) Bd):Ex c J (.Assign [.Attribute o (Str.ofString "tail") ap] e pos) (Fr (c.on c.X G') J) R:=λs F Q E n r=>
 plainObj_wpAny_Assign_Attribute (y s F _ _ λv h1 t1 l1 r1=>by
  have F1:Fr c J h1:=F.le l1;have g1:=u.has _ _ _ F1.g;obtain⟨⟨fa,fi,ck,ct,tk,av,m,z⟩,nd⟩:Ly c.w c.X h1 t/\_:=⟨g1.1 t (.head _),g1.2⟩
  refine a {s with heap:=h1,toks:=t1} F1 _ _ λov h2 t2 l2 r2=>?_;cases r2;have E6:Le h1 h2:=l2;have F2:=F1.le E6;have g2:=u.has _ _ _ F2.g;obtain⟨⟨fa,fi,ck,ct,tk,av,m,z⟩,Zf⟩:Ly c.w c.X h2 t/\_:=⟨g2.1 t (.head _),g2.2⟩
  refine Kt (g:=s.gens) (d:=s.drawn) (t:=t2) (os:=s.os) RU z.fn z.ms.wi (by decide) λh3 t3 d' I e k=>?_;have ed:t.dd=d':=by rcases e with e|⟨e,_⟩<;>cases e<;>rfl
  subst ed;refine Bi I.dd ?_;intro o3 e3 n3;refine Bi z.fn.dd ?_;intro o2 e2 n2;have l3:Bu (·=t.dd) h2 h3:=Bu.of (λb o nb e=>k b o (.inr (by simp)) nb e) (λb o w V=>⟨o3,by rw[show b=t.dd from w];exact e3⟩) (λq=>z.nd q.symm) λb o w e=>by
   have w':b=t.dd:=w;rw[w',e2]at e;cases e;exact n2
  have sd:c.X t.dd:=(F2.gx t.dd (u.fp _ ⟨t,.head _,.inl rfl⟩)).1.1;have dk:t.dd≠t.ka:=by have:=Zf;simpa using this
  have kk:∀b o,(b=t.ka\/¬c.X b\/Cd o)->b≠TP->h2.get? b=some o->h3.get? b=some o:=λb o q n e=>l3.at n e λy=>by
   have y':b=t.dd:=y;rcases q with q|q|q
   .exact absurd (y'.symm.trans q) dk
   .exact absurd (y'▸sd) q
   .exact q
  have kx:∀ {a:Addr}{o:Obj},¬c.X a->a≠TP->h2.get? a=some o->h3.get? a=some o:=λ{a o} n t e=>kk a o (.inr (.inl n)) t e;have kc:∀b o,b≠TP->h2.get? b=some o->Cd o->h3.get? b=some o:=λb o n e z=>kk b o (.inr (.inr z)) n e;have r3:∀X w h,B9 X w h v d:=λX w h=>hd _ _ _ _ r1 X w h;have ne:∀x,x∈[S "attrib",S "makeelement",S "append",S "itertext"]->¬x=Str.ofString "tail":=by decide
  have ms:lA (λy=>if y=Str.ofString "tail" then some v else m y) av fa fi (some d):=by
   refine⟨?_,?_,?_,?_,λy hy=>?_,fl,v,by simp,r3⟩
   .rw [if_neg (ne _ (by simp))];exact z.ms.at_
   .rw [if_neg (ne _ (by simp))];exact z.ms.mke
   .rw [if_neg (ne _ (by simp))];exact z.ms.ap
   .rw [if_neg (ne _ (by simp))];exact z.ms.it
   .by_cases q:y=Str.ofString "tail"
    .rw [q];exact .head _
    .simp only[if_neg q]at hy;exact z.ms.wi y hy
  refine n h3 t3 (F2.upd ro u (l3.any λb y=>⟨t,.head _,.inl y⟩) ⟨λt' j3=>?_,Zf⟩);rw[AG.mp j3];have lm:∀ {f params body scope cl},(¬c.X f/\f≠TP)/\Ds h2 f params body scope cl->(¬c.X f/\f≠TP)/\Ds h3 f params body scope cl:=λ{f params body scope cl} zz=>CC zz λir L=>CC ir λn1 n2=>⟨⟨n1,n2⟩,L.at (λo e=>kx n1 n2 e) kc⟩;have ce:∀ {a v},(¬c.X a/\a≠TP)/\h2.IsCell a v->(¬c.X a/\a≠TP)/\h3.IsCell a v:=λ{a v} zz=>CC zz λiu i=>CC iu λn1 n2=>⟨⟨n1,n2⟩,B1 i λo e=>kx n1 n2 e⟩;exact⟨fa,fi,ck,ct,tk,av,_,z.nf,z.nd,z.nk,I,ms,z.av.move λb o n t e=>⟨kx n t e,n⟩,z.kids.at λo e=>kk _ o (.inl rfl) z.nk e,lm z.ap,lm z.it,ce z.ck,ce z.ct⟩) hs
theorem UX{name:Str}{apos:Pos}{es:Cy}{x f:Addr}{T T' G2:Res}(ro:¬c.ro)(u:Upd c.G T T' G2)(a:Ev c J o (.obj (.ref x)))(y:FQ c J (e::es) ds)(g:CU c.w f k T (.obj (.ref x)::ds) d T')(hk:k<=c.k)(hI:DI c x)(hf:∀P,findIn (Kx P) (.ref 189) name=some (some (.ref f)))(hd:∃st qual code dflt mod,CA f st qual code dflt mod)(F:Fr c J s.heap)(q:∀v h' tk,Bu T.fp s.heap h'->Fr (c.on c.X G2) J h'->B9 c.X c.w h' v d->Q v {s with heap:=h',toks:=tk})(hn:autoParam (name≠JJ) Fj)(he:autoParam (D9 c e es) Bd)(hb:autoParam (ja c o name) Bd)(Dw:autoParam (((backTo pos (starEach (e::es) c.env)).all (λx=>!x.1)&&(backToKw pos (keywordEach [] c.env)).all (λx=>x.1.isSome)
   && decide ((e::es).length+([]:List Keyword).length+(if(backToKw pos (keywordEach [] c.env)).isEmpty then 0 else 1)<30))=true) Bd)(hl:autoParam (J8 apos pos) Bd) :
  wpAny (model prog c.w) c.A (eval (.Call (.Attribute o name apos) (e::es) [] pos) c.env) Q E s:=by
 refine Ez a F hI hn hf hd hb Dw hl λs1 F1 l1 e1=>?_;rw[he];refine PySem.Calls.evalArgs_plain ?_;have z:=y pos s1 F1 (λvs s2=>CW c.w s2.heap/\wpAny (model prog c.w) c.A (call (.ref f) (.ref x::vs) []) Q E s2) E (λvs h2 t2 l2 r2=>?_)
 .rw [he]at z;exact z
 have F2:Fr c J h2:=F1.le l2;refine⟨F2.base,?_⟩;have gx:∀b,T.fp b->c.X b:=λb z=>(F2.gx b (u.fp b z)).1.1;exact g c.A c.X {s1 with heap:=h2,toks:=t2} (.ref x::vs) (F2.ok.CD hk) F2.base F2.Ck (.cons (.obj _) r2) (u.has _ _ _ F2.g) gx Q E λv h3 t3 l3 r3=>by
  rw[e1];exact q v h3 t3 (Bu.trans (Le.to (Bu.trans l1 l2)) l3) (F2.upd ro u l3 r3.2) r3.1
theorem Ex.Ik{e1 e2:Expr}{apos GF:Pos}{x dx l:Addr}{rows:Ci}{n v:Str}{G2:Res}(ro:¬c.ro)(hl:rows.length<=1000)(Pl:l≠x)(L6:l≠dx)(hn:CF true n)(hv:CF false v)(qW:v.length<=1000)(hk:2<=c.k)(u:Upd c.G (Bc x dx l rows) (Bc x dx l (rows++[(n,v)])) G2)(a:Ev c J o (.obj (.ref x)))(y1:Ev c J e1 (.str n))(y2:Ev c J e2 (.str v))(hint:interactive c.env=false)(he:autoParam (D9 c e1 [e2]) Bd)(Jp:autoParam (D9 c e2 []) Bd)(hb:autoParam (attributeBase o "add_header" c.env (eval o c.env)=eval o c.env) Bd)(Dw:autoParam (((backTo pos (starEach [e1,e2] c.env)).all (λx=>!x.1)&&(backToKw pos (keywordEach [] c.env)).all (λx=>x.1.isSome)
   && decide ([e1,e2].length+([]:List Keyword).length+(if(backToKw pos (keywordEach [] c.env)).isEmpty then 0 else 1)<30))=true) Bd)(Nb:autoParam (J8 apos pos) Bd)(hs:autoParam (swapsWith (.Call (.Attribute o "add_header" apos) [e1,e2] [] pos) none GF.line c.env=pure false) Bd) :
  Ex c J (.Expr (.Call (.Attribute o "add_header" apos) [e1,e2] [] pos) GF) (Fr (c.on c.X G2) J) R:=λs F Q E nn r=>
 wpAny_Expr_any (UX ro u a (.cons y1 (.cons y2 .nil Jp) he) (mQ c.w 0 x dx l rows n v hl Pl L6 hn hv qW) hk (DI.res (dx:=dx) (l:=l) (rows:=rows) λX h z=>u.has _ _ _ z) VU ⟨_,_,_,_,_,JZ⟩ F (λv h' tk l' F' V=>nn h' tk F') (by decide) he hb Dw Nb) hint hs
theorem Ex.cN{e1 e2:Expr}{sp:Pos}{x dx l:Addr}{rows:Ci}{n v:Str}{G2:Res}(ro:¬c.ro)(hl:rows.length<=1000)(Pl:l≠x)(L6:l≠dx)(hr:∀r∈rows,JT r)(gI:CF true n)(hv:CF false v)(hn:n.length<=1000000)(hc:CF true (Txt.lower n))(S4:PyData.strOk (Txt.lower n)=true)(hk:3<=c.k)(u:Upd c.G (Bc x dx l rows) (Bc x dx l (L7 rows n v)) G2)(a:Ev c J o (.obj (.ref x)))(y1:Ev c J e1 (.str n))(y2:Ev c J e2 (.str v))(hs:autoParam (swapsWith e2 (some (.Subscript o e1 sp)) pos.line c.env=pure false) Bd) :
  Ex c J (.Assign [.Subscript o e1 sp] e2 pos) (Fr (c.on c.X G2) J) R:=λs F Q E nn r=>
 wpAny_Assign_Subscript (y2 s F _ _ λv1 h1 t1 l1 r1=>by
  have F1:Fr c J h1:=F.le l1;refine a {s with heap:=h1,toks:=t1} F1 _ _ λv2 h2 t2 l2 r2=>?_;cases r2;have E6:Le h1 h2:=l2;have F2:Fr c J h2:=F1.le E6;refine y1 {s with heap:=h2,toks:=t2} F2 _ _ λv3 h3 t3 l3 r3=>?_;have L9:Le h2 h3:=l3;have F3:Fr c J h3:=F2.le L9;have g3:=u.has _ _ _ F3.g;refine Fq (ID g3) ?_;intro ox od I V;refine QK (od:=od) ZK F3.base.k I ?_;have gx:∀b,(Bc x dx l rows).fp b->c.X b:=λb z=>(F3.gx b (u.fp b z)).1.1;have cE:B9 c.X c.w h3 v1 (.str v):=r1.flat rfl;refine mT c.w 0 x dx l rows n v hl Pl L6 hr gI hv hn hc S4 c.A c.X {s with heap:=h3,toks:=t3} [.ref x,v3,v1] (F3.ok.CD hk) F3.base F3.Ck (.cons (.obj _) (.cons r3 (.cons cE .nil))) g3 gx _ _ λv4 h4 t4 l4 r4=>?_;exact nn h4 t4 (F3.upd ro u l4 r4.2)) hs
theorem Be.Vc{e1 e2 r0:Expr}{apos cp ip:Pos}{body orelse:Dy}{rest:Dy}{ls:List (List Stmt)}{x dx l:Addr}{rows:Ci}{n v:Str}{G2:Res}(ro:¬c.ro)(hl:rows.length<=1000)(Pl:l≠x)(L6:l≠dx)(hr:∀r∈rows,JT r)(gI:CF true n)(hv:CF false v)(hn:n.length<=1000000)(hc:CF true (Txt.lower n))(S4:PyData.strOk (Txt.lower n)=true)(hk:3<=c.k)(u:Upd c.G (Bc x dx l rows) (Bc x dx l (Ey rows n v)) G2)(a:Ev c J o (.obj (.ref x)))(y1:Ev c J e1 (.str n))(y2:Ev c J e2 (.str v))(z:Ev (c.on c.X G2) J r0 (.str (FF rows n v)))(k:Be (c.on c.X G2) J (orelse::rest::ls) N R)(he:autoParam (D9 c e1 [e2]) Bd)(Jp:autoParam (D9 c e2 []) Bd)(hb:autoParam (attributeBase o "setdefault" c.env (eval o c.env)=eval o c.env) Bd)(Dw:autoParam (((backTo pos (starEach [e1,e2] c.env)).all (λx=>!x.1)&&(backToKw pos (keywordEach [] c.env)).all (λx=>x.1.isSome)
   && decide ([e1,e2].length+([]:List Keyword).length+(if(backToKw pos (keywordEach [] c.env)).isEmpty then 0 else 1)<30))=true) Bd)(Nb:autoParam (J8 apos pos) Bd)(hm:autoParam (behindInMarks .NotEq r0=false) Dz) :
  Be c J ((.If (.Compare (.Call (.Attribute o "setdefault" apos) [e1,e2] [] pos) [.NotEq] [r0] cp) body orelse ip::rest)::ls) N R:=λs F Q E nn r=>
 Ao (wpAny_If (wpAny_isTrue_Compare1 (UX ro u a (.cons y1 (.cons y2 .nil Jp) he) (Xw c.w 0 x dx l rows n v hl Pl L6 hr gI hv hn hc S4) hk (DI.res (dx:=dx) (l:=l) (rows:=rows) λX h z=>u.has _ _ _ z) S2 ⟨_,_,_,_,_,OV⟩ F (λv1 h1 t1 l1 F1 r1=>by
  refine z {s with heap:=h1,toks:=t1} F1 _ _ λv2 h2 t2 l2 r2=>?_;have E6:Le h1 h2:=l2;cases r1;cases r2;refine ne_str (wpAny_truthy_bool ?_);have e:((FF rows n v) != (FF rows n v))=false:=by simp
  rw[e];have kk:Qr c (orelse::rest::ls) Q E {s with heap:=h2,toks:=t2}:=HR (c:=c) (c':=c.on c.X G2) ⟨rfl,rfl,rfl⟩ (orelse::rest::ls) (k {s with heap:=h2,toks:=t2} (F1.le E6) Q E nn r);exact wpAny_mono kk (λf s' k=>by cases f<;>exact k) λV V k=>k) (by decide) he hb Dw Nb) hm))
theorem Bh.YY{k:Str}(hG:∀X h,c.G.P c.w X h->(Bw a es).P c.w X h)(x:Ev c J l (.str k))(y:Ev c J r (.obj (.ref a)))(hm:autoParam (behindInMarks .NotIn r=false) Dz) :
  Bh c J l .NotIn r (!(es.lookup k).isSome):=Bh.of x y (λV V s F ra rb Q E q=>by
 cases ra;cases rb;refine UI (hG _ _ F.g) ?_;intro kvs p rr nt ns;refine wpAny_notIn_of (knd:=KS c.w) (DL _ _ _) ns p.mapOf ?_;rw[WJ rr];exact q _ s.heap _ (.refl _) (.bool _)) hm
structure Gs(G T:Res)(M:CG)(T' G':Res):Prop where
 has:∀w X h,G.P w X h->T.P w X h
 fp:∀b,T.fp b->G.fp b
 out:∀b,G'.fp b->G.fp b\/M b
 put:∀w X h h',G.P w X h->(∀b,G.fp b->X b)->(∀b,X b->∃o,h.get? b=some o)->(∀b,M b->h.get? b=none)->Bu T.fp h h'->T'.P w (DH X M) h'->G'.P w (DH X M) h'
theorem Gs.self{T T':Res}{M:CG}(o:∀b,T'.fp b->T.fp b\/M b):Gs T T M T' T':=⟨λV V V z=>z,λV z=>z,o,λV V V V V V V V V t=>t⟩
theorem NX{S:Res}{M:CG}(s:S.P w X h)(l:Bu W h h')(wx:∀b,W b->X b)(ap:∀b,S.fp b->W b->False)(m:∀b,M b->h.get? b=none):S.P w (DH X M) h':=
 S.mv s λb o q nt e=>⟨l.at nt e λy=>by
  rcases q with q|q|q
  .exact (ap b q y).elim
  .exact absurd (wx b y) q
  .exact q,λnx z=>z.elim nx λz=>by rw[m b z]at e;cases e⟩
theorem Gs.lf{G T T' G' S:Res}{M:CG}(u:Gs G T M T' G'):Gs (G.star S) T M T' (G'.star S) where
 has:=λw X h z=>u.has w X h z.1
 fp:=λb z=>.inl (u.fp b z)
 out:=λb z=>z.elim (λz=>(u.out b z).imp_left .inl) λz=>.inl (.inr z)
 put:=λw X h h' z gx xk m l t=>⟨u.put w X h h' z.1 (λb y=>gx b (.inl y)) xk m l t,NX z.2.1 l (λb y=>gx b (.inl (u.fp b y))) (λb y y'=>z.2.2 b (u.fp b y') y) m,λb y y'=>(u.out b y).elim (λy=>z.2.2 b y y') λy=>by
  refine B6 (xk b (gx b (.inr y'))) ?_;intro o e;rw[m b y]at e;cases e⟩
theorem Gs.rt{G T T' G' S:Res}{M:CG}(u:Gs G T M T' G'):Gs (S.star G) T M T' (S.star G') where
 has:=λw X h z=>u.has w X h z.2.1
 fp:=λb z=>.inr (u.fp b z)
 out:=λb z=>z.elim (λz=>.inl (.inl z)) λz=>(u.out b z).imp_left .inr
 put:=λw X h h' z gx xk m l t=>⟨NX z.1 l (λb y=>gx b (.inr (u.fp b y))) (λb y y'=>z.2.2 b y (u.fp b y')) m,u.put w X h h' z.2.1 (λb y=>gx b (.inr y)) xk m l t,λb y' y=>(u.out b y).elim (λy=>z.2.2 b y' y) λy=>by
  refine B6 (xk b (gx b (.inl y'))) ?_;intro o e;rw[m b y]at e;cases e⟩
theorem Fr.ft{T T' G':Res}{M:CG}(F:Fr c J h)(ro:¬c.ro)(u:Gs c.G T M T' G')(l:Bu T.fp h h')(n:∀b,M b->h.get? b=none/\306<=b/\∃o,h'.get? b=some o)(t:T'.P c.w (DH c.X M) h'):Fr (c.on (DH c.X M) G') J h':=
 have nl:¬T.fp c.env.locals:=λz=>(F.gx _ (u.fp _ z)).2.1 rfl;have nc:∀x a,c.env.cells.lookup x=some a->¬T.fp a:=λx a e z=>(F.gx _ (u.fp _ z)).2.2 x e;have tx:∀b,T.fp b->c.X b:=λb z=>(F.gx b (u.fp _ z)).1.1
 {base:=F.base.le l λb z=>(F.Ck b (tx b z)).1
  Ck:=λa z=>z.elim (λz=>(F.Ck.le l) a z) λz=>(n a z).2
  kind:=F.kind,glob:=F.glob,blt:=F.blt,ok:=F.ok
  old:=⟨λb o nt n e=>l.keep b o nt (λz=>((F.gx b (u.fp _ z)).1.2).elim (λz=>ro z) λz=>z.elim n λz=>by have e2:c.h0.get? b=some o:=e;rw[z]at e2;cases e2) (F.old.keep b o nt n e),λb o nt w e=>by
   refine B6 (F.old.live b o nt w e) ?_;intro o' e';exact l.alive nt e',λtb=>l.tab (F.old.tab tb),λb o e z=>l.code b o (F.old.code b o e z) z⟩
  loc:=⟨.inl F.loc.1,F.loc.2.1,by refine B6 F.loc.2.2 ?_;intro m q;exact⟨m,Cm q λo e=>l.keep _ o F.W7 nl e⟩⟩
  E0:=λx a e=>let⟨a1,a2,⟨v,a3⟩,a4⟩:=F.E0 x a e
   ⟨a1,a2,⟨v,B1 a3 λo z=>l.keep _ o a2 (nc x a e) z⟩,λo=>⟨.inl (a4 o).1,(a4 o).2⟩⟩
  apart:=F.apart
  names:=λx d m=>by
   refine Bi (F.names x d m) ?_;intro v H r;exact⟨v,H.keep (λo nt e=>l.keep _ o nt nl e) (λa o nt ea e=>l.keep _ o nt (nc x a ea) e),r.move λb o nx nt e=>⟨l.keep b o nt (λz=>nx (tx b z)) e,λz=>z.elim nx λz=>by rw[(n b z).1]at e;cases e⟩⟩
  g:=u.put _ _ _ _ F.g (λb z=>(F.gx b z).1.1) (λb z=>(F.Ck b z).2) (λb z=>(n b z).1) l t
  gx:=λb z=>by
   rcases u.out b z with z|z
   .refine CC (F.gx b z) ?_;intro Cr a3;refine CC Cr ?_;intro a1 a2;exact⟨⟨.inl a1,a2⟩,a3⟩
   .have nw:=F.new (n b z).1 (n b z).2.1;exact⟨⟨.inr z,.inr (.inr nw.2.2.1)⟩,nw.2.2.2.2⟩}
noncomputable def KB(L:C0):List (Str×D):=L.map λt=>(sg t.tag,D.obj (.ref t.f))
noncomputable def Gg(td:Addr)(L:C0):Res:=(Bw td (KB L)).star (Bm L)
theorem QB(L:C0)(tag:Nat)(kf:Addr):KB (CX L tag kf)=KB L:=by
 unfold KB CX;rw[AB];apply AW;intro t V;dsimp only[Function.comp];split<;>rfl
theorem Xn{L:C0}{q:Nat}(hq:q∉L.map (·.tag)):dput (KB L) (sg q) d=KB L++[(sg q,d)]:=by
 unfold dput;rw[if_neg];intro z;refine Bi (Aq.mp z) ?_;intro p hp e;refine Bi (AF.mp hp) ?_;rintro t ht rfl;exact hq (AF.mpr ⟨t,ht,Ek (of_decide_eq_true e)⟩)
theorem KD{L:C0}{t:Th}(nt:(L.map (·.tag)).Nodup)(ht:t∈L):(KB L).lookup (sg t.tag)=some (.obj (.ref t.f)):=by
 induction L with
 |nil=>cases ht
 |cons x L ih=>
  rw[AI,List.nodup_cons]at nt;unfold KB;rw[AI,AK];rcases AJ.mp ht with e|h1
  .rw [e];simp
  .have Hl:(sg t.tag==sg x.tag)=false:=by
    rw[Av];intro e;exact nt.1 (AF.mpr ⟨t,h1,Ek e⟩)
   rw[Hl];exact ih nt.2 h1
theorem Ex.cP{i a1 a2 a3 a4 a5:Expr}{sp np cp k1 k2:Pos}{td:Addr}{L:C0}{p:Th}{q a:Nat}{way':BZ}{G1 G':Th->Res}(ro:¬c.ro)(nt:(L.map (·.tag)).Nodup)(hp:p∈L)(YA:p.kids.length<=1000)(hq:q∉L.map (·.tag))(tf:L.length<=1000)(hk:3<=c.k)(gr:∀t:Th,t.tag=q->Gs c.G (Gg td L) (Bm [t]).fp ((Bw td (KB L)).star (Bm (Mine.CX L p.tag t.f++[t]))) (G1 t))(u2:∀t:Th,t.tag=q->Upd (G1 t) (Bw td (KB L)) (Bw td (KB (Mine.CX L p.tag t.f++[t]))) (G' t))(f:Ev c J (.Name (S "SubElement") np) (.obj (.ref 202)))(y1:Ev c J a1 (.obj (.ref p.f)))(y2:Ev c J a2 (.str (sg q)))(y3:Ev c J a3 (.dict (Ic p.way p.above)))(y4:Ev c J a4 (.str (tx way')))(y5:Ev c J a5 (.str (sg a)))(yo:∀X G,Ev (c.on X G) J o (.obj (.ref td)))(yi:∀X G,Ev (c.on X G) J i (.str (sg q)))(hN:∀(t:Th) X' h,t.tag=q->t.way=way'->t.above=some a->t.kids=[]->t.tl=none->(∀b,c.X b->X' b)->Fr (c.on X' (G' t)) J h->N h)(ZU:autoParam (starEach [a1,a2,a3] c.env=(false,eval a1 c.env)::(false,eval a2 c.env)::(false,eval a3 c.env)::[]) Bd)(hs:autoParam (swapsWith (.Call (.Name (S "SubElement") np) [a1,a2,a3] [⟨some (S "way"),a4,k1⟩,⟨some (S "above"),a5,k2⟩] cp) (some (.Subscript o i sp)) pos.line c.env=pure false) Bd) :
  Ex c J (.Assign [.Subscript o i sp] (.Call (.Name (S "SubElement") np) [a1,a2,a3] [⟨some (S "way"),a4,k1⟩,⟨some (S "above"),a5,k2⟩] cp) pos) N R:=λs F Q E nn r=>
 wpAny_Assign_Subscript (by
  refine wpAny_bind (f s F _ _ λv h1 t1 l1 r1=>?_);cases r1;have F1:Fr c J h1:=F.le l1;refine callWith_function_kw (o:=Eu (Ba 14) (S "SubElement") (.ref 195) Km (.ref 201)) (fd:=EW (Ba 14) (S "SubElement") (.ref 195) Km (.ref 201)) ?_;rw[ZU];refine evalArgs_kw (by rfl) ?_;refine PySem.Calls.spliced_cons (y1 {s with heap:=h1,toks:=t1} F1 _ _ λv1 h2 t2 l2 r1=>PySem.Calls.spliced_cons (y2 {s with heap:=h2,toks:=t2} (F1.le l2) _ _ λv2 h3 t3 l3 r2=>PySem.Calls.spliced_cons (y3 {s with heap:=h3,toks:=t3} ((F1.le l2).le l3) _ _ λv3 h4 t4 l4 r3=>PySem.Calls.spliced_nil ?_)));have E6:Le h1 h2:=l2;have L9:Le h2 h3:=l3;have UG:Le h3 h4:=l4;cases r1;have F4:Fr c J h4:=((F1.le E6).le L9).le UG;refine wpAny_evalAll_cons (wpAny_bind (y4 {s with heap:=h4,toks:=t4} F4 _ _ λv4 h5 t5 l5 r4=>wpAny_bind (wpAny_standAt (wpAny_pure ?_))));refine wpAny_evalAll_cons (wpAny_bind (y5 {s with heap:=h5,toks:=t5} (F4.le l5) _ _ λv5 h6 t6 l6 r5=>wpAny_bind (wpAny_standAt (wpAny_pure (wpAny_evalAll_nil ?_)))));have kA:Le h4 h5:=l5;have kB:Le h5 h6:=l6;have F6:Fr c J h6:=(F4.le kA).le kB;have g6:=(gr ⟨q,[],none,none,0,0,0,[]⟩ rfl).has _ _ _ F6.g;have mY:∀b,(Gg td L).fp b->c.X b:=λb z=>(F6.gx b ((gr ⟨q,[],none,none,0,0,0,[]⟩ rfl).fp b z)).1.1;have vg:B9 c.X c.w h6 v2 (.str (sg q)):=r2.flat rfl;have vh:B9 c.X c.w h6 v3 (.dict (Ic p.way p.above)):=(r3.le kA).le kB;have ix:B9 c.X c.w h6 v4 (.str (tx way')):=r4.flat rfl;refine⟨⟨F6.base.k _ _ (ZL.here _),rfl⟩,?_⟩;refine Wg (k:=0) (s:={s with heap:=h6,toks:=t6}) (F6.ok.CD hk) F6.base F6.Ck g6.2.1 (λb z=>mY b (.inr z)) nt hp YA (way':=way') (a:=a) vg vh ix r5 _ _ λv7 h7 t7 l7 zz=>?_;refine oO zz ?_;clear zz;intro t ev b1 b2 b3 b4 b5 nw tP;subst ev;have uu:Bu (Gg td L).fp h6 h7:=l7.any λb z=>.inr z;have dP:(Bw td (KB L)).P c.w (DH c.X (Bm [t]).fp) h7:=NX g6.1 l7 (λb z=>mY b (.inr z)) (λb z z'=>g6.2.2 b z z') λb z=>(nw b z).1;have F7:=F6.ft ro (gr t b1) uu nw ⟨dP,tP,λb z z'=>by
   rcases HZ.mp z' with y|y
   .exact g6.2.2 b z ((Im L p.tag t.f b).mp y)
   .obtain ⟨_,o,e⟩:=F6.Ck b (mY b (.inl z));have:=(nw b y).1;rw[e]at this;cases this⟩
  refine yo _ _ {s with heap:=h7,toks:=t7} F7 _ _ λv8 h8 t8 l8 r8=>?_;cases r8;have nv:Le h7 h8:=l8;have F8:=F7.le nv;refine yi _ _ {s with heap:=h8,toks:=t8} F8 _ _ λv9 h9 t9 l9 r9=>?_;cases r9;have uv:Le h8 h9:=l9;have F9:=F8.le uv;refine UI ((u2 t b1).has _ _ _ F9.g) ?_;intro kvs pd rr Pm ns;have uS:=Cc.length rr;have nF:(KB L).length<=1000:=by unfold KB;rw[AA];exact tf
  refine wpAny_setItem_pairs (knd:=KS c.w) (DL _ _ _) pd (λdJ rJ vt=>?_) (by rw[sizeLine_eq];exact Je uS nF rfl);refine Ju (id rJ) ?_;intro w6 V V sv V;have dZ:Bu (·=td) h9 dJ:=Cp vt _ sv Pm (by refine V9 pd ?_;clear pd;intro V V V e V d V;exact Cd.at e (Cd.dict d));have pA:(c.on (DH c.X (Bm [t]).fp) (G1 t)).X td:=(F9.gx td ((u2 t b1).fp td rfl)).1.1;have oq:=IS (k:=sg q) (v:=Value.ref t.f) (d:=.obj (.ref t.f)) (rr.move (DR dZ λb z=>z▸pA)) (.obj _);rw[Xn hq]at oq;have ee:KB L++[(sg q,D.obj (.ref t.f))]=KB (Mine.CX L p.tag t.f++[t]):=by
   have:=QB L p.tag t.f;unfold KB at this ⊢;rw[Af,this,<- b1];rfl
  rw[ee]at oq;exact nn dJ _ (hN t _ dJ b1 b2 b3 b4 b5 (λb z=>.inl z) (F9.upd ro (u2 t b1) dZ ⟨_,rJ,oq,Pm,ns⟩))) hs
noncomputable def lows:List Nat:=[98,99,100,101,102]
noncomputable def Ch(a:Nat):Nat:=if a<97 then a+32 else a
noncomputable def Mz(a:Nat):Nat:=if a<97 then a+32 else a-32
theorem GB:∀a∈Bq,Txt.lower (sg a)=sg (Ch a):=by decide +kernel
theorem Yw:∀a∈Bq,Txt.swapcase (sg a)=sg (Mz a):=by decide +kernel
theorem Wh:∀a∈Bq,Mz a∈Bq/\Ch (Mz a)=Ch a:=by decide
theorem Ru:∀a∈Bq,Ch a∈lows:=by decide
theorem CB:∀a∈lows,a∈Bq/\Ch a=a/\a∈[98,99,100,101,102]:=by decide
theorem GS:∀a∈Bq,a<128:=by decide
theorem EG:∀a∈Bq,PyData.strOk (Txt.lower (sg a))=true:=by decide +kernel
theorem iT:∀a∈Bq,Dk (sg a)=false:=by decide +kernel
theorem DJ{a:Nat}(h:a∈Bq)(b:Bool):CF b (sg a):=by
 cases b
 .exact Ii.val h
 .exact Ii.name (iT a h) (Ad 1) (AE rfl)
theorem EV{a:Nat}(h:a∈Bq):CF true (Txt.lower (sg a)):=by
 rw[GB a h];exact DJ (CB _ (Ru a h)).1 true
theorem LG{a b:Nat}(ha:a∈Bq)(hb:b∈Bq):decide (Txt.lower (sg a)=Txt.lower (sg b))=(Ch a==Ch b):=by
 rw[GB a ha,GB b hb];by_cases h:Ch a=Ch b
 .simp [h]
 .have:¬sg (Ch a)=sg (Ch b):=λe=>h (Ek e);simp[h,this]
noncomputable abbrev R2:=List (Nat×Nat)
noncomputable def Bg(r:R2):List (Str×Str):=r.map λp=>(sg p.1,sg p.2)
def RL(r:R2):Prop:=∀p∈r,p.1∈Bq/\p.2∈Bq
noncomputable def C8(r:R2)(q:Nat):List Nat:=(r.filter λp=>Ch p.1==Ch q).map (·.2)
noncomputable def C3(r:R2)(q:Nat):Option Nat:=(r.find? λp=>Ch p.1==Ch q).map (·.2)
noncomputable def EK(r:R2)(q v:Nat):R2:=(r.filter λp=>!(Ch p.1==Ch q))++[(q,v)]
noncomputable def Tu(r:R2)(q v:Nat):R2:=if(C3 r q).isSome then r else r++[(q,v)]
noncomputable def kR(r:R2)(q v:Nat):Nat:=(C3 r q).getD v
theorem Ea{r:R2}(h:RL r):∀p∈Bg r,JT p:=λp hp=>by
 refine Bi (AF.mp hp) ?_;rintro x hx rfl;exact⟨AE rfl,EG _ (h x hx).1⟩
theorem DD(r:R2):(Bg r).length=r.length:=AA _
theorem OW{r:R2}(h:RL r){q:Nat}(hq:q∈Bq):(Bg r).filter (λp=>decide (Txt.lower p.1=Txt.lower (sg q)))=Bg (r.filter λp=>Ch p.1==Ch q):=by
 unfold Bg;rw[List.filter_map];congr 1;apply List.filter_congr;intro x hx;exact LG (h x hx).1 hq
theorem NP{r:R2}(h:RL r){q:Nat}(hq:q∈Bq):(Bg r).filter (λp=>!decide (Txt.lower p.1=Txt.lower (sg q)))=Bg (r.filter λp=>!(Ch p.1==Ch q)):=by
 unfold Bg;rw[List.filter_map];congr 1;apply List.filter_congr;intro x hx;show(!_)=_;rw[LG (h x hx).1 hq]
theorem I6{r:R2}(h:RL r){q:Nat}(hq:q∈Bq):(Bg r).find? (λp=>decide (Txt.lower p.1=Txt.lower (sg q)))=(r.find? λp=>Ch p.1==Ch q).map λp=>(sg p.1,sg p.2):=by
 induction r with
 |nil=>rfl
 |cons x r ih=>
  have hx:=h x (.head _);unfold Bg;rw[AI,List.find?_cons,List.find?_cons];have e:=LG hx.1 hq;dsimp only at e ⊢;rw[e];cases Ch x.1==Ch q
  .exact ih λp hp=>h p (.tail _ hp)
  .rfl
theorem Ma{r:R2}(h:RL r){q:Nat}(hq:q∈Bq):HO (Bg r) (sg q)=(C8 r q).map sg:=by
 unfold HO C8;rw[OW h hq];unfold Bg;rw[AB,AB];rfl
theorem NZ{r:R2}(h:RL r){q:Nat}(hq:q∈Bq):EX (Bg r) (sg q)=match C3 r q with
  |some v=>.str (sg v)
  |none=>.none:=by
 unfold EX C3;rw[I6 h hq];cases r.find? λp=>Ch p.1==Ch q<;>rfl
theorem bG{r:R2}(h:RL r){q:Nat}(hq:q∈Bq)(v:Nat):L7 (Bg r) (sg q) (sg v)=Bg (EK r q v):=by
 unfold L7 Gz EK;rw[NP h hq];unfold Bg;rw[Af];rfl
theorem S5{r:R2}(h:RL r){q:Nat}(hq:q∈Bq)(v:Nat):Ey (Bg r) (sg q) (sg v)=Bg (Tu r q v):=by
 unfold Ey Tu C3;rw[I6 h hq];cases r.find? λp=>Ch p.1==Ch q with
 |none=>unfold Bg;simp
 |some x=>rfl
theorem Vb{r:R2}(h:RL r){q:Nat}(hq:q∈Bq)(v:Nat):FF (Bg r) (sg q) (sg v)=sg (kR r q v):=by
 unfold FF kR C3;rw[I6 h hq];cases r.find? λp=>Ch p.1==Ch q<;>rfl
theorem SI{r:R2}(h:RL r){q v:Nat}(hq:q∈Bq)(hv:v∈Bq):RL (EK r q v):=λp hp=>by
 rcases Ar.mp hp with hp|hp
 .exact h p (Az.mp hp).1
 .rw [AG.mp hp];exact⟨hq,hv⟩
theorem Qs{r:R2}(h:RL r){q v:Nat}(hq:q∈Bq)(hv:v∈Bq):RL (Tu r q v):=λp hp=>by
 unfold Tu at hp;split at hp
 .exact h p hp
 .rcases Ar.mp hp with hp|hp
  .exact h p hp
  .rw [AG.mp hp];exact⟨hq,hv⟩
theorem PN(r:R2)(q v:Nat):(EK r q v).length<=r.length+1:=by
 unfold EK;rw[Ac];have:=AV (λp:Nat×Nat=>!(Ch p.1==Ch q)) r;simp;omega
theorem N5(r:R2)(q v:Nat):(Tu r q v).length<=r.length+1:=by
 unfold Tu;split<;>simp
theorem U7{r:R2}{q q':Nat}(e:Ch q=Ch q'):C3 r q=C3 r q':=by unfold C3;rw[e]
theorem Xq(r:R2)(q v:Nat):C3 (Tu r q v) q=some (kR r q v):=by
 unfold Tu kR;cases h:C3 r q with
 |some x=>simp[h]
 |none=>
  simp only[Option.isSome_none,AR,if_false,Option.getD_none];unfold C3 at h ⊢;rw[List.find?_append];cases h2:r.find? λp=>Ch p.1==Ch q with
  |some x=>rw[h2]at h;cases h
  |none=>simp
noncomputable def FX(net seen:R2)(p:Nat):List Nat:=(C8 net p).filter λq=>(C3 seen q).isNone
noncomputable def Zn(late:Bool)(f:R2)(q p:Nat):R2:=if late then EK f q p else f
noncomputable def IV(late:Bool)(p:Nat)(f:R2)(q:Nat):R2:=Tu (Zn late f q p) q p
noncomputable def LZ(late:Bool)(net seen:R2)(f:R2)(p:Nat):R2:=(FX net seen p).foldl (IV late p) f
noncomputable def GN(late:Bool)(net seen:R2)(lvl:BZ):R2:=lvl.foldl (LZ late net seen) []
noncomputable abbrev TH:=List (Nat×List Nat×Option Nat)
noncomputable def CS(th:TH):List Nat:=th.map (·.1)
noncomputable def HA(near:EB)(p:Nat):List Nat:=(near.lookup p).getD []
noncomputable def D4(near:EB)(th:TH)(lvl:BZ):R2:=lvl.flatMap λp=>((HA near p).filter λq=>!(CS th).contains (Ch q)).map λq=>(Ch q,p)
noncomputable def NL(late:Bool)(pairs:R2):R2:=(pairs.zipIdx.filter λx=>!((if late then pairs.drop (x.2+1)else pairs.take x.2).map (·.1)).contains x.1.1).map (·.1)
noncomputable def Gl(f:R2):R2:=f.map λr=>(Ch r.1,(C3 f r.1).getD 0)
noncomputable def Hu(th:TH)(p:Nat):List Nat:=((th.lookup p).map (·.1)).getD []
noncomputable def Fu(th:TH)(x:Nat×Nat):TH:=th++[(x.1,Hu th x.2++[x.1],some x.2)]
structure St where
 lvl:List Nat
 seen:R2
 th:TH
noncomputable def IY(late:Bool)(net:R2)(near:EB)(s:St):Option St:=
 let f:=GN late net s.seen s.lvl;let told:=Gl f;if told=NL late (D4 near s.th s.lvl)/\(CS s.th++told.map (·.1)).Nodup/\(∀x∈told,x.2∈CS s.th)/\(∀x∈told,x.1∈lows/\x.2∈lows)/\(∀x∈told,(near.lookup x.1).isSome=true)/\told.length<=4/\(CS s.th++told.map (·.1)).length<=20/\f.length<=100/\(s.seen++told).length<=100/\(D4 near s.th s.lvl).length<=100 then
  some ⟨told.map (·.1),s.seen++told,told.foldl Fu s.th⟩
 else none
noncomputable def runN(late:Bool)(net:R2)(near:EB):Nat->St->Option St
 |0,s=>some s
 |n+1,s=>(IY late net near s).bind (runN late net near n)
theorem cG{late:Bool}{net:R2}{near:EB}{n:Nat}{s:St}:runN late net near (n+1) s=(IY late net near s).bind (runN late net near n):=rfl
noncomputable def Ie(th:TH)(p:Nat):List Nat:=(th.filter λx=>x.2.2==some p).map (·.1)
structure Dd(L:C0)(th:TH):Prop where
 same:L.map (λt=>(t.tag,t.way,t.above))=th
 nd:(CS th).Nodup
 kids:∀t∈L,DB L t.kids (Ie th t.tag)
 ab:∀x∈th,∀a,x.2.2=some a->a∈CS th
theorem Dd.tags{L:C0}{th:TH}(I:Dd L th):L.map (·.tag)=CS th:=by
 unfold CS;rw[<- I.same,AB];rfl
theorem Dd.len{L:C0}{th:TH}(I:Dd L th):L.length=th.length:=by rw[<- I.same,AA]
theorem DB.mono{L L':C0}(h:∀t∈L,∃t'∈L',t'.f=t.f/\t'.tag=t.tag):∀ {as:List Addr}{bs:BZ},DB L as bs->DB L' as bs:=by
 intro as bs k;induction k with
 |nil=>exact .nil
 |cons a b ih=>exact .cons (EJ a λt ht e1 e2=>EJ (h t ht) λt' h1 h2 h3=>⟨t',h1,h2.trans e1,h3.trans e2⟩) ih
theorem DB.snoc{L:C0}{b:Nat}(h:∃t∈L,t.f=a/\t.tag=b):∀ {as:List Addr}{bs:BZ},DB L as bs->DB L (as++[a]) (bs++[b]):=by
 intro as bs k;induction k with
 |nil=>exact .cons h .nil
 |cons x y ih=>exact .cons x ih
theorem DB.len{L:C0}:∀ {as:List Addr}{bs:BZ},DB L as bs->as.length=bs.length:=by
 intro as bs k;induction k with
 |nil=>rfl
 |cons x y ih=>exact congrArg Nat.succ ih
theorem YH(th:TH)(p:Nat):(Ie th p).length<=th.length:=by unfold Ie;rw[AA];exact AV _ _
theorem TR{th:TH}(nd:(CS th).Nodup){x:Nat×List Nat×Option Nat}(hx:x∈th):th.lookup x.1=some x.2:=by
 induction th with
 |nil=>cases hx
 |cons y th ih=>
  unfold CS at nd;rw[AI,List.nodup_cons]at nd;rw[AK];rcases AJ.mp hx with e|h1
  .rw [e];simp
  .have Hl:(x.1==y.1)=false:=by
    rw[Av];intro e;exact nd.1 (e▸Ab (f:=(·.1)) h1)
   rw[Hl];exact ih nd.2 h1
theorem Dd.get{L:C0}{th:TH}(I:Dd L th){p:Nat}(hp:p∈CS th):∃t∈L,t.tag=p:=by
 rw[<- I.tags]at hp;refine Bi (AF.mp hp) ?_;intro t ht e;exact⟨t,ht,e⟩
theorem Dd.way{L:C0}{th:TH}(I:Dd L th){t:Th}(ht:t∈L):Hu th t.tag=t.way:=by
 have hx:(t.tag,t.way,t.above)∈th:=by rw[<- I.same];exact Ab (f:=λt:Th=>(t.tag,t.way,t.above)) ht
 have:=TR I.nd hx;dsimp only at this;unfold Hu;rw[this];rfl
theorem Wo{L:C0}{th:TH}(I:Dd L th){p t:Th}{q:Nat}(hp:p∈L)(hq:q∉CS th)(e1:t.tag=q)(e2:t.way=p.way++[q])(e3:t.above=some p.tag)(e4:t.kids=[]):Dd (CX L p.tag t.f++[t]) (Fu th (q,p.tag)):=by
 have qT:p.tag∈CS th:=by rw[<- I.tags];exact Ab (f:=(·.tag)) hp
 have et:CS (Fu th (q,p.tag))=CS th++[q]:=by unfold CS Fu;rw[Af];rfl
 have mono:∀x∈L,∃x'∈CX L p.tag t.f++[t],x'.f=x.f/\x'.tag=x.tag:=λx hx=>by
  refine⟨_,List.mem_append_left _ (Ab hx),?_⟩;split<;>exact⟨rfl,rfl⟩
 have kd:∀a,Ie (Fu th (q,p.tag)) a=Ie th a++if p.tag=a then[q]else[]:=λa=>by
  unfold Ie Fu;rw[List.filter_append,Af];congr 1;by_cases h:p.tag=a
  .simp [h]
  .have:¬a=p.tag:=λe=>h e.symm;simp[h]
 refine⟨?_,?_,λx hx=>?_,λx hx a ha=>?_⟩
 .rw [Af];have:(CX L p.tag t.f).map (λt=>(t.tag,t.way,t.above))=th:=by
   rw[<- I.same];unfold CX;rw[AB];apply AW;intro x V;dsimp only[Function.comp];split<;>rfl
  rw[this];congr 1;simp only[AI,List.map_nil,e1,e2,e3,I.way hp]
 .rw [et,List.nodup_append];exact⟨I.nd,by simp,λa ha b hb e=>by rw[AG.mp hb]at e;exact hq (e▸ha)⟩
 .rcases Ar.mp hx with hx|hx
  .refine Bi (AF.mp hx) ?_;rintro x0 h0 rfl;by_cases h:x0.tag=p.tag
   .simp only[h,if_true];rw[kd,if_pos rfl];have k0:=(I.kids x0 h0).mono mono;rw[h]at k0;exact DB.snoc ⟨t,by simp,rfl,e1⟩ k0
   .simp only[h,if_false];rw[kd,if_neg λe=>h e.symm,List.append_nil];exact(I.kids x0 h0).mono mono
  .rw [AG.mp hx,e4,e1,kd];have Hl:¬p.tag=q:=λe=>hq (e▸qT);rw[if_neg Hl,List.append_nil];have:Ie th q=[]:=by
    unfold Ie;rw[List.map_eq_nil_iff,List.filter_eq_nil_iff];intro x hx hb;exact hq (I.ab x hx q (by simpa using hb))
   rw[this];exact .nil
 .rw [et];rcases Ar.mp hx with hx|hx
  .exact List.mem_append_left _ (I.ab x hx a ha)
  .rw [AG.mp hx]at ha;cases ha;exact List.mem_append_left _ qT
theorem Tz:∀(l:R2) (th:TH),CS (l.foldl Fu th)=CS th++l.map (·.1):=by
 intro l;induction l with
 |nil=>exact λth=>by simp
 |cons x l ih=>
  intro th;rw[As,ih];unfold CS Fu;rw[Af];simp
theorem Ow:∀(l:R2) (th:TH),(l.foldl Fu th).length=th.length+l.length
 |[],th=>by simp
 |x::l,th=>by
  rw[As,Ow l];unfold Fu;simp;exact Nat.succ_add_eq_add_succ (List.length th) l.length
theorem Qp{late:Bool}{p:Nat}(hp:p∈Bq):∀(qs:BZ) (f:R2),(∀q∈qs,q∈Bq)->RL f->RL (qs.foldl (IV late p) f):=by
 intro l;induction l with
 |nil=>exact λf V h=>h
 |cons q qs ih=>
  intro f hq h;rw[As];refine ih _ (λx hx=>hq x (.tail _ hx)) ?_;have h1:=hq q (.head _);cases late
  .exact Qs h h1 hp
  .exact Qs (SI h h1 hp) h1 hp
theorem HK{net seen:R2}(h:RL net){p q:Nat}(hq:q∈FX net seen p):q∈Bq:=by
 refine CC (Az.mp hq) ?_;intro h1 V;refine Bi (AF.mp h1) ?_;rintro x hx rfl;exact(h x (Az.mp hx).1).2
theorem Wc(late:Bool)(p:Nat)(f:R2)(q:Nat):(IV late p f q).length<=f.length+2:=by
 unfold IV Zn;cases late
 .have:=N5 f q p;simp only[AR,if_false];exact Nat.le_succ_of_le this
 .have h1:=PN f q p;have h2:=N5 (EK f q p) q p;simp only[if_true];lia
theorem N4(late:Bool)(p:Nat):∀(qs:BZ) (f:R2),(qs.foldl (IV late p) f).length<=f.length+2*qs.length
 |[],f=>by simp
 |q::qs,f=>by
  rw[As];have h1:=N4 late p qs (IV late p f q);have h2:=Wc late p f q;rw[AZ];lia
theorem Ss(as bs:Cs):(D.list as).eqv (.list bs)=PyData.eqvAll (D.KM as) (D.KM bs):=by
 show PyData.eqv (.list _) (.list _)=_;rw[PyData.eqv]
theorem Ki[DecidableEq α]{f:α->D}(hf:∀a b,(f a).eqv (f b)=decide (a=b)):∀l m:List α,PyData.eqvAll (D.KM (l.map f)) (D.KM (m.map f))=decide (l=m)
 |[],[]=>by
  show PyData.eqvAll [] []=_;rw[PyData.eqvAll];rfl
 |[],b::m=>by
  show PyData.eqvAll [] (_::_)=_;rw[PyData.eqvAll];rfl;all_goals simp
 |a::l,[]=>by
  show PyData.eqvAll (_::_) []=_;rw[PyData.eqvAll];rfl;all_goals simp
 |a::l,b::m=>by
  show PyData.eqvAll ((f a).py::D.KM (l.map f)) ((f b).py::D.KM (m.map f))=_;rw[PyData.eqvAll,Ki hf l m];have:=hf a b;unfold D.eqv at this;rw[this];by_cases h1:a=b<;>by_cases h2:l=m<;>simp[h1,h2]
theorem EE[DecidableEq α]{f:α->D}(hf:∀a b,(f a).eqv (f b)=decide (a=b))(l m:List α):(D.list (l.map f)).eqv (.list (m.map f))=decide (l=m):=by rw[Ss,Ki hf]
theorem Uu(l m:List (Nat×Nat)):(D.list (l.map B8)).eqv (.list (m.map B8))=decide (l=m):=EE OT l m
theorem Fr.NV{G:Res}{x dx l:Addr}{rows:Ci}(F:Fr (c.on X' (G.star (Bc x dx l rows))) J h)(nw:∀b,(Bc x dx l rows).fp b->c.h0.get? b=none):Fr (c.on (λb=>X' b/\¬(Bc x dx l rows).fp b) (G.star (CJ x dx l rows))) J h:=by
 have F':Fr (c.on (λb=>X' b/\¬(Bc x dx l rows).fp b) G) J h:=F.Lo nw λb o V e=>e;exact F'.star (T:=CJ x dx l rows) ⟨Res.CD F.g.2.1 λb z=>z.1,λz=>z.2 (.inl rfl),λz=>z.2 (.inr (.inl rfl)),λz=>z.2 (.inr (.inr rfl))⟩ λb z=>z.elim
theorem Ex.serialize{np ap GF:Pos}{e2:Expr}{n:Nat}{L:C0}{kd:Nat->List Nat}{t:Th}{la:Addr}{G2:Res}(ro:¬c.ro)(hL:∀t∈L,DB L t.kids (kd t.tag))(sz:∀m ≤n,∀t∈L,(CQ kd m t.tag).length<=500)(ht:t∈L)(hd:deep kd n t.tag=true)(gV:t.tl=some d)(Jo:d=.none\/∃y,d=.str y/\y.length<=1000)(mr:∀w X h,c.G.P w X h->(Bm L).P w X h)(tQ:∀b,(Bm L).fp b->c.G.fp b/\b≠la)(u:Upd c.G (Bl la []) (Bl la (Cw (CQ kd n t.tag)++tailD d)) G2)(hk:n+1<=c.k)(f:Ev c J (.Name (S "_serialize_text") np) (.obj (.ref 209)))(a:Ev c J o (.obj (.ref la)))(y2:Ev c J e2 (.obj (.ref t.f)))(hint:interactive c.env=false)(uG:autoParam (eval (.Attribute o (Str.ofString "append") ap) c.env=(do
   let o' <- eval o c.env;standAt ap.atName;let r <- holding [o'] (getAttr o' (Str.ofString "append") true);letTemporaryGo o o' r;pure r)) Dz)(he:autoParam (starEach [.Attribute o (Str.ofString "append") ap,e2] c.env=(false,eval (.Attribute o (Str.ofString "append") ap) c.env)::starEach [e2] c.env) Bd)(Jp:autoParam (D9 c e2 []) Bd)(hs:autoParam (swapsWith (.Call (.Name (S "_serialize_text") np) [.Attribute o (Str.ofString "append") ap,e2] [] pos) none GF.line c.env=pure false) Bd) :
  Ex c J (.Expr (.Call (.Name (S "_serialize_text") np) [.Attribute o (Str.ofString "append") ap,e2] [] pos) GF) (Fr (c.on c.X G2) J) R:=λs F Q E nn r=>
 wpAny_Expr_any (wpAny_Call_NameR (f s F _ _ λv h1 t1 l1 r1=>by
  cases r1;have F1:Fr c J h1:=F.le l1;refine BG (o:=Eu (Ba 15) (S "_serialize_text") .none Km (.ref 208)) (fd:=EW (Ba 15) (S "_serialize_text") .none Km (.ref 208)) rfl (wpAny_items_cons (BQ (a {s with heap:=h1,toks:=t1} F1 _ _ λv' h2 t2 l2 r2=>?_) uG) he) he;cases r2;have E6:Le h1 h2:=l2;have F2:Fr c J h2:=F1.le E6;refine EJ (u.has _ _ _ F2.g) ?_;intro UA Td Yn nt;refine JH (s:={s with heap:=h2,toks:=t2}) Td ?_;have l3:Le h2 (h2.push (Iq la)):=Le.push _ _;have e3:(h2.push (Iq la)).get? h2.objs.size=some (Iq la):=AH _ rfl;have n3:=Bn h2;have b3:=B7 F2.base;dsimp only;generalize wk:h2.objs.size=bm at *;generalize jx:h2.push (Iq la)=h3 at *;have F3:Fr c J h3:=F2.le l3;refine wpAny_items_cons (y2 {s with heap:=h3,toks:=t2+1} F3 _ _ λv4 h4 t4 l4 r4=>wpAny_items_nil ?_) Jp;cases r4;have UG:Le h3 h4:=l4;have F4:Fr c J h4:=F3.le UG;refine⟨F4.base.k _ _ (ZJ.here _),?_⟩;have gL:=mr _ _ _ F4.g;refine EJ (u.has _ _ _ F4.g) ?_;intro xF vW vp V;cases vp;have lx:c.X la:=(F4.gx la (u.fp la rfl)).1.1;let X0:Addr->Prop:=λb=>c.X b/\¬(Bm L).fp b;have vM:¬(Bm L).fp la:=λz=>(tQ la z).2 rfl;have iV:bm≠TP:=Cq b3;have vF:¬c.X bm:=λz=>by
   obtain⟨_,o,e⟩:=F2.Ck bm z;rw[n3]at e;cases e
  refine Mp (FL (gL.1 t ht)) ?_;intro V V V V V V V zt;have g0:(((Ja L).star (OL bm la)).star (Bl la [])).P c.w X0 h4:=by
   refine⟨⟨λx hx=>⟨?_,λz=>z.2 ⟨x,hx,.inl rfl⟩,λz=>z.2 ⟨x,hx,.inr rfl⟩⟩,⟨λz=>vF z.1,iV,UG.keep _ _ iV id e3⟩,λb z=>z.elim⟩,⟨[],vW,.nil,nt⟩,λb z=>z.elim (λz=>z.elim) λz=>z.elim⟩;refine Mp (gL.1 x hx) ?_;intro fa fi ck ct tk av m z;exact⟨fa,fi,ck,ct,tk,av,m,z.mv λb o V V e=>⟨e,λn z=>n z.1⟩⟩
  refine(mS c.w n n (Ad _) L kd hL sz t ht hd zt.nf.2 gV Jo bm la) c.A X0 {s with heap:=h4,toks:=t4} [.ref bm,.ref t.f] (F4.ok.CD hk) F4.base (λb z=>F4.Ck b z.1) (.cons (.obj _) (.cons (.obj _) .nil)) g0 (λb z=>z.elim (λz=>z.elim (λz=>z.elim) λz=>z.elim) λz=>by
   have z':b=la:=z;rw[z'];exact⟨lx,vM⟩) _ _ λv5 h5 t5 l5 r5=>?_
  have kA:Bu (Bl la []).fp h4 h5:=l5.any λb z=>z.elim (λz=>z.elim (λz=>z.elim) λz=>z.elim) id;refine EJ r5.2.2.1 ?_;intro rY oZ vq V;refine nn h5 t5 (F4.upd ro u kA ⟨rY,oZ,vq.flat λd' Xz=>?_,nt⟩);rcases Ar.mp Xz with z|z
  .refine Bi (AF.mp z) ?_;rintro x V rfl;rfl
  .unfold tailD at z;split at z
   .rw [AG.mp z];rcases Jo with rfl|⟨y,rfl,_⟩<;>rfl
   .cases z)) hint hs
section
variable {c cc:Cx}{J J' KU J0:B4}{N:Eo}{R:Ct}{h h':Heap}{Z:Addr->Heap->Prop}
theorem Ex.jQ{body:Dy}{hd:ExceptHandler}(y:Be c J [body] N R):Ex c J (.Try body [hd] [] [] pos) N R:=λs F Q E n r=>
 wpAny_Try_except (wpAny_mono (y s F (λf s'=>match f with|.next=>Q .next s'|f=>Q f s') _ n λv h' tk z=>r v h' tk z) (λf s' k=>by
  cases f with
  |next=>exact wpAny_execs_nil k
  |_=>exact k) λV V k=>k)
theorem Ex.T7{body:Dy}{tx n:Str}{np sp ep cp xp ap hp:Pos}{msg:Str}{l:List Env}(Sk:Dc c l)(ow:∀x,c.own x)(ro:¬c.ro)(sub:∀b∈Bk l,c.X b)(y:Dh c J [body] λea h'=>∃h1,Fr c J h1/\EO (c.env::l) h1 h' ea msg)(kv:c.env.kindOf (S "ValueError")=some .globalImplicit)(ks:c.env.kindOf (S "str")=some .globalImplicit)(kn:c.env.kindOf n=some .local)(kt:Nm c tx)(pn:Cn n)(nn:n≠tx)(hJ:(J.map (·.1)).contains n=false)(hs:swapsWith (.Call (.Name (S "str") sp) [.Name n ep] [] cp) (some (.Name tx xp)) ap.line c.env=pure false) :
  Ex c J (.Try body [.ExceptHandler (some (.Name (S "ValueError") np)) (some n) [.Assign [.Name tx xp] (.Call (.Name (S "str") sp) [.Name n ep] [] cp) ap] hp] [] [] pos) (λh=>∃D7,Q8 l c.h0 D7/\Dc {c with h0:=D7} l/\Fr {c with h0:=D7} (Hs J tx (.str msg)) h) R:=λs F Q E nx r=>by
 refine wpAny_Try_except (wpAny_mono (y s F (λf s'=>match f with|.next=>wpAny (model prog c.w) c.A (execs [] c.env) Q E s'|f=>Q f s') _ λe h4 tk zz=>?_) (λf s' k=>by cases f<;>exact k) λV V k=>k);obtain⟨h1,F1,B,t,u,k1,k2,k3,k4,k5,k6⟩:=zz;refine wpAny_looks_onW (s:={s with heap:=h4,toks:=tk}) Sk.fr Sk.own k3 λh5 gA vy=>?_;refine wpAny_landsW (s:={s with heap:=h5,toks:=tk}) gA λh6 aQ vz=>?_;have cT:h4.UpToSlots h6:=vy.trans vz;have nd:∀b∈Bk (c.env::l),∀o,h1.get? b=some o->∀vs,o.data≠.fields vs:=λb m o e=>by
  obtain⟨_,o',e',n'⟩:=(F1.Lv Sk).mem m;rw[e]at e';cases e';exact n'
 have uk:∀b∈Bk (c.env::l),∀o,h1.get? b=some o->∃sl,h6.get? b=some {o with slots:=sl}:=λb m o e=>by
  refine B6 (k6 b m o e) ?_;intro sl z;refine B6 (cT b _ z (nd b m o e)) ?_;intro jB z2;exact⟨jB,z2⟩
 refine EJ (F1.land Sk ow ro sub k1 k2 aQ (k4.of_slots cT) k5 uk) ?_;intro wg V Fa V;have hv:S "ValueError"=S "ValueError":=rfl;refine wpAny_handleBy_builtin_as (X:="ValueError") (T:="ValueError") (b:=true) (by rw[isSubtype_type];kernel_rfl) (by rw[isSubtype_type];kernel_rfl) (by rw[isSubtype_type];kernel_rfl) (wpAny_Name (GU (c:=c) Fa.base F.kind F.glob F.blt kv (lookup_mem (by rfl)) (by rfl) (by decide) ⟨rfl,(by refine Du aQ.first ?_;intro o V e z V;exact⟨o,e,z⟩),?_⟩) (by decide));rw[if_pos rfl];refine lands_againW aQ λh7 mK wA=>?_;have jC:h4.UpToSlots h7:=cT.trans wA;have um:∀b∈Bk (c.env::l),∀o,h1.get? b=some o->∃sl,h7.get? b=some {o with slots:=sl}:=λb m o e=>by
  refine B6 (k6 b m o e) ?_;intro sl z;refine B6 (jC b _ z (nd b m o e)) ?_;intro jB z2;exact⟨jB,z2⟩
 refine EJ (F1.land Sk ow ro sub k1 k2 mK (k4.of_slots jC) k5 um) ?_;intro D7 st F7 S7;let c7:Cx:=({c with h0:=D7}:Cx).on c.X (c.G.star (Ko e t msg u));refine Fr.store (c:=c7) (s:={s with heap:=h7,toks:=tk}) (J':=Hs J n (.obj (.ref e))) (d:=.obj (.ref e)) F7 pn (.inl kn) (.obj _) (DG.of rfl) λh8 t8 l8 F8=>?_;refine Bi (F8.names n (.obj (.ref e)) (.head _)) ?_;intro v H rv;cases rv;have hu:(c.A.mark (some (.ref e))).units+2<cLine:=by
  have:=F.ok.units;show c.A.units+2<9900;lia
 refine Ao (wpAny_Assign_Name (wpAny_Call_NameR (wpAny_Name (GU (c:=c) F8.base F.kind F.glob F.blt ks (lookup_mem (by rfl)) (by rfl) (by decide) ?_) (by decide))) hs);refine Ax (wpAny_items_cons (wpAny_Name (D2 H F.kind ?_) H.1.1) (by rfl)) (by rfl) (by rfl);refine wpAny_items_nil ?_;have X8:(Ko e t msg u).P c.w c.X h8:=F8.g.2.1;refine P.str_of_exc_one (s:={s with heap:=h8,toks:=t8}) PySem.F.excStr_ValueError hu X8.2.1 X8.2.2 ?_;refine Fr.store (c:=c7) (s:={s with heap:=h8,toks:=t8}) (J':=Hs (Hs J n (.obj (.ref e))) tx (.str msg)) (d:=.str msg) F8 kt.plain kt.slot (.str _ _) (DG.of rfl) λh9 t9 l9 F9=>?_;refine wpAny_execs_nil ?_;refine Fr.mX (c:=c7) (s:={s with heap:=h9,toks:=t9}) (J':=Hs J tx (.str msg)) F9 kn (λp hp=>?_) λdJ wH ry=>nx dJ wH ⟨D7,st,S7,?_⟩
 .unfold Hs at hp ⊢;rcases AJ.mp hp with rfl|hp
  .exact ⟨.head _,λz=>nn z.symm⟩
  .refine CC (Az.mp hp) ?_;intro h1 h2;have Hl:p.1≠n:=λz=>by
    have:(J.map (·.1)).contains n=true:=by rw[List.contains_iff_mem,<- z];exact Ab h1
    rw[hJ]at this;cases this
   exact⟨.tail _ (Az.mpr ⟨.tail _ (Az.mpr ⟨h1,by simpa using Hl⟩),h2⟩),Hl⟩
 .exact Fr.less (c:={c with h0:=D7}) (X:=c.X) (G:=c.G.star (Ko e t msg u)) ry (λw X h z=>z.1) λb z=>.inl z
end
noncomputable def KG:Stmt->List Stmt
 |.For _ _ b _ _=>b
 |_=>[]
noncomputable def Q3(i:Nat):Stmt:=(KG ((Bt (Ba 26))[3]?.getD (.Pass ⟨0,0,0,0⟩)))[i]?.getD (.Pass ⟨0,0,0,0⟩)
noncomputable def DS(near:EB):List (Str×D):=near.map λp=>(sg p.1,.list (Cw p.2))
noncomputable def FN(nx:Addr)(near:EB)(r:Nat)(d:D)(late:Bool):List (Str×D):=[(S "net",.obj (.ref nx)),(S "near",.dict (DS near)),(S "root",.str (sg r)),(S "tail",d),(S "late",.bool late)]
noncomputable def D1(sx la td:Addr)(lvl:BZ)(A:B4):List (Str×D):=(S "level",.list (Cw lvl))::(S "seen",.obj (.ref sx))::(S "line",.obj (.ref la))::(S "things",.obj (.ref td))::A
theorem jN{K:Res}{nx ndx nl sx sdx sl fx fdx fl la td:Addr}{net seen:R2}{near:EB}{lvl:BZ}{r:Nat}{late:Bool}(E:Bj c w (BY (Ba 26)) k)(hk:3<=c.k)(hG:c.G=K.star (Bc fx fdx fl (Bg [])))(nJ:∀X h,K.P w X h->(CJ nx ndx nl (Bg net)).P w X h)(gT:∀X h,K.P w X h->(Bc sx sdx sl (Bg seen)).P w X h)(f1:fl≠fx)(f2:fl≠fdx)(ln:net.length<=100)(ls:seen.length<=100)(Rn:RL net)(Rs:RL seen)(j0:∀a∈lvl,a∈lows)(ll:lvl.length<=4) :
  Ex c ((S "fresh",.obj (.ref fx))::D1 sx la td lvl (FN nx near r d late)) (Q3 1) (λh=>∃X',(∀b,c.X b->X' b)/\Fr (c.on X' (K.star (Bc fx fdx fl (Bg (GN late net seen lvl))))) ((S "fresh",.obj (.ref fx))::D1 sx la td lvl (FN nx near r d late)) h) R:=by
 let R0:List (Str×D):=(S "fresh",.obj (.ref fx))::D1 sx la td lvl (FN nx near r d late);let fr:Nat->R2:=λi=>(lvl.take i).foldl (LZ late net seen) [];have hw:c.w=w:=E.hw;have hint:interactive c.env=false:=E.quiet rfl;have mO:∀i,RL (fr i):=λi=>by
  have key:∀(l:BZ) (f:R2),(∀a∈l,a∈lows)->RL f->RL (l.foldl (LZ late net seen) f):=λl=>by
   induction l with
   |nil=>intro f V h;exact h
   |cons p l ih=>
    intro f hl h;rw[As];exact ih _ (λa ha=>hl a (.tail _ ha)) (Qp (CB p (hl p (.head _))).1 _ _ (λq hq=>HK Rn hq) h)
  exact key _ _ (λa ha=>j0 a (Ay ha)) (λp hp=>by cases hp)
 have ZD:∀p,(FX net seen p).length<=100:=λp=>by
  unfold FX C8;refine AD (AV _ _) ?_;rw[AA];exact AD (AV _ _) ln
 have Xt:∀i,i<=4->(fr i).length<=i*200:=λi hi=>by
  have key:∀(l:BZ) (f:R2),(l.foldl (LZ late net seen) f).length<=f.length+l.length*200:=λl=>by
   induction l with
   |nil=>intro f;simp
   |cons p l ih=>
    intro f;rw[As];have h1:=ih (LZ late net seen f p);have h2:=N4 late p (FX net seen p) f;have h3:=ZD p;have h4:(LZ late net seen f p).length<=f.length+200:=by unfold LZ;lia
    rw[AZ];lia
  have:=key (lvl.take i) [];have h2:(lvl.take i).length<=i:=List.length_take_le _ _;show((lvl.take i).foldl (LZ late net seen) []).length<=_;have h3:(lvl.take i).length*200<=i*200:=Nat.mul_le_mul_right _ h2;simp at this;(clear ll;lia)
 refine(Ex.for (ds:=Cw lvl) E.ro (λi=>K.star (Bc fx fdx fl (Bg (fr i)))) (λV=>R0) hG rfl (Bb.list Ev.n) (λi d0 Gy X1 T1 OD=>?_)).imp (λh zz=>Bi zz λX' a b=>⟨X',a,?_⟩) λv h z=>z
 .unfold Cw at Gy;rw[AL,AS]at Gy;refine Bi Gy ?_;clear Gy;rintro p hp rfl;have pm:=AQ hp;have oh:=j0 p pm;refine FP (CB p oh) ?_;intro ME xB V;have il:i<4:=Ai (AP.mp hp).1 ll;let R1:List (Str×D):=(S "p",.str (sg p))::R0;let c1:Cx:=c.on X1 ((K.star (Bc fx fdx fl (Bg (fr i)))).star T1);have E1:Bj c1 w (BY (Ba 26)) k:=E.on;have fS:fr (i+1)=LZ late net seen (fr i) p:=by
   show(lvl.take (i+1)).foldl _ _=_;rw[A3,hp,BH];rfl
  let Ku:Nat->R2:=λj=>((FX net seen p).take j).foldl (IV late p) (fr i);refine⟨R1,Bind.n,?_⟩;have ZX:∀X h,c1.G.P c1.w X h->(CJ nx ndx nl (Bg net)).P c1.w X h:=λX h z=>by
   have z1:K.P c.w X h:=z.1.1;rw[hw]at z1;show(CJ nx ndx nl (Bg net)).P c.w X h;rw[hw];exact nJ X h z1
  have bF:∀X h,c1.G.P c1.w X h->(Bc sx sdx sl (Bg seen)).P c1.w X h:=λX h z=>by
   have z1:K.P c.w X h:=z.1.1;rw[hw]at z1;show(Bc sx sdx sl (Bg seen)).P c.w X h;rw[hw];exact gT X h z1
  refine Be.cons (Ex.for (ds:=Cw (FX net seen p)) E1.ro (λj=>(K.star (Bc fx fdx fl (Bg (Ku j)))).star T1) (λV=>R1) rfl rfl (Bb.list (CE.ev (CE.eq (CE.C1 (C8 net p) (λq=>.str (sg q)) (λq=>(C3 seen q).isNone) (λq=>.str (sg q)) (J0:=[(S "seen",.obj (.ref sx))]) E1.co
   (Bb.eq (Bb.list (Ev.JV (f:=128) (k:=2) (G:=CJ nx ndx nl (Bg net)) (ds:=[.str (sg p)]) (d:=.list ((C8 net p).map λq=>.str (sg q))) Ev.n (.cons Ev.n .nil) ?_ ?_ ZX (DI.ro ZX) JA ⟨_,_,_,_,_,H7⟩)) ?_) (λq=>[(S "q",.str (sg q)),(S "seen",.obj (.ref sx))]) (λV V h=>.tail _ h) (λV V V sc=>Bind.n) (λq hq cc sc=>CM.one ?_) (λq V V cc sc=>Ev.n) ?_) ?_))) (λj d1 Oi X2 T2 Hk=>?_)) ?_
  .have g:=CU.ro (NW c1.w 0 nx ndx nl (Bg net) (sg p) (by rw[DD];exact lb ln rfl) (Ea Rn) (AE rfl) (EV ME) (EG p ME));rw[Ma Rn ME,AB]at g;exact g
  .exact AD (by decide) hk
  .rfl
  .have Gb:q∈Bq:=by
    unfold C8 at hq;refine Bi (AF.mp hq) ?_;rintro x hx rfl;exact(Rn x (Az.mp hx).1).2
   have QO:∀X h,cc.G.P cc.w X h->(Bc sx sdx sl (Bg seen)).P cc.w X h:=λX h z=>by rw[sc.w];exact bF X h (sc.g X h z)
   have g:=CU.rw (VK cc.w 0 sx sdx sl (Bg seen) (sg q) (by rw[DD];exact lb ls rfl) (Ea Rs) (AE rfl) (EV Gb) (EG q Gb)) (JC _ _);refine CL.cmp (Bh.isNone (d:=EX (Bg seen) (sg q)) (Ev.JV (f:=136) (k:=2) (G:=Bc sx sdx sl (Bg seen)) Ev.n (.cons Ev.n .nil) g (by rw[sc.k];exact AD (by decide) hk) QO (DI.res QO) K5 ⟨_,_,_,_,_,MV⟩) _ λh v rv=>?_);rw[NZ Rs Gb]at rv;cases hf:C3 seen q with
   |none=>rw[hf]at rv;cases rv;rfl
   |some x=>rw[hf]at rv;cases rv;rfl
  .have:(C8 net p).length<=net.length:=by unfold C8;rw[AA];exact AV _ _
   exact lb (AD this ln) rfl
  .rfl
  .unfold Cw at Oi;rw[AL,AS]at Oi;refine Bi Oi ?_;clear Oi;rintro q hq rfl;have Gb:q∈Bq:=HK Rn (AQ hq);have jl:j<100:=Ai (AP.mp hq).1 (ZD p);have Xp:RL (Ku j):=Qp ME _ _ (λx hx=>HK Rn (Ay hx)) (mO i);have pj:(Ku j).length<=1000-3:=by
    have h1:=N4 late p ((FX net seen p).take j) (fr i);have h2:((FX net seen p).take j).length<=j:=List.length_take_le _ _;have h3:=Xt i (by exact A5 il);have h4:i*200<=3*200:=Nat.mul_le_mul_right _ (by exact Nat.le_of_lt_succ il);show(((FX net seen p).take j).foldl (IV late p) (fr i)).length<=_;lia
   have Uw:Ku (j+1)=Tu (Zn late (Ku j) q p) q p:=by
    show((FX net seen p).take (j+1)).foldl _ _=_;rw[A3,hq,BH];rfl
   let R2:List (Str×D):=(S "q",.str (sg q))::R1;let GX:Mine.R2->Res:=λf=>((K.star (Bc fx fdx fl (Bg f))).star T1).star T2;have uX:∀f f':Mine.R2,Upd (GX f) (Bc fx fdx fl (Bg f)) (Bc fx fdx fl (Bg f')) (GX f'):=λf f'=>Upd.lf (Upd.lf (Upd.rt (Upd.self λb=>Iff.rfl)));have rest:∀f':Mine.R2,RL f'->f'.length<=999->Tu f' q p=Ku (j+1)->Be (c1.on X2 (GX f')) R2 [((KG (((KG (Q3 1))[0]?).getD (.Pass ⟨0,0,0,0⟩))).drop 1)] (λh=>∃X',(∀b,c1.X b->X' b)/\Fr (c1.on X' (((K.star (Bc fx fdx fl (Bg (Ku (j+1))))).star T1).star T2)) R1 h) R:=λf' rl len fJ=>by
    have E2:Bj (c1.on X2 (GX f')) w (BY (Ba 26)) k:=E1.on;have k3:3<=(c1.on X2 (GX f')).k:=hk;have u1:Upd (c1.on X2 (GX f')).G (Bc fx fdx fl (Bg f')) (Bc fx fdx fl (Ey (Bg f') (sg q) (sg p))) (GX (Ku (j+1))):=by
     rw[S5 rl Gb,fJ];exact uX f' _
    have qC:∀X h,(GX (Ku (j+1))).P c.w X h->(Bc fx fdx fl (Bg (Ku (j+1)))).P c.w X h:=λX h z=>z.1.1.2.1;have kQ:RL (Ku (j+1)):=by rw[<- fJ];exact Qs rl Gb ME
    have Ov:(Ku (j+1)).length<=1000:=by rw[<- fJ];exact AD (N5 _ _ _) (by exact Nat.succ_le_succ len)
    have sl:=Wh q Gb;have g:=CU.rw (VK c.w 0 fx fdx fl (Bg (Ku (j+1))) (sg (Mz q)) (by rw[DD];exact Ov) (Ea kQ) (AE rfl) (EV sl.1) (EG _ sl.1)) (JC _ _);have ev:EX (Bg (Ku (j+1))) (sg (Mz q))=.str (FF (Bg f') (sg q) (sg p)):=by
     rw[NZ kQ sl.1,Vb rl Gb,<- fJ,U7 sl.2,Xq]
    refine Be.Vc (c:=c1.on X2 (GX f')) (rows:=Bg f') (n:=sg q) (v:=sg p) E2.ro (by rw[DD];exact Nat.le_succ_of_le len) f1 f2 (Ea rl) (DJ Gb true) (DJ ME false) (AE rfl) (EV Gb) (EG q Gb) k3 u1 Ev.n Ev.n Ev.n
     (Ev.eq (Ev.JV (f:=136) (k:=2) (G:=Bc fx fdx fl (Bg (Ku (j+1)))) (ds:=[.str (sg (Mz q))]) Ev.n (.cons (Ev.eq (Ev.swapcase Ev.n (AE rfl)) (by rw[Yw q Gb])) .nil) g (AD (by decide) hk) qC (DI.res (dx:=fdx) (l:=fl) (rows:=Bg (Ku (j+1))) qC) K5 ⟨_,_,_,_,_,MV⟩) ev) ?_
    exact Be.nil (Be.nil (Be.done λh Fh=>⟨X2,Hk,Fh.sub λp hp=>.tail _ hp⟩))
   have E2:Bj (c1.on X2 (((K.star (Bc fx fdx fl (Bg (Ku j)))).star T1).star T2)) w (BY (Ba 26)) k:=E1.on;refine⟨R2,Bind.n,?_⟩;refine Be.if (b:=late) (CL.val (d:=.bool late) Ev.n trivial) (λhl=>?_) (λhl=>?_)
   .refine Be.EM (X':=X2) (G':=GX (EK (Ku j) q p)) (Ex.cN (c:=c1.on X2 (GX (Ku j))) (rows:=Bg (Ku j)) (n:=sg q) (v:=sg p) E2.ro (by rw[DD];lia) f1 f2 (Ea Xp) (DJ Gb true) (DJ ME false) (AE rfl) (EV Gb) (EG q Gb) hk (by rw[bG Xp Gb];exact uX _ _) Ev.n Ev.n Ev.n) ?_;refine Be.nil (rest (EK (Ku j) q p) (SI Xp Gb ME) (AD (PN _ _ _) (by lia)) ?_);rw[Uw];unfold Zn;rw[if_pos hl]
   .refine Be.nil (rest (Ku j) Xp (by omega) ?_);rw[Uw];unfold Zn;rw[if_neg (by rw[hl];decide)]
  .intro h2 Cr;refine Bi Cr ?_;intro X2 Hk F2;have ef:Ku (Cw (FX net seen p)).length=fr (i+1):=by
    rw[fS];unfold Cw;rw[AA];show((FX net seen p).take _).foldl _ _=_;rw[BF];rfl
   rw[ef]at F2;exact⟨c1.on X2 ((K.star (Bc fx fdx fl (Bg (fr (i+1))))).star T1),R1,⟨rfl,rfl,rfl⟩,F2,Be.nil (Be.done λh Fh=>⟨X2,λb z=>Hk b (OD b z),Fh.sub λp hp=>.tail _ hp⟩)⟩
 .have ef:fr (Cw lvl).length=GN late net seen lvl:=by
   unfold Cw;rw[AA];show(lvl.take _).foldl _ _=_;rw[BF];rfl
  rw[ef]at b;exact b
theorem Xm(L:C0)(a:Nat):((KB L).lookup (sg a)).isSome=(L.map (·.tag)).contains a:=by
 induction L with
 |nil=>rfl
 |cons t L ih=>
  unfold KB;rw[AI,AI,AK,List.contains_cons];by_cases h:a=t.tag
  .subst h;simp
  .have h1:(sg a==sg t.tag)=false:=by rw[Av];exact λe=>h (Ek e)
   have h2:(a==t.tag)=false:=by rw[Av];exact h
   rw[h1,h2,Bool.false_or];exact ih
theorem TX{near:EB}{p:Nat}{l:BZ}(h:near.lookup p=some l):(DS near).lookup (sg p)=some (.list (Cw l)):=by
 unfold DS;rw[FI sg (λV V=>Ek) (λl:List Nat=>D.list (Cw l)) p near,h];rfl
theorem U8{f:R2}{r:Nat×Nat}(hr:r∈f):∃v,C3 f r.1=some v:=by
 unfold C3;cases h:f.find? λp=>Ch p.1==Ch r.1 with
 |none=>
  have:=List.find?_eq_none.mp h r hr;simp at this
 |some x=>exact⟨_,rfl⟩
theorem jO{nx sx fx fdx fl la td:Addr}{L:C0}{th:TH}{f:R2}{near:EB}{lvl:BZ}{r:Nat}{late:Bool}{rest:Dy}{ls:List (List Stmt)}(E:Bj c w (BY (Ba 26)) k)(hk:3<=c.k)(mq:∀X h,c.G.P c.w X h->(Bw td (KB L)).P c.w X h)(Oh:∀X h,c.G.P c.w X h->(CJ fx fdx fl (Bg f)).P c.w X h)(et:L.map (·.tag)=CS th)(Ri:∀p∈lvl,near.lookup p=some (HA near p)/\(HA near p).length<=100/\∀q∈HA near p,q∈Bq)(j0:∀a∈lvl,a∈lows)(ll:lvl.length<=100)(Rf:RL f)(lf:f.length<=100)(lp:(D4 near th lvl).length<=100)(he:Gl f=NL late (D4 near th lvl))(ht:∀x∈Gl f,x.1∈lows/\x.2∈lows)(x:Be c ((S "told",.list ((Gl f).map B8))::(S "due",.list ((NL late (D4 near th lvl)).map B8))::(S "pairs",.list ((D4 near th lvl).map B8))::(S "fresh",.obj (.ref fx))::D1 sx la td lvl (FN nx near r d late)) (rest::ls) N R) :
  Be c ((S "fresh",.obj (.ref fx))::D1 sx la td lvl (FN nx near r d late)) ((Q3 2::Q3 3::Q3 4::Q3 5::rest)::ls) N R:=by
 let R0:List (Str×D):=(S "fresh",.obj (.ref fx))::D1 sx la td lvl (FN nx near r d late);let pr:=D4 near th lvl;have rL:∀p∈pr,p.1<128/\p.2<128:=λp hp=>by
  refine Bi (Am.mp hp) ?_;intro a ha hp;refine Bi (AF.mp hp) ?_;rintro b hb rfl;have h1:=(Ri a ha).2.2 b (Az.mp hb).1;exact⟨GS _ (CB _ (Ru b h1)).1,GS _ (CB a (j0 a ha)).1⟩
 refine Be.step (J':=(S "pairs",.list (pr.map B8))::R0) (Ex.sc E (d:=.list (pr.map B8)) (CE.ev (CE.eq (CE.OP lvl (λp=>.str (sg p)) (λp=>HA near p) (λV q=>.str (sg q)) (λV q=>!(CS th).contains (Ch q)) (λp q=>B8 (Ch q,p)) (J0:=[(S "things",.obj (.ref td)),(S "near",.dict (DS near))]) E.co
  (Bb.list Ev.n) (λp=>[(S "p",.str (sg p)),(S "things",.obj (.ref td)),(S "near",.dict (DS near))]) (λV V h=>.tail _ h) (λV V V sc=>Bind.n) (λp hp cc sc=>Bb.list (Ev.CR (d:=.list (Cw (HA near p))) Ev.n Ev.n (TX (Ri p hp).1)))
  (λp q=>[(S "q",.str (sg q)),(S "p",.str (sg p)),(S "things",.obj (.ref td)),(S "near",.dict (DS near))]) (λV V V h=>.tail _ h) (λV V V V V sc=>Bind.n) (λp hp q hq cc sc=>CM.one (CL.cmp (Bh.eq (Bh.YY (a:=td) (es:=KB L) (λX h z=>?_) (Ev.eq (Ev.lower Ev.n (AE rfl)) (congrArg D.str (GB q ((Ri p hp).2.2 q hq)))) Ev.n) ?_)))
  (λp hp q hq V cc sc=>Ev.tp (.cons (Ev.eq (Ev.lower Ev.n (AE rfl)) (congrArg D.str (GB q ((Ri p hp).2.2 q hq)))) (.cons Ev.n .nil))) ?_) ?_))) ?_
 .rw [sc.w];exact mq X h (sc.g X h z)
 .rw [Xm,et]
 .have e:(lvl.flatMap λp=>((HA near p).filter λq=>!(CS th).contains (Ch q)).map λq=>B8 (Ch q,p))=pr.map B8:=by
   show _=(lvl.flatMap _).map B8;rw[BP];congr 1;funext p;rw[AB];rfl
  rw[e,AA];exact AD lp (by decide)
 .show D.list _=D.list ((lvl.flatMap _).map B8);rw[BP];congr 2;funext p;rw[AB];rfl
 .let du:=NL late pr;refine Be.step (J':=(S "due",.list (du.map B8))::(S "pairs",.list (pr.map B8))::R0) (Ex.cL E (d:=.list (du.map B8)) (CE.eq (CE.C1 pr.zipIdx (λx=>.tup [.int (x.2:Nat),B8 x.1]) (λx=>!((if late then pr.drop (x.2+1)else pr.take x.2).map (·.1)).contains x.1.1) (λx=>B8 x.1) (J0:=[(S "pairs",.list (pr.map B8)),(S "late",.bool late)]) E.co
   (Bb.eq (Bb.enum Ev.b Ev.n) (Fy _ _)) (λx=>[(S "p",.str (sg x.1.2)),(S "q",.str (sg x.1.1)),(S "k",.int (x.2:Nat)),(S "pairs",.list (pr.map B8)),(S "late",.bool late)]) (λV V h=>.tail _ (.tail _ (.tail _ h))) (λV V V sc=>Bind.tup (.cons Bind.n (.cons (Bind.tup (.cons Bind.n (.cons Bind.n .nil))) .nil)))
   (λx hx cc sc=>CM.one (CL.cmp (Bh.V7 (x:=x.1.1) (os:=(if late then pr.drop (x.2+1)else pr.take x.2).map (·.1)) Ev.n (CE.ev (CE.eq (CE.C1 (if late then pr.drop (x.2+1)else pr.take x.2) B8 (λV=>true) (λy=>.str (sg y.1)) (J0:=[]) sc.co (Bb.list (Ev.K7 (d:=.list ((if late then pr.drop (x.2+1)else pr.take x.2).map B8)) (CL.val (d:=.bool late) Ev.n trivial) (λhl=>Ev.eq (Ev.EI Ev.n (Part.int (Ev.Il Ev.n Ev.cInt)) Part.no ?_) ?_) (λhl=>Ev.eq (Ev.EI Ev.n Part.no (Part.int Ev.n) ?_) ?_)))
    (λy=>[(S "by",.str (sg y.2)),(S "one",.str (sg y.1))]) (λV V h=>by cases h) (λV V V sc=>Bind.tup (.cons Bind.n (.cons Bind.n .nil))) (λV V V V=>CM.nil) (λV V V cc sc=>Ev.n) ?_) ?_)) ?_ ?_))) (λx V V cc sc=>Ev.tp (.cons Ev.n (.cons Ev.n .nil))) ?_) ?_)) ?_
  .rw [AA];exact AD lp (by decide)
  .have nE:late=true:=hl;have e1:((x.2:Nat):Int)+1=((x.2+1:Nat):Int):=by lia
   rw[if_pos nE,e1,Dj,List.map_drop]
  .rw [AA];exact AD lp (by decide)
  .have nE:late=false:=hl;rw[if_neg (by rw[nE];decide),NJ,List.map_take]
  .have h1:(pr.drop (x.2+1)).length<=pr.length:=by rw[AM];(clear hk ll lf lp;omega)
   have h2:(pr.take x.2).length<=pr.length:=by rw[Ae];(clear h1;lia)
   have h3:pr.length<=100:=lp;cases late<;>simp only[AR,if_false,if_true]<;>lia
  .rw [By,AB];rfl
  .exact (rL _ (mem_zipIdx hx).2.1).1
  .intro a ha;refine Bi (AF.mp ha) ?_;rintro y hy rfl;refine(rL y ?_).1;cases late
   .exact Ay hy
   .exact Aj hy
  .rw [List.length_zipIdx];exact AD lp (by decide)
  .show D.list _=D.list ((List.map _ _).map B8);rw[AB];rfl
  .let to:=Gl f;refine Be.step (J':=(S "told",.list (to.map B8))::(S "due",.list (du.map B8))::(S "pairs",.list (pr.map B8))::R0) (Ex.cL E (d:=.list (to.map B8)) (CE.eq (CE.C1 f (λr=>.str (sg r.1)) (λV=>true) (λr=>B8 (Ch r.1,(C3 f r.1).getD 0)) (J0:=[(S "fresh",.obj (.ref fx))]) E.co
    (Bb.list (Ev.eq (Ev.UW (f:=141) (k:=1) (G:=CJ fx fdx fl (Bg f)) (d:=.list ((Bg f).map λr=>.str r.1)) Ev.n (CU.ro (ff c.w 0 fx fdx fl (Bg f) (by rw[DD];exact lb lf rfl))) (AD (by decide) hk) Oh (DI.ro Oh) X7 ⟨_,_,_,_,_,U3⟩) ?_)) (λr=>[(S "q",.str (sg r.1)),(S "fresh",.obj (.ref fx))]) (λV V h=>.tail _ h) (λV V V sc=>Bind.n) (λV V V V=>CM.nil)
    (λr hr V cc sc=>Ev.tp (.cons (Ev.eq (Ev.lower Ev.n (AE rfl)) (congrArg D.str (GB r.1 (Rf r hr).1))) (.cons ?_ .nil))) ?_) ?_)) ?_
   .unfold Bg;rw[AB];rfl
   .have PG:=(Rf r hr).1;have qN:∀X h,cc.G.P cc.w X h->(CJ fx fdx fl (Bg f)).P cc.w X h:=λX h z=>by rw[sc.w];exact Oh X h (sc.g X h z)
    have g:=CU.ro (VK cc.w 0 fx fdx fl (Bg f) (sg r.1) (by rw[DD];exact lb lf rfl) (Ea Rf) (AE rfl) (EV PG) (EG _ PG));refine Ev.eq (Ev.JV (f:=136) (k:=2) (G:=CJ fx fdx fl (Bg f)) (ds:=[.str (sg r.1)]) Ev.n (.cons Ev.n .nil) g (by rw[sc.k];exact AD (by decide) hk) qN (DI.ro qN) K5 ⟨_,_,_,_,_,MV⟩) ?_;rw[NZ Rf PG];refine B6 (U8 hr) ?_;intro v hv;rw[hv];rfl
   .exact lb lf rfl
   .rw [By];show D.list _=D.list ((List.map _ f).map B8);rw[AB];rfl
   .have tl:∀p∈to,p.1<128/\p.2<128:=λp hp=>⟨GS _ (CB _ (ht p hp).1).1,GS _ (CB _ (ht p hp).2).1⟩;have dl:∀p∈du,p.1<128/\p.2<128:=λp hp=>tl p (by show p∈Gl f;rw[he];exact hp);have tI:(!(D.list (to.map B8)).eqv (.list (du.map B8)))=false:=by
     rw[Uu];have:to=du:=he;simp[this]
    refine Be.if (b:=false) (CL.cmp (Bh.eq (Bh.W9 (n:=2) (m:=2) Ev.n Ev.n (H8 tl) (H8 dl)) tI)) (λh=>by cases h) λV=>Be.nil ?_
    exact x
theorem Ev.RE{t:Th}(hG:∀X h,c.G.P c.w X h->Ly c.w X h t)(x:Ev c J o (.obj (.ref t.f)))(he:autoParam (eval (.Attribute o (Str.ofString "attrib") pos) c.env=(do
   let o' <- eval o c.env;standAt pos.atName;let r <- holding [o'] (getAttr o' (Str.ofString "attrib") true);letTemporaryGo o o' r;pure r)) Dz):Ev c J (.Attribute o (Str.ofString "attrib") pos) (.dict (Ic t.way t.above)):=λs F Q E q=>
 BQ (x s F _ _ λv' h1 t1 l1 r1=>by
  cases r1;have F1:=F.le l1;refine Mp (FL (hG _ _ F1.g)) ?_;intro m fa fi ck ct tk av z;have rv:=z.av;have hh:handedOut av=pure av:=by cases rv;rfl
  exact GL I7 z.fn.kX z.ms.at_ hh (q _ h1 _ l1 rv)) he
noncomputable def KC(G0:Res)(td la sx sdx sl:Addr)(L:C0)(rows:R2):Res:=((G0.star (Gg td L)).star (Bl la [])).star (Bc sx sdx sl (Bg rows))
def JN(L:C0)(r:Nat)(d:D):Prop:=∃t∈L,t.tag=r/\t.tl=some d
theorem WQ{L:C0}{r:Nat}(h:JN L r d)(a:Nat)(kf:Addr)(t':Th):JN (CX L a kf++[t']) r d:=by
 refine EJ h ?_;clear h;intro t ht e1 e2;refine⟨_,List.mem_append_left _ (Ab ht),?_⟩;split<;>exact⟨e1,e2⟩
theorem jP{G0 T Z:Res}{td la sx sdx sl:Addr}{L:C0}{th:TH}{seen told:R2}{r:Nat}{A:B4}(E:Bj c w (BY (Ba 26)) k)(hk:3<=c.k)(hG:c.G=((KC G0 td la sx sdx sl L seen).star T).star Z)(I:Dd L th)(hr:JN L r d)(s1:sl≠sx)(s2:sl≠sdx)(Rs:RL seen)(nd:(CS th++told.map (·.1)).Nodup)(hp:∀x∈told,x.2∈CS th)(K6:∀x∈told,x.1∈lows/\x.2∈lows)(len:(CS th++told.map (·.1)).length<=20)(ls:(seen++told).length<=100)(tY:A.lookup (S "told")=some (.list (told.map B8)))(mh:A.lookup (S "things")=some (.obj (.ref td)))(tX:A.lookup (S "seen")=some (.obj (.ref sx)))(tV:(A.map (·.1)).contains (S "p")=false)(tW:(A.map (·.1)).contains (S "q")=false){B:Nat}(hB:B<=800)(gW:∀t∈L,t.way.length<=B) :
  Ex c A (Q3 6) (λh=>∃L' X',Dd L' (told.foldl Fu th)/\JN L' r d/\(∀t∈L',t.way.length<=B+20)/\(∀b,c.X b->X' b)/\Fr (c.on X' (((KC G0 td la sx sdx sl L' (seen++told)).star T).star Z)) A h) R:=by
 have hint:interactive c.env=false:=E.quiet rfl;refine(Ex.fQ (ds:=told.map B8) E.ro (λj G J=>∃L,Dd L ((told.take j).foldl Fu th)/\JN L r d/\(∀t∈L,t.way.length<=B+j)/\G=((KC G0 td la sx sdx sl L (seen++told.take j)).star T).star Z/\J=A) ⟨L,by simpa using I,hr,gW,by simpa using hG,rfl⟩ (Bb.list (Ev.n (h:=tY))) (λj d1 Oi G J1 hI X1 T1 OD=>?_)).imp (λh zz=>?_) λv h z=>z
 .refine XA hI ?_;clear hI;intro L1 I1 r1 w1 e1 e2;subst e1 J1;rw[AL,AS]at Oi;refine Bi Oi ?_;clear Oi;rintro x hx rfl;obtain⟨q,p⟩:=x;have xm:=AQ hx;refine CC (K6 _ xm) ?_;intro ql pl;dsimp only at ql pl;refine FP (CB q ql) ?_;intro Gb V V;refine FP (CB p pl) ?_;intro ME V V;have tg:CS ((told.take j).foldl Fu th)=CS th++(told.take j).map (·.1):=Tz _ _;have pin:p∈CS ((told.take j).foldl Fu th):=by rw[tg];exact List.mem_append_left _ (hp _ xm)
  refine Bi (I1.get pin) ?_;intro t ht et;have iw:q∉CS ((told.take j).foldl Fu th):=by
   rw[tg];have e:told.map (·.1)=(told.take j).map (·.1)++q::(told.drop (j+1)).map (·.1):=by
    have hj:=(AP.mp hx)
    refine B6 hj ?_;clear hj;intro Dx uf;conv=>lhs;rw[<- List.take_append_drop j told,List.drop_eq_getElem_cons Dx,uf]
    rw[Af,AI]
   rw[e,<- List.append_assoc,List.nodup_append]at nd;intro z;exact nd.2.2 q z q (.head _) rfl
  have jl:j<told.length:=(AP.mp hx).1;rw[Ac,AA]at len;rw[Ac]at ls;have xD:(told.take j).length<=j:=List.length_take_le _ _;have ZB:L1.length<=1000:=by
   rw[I1.len,Ow];have:(CS th).length=th.length:=AA _;lia
  have kl:t.kids.length<=1000:=by
   rw[(I1.kids t ht).len];refine AD (YH _ _) ?_;rw[<- I1.len];exact ZB
  subst et;have dn:(L1.map (·.tag)).Nodup:=by rw[I1.tags];exact I1.nd
  have wl:t.way.length<=900:=by have:=w1 t ht;(clear len;lia)
  let KA:List Th->Res:=λL'=>(((((Bw td (KB L')).star (Bm L')).star (Bl la [])).star (Bc sx sdx sl (Bg (seen++told.take j)))).star T).star Z;let A':List (Str×D):=(S "p",.str (sg t.tag))::(S "q",.str (sg q))::A;let c1:Cx:=c.on X1 ((((KC G0 td la sx sdx sl L1 (seen++told.take j)).star T).star Z).star T1);have E1:Bj c1 w (BY (Ba 26)) k:=E.on;have ma:(((S "q",D.str (sg q))::A).map (·.1)).contains (S "p")=false:=by
   rw[AI,List.contains_cons,tV];rfl
  have kp:A'.lookup (S "things")=some (.obj (.ref td)):=by
   show((S "p",D.str (sg t.tag))::(S "q",D.str (sg q))::A).lookup _=_;rw[AK,AK,mh];rfl
  have ks:A'.lookup (S "seen")=some (.obj (.ref sx)):=by
   show((S "p",D.str (sg t.tag))::(S "q",D.str (sg q))::A).lookup _=_;rw[AK,AK,tX];rfl
  have hT:∀X h,c1.G.P c1.w X h->(Gg td L1).P c1.w X h:=λX h z=>z.1.1.1.1.1.2.1;refine⟨A',Bind.tup (.cons (Bind.n (h:=tW)) (.cons (Bind.n (h:=ma)) .nil)),?_⟩;have F:=λX h (z:c1.G.P c1.w X h)=>z.1.1.1.1.1.2.1;refine Be.cons (Ex.cP (p:=t) (q:=q) (a:=t.tag) (way':=t.way++[q]) (td:=td) (L:=L1)
   (G1:=λt'=>(((((G0.star ((Bw td (KB L1)).star (Bm (CX L1 t.tag t'.f++[t'])))).star (Bl la [])).star (Bc sx sdx sl (Bg (seen++told.take j)))).star T).star Z).star T1)
   (G':=λt'=>(((KC G0 td la sx sdx sl (CX L1 t.tag t'.f++[t']) (seen++told.take j)).star T).star Z).star T1)
   (N:=λh=>∃(t':Th) (X':CG),t'.tag=q/\t'.way=t.way++[q]/\t'.above=some t.tag/\t'.kids=[]/\(∀b,c1.X b->X' b)/\Fr (c1.on X' ((((KC G0 td la sx sdx sl (CX L1 t.tag t'.f++[t']) (seen++told.take j)).star T).star Z).star T1)) A' h)
   E1.ro dn ht kl (by rw[I1.tags];exact iw) ZB hk
   (λt' V=>Gs.lf (Gs.lf (Gs.lf (Gs.lf (Gs.lf (Gs.rt (Gs.self ?_)))))))
   (λt' V=>Upd.lf (Upd.lf (Upd.lf (Upd.lf (Upd.lf (Upd.rt (Upd.lf (Upd.self λb=>Iff.rfl))))))))
   Ev.g (Ev.G6 (λX h z=>(hT X h z).1) (Ev.n (h:=kp)) Ev.n (KD dn ht)) Ev.n
   (Ev.RE (λX h z=>?_) (Ev.G6 (λX h z=>(hT X h z).1) (Ev.n (h:=kp)) Ev.n (KD dn ht)))
   (Ev.eq (Ev.eK (a:=tx t.way) (b:=sg q) (Ev.CR (Ev.RE (λX h z=>?_) (Ev.G6 (λX h z=>(hT X h z).1) (Ev.n (h:=kp)) Ev.n (KD dn ht))) Ev.cStr ?_) Ev.n ?_) ?_)
   Ev.n (λV V=>Ev.n (h:=kp)) (λV V=>Ev.n)
   (λt' X' h e1 e2 e3 e4 e5 hX F=>⟨t',X',e1,e2,e3,e4,hX,F⟩)) ?_
  .intro b z;rcases z with z|z
   .exact .inl (.inl z)
   .rcases HZ.mp z with y|y
    .exact .inl (.inr ((Im L1 t.tag t'.f b).mp y))
    .exact .inr y
  .exact (hT X h z).2.1.1 t ht
  .exact (hT X h z).2.1.1 t ht
  .unfold Ic;cases t.above<;>rfl
  .have:(tx t.way).length=t.way.length:=rfl;rw[this];show t.way.length+1<=_;omega
  .rw [show sg q=tx [q]from rfl,Ws]
  .intro h2 Cr;refine V8 Cr ?_;intro t' X' e1 e2 e3 e4 Sz F2;have I2:=Wo I1 ht iw e1 e2 e3 e4;have e5:(told.take (j+1)).foldl Fu th=Fu ((told.take j).foldl Fu th) (q,t.tag):=by
    rw[A3,hx,BH];rfl
   have e6:seen++told.take (j+1)=(seen++told.take j)++[(q,t.tag)]:=by
    rw[A3,hx,List.append_assoc];rfl
   have rl:RL (seen++told.take j):=λp hp=>by
    rcases Ar.mp hp with hp|hp
    .exact Rs p hp
    .have:=K6 p (Ay hp);exact⟨(CB _ this.1).1,(CB _ this.2).1⟩
   let c2:Cx:=c1.on X' ((((KC G0 td la sx sdx sl (CX L1 t.tag t'.f++[t']) (seen++told.take j)).star T).star Z).star T1);have E2:Bj c2 w (BY (Ba 26)) k:=E1.on;refine⟨c2,A',⟨rfl,rfl,rfl⟩,F2,?_⟩;refine Be.EM (X':=X') (G':=(((KC G0 td la sx sdx sl (CX L1 t.tag t'.f++[t']) (seen++told.take (j+1))).star T).star Z).star T1) (J':=A') (Ex.Ik (c:=c2) (rows:=Bg (seen++told.take j)) (n:=sg q) (v:=sg t.tag) E2.ro (by rw[DD,Ac];lia) s1 s2 (DJ Gb true) (DJ ME false) (AE rfl) (AD (by decide) hk) ?_ (Ev.n (h:=ks)) Ev.n Ev.n (E2.quiet rfl)) ?_
   .have e7:Bg (seen++told.take j)++[(sg q,sg t.tag)]=Bg (seen++told.take (j+1)):=by
     rw[e6];unfold Bg;rw[Af (l₁:=seen++told.take j)];rfl
    rw[e7];exact Upd.lf (Upd.lf (Upd.lf (Upd.rt (Upd.self λb=>Iff.rfl))))
   .refine Be.nil (Be.done λh3 F3=>⟨_,A,X',⟨CX L1 t.tag t'.f++[t'],?_,WQ r1 _ _ _,λx QP=>?_,rfl,rfl⟩,λb z=>Sz b (OD b z),F3.sub λp hp=>.tail _ (.tail _ hp)⟩)
    .rw [e5];exact I2
    .rcases Ar.mp QP with QP|QP
     .refine Bi (AF.mp QP) ?_;rintro x0 h0 rfl;have:=w1 x0 h0;split<;>(first|lia|(show x0.way.length<=_;lia))
     .rw [AG.mp QP,e2,Ac];have:=w1 t ht;simp only[AZ,BS];lia
 .refine Mo zz ?_;clear zz;intro G J1 X1 Dv OD F1;refine XA Dv ?_;intro L1 I1 r1 w1 e1 e2;have e3:(told.map B8).length=told.length:=AA _;rw[e3,BF]at I1 e1;rw[e3]at w1;rw[Ac,AA]at len;subst e1 J1;exact⟨L1,X1,I1,r1,λt ht=>AD (w1 t ht) (by lia),OD,F1⟩
theorem Be.weak{ls:List (List Stmt)}(s:∀p∈J',p∈J)(x:Be c J' ls N R):Be c J ls N R:=λt F Q E n r=>x t (F.sub s) Q E n r
theorem Q0{A B C:Res}(z:(A.star (B.star C)).P w X h):((A.star B).star C).P w X h:=
 ⟨⟨z.1,z.2.1.1,λb x y=>z.2.2 b x (.inl y)⟩,z.2.1.2.1,λb x y=>x.elim (λx=>z.2.2 b x (.inr y)) λx=>z.2.1.2.2 b x y⟩
theorem cU{A:Res}(z:(A.star Res.emp).P w X h):A.P w X h:=z.1
def RB(w:World)(X:CG)(nm:BZ)(d:D)(th:TH)(v:Value)(h:Heap):Prop:=
 ∃TT:TT,TT.map (λt=>(t.1,t.2.2))=th/\B9 X w h v (.tup [.dict (Ll TT),.list (Cw nm++tailD d)])/\(HI TT).P w X h
structure Po(near:EB):Prop where
 row:∀p l,near.lookup p=some l->l.length<=100/\∀q∈l,q∈Bq
theorem T9{late:Bool}{net:R2}{near:EB}{s s':St}(e:IY late net near s=some s'):∃f told,f=GN late net s.seen s.lvl/\told=Gl f/\told=NL late (D4 near s.th s.lvl)/\(CS s.th++told.map (·.1)).Nodup/\(∀x∈told,x.2∈CS s.th)/\(∀x∈told,x.1∈lows/\x.2∈lows)/\(∀x∈told,(near.lookup x.1).isSome=true)/\told.length<=4/\(CS s.th++told.map (·.1)).length<=20/\f.length<=100/\(s.seen++told).length<=100/\(D4 near s.th s.lvl).length<=100/\s'=⟨told.map (·.1),s.seen++told,told.foldl Fu s.th⟩:=by
 unfold IY at e;dsimp only at e;split at e
 .rename_i z;exact⟨_,_,rfl,rfl,z.1,z.2.1,z.2.2.1,z.2.2.2.1,z.2.2.2.2.1,z.2.2.2.2.2.1,z.2.2.2.2.2.2.1,z.2.2.2.2.2.2.2.1,z.2.2.2.2.2.2.2.2.1,z.2.2.2.2.2.2.2.2.2,(BV e).symm⟩
 .cases e
theorem Ob{late:Bool}{net seen:R2}(h:RL net):∀(l:BZ) (f:R2),(∀a∈l,a∈lows)->RL f->RL (l.foldl (LZ late net seen) f)
 |[],f,_,h1=>h1
 |p::l,f,hl,h1=>by
  rw[As];exact Ob h l _ (λa ha=>hl a (.tail _ ha)) (Qp (CB p (hl p (.head _))).1 _ _ (λq hq=>HK h hq) h1)
theorem Y0{l:R2}(h:∀x∈l,x.1∈lows/\x.2∈lows):RL l:=λx hx=>⟨(CB _ (h x hx).1).1,(CB _ (h x hx).2).1⟩
structure UR(near:EB)(r:Nat)(d:D)(i:Nat)(st:St)(L:C0):Prop where
 tree:Dd L st.th
 root:JN L r d
 way:∀t∈L,t.way.length<=20*i
 lvl:∀a∈st.lvl,a∈lows/\(near.lookup a).isSome=true
 four:st.lvl.length<=4
 seen:RL st.seen
 I0:st.seen.length<=100
theorem U5:CA 273 (Ba 26) (S "_law_tree") 272 .none CY:=⟨λP=>rfl,λP=>⟨_,_,_,rfl,rfl,rfl⟩,rfl,rfl,rfl⟩
theorem Wn{T1:Res}{nx ndx nl td la sx sdx sl:Addr}{L:C0}{net:R2}{near:EB}{r:Nat}{late:Bool}{i:Nat}{st Lw:St}(E:Bj c w (BY (Ba 26)) k)(hk:3<=c.k)(hG:c.G=(KC (CJ nx ndx nl (Bg net)) td la sx sdx sl L st.seen).star T1)(I:UR near r d i st L)(hi:i<=10)(s1:sl≠sx)(s2:sl≠sdx)(Rn:RL net)(ln:net.length<=100)(No:Po near)(ht:IY late net near st=some Lw) :
  Be c (D1 sx la td st.lvl (FN nx near r d late)) [Q3 0::Q3 1::Q3 2::Q3 3::Q3 4::Q3 5::Q3 6::Q3 7::[]] (λh=>∃L' X',UR near r d (i+1) Lw L'/\(∀b,c.X b->X' b)/\Fr (c.on X' ((KC (CJ nx ndx nl (Bg net)) td la sx sdx sl L' Lw.seen).star T1)) (D1 sx la td Lw.lvl (FN nx near r d late)) h) R:=by
 obtain⟨f,told,ef,et,lu,nd,hp,K6,ub,l4,len,lf,ls,lp,tK⟩:=T9 ht;let R0:=D1 sx la td st.lvl (FN nx near r d late);have hint:interactive c.env=false:=E.quiet rfl;refine Be.cons (Ex.KP (N:=λh=>∃fx fdx fl X',fl≠fx/\fl≠fdx/\(∀b,c.X b->X' b)/\(∀b,(Bc fx fdx fl []).fp b->Gh c b X')/\Fr (c.on X' (c.G.star (Bc fx fdx fl (Bg [])))) ((S "fresh",.obj (.ref fx))::R0) h) (FO.Gy Ev.g hk) (E.nm (.inr rfl)) (by rfl) λd1 T h X' zz hX nw F1=>?_) ?_
 .refine V9 zz ?_;clear zz;intro fx fdx fl e1 e2 n1 n2;subst e1 e2;exact⟨fx,fdx,fl,X',n1,n2,hX,nw,F1⟩
 .intro h1 Cr;refine kK Cr ?_;intro fx fdx fl X2 n1 n2 Hk nw F2;let c2:Cx:=c.on X2 (c.G.star (Bc fx fdx fl (Bg [])));have E2:Bj c2 w (BY (Ba 26)) k:=E.on;have hw:c.w=w:=E.hw;refine⟨c2,_,⟨rfl,rfl,rfl⟩,F2,?_⟩;refine Be.cons (jN (c:=c2) (K:=c.G) (net:=net) (seen:=st.seen) (near:=near) (lvl:=st.lvl) (nx:=nx) (ndx:=ndx) (nl:=nl) (sx:=sx) (sdx:=sdx) (sl:=sl) (d:=d) (r:=r) (late:=late) E2 hk rfl (λX h z=>?_) (λX h z=>?_) n1 n2 ln I.I0 Rn I.seen (λa ha=>(I.lvl a ha).1) I.four) ?_
  .rw [hG]at z;exact z.1.1.1.1
  .rw [hG]at z;exact z.1.2.1
  .intro h3 Dv;refine Bi Dv ?_;intro X3 ZQ F3;rw[<- ef]at F3;have rz:=Fr.NV (c:=c2) (G:=c.G) (x:=fx) (dx:=fdx) (l:=fl) (rows:=Bg f) F3 λb z=>(nw b z).old;let X4:Addr->Prop:=λb=>X3 b/\¬(Bc fx fdx fl (Bg f)).fp b;have mm:∀b,c.X b->X4 b:=λb z=>⟨ZQ b (Hk b z),λy=>(nw b y).out z⟩;let c3:Cx:=c2.on X4 (c.G.star (CJ fx fdx fl (Bg f)));have E3:Bj c3 w (BY (Ba 26)) k:=E2.on;refine⟨c3,_,⟨rfl,rfl,rfl⟩,rz,?_⟩;have tM:RL f:=by rw[ef];exact Ob Rn _ _ (λa ha=>(I.lvl a ha).1) λp hp=>by cases hp
   rw[et]at K6;refine jO (c:=c3) (L:=L) (th:=st.th) (f:=f) E3 hk (td:=td) (fx:=fx) (fdx:=fdx) (fl:=fl) (λX h z=>?_) (λX h z=>z.2.1) I.tree.tags (λp hp=>?_) (λa ha=>(I.lvl a ha).1) (AD I.four (by decide)) tM lf lp (et▸lu) K6 ?_
   .have z1:=z.1;rw[hG]at z1;exact z1.1.1.1.2.1.1
   .refine B6 (A6.mp (I.lvl p hp).2) ?_;intro l hl;have e:HA near p=l:=by unfold HA;rw[hl];rfl
    rw[e];exact⟨hl,No.row p l hl⟩
   .rw [<- et]at K6 ⊢;let R3:List (Str×D):=(S "told",.list (told.map B8))::(S "due",.list ((NL late (D4 near st.th st.lvl)).map B8))::(S "pairs",.list ((D4 near st.th st.lvl).map B8))::(S "fresh",.obj (.ref fx))::R0;refine Be.cons (jP (c:=c3) (G0:=CJ nx ndx nl (Bg net)) (T:=T1) (Z:=CJ fx fdx fl (Bg f)) (td:=td) (la:=la) (sx:=sx) (sdx:=sdx) (sl:=sl) (L:=L) (th:=st.th) (seen:=st.seen) (told:=told) (r:=r) (d:=d) (A:=R3) E3 hk (by show c.G.star _=_;rw[hG]) I.tree I.root s1 s2 I.seen nd hp K6 len ls rfl rfl rfl rfl rfl (B:=20*i) (iD hi rfl) I.way) ?_;intro h5 HW;refine Qg HW ?_;intro L' X5 It Ir Iw tj F5;let c5:Cx:=c3.on X5 (((KC (CJ nx ndx nl (Bg net)) td la sx sdx sl L' (st.seen++told)).star T1).star (CJ fx fdx fl (Bg f)));have E5:Bj c5 w (BY (Ba 26)) k:=E3.on;refine⟨c5,R3,⟨rfl,rfl,rfl⟩,F5,?_⟩;refine Be.step (J':=(S "level",.list (Cw (told.map (·.1))))::(S "told",.list (told.map B8))::(S "due",.list ((NL late (D4 near st.th st.lvl)).map B8))::(S "pairs",.list ((D4 near st.th st.lvl).map B8))::(S "fresh",.obj (.ref fx))::(S "seen",.obj (.ref sx))::(S "line",.obj (.ref la))::(S "things",.obj (.ref td))::FN nx near r d late) (Ex.cL E5 (d:=.list (Cw (told.map (·.1)))) (CE.eq (CE.C1 told B8 (λV=>true) (λy=>.str (sg y.1)) (J0:=[]) E5.co (Bb.list Ev.n) (λy=>[(S "p",.str (sg y.2)),(S "q",.str (sg y.1))]) (λV V h=>by cases h) (λV V V sc=>Bind.tup (.cons Bind.n (.cons Bind.n .nil))) (λV V V V=>CM.nil) (λV V V cc sc=>Ev.n) ?_) ?_)) ?_
    .exact lb l4 rfl
    .rw [By];unfold Cw;rw[AB];rfl
    .refine Be.nil (Be.done λh6 F6=>?_);subst tK;refine⟨L',X5,⟨It,Ir,λt ht=>by have:=Iw t ht;exact(λ{i₁ i₂}=>String.Pos.Raw.mk_le_mk.mp) (Iw t ht),λa ha=>?_,?_,?_,?_⟩,λb z=>tj b (mm b z),(F6.less (c:=c) (X:=X5) (G:=c5.G) (λw X h z=>z.1) (λb z=>.inl z)).sub λp hp=>?_⟩
     .refine Bi (AF.mp ha) ?_;rintro x hx rfl;exact⟨(K6 x hx).1,ub x hx⟩
     .rw [AA];exact l4
     .intro p hp;rcases Ar.mp hp with hp|hp
      .exact I.seen p hp
      .exact Y0 K6 p hp
     .exact ls
     .cases hp with
      |head=>exact .head _
      |tail _ hp=>exact .tail _ (.tail _ (.tail _ (.tail _ (.tail _ hp))))
theorem fh(w:World)(k:Nat){nx ndx nl:Addr}{net:R2}{near:EB}{r:Nat}{late:Bool}{stF:St}{n:Nat}(hn:n<=k)(Rn:RL net)(ln:net.length<=100)(No:Po near)(dZ:near.length<=10)(hr:r∈lows)(nQ:(near.lookup r).isSome=true)(Jo:d=.none\/∃y,d=.str y/\y.length<=1000)(bE:runN late net near near.length ⟨[r],[(r,r)],[(r,[],none)]⟩=some stF)(VY:deep (Ie stF.th) n r=true)(L8:∀m ≤n,∀a∈CS stF.th,(CQ (Ie stF.th) m a).length<=500)(ok:E9 (k+4) A)(B:CW w s.heap)(xk:FU X s.heap)(rv:Bf X w s.heap vs [.obj (.ref nx),.dict (DS near),.str (sg r),d,.bool late])(g:(CJ nx ndx nl (Bg net)).P w X s.heap) :
  Run w A Hw (call (.ref 273) vs) s (RB w X (CQ (Ie stF.th) n r) d stF.th):=by
 refine MX U5 ok B xk (G:=CJ nx ndx nl (Bg net)) g (λb z=>z.elim) (names:=[S "net",S "near",S "root",S "tail",S "late"]) (ds:=[.obj (.ref nx),.dict (DS near),.str (sg r),d,.bool late]) (λQ E q=>?_) (.of (by decide +kernel)) λc h0 l0 FA=>?_
 .have e:=rv.length;refine iY (hZ e) ?_;rintro v1 v2 v3 v4 v5 rfl;have eb:bindArgs (EW (Ba 26) (S "_law_tree") .none CY (.ref 272)) ⟨[v1,v2,v3,v4,v5],[]⟩=pure ([S "net",S "near",S "root",S "tail",S "late"].zip [v1,v2,v3,v4,v5]):=rfl;rw[eb];exact wpAny_pure (q s.heap s.toks _ (.refl _) rv rfl)
 .have E:=FA.env;have hw:c.w=w:=E.hw;have hint:interactive c.env=false:=E.quiet rfl;have hk:3<=c.k:=by rw[FA.hk];exact A1 3 k
  let A0:=FN nx near r d late;refine Be.cons (Ex.setTR (N:=λh=>∃td la t X',t.tag=r/\t.way=[]/\t.above=none/\t.kids=[]/\t.tl=none/\(∀b,c.X b->X' b)/\(∀b,(((Bw td [(sg r,D.obj (.ref t.f))]).star (Bm [t])).star (Bl la [])).fp b->Gh c b X')/\Fr (c.on X' (c.G.star (((Bw td [(sg r,D.obj (.ref t.f))]).star (Bm [t])).star (Bl la [])))) ((S "line",.obj (.ref la))::(S "things",.obj (.ref td))::A0) h)
   (FO.cn (FO.tab (tag:=r) (way:=[]) (ab:=none) Ev.n (λfp=>?_)) (λd T X' V V=>FO.bZ)) (λd T X' zz hX nw=>?_) (hw:=by unfold swappedStores Env.blockKind Env.kindOf;rw[E.hs];rfl)) ?_
  .have Ep:Bj (c.plus fp) w (BY (Ba 26)) (k+3):=E.on (X:=DH c.X fp) (G:=c.G);exact FO.jH Ev.g Ev.n (Ev.fA Ev.cStr Ev.cStr rfl) (AD (by decide) hk)
  .refine Yb zz ?_;clear zz;intro d1 d2 T1 T2 e1 e2 Cr Dv;refine kI Cr ?_;intro td t e3 e4 a1 a2 a3 a4 a5;refine Bi Dv ?_;intro la e5 e6;subst e1 e2 e3 e4 e5 e6;have E1:Bj (c.on X' (c.G.star (((Bw td [(sg r,D.obj (.ref t.f))]).star (Bm [t])).star (Bl la [])))) w (BY (Ba 26)) (k+3):=E.on;exact⟨_,Bind.tup (.cons (Bind.n) (.cons Bind.n .nil)),λh F=>⟨td,la,t,X',a1,a2,a3,a4,a5,hX,nw,F⟩⟩
  .intro h1 HW;refine rF HW ?_;intro td la t X1 a1 a2 a3 a4 a5 OD iW F1;rw[FA.hG]at F1;let H0:Res:=CJ nx ndx nl (Bg net);let t':Th:={t with tl:=some d}
   let G1:Th->Res:=λt=>(H0.star ((Bw td [(sg r,D.obj (.ref t.f))]).star (Bm [t]))).star (Bl la []);have km:=F1.less (G':=G1 t) (λw X h z=>Q0 z) (λb z=>z.elim (λz=>z.elim .inl λz=>.inr (.inl z)) λz=>.inr (.inr z));let c1:Cx:=c.on X1 (G1 t);have E1:Bj c1 w (BY (Ba 26)) (k+3):=E.on;refine⟨c1,_,⟨rfl,rfl,rfl⟩,km,?_⟩;have fl:d.flat=true:=by rcases Jo with rfl|⟨y,rfl,_⟩<;>rfl
   refine Be.EM (X':=X1) (G':=G1 t') (Ex.Ys (c:=c1) (t:=t) (d:=d) E1.ro a5 fl (λX w h v rr X' w' h'=>?_) (Upd.lf (Upd.rt (Upd.rt (Upd.self λb=>?_)))) (Ev.G6 (λX h z=>z.1.2.1.1) Ev.n Ev.n (by simp)) Ev.n) ?_
   .rcases Jo with rfl|⟨y,rfl,_⟩
    .cases rr;exact .none
    .cases rr;exact .str _ _
   .unfold Bm;simp
   .let c2:Cx:=c1.on X1 (G1 t');have E2:Bj c2 w (BY (Ba 26)) (k+3):=E1.on;have PG:=(CB r hr).1;refine Be.cons (Ex.setTR (c:=c2) (N:=λh=>∃sx sdx sl X',sl≠sx/\sl≠sdx/\(∀b,c2.X b->X' b)/\(∀b,(Bc sx sdx sl (Bg [(r,r)])).fp b->Gh c2 b X')/\Fr (c2.on X' ((G1 t').star (Bc sx sdx sl (Bg [(r,r)])))) (D1 sx la td [r] A0) h)
     (FO.cn (FO.Oi (rows:=Bg [(r,r)]) (λx hx=>?_) Ev.g (FO.iB (FQ.cons (Ev.tp (FQ.cons Ev.n (.cons Ev.n .nil))) .nil) (AE rfl)) hk) (λd T X' V V=>FO.pure (d:=.list (Cw [r])) (Ev.ls (FQ.cons Ev.n .nil)))) (λd T X' zz hX nw=>?_) (hw:=by unfold swappedStores Env.blockKind Env.kindOf;rw[E2.hs];rfl)) ?_
    .cases AG.mp hx;exact⟨DJ PG true,DJ PG false⟩
    .refine Yb zz ?_;clear zz;intro d1 d2 T1 T2 e1 e2 Jk W3;refine V9 Jk ?_;intro sx sdx sl e3 e4 n1 n2;refine CC W3 ?_;intro e5 e6;subst e1 e2 e3 e4 e5 e6;have E3:Bj (c2.on X' (c2.G.star ((Bc sx sdx sl (Bg [(r,r)])).star Res.emp))) w (BY (Ba 26)) (k+3):=E2.on;exact⟨_,Bind.tup (.cons (Bind.n) (.cons Bind.n .nil)),λh F=>⟨sx,sdx,sl,X',n1,n2,hX,λb z=>nw b (.inl z),F.less (λw X h z=>cU (Q0 z)) (λb z=>z.elim .inl λz=>.inr (.inl z))⟩⟩
    .intro h3 jU;refine kK jU ?_;intro sx sdx sl X3 n1 n2 ZQ oK F3;have e0:(G1 t').star (Bc sx sdx sl (Bg [(r,r)]))=KC H0 td la sx sdx sl [t'] [(r,r)]:=by
      show _=((H0.star ((Bw td [(sg t.tag,D.obj (.ref t.f))]).star (Bm [t']))).star (Bl la [])).star (Bc sx sdx sl (Bg [(r,r)]));rw[a1]
     rw[e0]at F3;let c3:Cx:=c2.on X3 (KC H0 td la sx sdx sl [t'] [(r,r)]);have E3:Bj c3 w (BY (Ba 26)) (k+3):=E2.on;refine⟨c3,_,⟨rfl,rfl,rfl⟩,F3,?_⟩;refine Be.cons (Ex.fQ (c:=c3) E3.ro (λi G J=>∃st L,runN late net near (near.length-i) st=some stF/\UR near r d i st L/\G=KC H0 td la sx sdx sl L st.seen/\J=D1 sx la td st.lvl A0) ⟨⟨[r],[(r,r)],[(r,[],none)]⟩,[t'],bE,?_,rfl,rfl⟩ (Bb.keys Ev.n) (λi dd f9 G J1 zz Xi Ti dN=>?_)) ?_
     .refine ⟨⟨by rw[<- a1];show[(t.tag,t.way,t.above)]=_;rw[a2,a3],by simp[CS],λx hx=>?_,λx hx a ha=>?_⟩,⟨t',.head _,a1,rfl⟩,λx hx=>?_,λa ha=>?_,AE rfl,λp hp=>?_,AE rfl⟩
      .cases AG.mp hx;show DB _ t.kids _;rw[a4];exact .nil
      .rw [AG.mp hx]at ha;cases ha
      .cases AG.mp hx;show t.way.length<=_;rw[a2];exact Al _
      .rw [AG.mp ha];exact⟨hr,nQ⟩
      .rw [AG.mp hp];exact⟨PG,PG⟩
     .refine dw zz ?_;clear zz;intro st L run I eG eJ;subst eG eJ;have hi:i<near.length:=by
       have:=(AP.mp f9).1;unfold DS at this;simpa using this
      obtain⟨m,em⟩:∃m,near.length-i=m+1:=⟨_,XK hi⟩
      rw[em]at run;obtain⟨Lw,t1,run'⟩:∃Lw,IY late net near st=some Lw/\runN late net near m Lw=some stF:=by
       have z:(IY late net near st).bind (runN late net near m)=some stF:=run;refine Bi (Option.bind_eq_some_iff.mp z) ?_;intro a b c;exact⟨a,b,c⟩
      have E4:Bj (c3.on Xi ((KC H0 td la sx sdx sl L st.seen).star Ti)) w (BY (Ba 26)) (k+3):=E3.on;refine⟨(S "_",dd)::D1 sx la td st.lvl A0,Bind.n,Be.weak (λp hp=>.tail _ hp) ((Wn (c:=c3.on Xi ((KC H0 td la sx sdx sl L st.seen).star Ti)) (T1:=Ti) E4 hk rfl I (by lia) n1 n2 Rn ln No t1).imp (λh zz=>Du zz λL' X' I' Sz F'=>⟨KC H0 td la sx sdx sl L' Lw.seen,_,X',⟨Lw,L',?_,I',rfl,rfl⟩,λb z=>Sz b (dN b z),F'⟩) λv h z=>z)⟩;rw[lI em];exact run'
     .intro h4 rf;refine Mo rf ?_;clear rf;rintro G4 J4 X4 ⟨st,L,run,I,eG,eJ⟩ mm F4;subst eG eJ;have el:(List.map (λp:Str×D=>D.str p.1) (DS near)).length=near.length:=by unfold DS;simp
      rw[el,Nat.sub_self]at run;obtain rfl:st=stF:=BV run;let c4:Cx:=c3.on X4 (KC H0 td la sx sdx sl L st.seen);have E4:Bj c4 w (BY (Ba 26)) (k+3):=E3.on;refine⟨c4,_,⟨rfl,rfl,rfl⟩,F4,?_⟩;refine EJ I.root ?_;intro t4 qU cY wV;let ds:List D:=Cw (CQ (Ie st.th) n t4.tag)++tailD d;have dn:(L.map (·.tag)).Nodup:=by rw[I.tree.tags];exact I.tree.nd
      have ee:=KD dn qU;rw[cY]at ee;refine Be.EM (X':=X4) (G':=((H0.star (Gg td L)).star (Bl la ds)).star (Bc sx sdx sl (Bg st.seen))) (Ex.serialize (c:=c4) (n:=n) (L:=L) (kd:=Ie st.th) (t:=t4) (d:=d) (la:=la) E4.ro I.tree.kids (λm hm t ht=>L8 m hm _ ?_) qU ?_ wV Jo (λw X h z=>z.1.1.2.1.2.1) (λb z=>⟨.inl (.inl (.inr (.inr z))),λe=>F4.g.1.2.2 b (.inr (.inr z)) e⟩) (Upd.lf (Upd.rt (Upd.self λb=>Iff.rfl))) ?_ Ev.g Ev.n (Ev.G6 (λX h z=>z.1.1.2.1.1) Ev.n Ev.n ee) (E4.quiet rfl)) ?_
      .rw [<- I.tree.tags];exact Ab ht
      .rw [cY];exact VY
      .have e:c4.k=k+3:=E4.hk;rw[e];lia
      .let c5:Cx:=c4.on X4 (((H0.star (Gg td L)).star (Bl la ds)).star (Bc sx sdx sl (Bg st.seen)));have E5:Bj c5 w (BY (Ba 26)) (k+3):=E4.on;refine Be.ret (c:=c5) (λs' F' Q E' nn rr=>wpAny_Return_some ((Ev.tp (c:=c5) (FQ.cons Ev.n (.cons Ev.n .nil)):Ev c5 _ _ (.tup [.obj (.ref td),.obj (.ref la)])) s' F' _ _ λv h5 t5 l5 r5=>rr v h5 t5 ?_));have F5:=F'.le l5;have ij:Bu c.M c.h0 h5:=F5.old;rw[FA.hM,FA.hh]at ij;have xx:∀b,X b->c5.X b:=λb z=>mm b (ZQ b (OD b (FA.hX b z)));have b7:∀b,c.h0.get? b=none->¬X b:=λb e z=>by
        obtain⟨_,o,eo⟩:=xk b z;have:=l0.keep b o (λe=>xk.nt (e▸z)) id eo;rw[FA.hh,this]at e;cases e
       have rX:B9 X w h5 v (.tup [.obj (.ref td),.obj (.ref la)]):=by
        have e:c5.w=w:=hw;rw[e]at r5;exact r5.move (Ce xx)
       have g5:(((H0.star (Gg td L)).star (Bl la ds)).star (Bc sx sdx sl (Bg st.seen))).P w c5.X h5:=by
        have z:(((H0.star (Gg td L)).star (Bl la ds)).star (Bc sx sdx sl (Bg st.seen))).P c.w c5.X h5:=F5.g;rw[hw]at z;exact z
       refine UI g5.1.1.2.1.1 ?_;intro kvs pd rd Pm oF;refine EJ g5.1.2.1 ?_;intro rY oZ vn oI;have pA:¬X td:=b7 td (iW td (.inl (.inl rfl))).old;have uw:¬X la:=b7 la (iW la (.inr rfl)).old;refine⟨ij,L.map λt=>(t.tag,Value.ref t.f,t.way,t.above),?_,?_,λp hp=>?_⟩
       .rw [AB];exact I.tree.same
       .refine Qg (B9.M3 rX) ?_;rintro V V rfl nx nt p rl;refine Du (Bf.Bp rl) ?_;rintro V V rfl ra rl;refine Du (Bf.Bp rl) ?_;rintro V V rfl rb rl;cases rl;cases ra;cases rb;refine .tup nx nt p (.cons (.dict pA Pm oF pd ?_) (.cons (.list uw oI oZ ?_) .nil))
        .have e:Ll (L.map λt=>(t.tag,Value.ref t.f,t.way,t.above))=KB L:=by unfold Ll;rw[AB];rfl
         rw[e];exact rd.move (Ce xx)
        .have z:=vn.move (Ce xx);rw[show ds=Cw (CQ (Ie st.th) n r)++tailD d by show Cw (CQ (Ie st.th) n t4.tag)++_=_;rw[cY]]at z;exact z
       .rw [AB]at hp;refine Bi (AF.mp hp) ?_;rintro t ht rfl;refine Mp (FL (g5.1.1.2.1.2.1.1 t ht)) ?_;intro m fa fi ck ct tk av z;have ra:B9 X w h5 av (.dict (Ic t.way t.above)):=z.av.move (Ce xx);have e0:c.h0.get? t.dd=none:=by
         have:=(F5.gx t.dd (.inl (.inl (.inr (.inr ⟨t,ht,.inl rfl⟩))))).1.2;rcases this with y|y|y
         .exact (FA.ro y).elim
         .have y':c.M t.dd:=y;rw[FA.hM]at y';exact y'.elim
         .exact y
        have s9:=z.ms.at_;refine V8 (B9.Iv ra) ?_;rintro V V rfl q1 q2 q3 q4 q5;exact⟨t.f,t.dd,m,_,rfl,⟨λy=>z.nf.1 (xx _ y),z.nf.2⟩,⟨b7 _ e0,z.nd⟩,z.fn,s9,.dict q1 q2 q3 q4 q5⟩
section
variable {c cc:Cx}{J J' KU J0:B4}{N:Eo}{R:Ct}{h h':Heap}{Z:Addr->Heap->Prop}
theorem Dh.Ik{e1 e2:Expr}{apos GF:Pos}{rest:Dy}{ls:List (List Stmt)}{x dx l:Addr}{rows:Ci}{n v:Str}{fr:List Env}(hn:Dk n=true)(nH:1<=n.length)(nI:n.length<=1000000)(hv:CF false v)(hk:2<=c.k)(Sk:Dc c fr)(hG:∀X h,c.G.P c.w X h->(Bc x dx l rows).P c.w X h)(a:Ev c J o (.obj (.ref x)))(y1:Ev c J e1 (.str n))(y2:Ev c J e2 (.str v))(hint:interactive c.env=false)(he:autoParam (D9 c e1 [e2]) Bd)(Jp:autoParam (D9 c e2 []) Bd)(hb:autoParam (attributeBase o "add_header" c.env (eval o c.env)=eval o c.env) Bd)(Dw:autoParam (((backTo pos (starEach [e1,e2] c.env)).all (λx=>!x.1)&&(backToKw pos (keywordEach [] c.env)).all (λx=>x.1.isSome)
   && decide ([e1,e2].length+([]:List Keyword).length+(if(backToKw pos (keywordEach [] c.env)).isEmpty then 0 else 1)<30))=true) Bd)(Nb:autoParam (J8 apos pos) Bd)(hs:autoParam (swapsWith (.Call (.Attribute o "add_header" apos) [e1,e2] [] pos) none GF.line c.env=pure false) Bd) :
  Dh c J ((.Expr (.Call (.Attribute o "add_header" apos) [e1,e2] [] pos) GF::rest)::ls) λea h'=>∃h1,Fr c J h1/\EO (c.env::fr) h1 h' ea FD:=λs F Q E n=>
 Ao (wpAny_Expr_any (by
  refine Ez (f:=186) a F (DI.res (dx:=dx) (l:=l) (rows:=rows) hG) (by decide) VU ⟨_,_,_,_,_,JZ⟩ hb Dw Nb λs1 F1 l1 e0=>?_;rw[he];refine PySem.Calls.evalArgs_plain ?_;have z:=λQ q=>(FQ.cons y1 (.cons y2 .nil Jp) he:FQ c J [e1,e2] _) pos s1 F1 Q E q;rw[he]at z;refine z _ λvs h2 t2 l2 r2=>?_;have F2:Fr c J h2:=F1.le l2;refine⟨F2.base,?_⟩;have H:=hG _ _ F2.g;exact oo c.w 0 (s:={s1 with heap:=h2,toks:=t2}) (X:=λb=>c.X b/\¬(Bc x dx l rows).fp b) hn nH nI hv (F2.ok.CD hk) F2.base (λb z=>F2.Ck b z.1) ((Bf.cons (.obj _) r2:Bf c.X c.w h2 _ _).move (Ce λb z=>z.1))
   ⟨Res.CD H λb z=>z.1,λz=>z.2 (.inl rfl),λz=>z.2 (.inr (.inl rfl)),λz=>z.2 (.inr (.inr rfl))⟩ Sk.fr (F2.Lv Sk) λea h3 t3 T=>by
    rw[e0];exact n ea h3 t3 ⟨h2,F2,T⟩) hint hs)
noncomputable def GZ(P:P2)(x:Nat):Str:=Txt.join (S "") (Cz P x)
noncomputable def MD(P:P2)(x:Nat):Bool:=!Dk (GZ P x)
noncomputable def J6(P:P2)(rows:Ci)(x:Nat):List (Str×Str):=if MD P x then rows++[(GZ P x,sg x)]else rows
theorem Iz:CA 295 (Ba 30) (S "_law_book") 294 .none CY:=⟨λP=>rfl,λP=>⟨_,_,_,rfl,rfl,rfl⟩,rfl,rfl,rfl⟩
noncomputable def pP:List Stmt:=KG ((Bt (Ba 30))[1]?.getD (.Pass ⟨0,0,0,0⟩))
noncomputable def KZ(ls:BZ)(G:W2)(P:P2):List (Str×D):=[(S "line",.list (Cw ls)),(S "signs",.dict (dW G)),(S "pieces",.dict (dP P))]
noncomputable def GJ(la bx:Addr)(ls:BZ)(G:W2)(P:P2):List (Str×D):=(S "laid",.obj (.ref la))::(S "book",.obj (.ref bx))::KZ ls G P
noncomputable def Ka(G0:Res)(bx Hd bl la:Addr)(rows:Ci):Res:=(G0.star (Bc bx Hd bl rows)).star (Bl la (Br rows))
structure UM(P:P2)(x:Nat):Prop where
 len:1<=(GZ P x).length/\(GZ P x).length<=1000
 sz:((Cz P x).map (·.length)).sum<=1000
 ctl:(((Str.chars (GZ P x)).filter λs=>Txt.contains (S "\t\n\r") s).isEmpty)=MD P x
theorem UU{G0 T1:Res}{bx Hd bl la:Addr}{rows:Ci}{ls:BZ}{G:W2}{P:P2}{x:Nat}{fr:List Env}(E:Bj c w (BY (Ba 30)) k)(hk:2<=c.k)(hG:c.G=(Ka G0 bx Hd bl la rows).star T1)(Sk:Dc c fr)(ow:∀x,c.own x)(sub:∀b∈Bk fr,c.X b)(hx:x∈lows)(hP:x∈P.map (·.1))(hl:rows.length<=900)(s1:bl≠bx)(s2:bl≠Hd)(O:UM P x) :
  Be c ((S "x",.str (sg x))::GJ la bx ls G P) [pP] (λh=>∃D7,Q8 fr c.h0 D7/\Dc (c.re D7) fr/\Fr ((c.re D7).on c.X ((Ka G0 bx Hd bl la (J6 P rows x)).star T1)) (GJ la bx ls G P) h) R:=by
 have hint:interactive c.env=false:=E.quiet rfl;let R1:List (Str×D):=(S "x",.str (sg x))::GJ la bx ls G P;have jT:=(CB x hx).1;refine Be.step (J':=(S "name",.str (GZ P x))::(S "told",.str (S ""))::R1) (Ex.SN (n1:=S "name") (n2:=S "told") (d1:=.str (GZ P x)) (d2:=.str (S "")) (Ev.tp (.cons (Ev.join Ev.cStr (Ev.CR (d:=.list ((Cz P x).map .str)) Ev.n Ev.n (EP hP)) ?_) (.cons Ev.cStr .nil))) ⟨by decide,by decide⟩ ⟨by decide,by decide⟩ (E.nm (.inl rfl)).slot (E.nm (.inl rfl)).slot (DG.of (by rfl)) (DG.of (by rfl)) (by unfold swappedStores Env.blockKind Env.kindOf;rw[E.hs];rfl)) ?_
 .show (List.map _ _).sum+(Cz P x).length*0<=_;have:=O.sz;omega
 .let R2:List (Str×D):=(S "name",.str (GZ P x))::(S "told",.str (S ""))::R1;have tail:∀ {c:Cx} (told:Str),Bj c w (BY (Ba 30)) k->told=(if MD P x then S "" else FD)->∀ {N:Eo},(∀h,Fr c (GJ la bx ls G P) h->N h)->Be c ((S "told",.str told)::(S "name",.str (GZ P x))::R1) [pP.drop 2] N R:=λ{c} told E et N hN=>by
   have Cl:(Str.chars (GZ P x)).length=(GZ P x).length:=by unfold Str.chars;rw[AA];rfl
   have nl:=O.len.2;have ib:PyData.strOk (if MD P x then S "" else FD)=true:=by split<;>decide +kernel
   refine Be.if (b:=false) (CL.cmp (Bh.eq (Bh.W9 (n:=0) (m:=0) (b:=.str (if MD P x then S "" else FD)) Ev.n (Ev.K7 (a:=!MD P x) (CL.eq (CL.val (CE.ev (CE.C1 (Str.chars (GZ P x)) .str (λs=>Txt.contains (S "\t\n\r") s) .str (J0:=[]) E.co (Bb.str Ev.n) (λs=>[(S "sign",.str s)]) (λV V h=>by cases h) (λV V V sc=>Bind.n) (λV V cc sc=>CM.one (CL.cmp (Bh.nj Ev.n Ev.cStr))) (λV V V cc sc=>Ev.n) ?_)) ?_) ?_) (λh=>?_) (λh=>?_)) ?_ ?_) ?_)) (λh=>by cases h) λV=>Be.nil ?_
   .exact Je Cl nl rfl
   .show (List.map _ _).length<=1000000;rw[AA];exact AD (AV _ _) (Je Cl nl rfl)
   .show (!(List.map _ _).isEmpty)=_;rw[List.isEmpty_map,O.ctl]
   .have h1:MD P x=false:=by simpa using h
    rw[h1];exact Ev.cStr
   .have h1:MD P x=true:=by simpa using h
    rw[h1];exact Ev.cStr
   .rw [et];exact .str ib
   .exact .str ib
   .rw [et,DK];simp
   .exact Be.nil (Be.done λh F=>hN h (F.sub λp hp=>.tail _ (.tail _ (.tail _ hp))))
  cases ho:MD P x with
  |true=>
   have hc:Dk (GZ P x)=false:=by unfold MD at ho;simpa using ho
   have er:J6 P rows x=rows++[(GZ P x,sg x)]:=by unfold J6;rw[ho];rfl
   have e1:Br rows++[.tup [.str (GZ P x),.str (sg x)]]=Br (rows++[(GZ P x,sg x)]):=by unfold Br;rw[Af];rfl
   rw[er];let G1:Res:=((G0.star (Bc bx Hd bl (rows++[(GZ P x,sg x)]))).star (Bl la (Br rows))).star T1;let G2:Res:=(Ka G0 bx Hd bl la (rows++[(GZ P x,sg x)])).star T1;have E1:Bj (c.on c.X G1) w (BY (Ba 30)) k:=E.on;have E2:Bj (c.on c.X G2) w (BY (Ba 30)) k:=E.on;refine Be.cons (N':=Fr (c.on c.X G2) R2) (Ex.jQ (Be.EM (X':=c.X) (G':=G1) (Ex.Ik (rows:=rows) (n:=GZ P x) (v:=sg x) E.ro (AD hl (by decide)) s1 s2 (.name hc O.len.1 (AD O.len.2 (by decide))) (DJ jT false) (AE rfl) hk (by rw[hG];exact Upd.lf (Upd.lf (Upd.rt (Upd.self λb=>Iff.rfl)))) Ev.n Ev.n Ev.n hint) (Be.cons (Ex.append (c:=c.on c.X G1) (l:=la) (ds:=Br rows) (d:=.tup [.str (GZ P x),.str (sg x)]) E1.ro (by unfold Br;rw[AA];exact lb hl rfl) (Upd.lf (Upd.rt (Upd.self λb=>Iff.rfl))) Ev.n (Ev.tp (.cons Ev.n (.cons Ev.n .nil))) hint) λh F=>?_))) λh F=>⟨c.on c.X G2,_,⟨rfl,rfl,rfl⟩,F.sub (J':=(S "told",.str (S ""))::(S "name",.str (GZ P x))::R1) λp hp=>?_,tail (S "") E2 (by rw[ho];rfl) λh F=>⟨c.h0,.refl _ _,Sk,F⟩⟩
   .rw [e1]at F;exact⟨c.on c.X G2,R2,⟨rfl,rfl,rfl⟩,F,Be.nil (Be.done λh F=>F)⟩
   .rcases hp with _|⟨_,_|⟨_,hp⟩⟩
    .exact .tail _ (.head _)
    .exact .head _
    .exact .tail _ (.tail _ hp)
  |false=>
   have hc:Dk (GZ P x)=true:=by unfold MD at ho;simpa using ho
   have er:J6 P rows x=rows:=by unfold J6;rw[ho];rfl
   rw[er];refine Be.cons (Ex.T7 (n:=S "error") (tx:=S "told") (l:=fr) Sk ow E.ro sub (Dh.Ik (x:=bx) (dx:=Hd) (l:=bl) (rows:=rows) hc O.len.1 (AD O.len.2 (by decide)) (DJ jT false) hk Sk (λX h z=>by rw[hG]at z;exact z.1.1.2.1) Ev.n Ev.n Ev.n hint) (E.kind rfl) (E.kind rfl) (E.kind rfl) (E.nm (.inl rfl)) ⟨by decide,by decide⟩ (by decide) (by rfl) (by rfl)) λh zz=>?_;refine EJ zz ?_;clear zz;intro D7 rb S' F;refine⟨c.re D7,_,⟨rfl,rfl,rfl⟩,F,tail (c:=c.re D7) FD ⟨E.hw,E.hs,E.hk,E.ro,E.slot⟩ (by rw[ho];rfl) λh F=>⟨D7,rb,S',?_⟩⟩;have F':Fr ((c.re D7).on c.X c.G) (GJ la bx ls G P) h:=F;rw[hG]at F';exact F'
end
section
variable {c cc:Cx}{J J' KU J0:B4}{N:Eo}{R:Ct}{h h':Heap}{Z:Addr->Heap->Prop}
noncomputable def HG(G:W2)(x:Nat):List Bool:=(Bo G x).map GQ
noncomputable def Cv(P:P2)(ls:BZ):List (Str×Str):=(ls.filter (MD P)).map λx=>(GZ P x,sg x)
noncomputable def jg(P:P2)(x:Nat):D:=.tup [.str (GZ P x),.str (sg x)]
noncomputable def FC(P:P2)(G:W2)(ls:BZ)(x:Nat):List Nat:=(ls.filter (MD P)).filter λy=>HG G y==HG G x
structure KQ(P:P2)(G:W2)(ls:BZ):Prop where
 low:∀x∈ls,x∈lows
 nd:ls.Nodup
 I0:ls.length<=10
 keyP:∀x∈ls,x∈P.map (·.1)
 keyG:∀x∈ls,x∈G.map (·.1)
 signs:∀x∈ls,(Bo G x).length<=100
 name:∀x∈ls,UM P x
 conv:∀x∈ls,MD P x=true->CF true (Txt.lower (Txt.swapcase (GZ P x)))/\PyData.strOk (Txt.lower (Txt.swapcase (GZ P x)))=true/\PyData.strOk (Txt.lower (GZ P x))=true/\PyData.strOk (GZ P x)=true/\(Txt.swapcase (GZ P x)).length<=1000000
 same:∀x∈ls,MD P x=true->HO (Cv P ls) (Txt.swapcase (GZ P x))=(FC P G ls x).map sg
theorem La(P:P2):∀(l:BZ) (r:Ci),l.foldl (J6 P) r=r++Cv P l:=by
 intro l;induction l with
 |nil=>exact λr=>by simp[Cv]
 |cons x l ih=>
  intro r;rw[As,ih];unfold J6 Cv;rw[A8];cases MD P x<;>simp
theorem Mt(P:P2)(l:BZ):(Cv P l).length<=l.length:=by unfold Cv;rw[AA];exact AV _ _
theorem KO(P:P2)(l:BZ):Br (Cv P l)=(l.filter (MD P)).map (jg P):=by unfold Br Cv;rw[AB];rfl
theorem Xl(p q:Str×Str):(D.tup [.str p.1,.str p.2]).eqv (.tup [.str q.1,.str q.2])=decide (p=q):=by
 rw[Kk,DK,DK];obtain⟨a,b⟩:=p;obtain⟨x,y⟩:=q;by_cases h1:a=x<;>by_cases h2:b=y<;>simp[h1,h2]
theorem Sr(l m:List Bool):(D.list (l.map .bool)).eqv (.list (m.map .bool))=decide (l=m):=EE (λa b=>by rw[Kj];cases a<;>cases b<;>rfl) l m
theorem NN(l m:BZ):(D.list (Cw l)).eqv (.list (Cw m))=decide (l=m):=EE Hh l m
noncomputable def Ge(G:W2)(ls:BZ):List (Str×D):=ls.map λx=>(sg x,.list ((HG G x).map .bool))
theorem WT{f:Nat->D}{ls:BZ}{x:Nat}(h:x∈ls):(ls.map λx=>(sg x,f x)).lookup (sg x)=some (f x):=by
 induction ls with
 |nil=>cases h
 |cons y ls ih=>
  rw[AI,AK];by_cases e:x=y
  .rw [e];simp
  .have:(sg x==sg y)=false:=by rw[Av];exact λz=>e (Ek z)
   rw[this];exact ih ((AJ.mp h).resolve_left e)
theorem Lg{G:W2}{ls:BZ}{x:Nat}(h:x∈ls):(Ge G ls).lookup (sg x)=some (.list ((HG G x).map .bool)):=WT h
theorem IU{f:Nat->D}{ls:BZ}(nd:ls.Nodup):DC [] (ls.map λx=>(sg x,f x))=ls.map λx=>(sg x,f x):=by
 rw[MS _ _ ?_,BT];rw[AB,List.map_nil,BT];exact nd.map _ λa b n e=>n (Ek e)
theorem fL(l:List Bool):Gm 1 (.list (l.map .bool)):=.list λd hd=>by
 refine Bi (AF.mp hd) ?_;rintro b V rfl;exact .bool
theorem RT{a b:Str}(ha:PyData.strOk a=true)(hb:PyData.strOk b=true):Gm 1 (.tup [.str a,.str b]):=.tup λd hd=>by
 rcases AJ.mp hd with rfl|hd
 .exact .str ha
 .rw [AG.mp hd];exact .str hb
theorem L4[BEq α][LawfulBEq α][DecidableEq α](a b:α):decide (a=b)=(a==b):=by by_cases h:a=b<;>simp[h]
theorem XO{bx Hd bl:Addr}{ls:BZ}{G:W2}{P:P2}(E:Bj c w (BY (Ba 30)) k)(hk:2<=c.k)(hG:c.G=Res.emp.star (CJ bx Hd bl (Cv P ls)))(O:KQ P G ls) :
  Be c ((S "laid",.list (Br (Cv P ls)))::(S "book",.obj (.ref bx))::KZ ls G P) [(Bt (Ba 30)).drop 2] (λV=>False) (λv h=>v=.bool true/\∃J,Fr c J h):=by
 have hint:interactive c.env=false:=E.quiet rfl;have I0:=O.I0;let R0:List (Str×D):=(S "laid",.list (Br (Cv P ls)))::(S "book",.obj (.ref bx))::KZ ls G P;let ok:=ls.filter (MD P);have dz:∀x∈ok,x∈ls/\MD P x=true:=λx hx=>Az.mp hx;have oW:ok.length<=10:=AD (AV _ _) I0;refine Be.step (J':=(S "stars",.dict (Ge G ls))::R0) (Ex.sc E (d:=.dict (Ge G ls)) (CE.ev (CE.eq (CE.Ke ls (λx=>.str (sg x)) (λV=>true) (λx=>sg x) (λx=>.list ((HG G x).map .bool)) (J0:=[(S "signs",.dict (dW G))]) E.co (Bb.list Ev.n) (λx=>[(S "x",.str (sg x)),(S "signs",.dict (dW G))]) (λV V h=>.tail _ h) (λV V V sc=>Bind.n) (λV V V V=>CM.nil)
  (λx hx V cc sc=>⟨Ev.n,CE.ev (CE.eq (CE.C1 (Bo G x) (λa=>.str (sg a)) (λV=>true) (λa=>.bool (GQ a)) (J0:=[]) sc.co (Bb.eq (Bb.str (Ev.CR (d:=.str (tx (Bo G x))) Ev.n Ev.n ?_)) ?_) (λa=>[(S "sign",.str (sg a))]) (λV V h=>by cases h) (λV V V sc=>Bind.n) (λV V V V=>CM.nil) (λa V V cc sc=>Ev.isalpha Ev.n) ?_) ?_)⟩) ?_) ?_))) ?_
 .exact CN (O.keyG x hx)
 .rw [Kc,AB];rfl
 .have:=O.signs x hx;exact lb this rfl
 .rw [By];unfold HG;rw[AB];rfl
 .exact lb I0 rfl
 .rw [By,IU O.nd];rfl
 .refine Be.step (J':=(S "alike",.list (ok.map λx=>.list (Cw (FC P G ls x))))::(S "stars",.dict (Ge G ls))::R0) (Ex.cL E (d:=.list (ok.map λx=>.list (Cw (FC P G ls x)))) (CE.eq (CE.C1 ok (jg P) (λV=>true) (λx=>.list (Cw (FC P G ls x))) (J0:=[(S "stars",.dict (Ge G ls)),(S "laid",.list (Br (Cv P ls)))]) E.co (Bb.eq (Bb.list Ev.n) (KO P ls)) (λx=>[(S "x",.str (sg x)),(S "name",.str (GZ P x)),(S "stars",.dict (Ge G ls)),(S "laid",.list (Br (Cv P ls)))]) (λV V h=>.tail _ (.tail _ h)) (λV V V sc=>Bind.tup (.cons Bind.n (.cons Bind.n .nil))) (λV V V V=>CM.nil)
   (λx hx V cc sc=>CE.ev (CE.eq (CE.C1 ok (jg P) (λy=>HG G y==HG G x) (λy=>.str (sg y)) (J0:=[(S "x",.str (sg x)),(S "stars",.dict (Ge G ls))]) sc.co (Bb.eq (Bb.list Ev.n) (KO P ls)) (λy=>[(S "y",.str (sg y)),(S "other",.str (GZ P y)),(S "x",.str (sg x)),(S "stars",.dict (Ge G ls))]) (λV V h=>.tail _ (.tail _ h)) (λV V V sc=>Bind.tup (.cons Bind.n (.cons Bind.n .nil)))
    (λy hy cc sc=>CM.one (CL.cmp (Bh.eq (Bh.UC (n:=1) (m:=1) (Ev.CR Ev.n Ev.n (Lg (dz y hy).1)) (Ev.CR Ev.n Ev.n (Lg (dz x hx).1)) ?_ ?_) ?_))) (λy V V cc sc=>Ev.n) ?_) ?_)) ?_) ?_)) ?_
  .exact fL _
  .exact fL _
  .rw [Sr];exact L4 (α:=List Bool) _ _
  .exact lb oW rfl
  .rfl
  .exact lb oW rfl
  .rw [By]
  .let R1:List (Str×D):=(S "alike",.list (ok.map λx=>.list (Cw (FC P G ls x))))::(S "stars",.dict (Ge G ls))::R0;have hB:∀X h,c.G.P c.w X h->(CJ bx Hd bl (Cv P ls)).P c.w X h:=λX h z=>by rw[hG]at z;exact z.2.1
   have rl:(Cv P ls).length<=10:=AD (Mt P ls) I0;have fM:Gm 2 (.list (Br (Cv P ls))):=.list λd hd=>by
    rw[KO]at hd;refine Bi (AF.mp hd) ?_;rintro x hx rfl;refine CC (dz x hx) ?_;intro h1 h2;exact RT (O.conv x h1 h2).2.2.2.1 (DT (GS _ (CB _ (O.low x h1)).1))
   have fK:Gm 2 (.list (ok.map λx=>.list (Cw (FC P G ls x)))):=.list λd hd=>by
    refine Bi (AF.mp hd) ?_;rintro x hx rfl;refine KE λa ha=>?_;exact GS _ (CB _ (O.low a (dz a (Az.mp ha).1).1)).1
   refine Be.ret (λs F Q E' n r=>wpAny_Return_some ((Ev.eq (Ev.ZC (a:=true) (b:=true) (Ev.cmp (Bh.eq (Bh.UC (n:=2) (m:=2) (Ev.UW (f:=153) (k:=1) (G:=CJ bx Hd bl (Cv P ls)) (d:=.list (Br (Cv P ls))) Ev.n (CU.ro (aY c.w 0 bx Hd bl (Cv P ls) (lb rl rfl))) (AD (by decide) hk) hB (DI.ro hB) VV ⟨_,_,_,_,_,RP⟩) Ev.n ?_ ?_) ?_))
    (λV=>Ev.cmp (Bh.eq (Bh.UC (n:=2) (m:=2) (a:=.list (ok.map λx=>.list (Cw (FC P G ls x)))) (CE.ev (CE.eq (CE.C1 ok (jg P) (λV=>true) (λx=>.list (Cw (FC P G ls x))) (J0:=[(S "book",.obj (.ref bx))]) E.co (Bb.eq (Bb.list Ev.n) (KO P ls)) (λx=>[(S "x",.str (sg x)),(S "name",.str (GZ P x)),(S "book",.obj (.ref bx))]) (λV V h=>.tail _ (.tail _ h)) (λV V V sc=>Bind.tup (.cons Bind.n (.cons Bind.n .nil))) (λV V V V=>CM.nil)
     (λx hx V cc sc=>?_) ?_) ?_)) Ev.n ?_ ?_) ?_))) (rfl:_=D.bool true):Ev c R1 _ (.bool true)) s F _ _ λv h1 t1 l1 r1=>r v h1 t1 ⟨?_,_,F.le l1⟩))
   .exact fM
   .exact fM
   .have e:=EE (f:=λp:Str×Str=>D.tup [.str p.1,.str p.2]) Xl (Cv P ls) (Cv P ls);rw[decide_eq_true rfl]at e;exact e
   .have aj:∀X h,cc.G.P cc.w X h->(CJ bx Hd bl (Cv P ls)).P cc.w X h:=λX h z=>by rw[sc.w];exact hB X h (sc.g X h z)
    refine CC (dz x hx) ?_;intro h1 h2;refine oL (O.conv x h1 h2) ?_;intro c1 c2 c3 c4 c5;have g:=CU.ro (NW cc.w 0 bx Hd bl (Cv P ls) (Txt.swapcase (GZ P x)) (lb rl rfl) (λr hr=>?_) c5 c1 c2)
    .rw [O.same x h1 h2,AB]at g;exact Ev.JV (f:=128) (k:=2) (G:=CJ bx Hd bl (Cv P ls)) (ds:=[.str (Txt.swapcase (GZ P x))]) Ev.n (.cons (Ev.swapcase Ev.n (AD (O.name x h1).len.2 (by decide))) .nil) g (by rw[sc.k];exact hk) aj (DI.ro aj) JA ⟨_,_,_,_,_,H7⟩
    .refine Bi (AF.mp hr) ?_;rintro y hy rfl;refine CC (dz y hy) ?_;intro h1 h2;exact⟨AD (O.name y h1).len.2 (by decide),(O.conv y h1 h2).2.2.1⟩
   .exact lb oW rfl
   .rw [By]
   .exact fK
   .exact fK
   .have e:=EE (f:=λl:List Nat=>D.list (Cw l)) NN (ok.map (FC P G ls)) (ok.map (FC P G ls));rw[decide_eq_true rfl,AB]at e;exact e
   .cases r1;rfl
end
section
variable {c cc:Cx}{J J' KU J0:B4}{N:Eo}{R:Ct}{h h':Heap}{Z:Addr->Heap->Prop}
theorem fU(w:World)(k:Nat){ls:BZ}{G:W2}{P:P2}(O:KQ P G ls){fr:List Env}(ok:E9 (k+4) A)(B:CW w s.heap)(xk:FU X s.heap)(rv:Bf X w s.heap vs [.list (Cw ls),.dict (dW G),.dict (dP P)])(ha:A.frames=some fr)(fs:Lu s.heap fr)(sub:∀b∈Bk fr,X b){E':CH}(q:∀h' tk,Step fr s.heap h'->Q (.bool true) {s with heap:=h',toks:=tk}):wpAny (model prog w) A (call (.ref 295) vs) Q E' s:=by
 refine wpAny_call ?_;refine Mo (Iz.code w.params) ?_;intro oc vc tc ec dc qc;refine A7 (o:=Eu (Ba 30) (S "_law_book") .none CY (.ref 294)) (fd:=EW (Ba 30) (S "_law_book") .none CY (.ref 294)) ok.room (B.k _ _ (Iz.here w.params)) rfl Iz.plain.1 Iz.plain.2 rfl ⟨294,oc,vc,tc,rfl,B.k _ _ ec,dc,qc⟩ ?_;have hb:bindArgs (EW (Ba 30) (S "_law_book") .none CY (.ref 294)) ⟨vs,[]⟩=pure ([S "line",S "signs",S "pieces"].zip vs):=by
  have e:=rv.length;refine bq (Ov e) ?_;rintro v1 v2 v3 rfl;rfl
 rw[hb];refine wpAny_pure (HN Iz ok B xk (G:=Res.emp) trivial (λV z=>z.elim) (ds:=[.list (Cw ls),.dict (dW G),.dict (dP P)]) rv rv.length.symm (.of (by decide +kernel)) λc h1 t1 FA hA zz V F=>CC zz λfl ow=>?_)
 .have E:=FA.env;have Sk:=PA FA hA fl ha fs λb z=>z;have hk:3<=c.k:=by rw[FA.hk];exact A1 3 k
  have hM:∀b,¬c.M b:=Sk.mOff;have hX:∀b∈Bk fr,c.X b:=λb m=>FA.hX b (sub b m);have body:Be c (KZ ls G P) [Bt (Ba 30)] (λV=>False) (λv h=>v=.bool true/\∃D7,Q8 fr c.h0 D7/\Le D7 h):=by
   refine Be.cons (Ex.setTR (N:=λh=>∃bx Hd bl la X',bl≠bx/\bl≠Hd/\(∀b,c.X b->X' b)/\(∀b,((Bc bx Hd bl []).star (Bl la [])).fp b->Gh c b X')/\Fr (c.on X' (Ka Res.emp bx Hd bl la [])) (GJ la bx ls G P) h)
    (FO.cn (FO.Gy Ev.g hk) (λd T X' V V=>FO.bZ)) (λd T X' zz hX nw=>?_) (hw:=by unfold swappedStores Env.blockKind Env.kindOf;rw[E.hs];rfl)) ?_
   .refine Yb zz ?_;clear zz;intro d1 d2 T1 T2 e1 e2 Cr Dv;refine V9 Cr ?_;intro bx Hd bl e3 e4 n1 n2;refine Bi Dv ?_;intro la e5 e6;subst e1 e2 e3 e4 e5 e6;have E1:Bj (c.on X' (c.G.star ((Bc bx Hd bl []).star (Bl la [])))) w (BY (Ba 30)) (k+3):=E.on;refine⟨_,Bind.tup (.cons Bind.n (.cons Bind.n .nil)),λh F=>⟨bx,Hd,bl,la,X',n1,n2,hX,nw,?_⟩⟩;rw[FA.hG]at F;exact F.less (λw X h z=>Q0 z) (λb z=>z.elim (λz=>z.elim .inl λz=>.inr (.inl z)) λz=>.inr (.inr z))
   .intro h2 HW;obtain⟨bx,Hd,bl,la,X2,n1,n2,Hk,nw,F2⟩:=HW;let c2:Cx:=c.on X2 (Ka Res.emp bx Hd bl la []);have E2:Bj c2 w (BY (Ba 30)) (k+3):=E.on;let d6:Nat->List (Str×Str):=λi=>(ls.take i).foldl (J6 P) [];refine⟨c2,_,⟨rfl,rfl,rfl⟩,F2,?_⟩;refine Be.cons (Ex.fP (c:=c2) E2.ro (λi h0 G' J=>Q8 fr c.h0 h0/\Dc (c.re h0) fr/\G'=Ka Res.emp bx Hd bl la (d6 i)/\J=GJ la bx ls G P) ⟨.refl _ _,Sk,rfl,rfl⟩ (λz b e=>z.1.none b e) (Bb.list Ev.n) (λi d hd h0 G' J1 zz Xi Ti dN=>?_)) ?_
    .refine Hv zz ?_;clear zz;intro rb jc eG eJ;subst eG eJ;unfold Cw at hd;rw[AL,AS]at hd;refine Bi hd ?_;clear hd;rintro x hx rfl;have xm:=AQ hx;let c3:Cx:=(c2.re h0).on Xi ((Ka Res.emp bx Hd bl la (d6 i)).star Ti);have E3:Bj c3 w (BY (Ba 30)) (k+3):=⟨E.hw,E.hs,E.hk,E.ro,E.slot⟩
     have es:d6 (i+1)=J6 P (d6 i) x:=by
      show(ls.take (i+1)).foldl (J6 P) []=_;rw[A3,hx,BH];rfl
     have rl:(d6 i).length<=900:=by
      show((ls.take i).foldl (J6 P) []).length<=_;rw[La,BT];have:=Mt P (ls.take i);have h2:(ls.take i).length<=ls.length:=by rw[Ae];(clear es;lia)
      have:=O.I0;lia
     refine⟨_,Bind.n,(UU (c:=c3) E3 (AD (by decide) hk) rfl ⟨jc.fr,jc.own,jc.Lv,jc.mOff⟩ ow (λb m=>dN b (Hk b (hX b m))) (O.low x xm) (O.keyP x xm) rl n1 n2 (O.name x xm)).imp (λh zz=>EJ zz λD7 vj jb F'=>⟨D7,_,_,Xi,⟨rb.trans vj,⟨jb.fr,jb.own,jb.Lv,jb.mOff⟩,rfl,rfl⟩,dN,?_⟩) λv h z=>z⟩;rw[es];exact F'
    .intro h3 Jk;refine iX Jk ?_;clear Jk;rintro h0 G3 J3 X3 ⟨rb,wY,eG,eJ⟩ ZQ F3;subst eG eJ;have er:d6 (List.length (Cw ls))=Cv P ls:=by
      show(ls.take _).foldl (J6 P) []=_;unfold Cw;rw[AA,BF,La,BT]
     rw[er]at F3;have new:∀b,((Bc bx Hd bl []).star (Bl la [])).fp b->(c2.re h0).h0.get? b=none:=λb z=>rb.none b (nw b z).old;have F4:Fr ((c2.re h0).on (λb=>X3 b/\¬b=la) (Res.emp.star (Bc bx Hd bl (Cv P ls)))) ((S "laid",.list (Br (Cv P ls)))::(S "book",.obj (.ref bx))::KZ ls G P) h3:=Fr.RY (c:=c2.re h0) (ds:=Br (Cv P ls)) F3 (new la (.inr rfl)) λp hp=>by
      cases hp with
      |head=>exact .inr ⟨rfl,.head _⟩
      |tail _ hp=>exact .inl (.tail _ hp)
     have F5:=Fr.NV (c:=c2.re h0) (G:=Res.emp) F4 λb z=>new b (.inl z);let c5:Cx:=(c2.re h0).on (λb=>(X3 b/\¬b=la)/\¬(Bc bx Hd bl (Cv P ls)).fp b) (Res.emp.star (CJ bx Hd bl (Cv P ls)));refine⟨c5,_,⟨rfl,rfl,rfl⟩,F5,(XO (c:=c5) (k:=k+3) ⟨E.hw,E.hs,E.hk,E.ro,E.slot⟩ (AD (by decide) hk) rfl O).imp (λV z=>z) λv h ⟨e,J,F6⟩=>⟨e,h0,rb,?_⟩⟩;exact Bu.any F6.old λb z=>hM b z
  have hw:c.w=w:=E.hw;have z:=body {s with heap:=h1,toks:=t1} F (λf s'=>Q (match f with|.ret v=>v|_=>.none) s') (λe s'=>wpAny (model prog c.w) c.A (leaving c.env e) (λV Gd=>E' e Gd) (λe' Gd=>E' e' Gd) s') (λV V z=>z.elim) λv h' tk ⟨e,D7,rb,l⟩=>(by
   subst e;rw[FA.hh]at rb;exact q h' tk (rb.step.trans (.le l fs.nt)))
  exact wpAny_mono z (λf s' k=>by cases f<;>exact k) λV V k=>k
end
theorem Yv:∀ {vs:DW}{ss:B3},Bf X w h vs (ss.map .str)->StrsAre vs ss:=by
 intro vs ss r;induction ss generalizing vs with
 |nil=>cases r;exact .nil
 |cons s ss ih=>
  refine Du (Bf.Bp r) ?_;rintro V V rfl a b;cases a;exact .cons _ _ (ih b)
theorem Yj:∀ {vs:DW}{ss:B3},StrsAre vs ss->Bf X w h vs (ss.map .str):=by
 intro vs ss s;induction s with
 |nil=>exact .nil
 |cons y t r ih=>exact .cons (.str y t) ih
theorem Yi:∀ {vs:DW}{ds:Cs},vs.length=ds.length->(∀(j:Nat) v,vs[j]? = some v->∃d,ds[j]? = some d/\B9 X w h v d)->Bf X w h vs ds:=by
 intro vs;induction vs with
 |nil=>intro ds e k;cases ds with
  |nil=>exact .nil
  |cons=>cases e
 |cons v vs ih=>intro ds e k;cases ds with
  |nil=>cases e
  |cons d ds=>exact .cons (Bi (k 0 v rfl) λd' e1 r=>by cases e1;exact r) (ih (Nat.succ.inj e) λj v hj=>k (j+1) v hj)
theorem Ev.sorted{np:Pos}{ss ts:B3}(f:Ev c J (.Name x np) (.obj (.builtin "sorted")))(y:Ev c J e (.list (ss.map .str)))(hl:ss.length<64)(ht:∀Yt:List Str,Yt.Perm ss->sortedS Yt=true->Yt=ts)(he:autoParam (D9 c e []) Bd):Ev c J (.Call (.Name x np) [e] [] pos) (.list (ts.map .str)):=
 .ON f (.cons y .nil he) (λvs s F r Q E q=>by
  cases r with|cons a r=>
  cases r;refine Qg (B9.Hn a) ?_;rintro ad us rfl nx nt p rr;have hv:=rr.length;rw[AA]at hv;refine B6 p ?_;clear p;intro n0 e0;refine sorted_strs ⟨_,e0,rfl,_,rfl⟩ (Yv rr) (by rw[hv];exact hl) λout Yt a1 a2 a3=>?_;refine B6 (sortedAll_at s.heap us out) ?_;intro n e1;have l:Le s.heap (sortedAll s.heap us out):=Le.of λb o=>sortedAll_old;have fr:s.heap.get? (s.heap.objs.size+1)=none:=Heap.get?_none_of_le (Nat.le_succ _);rw[<- ht Yt a2 a3]at q;refine q _ _ s.toks l (.list (λz=>?_) (λz=>?_) ⟨n,e1⟩ (Yj a1))
  .obtain ⟨_,o,eo⟩:=F.Ck _ z;rw[fr]at eo;cases eo
  .refine Bi F.base.tab ?_;intro ps ep V;rw[<- z,fr]at ep;cases ep) he
theorem Ev.listS{np:Pos}(f:Ev c J (.Name x np) (.obj (.type "list")))(y:Ev c J e (.str (tx cs)))(hl:cs.length<=1000)(he:autoParam (D9 c e []) Bd):Ev c J (.Call (.Name x np) [e] [] pos) (.list (Cw cs)):=
 .RF f (.cons y .nil he) (λvs s F r Q E q=>by
  refine Du (Bf.Bp r) ?_;rintro V V rfl a r;cases r;cases a;refine call_list_str F.ok.handled _ _ (λh' tk acc c' k e1 it=>?_) (by rw[sizeLine_eq];show cs.toArray.size<=_;simp;exact lb hl rfl);have l:Le s.heap h':=Le.of k;have fr:s.heap.get? s.heap.objs.size=none:=Bn _;refine q _ h' tk l (.list (vs:=acc.toList) (λz=>?_) (B5 F.base.tab) ⟨c',by rw[Array.toArray_toList];exact e1⟩ (Yi (by rw[Array.length_toList,it.1];unfold Cw;simp[tx]) λj v hj=>?_))
  .obtain ⟨_,o,eo⟩:=F.Ck _ z;rw[fr]at eo;cases eo
  .refine Fq (it.2 j v (by simpa using hj)) ?_;rintro a u ea rfl;exact⟨.str (sg a),by unfold Cw;rw[AL,(by simpa[tx]using ea:cs[j]? = some a)];rfl,.str _ _⟩) he
theorem Ev.iJ(x:Ev c J l (.list ds))(y:Ev c J r (.int 2))(hl:ds.length<=1000):Ev c J (.BinOp l .Mult r pos) (.list (ds++ds)):=
 .bin x y λV V s F ra rb Q E q=>by
  cases rb;cases ra with|list nx nt p rr=>
  rename_i u ad vs;refine B6 p ?_;clear p;intro n0 e0;have hv:=rr.length;refine wpAny_binaryOp_repeat_ref (T:="list") (U:="int") (by decide) ⟨_,e0,rfl⟩ (λs'=>typeIs_int s' 2 u) noFill_list_mul PySem.F.fills_int_mul PySem.F.slot_int_rmul repeat_list PySem.F.slot_int_index.lookup
   (PySem.call_meets PySem.F.slot_int_rmul (typeIs_int s 2 u) PySem.F.entry_int_rmul (PySem.F.args_int_rmul_2 _ _) (int___rmul___int_list 2 u ad vs.toArray n0)
    ⟨e0,rfl,⟨_,e0,rfl⟩,PySem.call_meets PySem.F.slot_list_mul ⟨_,e0,rfl⟩ PySem.F.entry_list_mul (PySem.F.args_list_mul_2 _ _)
     (AutoListH.list___mul___list_int_3 ad vs.toArray n0 2 u (by simp[Builtin.List.listFitsIndex]) (by rw[AY];show ¬vs.length*2>_;omega) (by simp[Builtin.List.listTooLong,sizeLine];omega))
     ⟨e0,?_⟩⟩)
  have hf:List.foldl (λx1 x2=>x1++x2) #[] (List.replicate (if vs.toArray.isEmpty=true then 0 else Int.toNat 2) vs.toArray)=(vs++vs).toArray:=by
   cases vs with
   |nil=>rfl
   |cons a l=>simp[List.replicate]
  refine q _ _ s.toks (Le.push _ _) (.list (fresh_ne F.Ck) (B5 F.base.tab) ⟨0,?_⟩ ((rr.append rr).le (Le.push _ _)))
  .rw [<- hf];exact AH _ rfl
theorem Ev.e9:Ev c J (.Dict [] [] pos) (.dict []):=λs F Q E q=>by
 have e1:(s.heap.push {cls:=.type "dict",data:=.dict #[]}).get? s.heap.objs.size=some {cls:=.type "dict",data:=.dict #[]}:=AH _ rfl;refine wpAny_Dict_empty (q _ _ s.toks (Le.push _ _) (.dict (fresh_ne F.Ck) (B5 F.base.tab) ?_ (C4 e1) .nil));have:=B7 F.base;rw[Av];intro z;rw[z]at this;exact absurd this (by decide)
theorem P6{b:Addr}{ka kb:Di}(na:(a==sysModules)=false)(nb:(b==sysModules)=false)(da:s.heap.DictOf (KS w) a ka)(db:s.heap.DictOf (KS w) b kb)(hu:A.units<cLine)(hn:ka.length≠kb.length)(q:Q (.bool false) s):wpAny (model prog w) A (compareOp .Eq (.ref a) (.ref b)) Q E s:=by
 have ta:=da.typeIs;have tb:=db.typeIs;refine Zh da ?_;clear da;intro oa xs ea ga V sr V pa V;refine Zh db ?_;clear db;intro ob ys eb gb V su V pb V;have la:=pa.length;have lb:=pb.length;rw[Array.length_toList]at la lb;have ne:¬xs.size=ys.size:=λe=>hn (by rw[<- la,<- lb,e]);refine wpAny_richCompare_same_room (op:=.Eq) ta tb PySem.F.slot_dict_eq (wpAny_call_entry PySem.F.slot_dict_eq ta PySem.F.entry_dict_eq ?_ (PySem.F.args_dict_eq_2 _ _)) hu;refine wpAny_bind (wpAny_bind (wpAny_notOrdered_dict ta (wpAny_pure (wpAny_bind (wpAny_isInstance (T:="dict") tb PySem.F.sub_dict_dict ?_)))));rw[if_neg (by decide)];refine wpAny_bind (wpAny_pure (wpAny_bind (wpAny_pure (wpAny_bind ?_))));unfold Builtin.Dict.samePairs Builtin.Dict.showsAll;rw[na,nb];refine wpAny_bind (wpAny_pure (wpAny_bind (wpAny_pure (wpAny_bind (wpAny_dictEntries ga sr (wpAny_bind (wpAny_dictEntries gb su ?_)))))));rw[if_pos (by simpa using ne)];exact wpAny_bind (wpAny_rule (wpAny_pure (wpAny_pure ⟨_,rfl,(λz=>by cases z),q⟩)))
theorem Bh.mD(x:Ev c J l (.dict es))(y:Ev c J r (.dict []))(hn:es≠[])(hm:autoParam (behindInMarks .Eq r=false) Dz):Bh c J l .Eq r false:=
 Bh.of x y (λV V s F ra rb Q E q=>by
  refine V8 (B9.Iv ra) ?_;rintro V V rfl n1 t1 s1 p1 r1;refine V8 (B9.Iv rb) ?_;rintro V V rfl n2 t2 s2 p2 r2;cases r2;have hl:=Cc.length r1;refine P6 s1 s2 p1 p2 (BA (Nat.le_add_right _ 64) F.ok.line) (λe=>?_) (q _ s.heap s.toks (.refl _) (.bool _));rw[hl]at e;exact(hn (List.eq_nil_of_length_eq_zero e)).elim) hm
section
variable {c cc:Cx}{J J' KU J0:B4}{N:Eo}{R:Ct}{h h':Heap}{Z:Addr->Heap->Prop}
theorem HM:CA 305 (Ba 32) (S "_law_holds") 304 .none CY:=⟨λP=>rfl,λP=>⟨_,_,_,rfl,rfl,rfl⟩,rfl,rfl,rfl⟩
noncomputable def hS(i:Nat):Stmt:=(Bt (Ba 32))[i]?.getD (.Pass ⟨0,0,0,0⟩)
noncomputable def T8(cs:BZ)(a b:Nat):R2:=(SR cs.length a b).map λp=>(cs.getD p.1 0,cs.getD p.2 0)
noncomputable def Dl(ts:R2):R2:=ts.flatMap λt=>[(t.1,t.2),(Em t.2,Em t.1)]
noncomputable def CV(ts:R2)(p:Nat):List Nat:=(ts.filter λt=>decide (p=t.1)||decide (p=t.2)).map λt=>if p=t.1 then t.2 else Em t.1
noncomputable def C7(ts:R2)(cs:BZ):List (Nat×List Nat):=cs.map λp=>(p,CV ts p)
structure KV(cs:BZ)(ts:R2):Prop where
 low:∀a∈cs,a∈lows
 nd:cs.Nodup
 I0:1<=cs.length/\cs.length<=5
 tl:ts.length<=10
 J7:∀t∈ts,t.1∈lows/\t.2∈lows
 get:∀p∈cs,∃a l,CV ts p=a::l/\C3 (Dl ts) (Em p)=some a/\C8 (Dl ts) (Em p)=a::l
theorem Cb:∀a∈lows,Em a∈Bq/\a<128:=by decide
theorem E7{a:Nat}(h:a∈lows):Txt.upper (sg a)=sg (Em a):=Pd a h
theorem R4{ts:R2}(h:∀t∈ts,t.1∈lows/\t.2∈lows):RL (Dl ts):=λp hp=>by
 refine Bi (Am.mp hp) ?_;intro t ht hp;refine CC (h t ht) ?_;intro h1 h2;rcases AJ.mp hp with rfl|hp
 .exact ⟨(CB _ h1).1,(CB _ h2).1⟩
 .rw [AG.mp hp];exact⟨(Cb _ h2).1,(Cb _ h1).1⟩
theorem LL(ts:R2):(Dl ts).length=2*ts.length:=by
 induction ts with
 |nil=>rfl
 |cons t ts ih=>unfold Dl at ih ⊢;rw[AX,Ac,ih];simp;lia
theorem Ry(ts:R2)(cs:BZ):DS (C7 ts cs)=cs.map λp=>(sg p,.list (Cw (CV ts p))):=by unfold DS C7;rw[AB];rfl
noncomputable def Jd(cs:BZ)(σ:BZ):List (Str×D):=[(S "sums",.list (σ.map λa=>.int (a:Nat))),(S "names",.str (tx cs))]
theorem O3{ts:R2}(O:KV cs ts)(p:Nat):∀q∈CV ts p,q∈Bq/\q<128:=λq hq=>by
 refine Bi (AF.mp hq) ?_;rintro t ht rfl;refine CC (O.J7 t (Az.mp ht).1) ?_;intro l1 l2;split
 .exact ⟨(CB _ l2).1,(Cb _ l2).2⟩
 .exact ⟨(Cb _ l1).1,GS _ (Cb _ l1).1⟩
theorem Rz{ts:R2}(O:KV cs ts):Gm 3 (.list (cs.map λp=>.tup [.str (sg ((CV ts p).headD 0)),.list (Cw (CV ts p))])):=.list λd hd=>by
 refine Bi (AF.mp hd) ?_;rintro p hp rfl;refine Fq (O.get p hp) ?_;intro a0 l0 e0 V;have nl:=O3 O p;refine .tup λd hd=>?_;rcases AJ.mp hd with rfl|hd
 .rw [e0];exact .str (DT (nl a0 (by rw[e0];exact .head _)).2)
 .rw [AG.mp hd];exact KE λq hq=>(nl q hq).2
theorem az{ts:R2}{a b:Nat}{σ:BZ}{rest:Dy}(E:Bj c w (BY (Ba 32)) k)(hk:3<=c.k)(O:KV cs ts)(mJ:T8 cs a b=ts)(hσ:σ.length<=10)(y:∀nx ndx nl X',(∀b,c.X b->X' b)->Be (c.on X' (c.G.star (CJ nx ndx nl (Bg (Dl ts))))) ((S "near",.dict (DS (C7 ts cs)))::(S "net",.obj (.ref nx))::(S "ties",.list (ts.map B8))::Jd cs (a::b::σ)) [rest] N R) :
  Be c (Jd cs (a::b::σ)) [hS 0::hS 1::hS 2::hS 3::hS 4::rest] N R:=by
 have hint:interactive c.env=false:=E.quiet rfl;have hw:c.w=w:=E.hw;let R0:List (Str×D):=(S "ties",.list (ts.map B8))::Jd cs (a::b::σ);have lT:=O.I0;refine Be.step (J':=R0) (Ex.sc E (d:=.list (ts.map B8)) (Ev.eq (Ev.FW (fa:=256) (k:=1) (ds:=[.str (tx cs),.int (a:Nat),.int (b:Nat)]) Ev.g (.cons Ev.n (.cons (Ev.FH Ev.n Ev.cInt (by decide) rfl ?_) (.cons (Ev.FH Ev.n Ev.cInt (by decide) rfl ?_) .nil))) (fg c.w 0 cs a b O.I0.1 O.I0.2 λx hx=>(Cb x (O.low x hx)).2) (AD (by decide) hk) ⟨_,_,_,_,_,U4⟩) ?_)) ?_
 .simp;exact lb hσ rfl
 .simp;exact lb hσ rfl
 .rw [<- mJ];unfold T8;rw[AB];rfl
 .refine Be.cons (Ex.KP (N:=λh=>∃nx ndx nl X',nl≠nx/\nl≠ndx/\(∀b,c.X b->X' b)/\(∀b,(Bc nx ndx nl []).fp b->Gh c b X')/\Fr (c.on X' (c.G.star (Bc nx ndx nl []))) ((S "net",.obj (.ref nx))::R0) h) (FO.Gy Ev.g hk) (E.nm (.inr rfl)) (by rfl) λd1 T h X' zz hX nw F1=>?_) ?_
  .refine V9 zz ?_;clear zz;intro nx ndx nl e1 e2 n1 n2;subst e1 e2;exact⟨nx,ndx,nl,X',n1,n2,hX,nw,F1⟩
  .intro h1 Cr;refine kK Cr ?_;intro nx ndx nl X1 n1 n2 OD nw F1;let c1:Cx:=c.on X1 (c.G.star (Bc nx ndx nl []));have E1:Bj c1 w (BY (Ba 32)) k:=E.on;let R1:List (Str×D):=(S "net",.obj (.ref nx))::R0;refine⟨c1,R1,⟨rfl,rfl,rfl⟩,F1,?_⟩;refine Be.cons (Ex.for (c:=c1) (ds:=ts.map B8) E1.ro (λi=>c.G.star (Bc nx ndx nl (Bg (Dl (ts.take i))))) (λV=>R1) rfl rfl (Bb.list Ev.n) (λi d hd Xi Ti dN=>?_)) ?_
   .rw [AL,AS]at hd;refine Bi hd ?_;clear hd;rintro t ht rfl;refine CC (O.J7 t (AQ ht)) ?_;intro l1 l2;let r:=Dl (ts.take i);have er:Dl (ts.take (i+1))=(r++[(t.1,t.2)])++[(Em t.2,Em t.1)]:=by
     rw[A3,ht];show Dl (ts.take i++[t])=_;unfold r Dl;rw[List.flatMap_append];simp
    have rl:r.length<=20:=by
     show(Dl (ts.take i)).length<=20;rw[LL];have:=O.tl;have:(ts.take i).length<=ts.length:=by rw[Ae];exact A9 _ _
     lia
    let ci:Cx:=c1.on Xi ((c.G.star (Bc nx ndx nl (Bg r))).star Ti);have Ei:Bj ci w (BY (Ba 32)) k:=E.on;let cj:Cx:=c1.on Xi ((c.G.star (Bc nx ndx nl (Bg (r++[(t.1,t.2)])))).star Ti);have Ej:Bj cj w (BY (Ba 32)) k:=E.on;have snoc:∀(r:R2) (p:Nat×Nat),Bg r++[(sg p.1,sg p.2)]=Bg (r++[p]):=λr p=>by unfold Bg;rw[Af];rfl
    refine⟨(S "y",.str (sg t.2))::(S "x",.str (sg t.1))::R1,Bind.tup (.cons Bind.n (.cons Bind.n .nil)),?_⟩;refine Be.EM (X':=Xi) (G':=(c.G.star (Bc nx ndx nl (Bg (r++[(t.1,t.2)])))).star Ti) (Ex.Ik (c:=ci) (rows:=Bg r) (n:=sg t.1) (v:=sg t.2) Ei.ro (by rw[DD];exact lb rl rfl) n1 n2 (DJ (CB _ l1).1 true) (DJ (CB _ l2).1 false) (AE rfl) (AD (by decide) hk) (by rw[snoc r (t.1,t.2)];exact Upd.lf (Upd.rt (Upd.self λb=>Iff.rfl))) Ev.n Ev.n Ev.n (Ei.quiet rfl)) ?_;refine Be.EM (X':=Xi) (G':=(c.G.star (Bc nx ndx nl (Bg (Dl (ts.take (i+1)))))).star Ti) (Ex.Ik (c:=cj) (rows:=Bg (r++[(t.1,t.2)])) (n:=sg (Em t.2)) (v:=sg (Em t.1)) Ej.ro (by rw[DD,Ac];simp;exact lb rl rfl) n1 n2 (DJ (Cb _ l2).1 true) (DJ (Cb _ l1).1 false) (AE rfl) (AD (by decide) hk) (by rw[snoc _ (Em t.2,Em t.1),er];exact Upd.lf (Upd.rt (Upd.self λb=>Iff.rfl))) Ev.n (Ev.eq (Ev.upper Ev.n (AE rfl)) (congrArg D.str (E7 l2))) (Ev.eq (Ev.upper Ev.n (AE rfl)) (congrArg D.str (E7 l1))) (Ej.quiet rfl)) ?_;exact Be.nil (Be.done λh F=>⟨Xi,dN,F.sub λp hp=>.tail _ (.tail _ hp)⟩)
   .intro h2 Dv;refine Bi Dv ?_;intro X2 Hk F2;rw[AA,BF]at F2;have F3:=Fr.NV (c:=c1) (G:=c.G) F2 λb z=>(nw b z).old;let X3:Addr->Prop:=λb=>X2 b/\¬(Bc nx ndx nl (Bg (Dl ts))).fp b;have ZQ:∀b,c.X b->X3 b:=λb z=>⟨Hk b (OD b z),λq=>(nw b q).out z⟩;let c3:Cx:=c.on X3 (c.G.star (CJ nx ndx nl (Bg (Dl ts))));have E3:Bj c3 w (BY (Ba 32)) k:=E.on;have hB:∀X h,c3.G.P c3.w X h->(CJ nx ndx nl (Bg (Dl ts))).P c3.w X h:=λX h z=>z.2.1;refine⟨c3,R1,⟨rfl,rfl,rfl⟩,F3,?_⟩;refine Be.step (c:=c3) (J':=(S "near",.dict (DS (C7 ts cs)))::R1) (Ex.sc E3 (d:=.dict (DS (C7 ts cs))) (CE.ev (CE.eq (CE.Ke cs (λp=>.str (sg p)) (λV=>true) (λp=>sg p) (λp=>.list (Cw (CV ts p))) (J0:=[(S "ties",.list (ts.map B8))]) E3.co (Bb.tx Ev.n) (λp=>[(S "p",.str (sg p)),(S "ties",.list (ts.map B8))]) (λV V h=>.tail _ h) (λV V V sc=>Bind.n) (λV V V V=>CM.nil)
     (λp hp V cc sc=>⟨Ev.n,CE.ev (CE.eq (CE.C1 ts B8 (λt=>decide (p=t.1)||decide (p=t.2)) (λt=>.str (sg (if p=t.1 then t.2 else Em t.1))) (J0:=[(S "p",.str (sg p))]) sc.co (Bb.list Ev.n) (λt=>[(S "y",.str (sg t.2)),(S "x",.str (sg t.1)),(S "p",.str (sg p))]) (λV V h=>.tail _ (.tail _ h)) (λV V V sc=>Bind.tup (.cons Bind.n (.cons Bind.n .nil))) (λt ht cc sc=>CM.one (CL.cmp (Bh.eq (Bh.ui (n:=0) (m:=1) Ev.n (Ev.tp (.cons Ev.n (.cons Ev.n .nil))) ?_ ?_) ?_)))
      (λt ht V cc sc=>Ev.K7 (CL.cmp (Bh.mF Ev.n Ev.n ?_ ?_)) (λh=>?_) (λh=>?_)) ?_) ?_)⟩) ?_) ?_))) ?_
    .exact .str (DT (Cb p (O.low p hp)).2)
    .exact RT (DT (Cb _ (O.J7 t ht).1).2) (DT (Cb _ (O.J7 t ht).2).2)
    .show D.L2 [D.str (sg t.1),D.str (sg t.2)] (.str (sg p))=_;unfold D.L2;rw[List.any_cons,List.any_cons,List.any_nil,Hh,Hh,Bool.or_false];congr 1<;>exact decide_eq_decide.mpr ⟨Eq.symm,Eq.symm⟩
    .exact (Cb p (O.low p hp)).2
    .exact (Cb _ (O.J7 t ht).1).2
    .rw [if_pos (of_decide_eq_true h)];exact Ev.n
    .rw [if_neg (of_decide_eq_false h)];exact Ev.eq (Ev.upper Ev.n (AE rfl)) (congrArg D.str (E7 (O.J7 t ht).1))
    .have:=O.tl;exact lb this rfl
    .unfold CV Cw;rw[AB];rfl
    .exact lb lT.2 rfl
    .rw [By,IU O.nd,Ry]
    .let R2:List (Str×D):=(S "near",.dict (DS (C7 ts cs)))::R1;have nd:∀p∈cs,(DS (C7 ts cs)).lookup (sg p)=some (.list (Cw (CV ts p))):=λp hp=>by
      rw[Ry];exact WT hp
     refine Be.if (b:=false) (CL.cmp (Bh.eq (Bh.W9 (n:=3) (m:=3) (a:=.list (cs.map λp=>.tup [.str (sg ((CV ts p).headD 0)),.list (Cw (CV ts p))])) (b:=.list (cs.map λp=>.tup [.str (sg ((CV ts p).headD 0)),.list (Cw (CV ts p))]))
      (CE.ev (CE.eq (CE.C1 cs (λp=>.str (sg p)) (λV=>true) (λp=>.tup [.str (sg ((CV ts p).headD 0)),.list (Cw (CV ts p))]) (J0:=[(S "net",.obj (.ref nx))]) E3.co (Bb.tx Ev.n) (λp=>[(S "p",.str (sg p)),(S "net",.obj (.ref nx))]) (λV V h=>.tail _ h) (λV V V sc=>Bind.n) (λV V V V=>CM.nil) (λp hp V cc sc=>?_) ?_) ?_))
      (CE.ev (CE.eq (CE.C1 cs (λp=>.str (sg p)) (λV=>true) (λp=>.tup [.str (sg ((CV ts p).headD 0)),.list (Cw (CV ts p))]) (J0:=[(S "near",.dict (DS (C7 ts cs)))]) E3.co (Bb.tx Ev.n) (λp=>[(S "p",.str (sg p)),(S "near",.dict (DS (C7 ts cs)))]) (λV V h=>.tail _ h) (λV V V sc=>Bind.n) (λV V V V=>CM.nil) (λp hp V cc sc=>?_) ?_) ?_)) ?_ ?_) ?_)) (λh=>by cases h) λV=>Be.nil (y nx ndx nl X3 ZQ)
     .refine Du (O.get p hp) ?_;intro a0 l0 e0 e1 e2;have ul:=(Cb p (O.low p hp)).1;have aj:∀X h,cc.G.P cc.w X h->(CJ nx ndx nl (Bg (Dl ts))).P cc.w X h:=λX h z=>by rw[sc.w];exact hB X h (sc.g X h z)
      have rl:(Bg (Dl ts)).length<=1000:=by rw[DD,LL];have:=O.tl;exact iD this rfl
      have RN:=R4 O.J7;have g1:=CU.ro (VK cc.w 0 nx ndx nl (Bg (Dl ts)) (sg (Em p)) rl (Ea RN) (AE rfl) (EV ul) (EG _ ul));have g2:=CU.ro (NW cc.w 0 nx ndx nl (Bg (Dl ts)) (sg (Em p)) rl (Ea RN) (AE rfl) (EV ul) (EG _ ul));rw[NZ RN ul,e1]at g1;rw[Ma RN ul,e2,AB]at g2;have UD:2<=cc.k:=by rw[sc.k];exact AD (by decide) hk
      rw[e0];exact Ev.tp (.cons (Ev.JV (f:=136) (k:=2) (G:=CJ nx ndx nl (Bg (Dl ts))) (ds:=[.str (sg (Em p))]) Ev.n (.cons (Ev.eq (Ev.upper Ev.n (AE rfl)) (congrArg D.str (E7 (O.low p hp)))) .nil) g1 UD aj (DI.ro aj) K5 ⟨_,_,_,_,_,MV⟩)
       (.cons (Ev.JV (f:=128) (k:=2) (G:=CJ nx ndx nl (Bg (Dl ts))) (ds:=[.str (sg (Em p))]) Ev.n (.cons (Ev.eq (Ev.upper Ev.n (AE rfl)) (congrArg D.str (E7 (O.low p hp)))) .nil) g2 UD aj (DI.ro aj) JA ⟨_,_,_,_,_,H7⟩) .nil))
     .exact lb lT.2 rfl
     .rw [By]
     .refine Du (O.get p hp) ?_;intro a0 l0 e0 e1 e2;have ls:(CV ts p).length<=10:=by unfold CV;rw[AA];exact AD (AV _ _) O.tl
      exact Ev.tp (.cons (Ev.FH (Ev.CR Ev.n Ev.n (nd p hp)) Ev.cInt (by decide) (by rw[e0];rfl) (by unfold Cw;rw[AA];exact lb ls rfl)) (.cons (Ev.CR Ev.n Ev.n (nd p hp)) .nil))
     .exact lb lT.2 rfl
     .rw [By]
     .exact Rz O
     .exact Rz O
     .have e:=EE (f:=λq:Nat×List Nat=>D.tup [.str (sg q.1),.list (Cw q.2)]) (λp q=>?_) (cs.map λp=>((CV ts p).headD 0,CV ts p)) (cs.map λp=>((CV ts p).headD 0,CV ts p))
      .rw [decide_eq_true rfl,AB]at e;exact congrArg (!·) e
      .rw [Kk,Hh,NN];obtain⟨a,b⟩:=p;obtain⟨x,y⟩:=q;by_cases h1:a=x<;>by_cases h2:b=y<;>simp[h1,h2]
end
theorem VO:∀(l:BZ) (acc:Array Nat),(l.map sg).foldl (λacc p=>acc++(S "").cps++p.cps) acc=acc++l.toArray:=by
 intro l;induction l with
 |nil=>exact λacc=>by simp
 |cons a l ih=>
  intro acc;rw[AI,As,ih];show acc++#[]++#[a]++l.toArray=_;simp
theorem Vg:∀l:List Nat,Txt.join (S "") (l.map sg)=tx l
 |[]=>rfl
 |a::l=>by
  show(⟨(l.map sg).foldl (λacc p=>acc++(S "").cps++p.cps) (sg a).cps⟩:Str)=_;rw[VO];show(⟨#[a]++l.toArray⟩:Str)=⟨(a::l).toArray⟩;simp
noncomputable def jS(s:Str):Nat:=s.cps.getD 0 0
theorem Vx(a b:Nat):PySem.Spec.ltCps (sg b).cps.toList (sg a).cps.toList=decide (b<a):=by
 show PySem.Spec.ltCps [b] [a]=_;simp[PySem.Spec.ltCps]
theorem Tr:∀(l:BZ) (p:Nat),risingS (sg p) (l.map sg)=true->(p::l).Pairwise (·<=·):=by
 intro l;induction l with
 |nil=>exact λp V=>by simp
 |cons a l ih=>
  intro p h;rw[AI]at h;unfold risingS at h;rw[Vx,Bool.and_eq_true]at h;refine CC h ?_;clear h;intro h1 h2;have pa:p<=a:=by simpa using h1
  have ih:=ih a h2;refine .cons (λb hb=>?_) ih;rcases AJ.mp hb with rfl|hb
  .exact pa
  .exact AD pa (List.rel_of_pairwise_cons ih hb)
theorem Qy{nm:BZ}(hp:nm.Perm cs)(asc:cs.Pairwise (· < ·))(ss:B3)(h:ss.Perm (nm.map sg))(hs:sortedS ss=true):ss=cs.map sg:=by
 have e1:ss=(ss.map jS).map sg:=by
  rw[AB];conv=>lhs;rw[<- List.map_id ss]
  apply AW;intro s hs;refine Bi (AF.mp (h.mem_iff.mp hs)) ?_;rintro a V rfl;rfl
 have h2:(ss.map jS).Perm cs:=by
  have:=h.map jS;rw[AB]at this;have e:nm.map (jS∘sg)=nm:=by
   conv=>rhs;rw[<- List.map_id nm]
   rfl
  rw[e]at this;exact this.trans hp
 rw[e1]at hs ⊢;congr 1;refine h2.eq_of_pairwise (le:=(·<=·)) (λa b V V h1 h2=>Nat.le_antisymm h1 h2) ?_ (asc.imp A4);cases hq:ss.map jS with
 |nil=>exact .nil
 |cons a l=>rw[hq]at hs;exact Tr l a hs
section
variable {c cc:Cx}{J J' KU J0:B4}{N:Eo}{R:Ct}{h h':Heap}{Z:Addr->Heap->Prop}
def Zu(nm:BZ)(d:D)(th:TH)(d':D)(T:Res):Prop:=∃TT:TT,TT.map (λt=>(t.1,t.2.2))=th/\d'=.tup [.dict (Ll TT),.list (Cw nm++tailD d)]/\T=HI TT
theorem FO.tree{np:Pos}{es:Cy}{G:Res}{nm:BZ}{th:TH}(f:Ev c J (.Name x np) (.obj (.ref 273)))(y:FQ c J (e::es) ds)(g:∀(A:Around) (X:CG) (s:Shared) (vs:DW),E9 k A->CW c.w s.heap->FU X s.heap->Bf X c.w s.heap vs ds->G.P c.w X s.heap->Run c.w A Hw (call (.ref 273) vs) s (RB c.w X nm d th))(hk:k<=c.k)(hG:∀X h,c.G.P c.w X h->G.P c.w X h)(he:autoParam (D9 c e es) Bd):FO c J (.Call (.Name x np) (e::es) [] pos) (Zu nm d th):=
 λs F Q E q=>wpAny_Call_NameR (f s F _ _ λv h1 t1 l1 r1=>by
  cases r1;have Ec:Le s.heap h1:=l1;refine BG (o:=Eu (Ba 26) (S "_law_tree") .none CY (.ref 272)) (fd:=EW (Ba 26) (S "_law_tree") .none CY (.ref 272)) rfl (y pos _ (F.le Ec) _ _ λvs h2 t2 l2 r2=>?_) he;have F2:=(F.le Ec).le l2;have no:∀(L:TT) (b:Addr),DH c.X (HI L).fp b->c.X b:=λL b z=>z.elim id λz=>z.elim;exact⟨F2.base.k _ _ (U5.here _),g c.A c.X _ vs (F.ok.CD hk) F2.base F2.Ck r2 (hG _ _ F2.g) _ _ λv h3 t3 l3 zz=>by refine EJ zz ?_;clear zz;intro L e1 rv p;exact q v h3 t3 _ (HI L) ⟨L,e1,rfl,rfl⟩ (Bu.trans (Bu.trans l1 l2) l3) (λb z=>z.elim) (Res.CD p (no L)) (rv.move (Ce (no L)))⟩)
noncomputable def Zp(i:Nat):D:=[D.str (S ""),.str (S "."),.none].getD i .none
noncomputable def wordOf(th:TH)(nm:BZ)(x:Nat):List Nat:=(nm.drop 1).map λy=>if(Hu th x).contains y then Em y else y
noncomputable def Ca(th:TH)(nm:BZ):W2:=nm.map λx=>(x,wordOf th nm x)
structure M9(cs:BZ)(ts:R2)(r:Nat)(d:D)(late:Bool)(th:TH)(nm:BZ):Prop where
 run:∃stF n,stF.th=th/\n<=10/\runN late (Dl ts) (C7 ts cs) cs.length ⟨[r],[(r,r)],[(r,[],none)]⟩=some stF/\deep (Ie th) n r=true/\(∀m ≤n,∀a∈CS th,(CQ (Ie th) m a).length<=500)/\CQ (Ie th) n r=nm
 len:nm.length=cs.length
 perm:nm.Perm cs
 asc:cs.Pairwise (· < ·)
 ways:∀x∈nm,∃w a,th.lookup x=some (w,a)
theorem bA{G0:Res}{nx ndx nl:Addr}{ts:R2}{a b m l:Nat}{r:Nat}{th:TH}{nm:BZ}{rest:Dy}(E:Bj c w (BY (Ba 32)) k)(hk:20<=c.k)(hG:c.G=G0.star (CJ nx ndx nl (Bg (Dl ts))))(O:KV cs ts)(hr:cs[m%cs.length]? = some r)(T:M9 cs ts r (Zp (m/cs.length%3)) (decide (m/cs.length/3%2=1)) th nm)(y:∀(L:TT) X',(∀b,c.X b->X' b)->L.map (λt=>(t.1,t.2.2))=th->Be (c.on X' (c.G.star (HI L))) ((S "line",.list (Cw nm))::(S "things",.dict (Ll L))::(S "count",.int (cs.length:Nat))::(S "tail",Zp (m/cs.length%3))::(S "near",.dict (DS (C7 ts cs)))::(S "net",.obj (.ref nx))::(S "ties",.list (ts.map B8))::Jd cs [a,b,m,l]) [rest] N R) :
  Be c ((S "near",.dict (DS (C7 ts cs)))::(S "net",.obj (.ref nx))::(S "ties",.list (ts.map B8))::Jd cs [a,b,m,l]) [hS 5::hS 6::hS 7::hS 8::rest] N R:=by
 have hint:interactive c.env=false:=E.quiet rfl;let R0:List (Str×D):=(S "near",.dict (DS (C7 ts cs)))::(S "net",.obj (.ref nx))::(S "ties",.list (ts.map B8))::Jd cs [a,b,m,l];let n:=cs.length;have n5:=O.I0;let tl:=Zp (m/n%3);let R1:List (Str×D):=(S "count",.int (n:Nat))::(S "tail",tl)::R0;have hdiv:((m:Int)/(n:Int))=((m/n:Nat):Int):=(Int.natCast_ediv m n).symm;have len:∀ {c:Cx}{J:B4}{x:Str}{np:Pos}{e:Expr}{p:Pos},Ev c J (.Name x np) (.obj (.builtin "len"))->Ev c J e (.str (tx cs))->starEach [e] c.env=(false,eval e c.env)::starEach [] c.env->Ev c J (.Call (.Name x np) [e] [] p) (.int (n:Nat)):=λf y he=>Ev.eq (Ev.Nn f y (by rw[DY];exact lb n5.2 rfl) he) (by rw[DY]);refine Be.step (J':=R1) (Ex.SN (n1:=S "count") (n2:=S "tail") (d1:=.int (n:Nat)) (d2:=tl) (Ev.tp (.cons (len Ev.b Ev.n rfl) (.cons (Ev.FH (ds:=[D.str (S ""),.str (S "."),.none]) (i:=((m/n%3:Nat):Int)) (d:=tl) (Ev.ls (.cons Ev.cStr (.cons Ev.cStr (.cons Ev.OM .nil)))) (Ev.eq (Ev.MB (Ev.Sn (Ev.FH Ev.n Ev.cInt (by decide) rfl (AE rfl)) (len Ev.b Ev.n rfl) ?_) Ev.cInt (by decide)) ?_) ?_ ?_) .nil))) ⟨by decide,by decide⟩ ⟨by decide,by decide⟩ (E.nm (.inl rfl)).slot (E.nm (.inl rfl)).slot (DG.of (by rfl)) (DG.of (by rfl)) (by unfold swappedStores Env.blockKind Env.kindOf;rw[E.hs];rfl)) ?_
 .show 0<(cs.length:Int)/\(cs.length:Int)<2^29;omega
 .rw [hdiv];rfl
 .exact BD _
 .show [D.str (S ""),.str (S "."),.none][m/n%3]? = some tl;have h3:m/n%3<3:=Nat.mod_lt _ (by decide);unfold tl Zp;match m/n%3,h3 with
  |0,_=>rfl
  |1,_=>rfl
  |2,_=>rfl
 .have Jo:tl=.none\/∃y,tl=.str y/\y.length<=1000:=by
   have h3:m/n%3<3:=Nat.mod_lt _ (by decide);unfold tl Zp;match m/n%3,h3 with
   |0,_=>exact .inr ⟨_,rfl,by decide⟩
   |1,_=>exact .inr ⟨_,rfl,by decide⟩
   |2,_=>exact .inl rfl
  refine V8 T.run ?_;intro stF dp mI lX bE VY L8 mC;have rO:r∈cs:=AQ hr;have No:Po (C7 ts cs):=⟨λp q hq=>by
   have:=AF.mp (lookup_mem hq);refine Bi this ?_;clear this;intro p' V e;cases e.symm;exact⟨by unfold CV;rw[AA];exact AD (AV _ _) (AD O.tl (by decide)),λq hq=>(O3 O p q hq).1⟩⟩
  have nQ:((C7 ts cs).lookup r).isSome=true:=by
   refine B6 (GV (W:=C7 ts cs) (x:=r) (by unfold C7;rw[AB];exact AF.mpr ⟨r,rO,rfl⟩)) ?_;intro v e;rw[e];rfl
  have iR:(C7 ts cs).length=cs.length:=by unfold C7;rw[AA]
  have g:=λA X s vs ok B xk rv G=>fh c.w 16 (nx:=nx) (ndx:=ndx) (nl:=nl) (net:=Dl ts) (near:=C7 ts cs) (r:=r) (d:=tl) (late:=decide (m/n/3%2=1)) (stF:=stF) (n:=dp) (lb lX rfl) (R4 O.J7) (by rw[LL];have:=O.tl;exact iD this rfl) No (by rw[iR];exact lb n5.2 rfl) (O.low r rO) nQ Jo (by rw[iR];exact bE) (by rw[mI];exact VY) (by rw[mI];exact L8) (A:=A) (X:=X) (s:=s) (vs:=vs) ok B xk rv G;rw[mI,mC]at g;refine Be.cons (Ex.setTR (N:=λh=>∃(L:TT) (X':CG),(∀b,c.X b->X' b)/\L.map (λt=>(t.1,t.2.2))=th/\Fr (c.on X' (c.G.star (HI L))) ((S "line",.list (Cw nm++tailD tl))::(S "things",.dict (Ll L))::R1) h)
   (FO.tree (d:=tl) (nm:=nm) (th:=th) (ds:=[.obj (.ref nx),.dict (DS (C7 ts cs)),.str (sg r),tl,.bool (decide (m/n/3%2=1))]) Ev.g (.cons Ev.n (.cons Ev.n (.cons (Ev.Om (i:=m%n) (a:=r) Ev.n (Ev.eq (Ev.MB (Ev.FH Ev.n Ev.cInt (by decide) rfl (AE rfl)) Ev.n ?_) ?_) hr (lb n5.2 rfl) λx hx=>(Cb x (O.low x hx)).2) (.cons Ev.n (.cons (Ev.eq (Ev.cmp (Bh.dG (Ev.MB (Ev.Sn (Ev.Sn (Ev.FH Ev.n Ev.cInt (by decide) rfl (AE rfl)) Ev.n ?_) Ev.cInt (by decide)) Ev.cInt (by decide)) Ev.cInt)) ?_) .nil))))) g hk (λX h z=>by rw[hG]at z;exact z.2.1))
   (λd T X' zz hX nw=>?_)) ?_
  .lia
  .rfl
  .show 0<(cs.length:Int)/\(cs.length:Int)<2^29;omega
  .rw [hdiv];show D.bool (decide (((m/n/3%2:Nat):Int)=((1:Nat):Int)))=_;rw[decide_eq_decide.mpr Int.natCast_inj]
  .refine EJ zz ?_;clear zz;intro L e1 e2 e3;subst e2 e3;have E1:Bj (c.on X' (c.G.star (HI L))) w (BY (Ba 32)) k:=E.on;exact⟨_,Bind.tup (.cons Bind.n (.cons Bind.n .nil)),λh F=>⟨L,X',hX,e1,F⟩⟩
  .intro h2 Cr;refine Du Cr ?_;intro L X2 Hk eL F2;let c2:Cx:=c.on X2 (c.G.star (HI L));have E2:Bj c2 w (BY (Ba 32)) k:=E.on;let R2:List (Str×D):=(S "line",.list (Cw nm++tailD tl))::(S "things",.dict (Ll L))::R1;refine⟨c2,R2,⟨rfl,rfl,rfl⟩,F2,?_⟩;have nl:=T.len;have t1:tailD tl=[]\/tailD tl=[D.str (S ".")]:=by
    have h3:m/n%3<3:=Nat.mod_lt _ (by decide);unfold tl Zp;match m/n%3,h3 with
    |0,_=>exact .inl rfl
    |1,_=>exact .inr rfl
    |2,_=>exact .inl rfl
   have jM:(Cw nm++tailD tl).length<=10:=by
    unfold Cw;rcases t1 with e|e<;>rw[e]<;>simp<;>(exact Je nl n5.2 rfl)
   have kT:(Cw nm).length=n:=by unfold Cw;rw[AA];exact nl
   have ez:cut (Cw nm++tailD tl) none (some (n:Nat))=Cw nm:=by rw[NJ,List.take_append_of_le_length (by exact BM (id (Eq.symm kT))),List.take_of_length_le (by exact BM kT)]
   have lU:cut (Cw nm++tailD tl) (some (n:Nat)) none=tailD tl:=by rw[Dj,List.drop_append_of_le_length (by exact BM (id (Eq.symm kT))),List.drop_of_length_le (by exact BM kT),BT]
   have O5:∀a∈nm,a∈cs:=λa ha=>T.perm.mem_iff.mp ha;have f1:Gm 1 (.list (Cw cs)):=KE λa ha=>(Cb a (O.low a ha)).2;have f2:Gm 1 (.list (tailD tl)):=by
    rcases t1 with e|e<;>rw[e]
    .exact .list λd hd=>by cases hd
    .exact .list λd hd=>by rw[AG.mp hd];exact .str (by decide +kernel)
   have sm:tl.small:=by
    rcases Jo with e|⟨y,e,hy⟩<;>rw[e]
    .trivial
    .show y.length<=_;exact lb hy rfl
   have wB:∀Yt:List Str,Yt.Perm (nm.map sg)->sortedS Yt=true->Yt=cs.map sg:=Qy T.perm T.asc;refine Be.if (b:=false) ?_ (λh=>by cases h) λV=>Be.nil ?_
   .refine CL.XB (a:=false) (b:=false) ?_ λV=>?_
    .refine CL.cmp (Bh.eq (Bh.W9 (n:=1) (m:=1) (a:=.list (Cw cs)) (b:=.list (Cw cs)) (Ev.eq (Ev.sorted (ss:=nm.map sg) (ts:=cs.map sg) Ev.b (Ev.eq (Ev.EI Ev.n Part.no (Part.int Ev.n) (by omega)) ?_) (by rw[AA];lia) wB) ?_) (Ev.listS Ev.b Ev.n (by omega)) f1 f1) ?_)
     .rw [ez];unfold Cw;rw[AB];rfl
     .unfold Cw;rw[AB];rfl
     .rw [NN];simp
    .refine CL.cmp (Bh.eq (Bh.W9 (n:=1) (m:=1) (a:=.list (tailD tl)) (b:=.list (tailD tl)) (Ev.eq (Ev.EI Ev.n (Part.int Ev.n) Part.no (lb jM rfl)) ?_)
      (CE.ev (CE.eq (CE.C1 [tl] id D.Lm id (J0:=[]) E2.co (Bb.list (Ev.ls (.cons Ev.n .nil))) (λd=>[(S "one",d)]) (λV V h=>by cases h) (λV V V sc=>Bind.n) (λd hd cc sc=>CM.one (CL.val Ev.n ?_)) (λd V V cc sc=>Ev.n) ?_) ?_)) f2 f2) ?_)
     .rw [lU]
     .rw [AG.mp hd];exact sm
     .exact AE rfl
     .unfold tailD;rw[A8];cases tl.Lm<;>rfl
     .rcases t1 with e|e<;>rw[e]
      .exact congrArg (!·) (EE (f:=D.str) DK [] [])
      .exact congrArg (!·) (EE (f:=D.str) DK [S "."] [S "."])
   .refine Be.step (c:=c2) (J':=(S "line",.list (Cw nm))::(S "things",.dict (Ll L))::R1) (Ex.sc E2 (d:=.list (Cw nm)) (Ev.eq (Ev.EI Ev.n Part.no (Part.int Ev.n) (lb jM rfl)) (by rw[ez]))) (y L X2 Hk eL)
end
section
variable {c cc:Cx}{J J' KU J0:B4}{N:Eo}{R:Ct}{h h':Heap}{Z:Addr->Heap->Prop}
theorem Q4{L:TT}{th:TH}(e:L.map (λt=>(t.1,t.2.2))=th){x:Nat}{w:BZ}{a:Option Nat}(h:th.lookup x=some (w,a)):∃v,L.lookup x=some (v,w,a):=by
 subst e;induction L with
 |nil=>cases h
 |cons t L ih=>
  obtain⟨b,v,q⟩:=t;rw[AI,AK]at h;rw[AK];dsimp only at h ⊢;cases hb:x==b with
  |true=>rw[hb]at h;exact⟨v,by rw[BV h]⟩
  |false=>rw[hb]at h;exact ih h
structure UL(nm:BZ)(W:W2)(A:A2):Prop where
 has:∀x∈nm,∀y∈nm,ED A (x,y)
 signs:∀x∈nm,(Bo W x).length<=100/\∀a∈Bo W x,a∈Bz
 same:∀x∈nm,∀y∈nm,(Bo W x).length=(Bo W y).length
 jo:∀p∈CK nm,Et W nm.length p=(unlike (Bo W p.1) (Bo W p.2):Int)
 small:∀p∈CK nm,unlike (Bo W p.1) (Bo W p.2)<30
 some:Eg nm W A≠[]
noncomputable def NY(nx:Addr)(cs:BZ)(ts:R2)(a b m l:Nat)(nm:BZ)(L:TT):List (Str×D):=(S "line",.list (Cw nm))::(S "things",.dict (Ll L))::(S "count",.int (cs.length:Nat))::(S "tail",Zp (m/cs.length%3))::(S "near",.dict (DS (C7 ts cs)))::(S "net",.obj (.ref nx))::(S "ties",.list (ts.map B8))::Jd cs [a,b,m,l]
theorem LD{β:Type}{f:Nat->β}{ls:BZ}{x:Nat}(h:x∈ls):(ls.map λx=>(x,f x)).lookup x=some (f x):=by
 induction ls with
 |nil=>cases h
 |cons y ls ih=>
  rw[AI,AK];by_cases e:x=y
  .rw [e];simp
  .rw [show(x==y)=false by simpa using e];exact ih ((AJ.mp h).resolve_left e)
theorem GG{f:Nat->List Nat}{ls:BZ}{x:Nat}(h:x∈ls):Bo (ls.map λx=>(x,f x)) x=f x:=by
 unfold Bo;rw[LD h];rfl
theorem bB{ts:R2}{a b m l:Nat}{nx:Addr}{r:Nat}{late:Bool}{th:TH}{nm:BZ}{L:TT}{rest:Dy}(E:Bj c w (BY (Ba 32)) k)(hk:20<=c.k)(hG:∀X h,c.G.P c.w X h->(HI L).P c.w X h)(O:KV cs ts)(T:M9 cs ts r d late th nm)(eL:L.map (λt=>(t.1,t.2.2))=th)(K:UL nm (Ca th nm) (Cf cs ts))(y:Be c ((S "lacks",.dict (dI (Eg nm (Ca th nm) (Cf cs ts))))::(S "steps",.dict (dI (Cf cs ts)))::(S "words",.dict (dW (Ca th nm)))::NY nx cs ts a b m l nm L) [rest] N R) :
  Be c (NY nx cs ts a b m l nm L) [hS 9::hS 10::hS 11::hS 12::rest] N R:=by
 have hint:interactive c.env=false:=E.quiet rfl;let R0:=NY nx cs ts a b m l nm L;have n5:=O.I0;have nl:=T.len;have O5:∀a∈nm,a∈lows:=λa ha=>O.low a (T.perm.mem_iff.mp ha);have kH:nm.Nodup:=T.perm.nodup_iff.mpr O.nd;refine Be.step (J':=(S "words",.dict (dW (Ca th nm)))::R0) (Ex.cD E (d:=.dict (dW (Ca th nm))) (CE.eq (CE.Ke nm (λx=>.str (sg x)) (λV=>true) (λx=>sg x) (λx=>.str (tx (wordOf th nm x))) (J0:=[(S "line",.list (Cw nm)),(S "things",.dict (Ll L))]) E.co (Bb.list Ev.n) (λx=>[(S "x",.str (sg x)),(S "line",.list (Cw nm)),(S "things",.dict (Ll L))]) (λV V h=>.tail _ h) (λV V V sc=>Bind.n) (λV V V V=>CM.nil)
  (λx hx V sP cJ=>⟨Ev.n,Ev.eq (Ev.join (ys:=(wordOf th nm x).map sg) Ev.cStr (CE.ev (CE.eq (CE.C1 (nm.drop 1) (λy=>.str (sg y)) (λV=>true) (λy=>.str (sg (if(Hu th x).contains y then Em y else y))) (J0:=[(S "x",.str (sg x)),(S "things",.dict (Ll L))]) cJ.co (Bb.eq (Bb.list (Ev.EI Ev.n (Part.int Ev.cInt) Part.no ?_)) ?_) (λy=>[(S "y",.str (sg y)),(S "x",.str (sg x)),(S "things",.dict (Ll L))]) (λV V h=>.tail _ h) (λV V V sc=>Bind.n) (λV V V V=>CM.nil)
   (λy hy V cc sc=>?_) ?_) ?_)) ?_) ?_⟩) ?_) ?_)) ?_
 .unfold Cw;rw[AA];exact Je nl n5.2 rfl
 .show cut (Cw nm) (some ((1:Nat):Int)) none=_;rw[Dj];unfold Cw;rw[List.map_drop]
 .refine MC (T.ways x hx) ?_;intro wx ax ex;refine B6 (Q4 eL ex) ?_;intro v ev;have ew:Hu th x=wx:=by unfold Hu;rw[ex];rfl
  have yl:y∈lows:=O5 y (Aj hy);rw[ew];have dK:∀X h,cc.G.P cc.w X h->OH cc.w X h v (Ic wx ax):=λX h z=>by rw[sc.w,cJ.w];exact Pa ev (hG X h (cJ.g X h (sc.g X h z)))
  refine Ev.eq (Ev.G5 (d:=.str (sg (Em y))) (d':=.str (sg y)) (CL.cmp (Bh.qa (cs:=wx) Ev.n (Ev.CR (es:=Ic wx ax) (Ev.Pw dK (Ev.CR Ev.n Ev.n (N9 ev))) Ev.cStr (by rfl)))) (λV=>Ev.eq (Ev.upper Ev.n (AE rfl)) (congrArg D.str (E7 yl))) λV=>Ev.n) ?_;cases wx.contains y<;>rfl
 .rw [AM];omega
 .rw [By];unfold wordOf;rw[AB,AB];rfl
 .have e:(((wordOf th nm x).map sg).map (·.length)).sum=(wordOf th nm x).length:=by
   generalize wordOf th nm x=l;induction l with
   |nil=>rfl
   |cons a l ih=>rw[AI,AI,BC,ih];show 1+l.length=l.length+1;omega
  have wl:(wordOf th nm x).length<=10:=by unfold wordOf;rw[AA,AM];omega
  rw[e];show _+_*0<=_;omega
 .rw [Vg]
 .exact Je nl n5.2 rfl
 .rw [By,IU kH];unfold Ca dW;rw[AB];rfl
 .let R1:List (Str×D):=(S "words",.dict (dW (Ca th nm)))::R0;have lQ:∀a∈cs,a<128:=λa ha=>(Cb a (O.low a ha)).2;refine Be.step (J':=(S "steps",.dict (dI (Cf cs ts)))::R1) (Ex.sn (Ev.FW (fa:=261) (k:=1) (ds:=[.str (tx cs),.list (ts.map B8)]) Ev.g (.cons Ev.n (.cons Ev.n .nil)) (ae c.w 0 cs ts (lb n5.2 rfl) lQ O.nd λp hp=>⟨(Cb _ (O.J7 p hp).1).2,(Cb _ (O.J7 p hp).2).2⟩) (AD (by decide) hk) ⟨_,_,_,_,_,RR⟩)) ?_;refine Be.step (J':=(S "lacks",.dict (dI (Eg nm (Ca th nm) (Cf cs ts))))::(S "steps",.dict (dI (Cf cs ts)))::R1) (Ex.sc E (Ev.FW (fa:=283) (k:=3) (ds:=[.list (Cw nm),.dict (dW (Ca th nm)),.dict (dI (Cf cs ts))]) Ev.g (.cons Ev.n (.cons Ev.n (.cons Ev.n .nil))) (aZ c.w 0 nm (Ca th nm) (Cf cs ts) (Je nl n5.2 rfl) (λa ha=>(Cb a (O5 a ha)).2) (λx hx=>by unfold Ca;rw[AB];exact AF.mpr ⟨x,hx,rfl⟩) K.has K.signs K.same K.jo K.small) (AD (by decide) hk) ⟨_,_,_,_,_,RQ⟩)) ?_;exact Be.if (b:=false) (CL.cmp (Bh.mD Ev.n Ev.e9 λz=>K.some (by unfold dI at z;exact List.map_eq_nil_iff.mp z))) (λh=>by cases h) λV=>Be.nil y
end
noncomputable def MJ(c:Nat)(z:BZ)(a:Nat):List Nat:=if a=c then z else[a]
theorem Lj(c:Nat)(z:BZ):∀l:List Nat,c∉l->l.flatMap (MJ c z)=l:=by
 intro l;induction l with
 |nil=>exact λV=>rfl
 |cons k r ih=>
  intro h;rw[AX,ih λm=>h (.tail _ m)];unfold MJ;have hk:¬k=c:=λe=>h (by rw[e];exact .head _);rw[if_neg hk];rfl
theorem PX(c:Nat)(z:Str):∀parts:List Str,(∀p∈parts,c∉p.cps.toList)->(Str.join ⟨#[c]⟩ parts).cps.toList.flatMap (MJ c z.cps.toList)=(Str.join z parts).cps.toList
 |[],_=>rfl
 |[p],h=>Lj c _ _ (h p (.head _))
 |p::q::r,h=>by
  have ih:=PX c z (q::r) λa ha=>h a (.tail _ ha);show(p++⟨#[c]⟩++Str.join ⟨#[c]⟩ (q::r)).cps.toList.flatMap _=(p++z++Str.join z (q::r)).cps.toList;simp only[Str.cps_append,Array.toList_append,List.flatMap_append];rw[ih,Lj c _ _ (h p (.head _))];simp[MJ]
theorem PF(l:BZ)(c:Nat)(z:Str):Txt.replace (tx l) (sg c) z=tx (l.flatMap (MJ c z.cps.toList)):=by
 have h:(Txt.replace (tx l) (sg c) z).cps.toList=l.flatMap (MJ c z.cps.toList):=by
  have e:=PX c z _ (StrLaws.split_free (tx l) c);rw[StrLaws.join_split]at e;rw[show sg c=⟨#[c]⟩from rfl,StrLaws.replace_one,<- e];rfl
 generalize Txt.replace (tx l) (sg c) z=r at h;obtain⟨⟨m⟩⟩:=r;have e:m=l.flatMap (MJ c z.cps.toList):=h;rw[e];rfl
theorem H6(l:BZ)(c:Nat)(z:Str):BX (tx l) (sg c) z=tx (l.flatMap (MJ c z.cps.toList)):=by
 unfold BX;split
 .exact PF l c z
 .rename_i h;rw[JX]at h;rw[Lj];simpa using h
noncomputable def Jm(cz:List (Nat×Str))(l:BZ):List Nat:=cz.foldl (λl p=>l.flatMap (MJ p.1 p.2.cps.toList)) l
theorem MT:∀(cz:List (Nat×Str)) (l:BZ),Jm cz l=l.flatMap λa=>Jm cz [a]:=by
 intro l;induction l with
 |nil=>exact λl=>by unfold Jm;simp
 |cons p cz ih=>
  intro l;show Jm cz (l.flatMap _)=_;rw[ih,List.flatMap_assoc];congr 1;funext a;show _=Jm cz ([a].flatMap _);rw[AX,List.flatMap_nil,List.append_nil,ih (MJ _ _ a)]
theorem Uv{cz:List (Nat×Str)}{ss:BZ}(h:∀a∈Bz,(Jm cz [a]).length<=10)(hs:∀a∈ss,a∈Bz)(hl:ss.length<=20):(tx (Jm cz ss)).length<=1000:=by
 rw[DY,MT];have:(ss.flatMap λa=>Jm cz [a]).length<=ss.length*10:=by
  clear hl;induction ss with
  |nil=>simp
  |cons a ss ih=>
   rw[AX,Ac,AZ];have:=h a (hs a (.head _));have:=ih λb hb=>hs b (.tail _ hb);lia
 lia
noncomputable def sU:List (Nat×Str):=[(38,ch "&amp;"),(60,ch "&lt;"),(62,ch "&gt;")]
noncomputable def sV:List (Nat×Str):=[(38,ch "&amp;"),(60,ch "&lt;"),(62,ch "&gt;"),(34,ch "&quot;"),(13,ch "&#13;"),(10,ch "&#10;"),(9,ch "&#09;")]
noncomputable def sX:List (Nat×Str):=[(38,ch "&amp;"),(62,ch "&gt;"),(34,ch "&quot;")]
noncomputable def sY:List (Nat×Str):=[(38,ch "&amp;"),(60,ch "&lt;"),(62,ch "&gt;"),(13,ch "&#xD;")]
noncomputable def sZ:List (Nat×Str):=[(38,ch "&amp;"),(60,ch "&lt;"),(34,ch "&quot;"),(9,ch "&#x9;"),(10,ch "&#xA;"),(13,ch "&#xD;")]
noncomputable def jh(i:Nat):List (Nat×Str):=[sV,sX,sU,sY,sZ].getD i []
theorem Xa:∀i<5,∀n<8,∀a∈Bz,(Jm ((jh i).take n) [a]).length<=10:=by decide +kernel
theorem Sm:∀i<5,∀a∈Bz,Jm (jh i) [a]=(CP i a).cps.toList:=by decide +kernel
noncomputable def El(i:Nat):Addr:=[230,237,223,244,251].getD i 0
noncomputable def Jc(l:B3):Str:=Txt.join (S "") l
theorem Od(l:B3):Jc l=tx (l.flatMap λs=>s.cps.toList):=by
 have key:∀(l:B3) (acc:Array Nat),l.foldl (λacc p=>acc++(S "").cps++p.cps) acc=acc++(l.flatMap λs=>s.cps.toList).toArray:=λl=>by
  induction l with
  |nil=>intro acc;simp
  |cons s l ih=>
   intro acc;rw[As,ih,AX];show acc++#[]++s.cps++_=_;apply Array.toList_inj.mp;simp[List.append_assoc]
 cases l with
 |nil=>rfl
 |cons s l=>
  show(⟨l.foldl (λacc p=>acc++(S "").cps++p.cps) s.cps⟩:Str)=_;rw[key,AX];show _=(⟨(s.cps.toList++_).toArray⟩:Str);simp
theorem Xy{i:Nat}(hi:i<5){ss:BZ}(hs:∀a∈ss,a∈Bz):tx (Jm (jh i) ss)=Jc (ss.map (CP i)):=by
 rw[Od,MT,List.flatMap_map];congr 1;induction ss with
 |nil=>rfl
 |cons a ss ih=>rw[AX,AX,ih λb hb=>hs b (.tail _ hb),Sm i hi a (hs a (.head _))]
theorem VS{i n:Nat}(hi:i<5)(hn:n<8){ss:BZ}(hs:∀a∈ss,a∈Bz)(hl:ss.length<=20):(tx (Jm ((jh i).take n) ss)).length<=1000:=Uv (Xa i hi n hn) hs hl
theorem Ud:ch "&"=sg 38:=rfl
theorem Ue:ch "<"=sg 60:=rfl
theorem Ug:ch ">"=sg 62:=rfl
theorem Uc:ch "\""=sg 34:=rfl
theorem Ub:ch "\r"=sg 13:=rfl
theorem Ua:ch "\n"=sg 10:=rfl
theorem eY:ch "\t"=sg 9:=rfl
theorem fc(w:World)(i:Nat)(hi:i<5)(ss:BZ)(hs:∀a∈ss,a∈Bz)(hl:ss.length<=20):DA w (El i) 1 [.str (tx ss)] (.str (Jc (ss.map (CP i)))):=by
 rw[<- Xy hi hs];have H:=λn hn=>VS (n:=n) hi hn hs hl;revert H;refine n9 hi ?_ ?_ ?_ ?_ ?_
 .intro H;have g:=fW w 0 (tx ss);unfold fF at g;simp only[Ud,Ue,Ug,Uc,Ub,Ua,eY,H6]at g;exact g (H 0 (by decide)) (H 1 (by decide)) (H 2 (by decide)) (H 3 (by decide)) (H 4 (by decide)) (H 5 (by decide)) (H 6 (by decide))
 .intro H;have g:=fX w 0 (tx ss);unfold fG at g;simp only[Ud,Ue,Ug,Uc,Ub,Ua,eY,H6]at g;exact g (H 0 (by decide)) (H 1 (by decide)) (H 2 (by decide))
 .intro H;have g:=fV w 0 (tx ss);unfold aP at g;simp only[Ud,Ue,Ug,Uc,Ub,Ua,eY,H6]at g;exact g (H 0 (by decide)) (H 1 (by decide)) (H 2 (by decide))
 .intro H;have g:=fY w 0 (tx ss);unfold fH at g;simp only[Ud,Ue,Ug,Uc,Ub,Ua,eY,H6]at g;exact g (H 0 (by decide)) (H 1 (by decide)) (H 2 (by decide)) (H 3 (by decide))
 .intro H;have g:=fZ w 0 (tx ss);unfold fI at g;simp only[Ud,Ue,Ug,Uc,Ub,Ua,eY,H6]at g;exact g (H 0 (by decide)) (H 1 (by decide)) (H 2 (by decide)) (H 3 (by decide)) (H 4 (by decide)) (H 5 (by decide))
section
variable {c cc:Cx}{J J' KU J0:B4}{N:Eo}{R:Ct}{h h':Heap}{Z:Addr->Heap->Prop}
noncomputable def Pp(th:TH)(y:Nat):Nat:=((th.lookup y).bind (·.2)).getD 0
noncomputable def FK(th:TH)(nm:BZ)(B:A2)(t:Nat):W2:=nm.map λx=>(x,EC B x (nm.drop 1) (Hu th x) (Pp th) t)
noncomputable def D0(nm:BZ)(G:W2)(i:Nat):P2:=nm.map λx=>(x,(Bo G x).map (CP i))
theorem YT(cs:BZ):Txt.mul (tx cs) 2=tx (cs++cs):=by
 unfold Txt.mul;rw[if_neg (by decide)];by_cases h:cs=[]
 .subst h;rfl
 .rw [if_neg (by rw[DY];simpa using h)];show(⟨(List.replicate 2 cs.toArray).foldl (·++·) #[]⟩:Str)=⟨(cs++cs).toArray⟩;simp[List.replicate]
theorem U2(i:Nat)(h:i<5):∃st qual code dflt mod,CA (El i) st qual code dflt mod:=by
 exact n9 h ⟨_,_,_,_,_,Uy⟩ ⟨_,_,_,_,_,Uz⟩ ⟨_,_,_,_,_,Ux⟩ ⟨_,_,_,_,_,U0⟩ ⟨_,_,_,_,_,U1⟩
theorem Xx{l:B3}(h:∀s∈l,PyData.strOk s=true):PyData.strOk (Jc l)=true:=by
 have key:∀(l:B3) (acc:Array Nat),(∀s∈l,PyData.strOk s=true)->acc.all (· < 0x110000)=true->(l.foldl (λacc p=>acc++(S "").cps++p.cps) acc).all (· < 0x110000)=true:=λl=>by
  induction l with
  |nil=>exact λacc V h=>h
  |cons s l ih=>
   intro acc hs ha;refine ih _ (λs h=>hs s (.tail _ h)) ?_;have h1:s.cps.all (· < 0x110000)=true:=hs s (.head _);show(acc++#[]++s.cps).all (· < 0x110000)=true;rw[Array.append_empty,Array.all_append,ha,h1];rfl
 cases l with
 |nil=>decide +kernel
 |cons a l=>exact key l a.cps (λs hs=>h s (.tail _ hs)) (h a (.head _))
theorem WY:∀i<5,∀a∈Bz,PyData.strOk (CP i a)=true/\(CP i a).length<=10:=by decide +kernel
structure UP(th:TH)(nm:BZ)(B:A2)(t:Nat):Prop where
 above:∀y∈nm.drop 1,∃wy,th.lookup y=some (wy,some (Pp th y))
 has:∀x∈nm,∀y∈nm.drop 1,ED B (x,y)/\ED B (x,Pp th y)
 signs:∀x∈nm,∀a∈Bo (FK th nm B t) x,a∈Bz
noncomputable def P0(nx:Addr)(cs:BZ)(ts:R2)(a b m l:Nat)(th:TH)(nm:BZ)(L:TT):List (Str×D):=(S "lacks",.dict (dI (Eg nm (Ca th nm) (Cf cs ts))))::(S "steps",.dict (dI (Cf cs ts)))::(S "words",.dict (dW (Ca th nm)))::NY nx cs ts a b m l nm L
theorem bD{ts:R2}{a b m l:Nat}{nx:Addr}{r:Nat}{late:Bool}{th:TH}{nm:BZ}{L:TT}{rest:Dy}(E:Bj c w (BY (Ba 32)) k)(hk:20<=c.k)(hG:∀X h,c.G.P c.w X h->(HI L).P c.w X h)(O:KV cs ts)(T:M9 cs ts r d late th nm)(eL:L.map (λt=>(t.1,t.2.2))=th){B:A2}(eB:B=Eg nm (Ca th nm) (Cf cs ts)){G:W2}(eG:G=FK th nm B (l%7)){i:Nat}(ei:i=l/7%5){P:P2}(eP:P=D0 nm G i)(K:UP th nm B (l%7))(HD:∀ss:List Nat,(∀a∈ss,a∈Bz)->ss.length<=20->DA c.w (El i) 1 [.str (tx ss)] (.str (Jc (ss.map (CP i)))))(y:Be c ((S "pieces",.dict (dP P))::(S "signs",.dict (dW G))::(S "hand",.obj (.ref (El i)))::(S "number",.int (i:Nat))::P0 nx cs ts a b m l th nm L) [rest] N R) :
  Be c (P0 nx cs ts a b m l th nm L) [hS 13::hS 14::hS 15::hS 16::hS 17::rest] N R:=by
 have hint:interactive c.env=false:=E.quiet rfl;let R0:=P0 nx cs ts a b m l th nm L;have n5:=O.I0;have nl:=T.len;have i5:i<5:=by rw[ei];exact Nat.mod_lt _ (by decide)
 have O5:∀a∈nm,a∈lows:=λa ha=>O.low a (T.perm.mem_iff.mp ha);have kH:nm.Nodup:=T.perm.nodup_iff.mpr O.nd;have gl:∀x∈nm,Bo G x=EC B x (nm.drop 1) (Hu th x) (Pp th) (l%7):=λx hx=>by rw[eG];exact GG hx
 have fq:∀x∈nm,(Bo G x).length<=5:=λx hx=>by rw[gl x hx];unfold EC;rw[AA,List.length_zipIdx,AM];lia
 have gs:∀x∈nm,∀a∈Bo G x,a∈Bz:=λx hx=>by rw[eG];exact K.signs x hx
 refine Be.step (J':=(S "number",.int (i:Nat))::R0) (Ex.sc E (d:=.int (i:Nat)) (Ev.eq (Ev.MB (Ev.Sn (Ev.FH Ev.n Ev.cInt (by decide) rfl (AE rfl)) Ev.cInt (by decide)) Ev.cInt (by decide)) (by rw[ei];rfl))) ?_;refine Be.step (J':=(S "hand",.obj (.ref (El i)))::(S "number",.int (i:Nat))::R0) (Ex.sc E (d:=.obj (.ref (El i))) (Ev.FH (ds:=[.obj (.ref 230),.obj (.ref 237),.obj (.ref 223),.obj (.ref 244),.obj (.ref 251)]) (i:=((i:Nat):Int)) (Ev.ls (.cons Ev.g (.cons Ev.g (.cons Ev.g (.cons Ev.g (.cons Ev.g .nil)))))) Ev.n (BD _) ?_)) ?_
 .show [D.obj (.ref 230),.obj (.ref 237),.obj (.ref 223),.obj (.ref 244),.obj (.ref 251)][i]? = _;exact n9 i5 rfl rfl rfl rfl rfl
 .let R1:List (Str×D):=(S "hand",.obj (.ref (El i)))::(S "number",.int (i:Nat))::R0;refine Be.step (J':=(S "signs",.dict (dW G))::R1) (Ex.sc E (d:=.dict (dW G)) (CE.ev (CE.eq (CE.Ke nm (λx=>.str (sg x)) (λV=>true) (λx=>sg x) (λx=>.str (tx (Bo G x))) (J0:=[(S "lacks",.dict (dI B)),(S "line",.list (Cw nm)),(S "things",.dict (Ll L)),(S "sums",.list ([a,b,m,l].map λa=>.int (a:Nat)))]) (eB▸E.co) (Bb.list Ev.n) (λx=>[(S "x",.str (sg x)),(S "lacks",.dict (dI B)),(S "line",.list (Cw nm)),(S "things",.dict (Ll L)),(S "sums",.list ([a,b,m,l].map λa=>.int (a:Nat)))]) (λV V h=>.tail _ h) (λV V V sc=>Bind.n) (λV V V V=>CM.nil) (λx hx V cc sc=>⟨Ev.n,?_⟩) ?_) ?_))) ?_
  .rw [gl x hx];refine MC (T.ways x hx) ?_;intro wx ax ex;refine B6 (Q4 eL ex) ?_;intro v ev;have ew:Hu th x=wx:=by unfold Hu;rw[ex];rfl
   rw[ew];have dK:∀X h,cc.G.P cc.w X h->(HI L).P cc.w X h:=λX h z=>by rw[sc.w];exact hG X h (sc.g X h z)
   refine Ev.eX (fa:=290) (k:=1) (G:=HI L) (ds:=[.str (sg x),.list ((nm.drop 1).map λa=>.str (sg a)),.dict (Ll L),.dict (dI B),.int (l%7:Nat)]) Ev.g (.cons Ev.n (.cons (Ev.eq (Ev.EI Ev.n (Part.int Ev.cInt) Part.no ?_) ?_) (.cons Ev.n (.cons Ev.n (.cons (Ev.eq (Ev.MB (Ev.FH Ev.n Ev.cInt (by decide) rfl (AE rfl)) Ev.cInt (by decide)) ?_) .nil)))))
    (VI cc.w 0 x (nm.drop 1) L B (l%7) wx (Pp th) ax v ?_ ?_ ?_ ev ?_ (K.has x hx) (Nat.mod_lt _ (by decide))) ?_ dK (λb z=>z) ⟨_,_,_,_,_,MU⟩
   .unfold Cw;rw[AA];exact Je nl n5.2 rfl
   .show D.list (cut (Cw nm) (some ((1:Nat):Int)) none)=_;rw[Dj];unfold Cw;rw[List.map_drop]
   .rfl
   .rw [AM];lia
   .exact (Cb x (O5 x hx)).2
   .exact λa ha=>(CB a (O5 a (Aj ha))).2.2
   .intro y hy;refine B6 (K.above y hy) ?_;intro wy ey;refine B6 (Q4 eL ey) ?_;intro v2 tL;exact⟨v2,wy,tL⟩
   .rw [sc.k];exact AD (by decide) hk
  .exact Je nl n5.2 rfl
  .rw [By,IU (f:=λx=>.str (tx (Bo G x))) kH];have e:G=nm.map λx=>(x,Bo G x):=by
    rw[eG];unfold FK;apply AW;intro x hx;rw[GG hx]
   conv=>rhs;rw[e]
   unfold dW;rw[AB];rfl
  .let R2:List (Str×D):=(S "signs",.dict (dW G))::R1;have kG:∀x∈nm,x∈G.map (·.1):=λx hx=>by rw[eG];unfold FK;rw[AB];exact AF.mpr ⟨x,hx,rfl⟩
   have kP:∀x∈nm,x∈P.map (·.1):=λx hx=>by rw[eP];unfold D0;rw[AB];exact AF.mpr ⟨x,hx,rfl⟩
   have pg:∀x∈nm,Cz P x=(Bo G x).map (CP i):=λx hx=>by
    rw[eP];unfold Cz D0;rw[LD (f:=λx=>(Bo G x).map (CP i)) hx];rfl
   refine Be.step (J':=(S "pieces",.dict (dP P))::R2) (Ex.sc E (d:=.dict (dP P)) (CE.ev (CE.eq (CE.Ke nm (λx=>.str (sg x)) (λV=>true) (λx=>sg x) (λx=>.list ((Cz P x).map .str)) (J0:=[(S "signs",.dict (dW G)),(S "hand",.obj (.ref (El i)))]) E.co (Bb.list Ev.n) (λx=>[(S "x",.str (sg x)),(S "signs",.dict (dW G)),(S "hand",.obj (.ref (El i)))]) (λV V h=>.tail _ h) (λV V V sc=>Bind.n) (λV V V V=>CM.nil)
    (λx hx V sP cJ=>⟨Ev.n,CE.ev (CE.eq (CE.C1 (Bo G x) (λs=>.str (sg s)) (λV=>true) (λs=>.str (CP i s)) (J0:=[(S "hand",.obj (.ref (El i)))]) cJ.co (Bb.tx (Ev.CR (d:=.str (tx (Bo G x))) Ev.n Ev.n (CN (kG x hx)))) (λs=>[(S "sign",.str (sg s)),(S "hand",.obj (.ref (El i)))]) (λV V h=>.tail _ h) (λV V V sc=>Bind.n) (λV V V V=>CM.nil)
     (λs hs V cc sc=>Ev.FW (fa:=El i) (k:=1) (ds:=[.str (sg s)]) Ev.n (.cons Ev.n .nil) (by rw[sc.w,cJ.w];exact HD [s] (λa ha=>by rw[AG.mp ha];exact gs x hx s hs) (AE rfl)) (by rw[sc.k,cJ.k];exact AD (by decide) hk) (U2 i i5)) ?_) ?_)⟩) ?_) ?_))) ?_
   .have:=fq x hx;exact lb this rfl
   .rw [By,pg x hx,AB];rfl
   .exact Je nl n5.2 rfl
   .rw [By,IU (f:=λx=>.list ((Cz P x).map .str)) kH];have e:P=nm.map λx=>(x,Cz P x):=by
     have:∀x∈nm,(x,Cz P x)=(x,(Bo G x).map (CP i)):=λx hx=>by rw[pg x hx]
     conv=>lhs;rw[eP]
     unfold D0;exact(AW this).symm
    conv=>rhs;rw[e]
    unfold dP;rw[AB];rfl
   .refine Be.if (b:=false) (CL.eq (CL.val (d:=.list []) (CE.ev (CE.eq (CE.C1 nm (λx=>.str (sg x)) (λV=>false) (λx=>.str (sg x)) (J0:=[(S "pieces",.dict (dP P)),(S "signs",.dict (dW G)),(S "hand",.obj (.ref (El i))),(S "number",.int (i:Nat))]) E.co (Bb.list Ev.n) (λx=>[(S "x",.str (sg x)),(S "pieces",.dict (dP P)),(S "signs",.dict (dW G)),(S "hand",.obj (.ref (El i))),(S "number",.int (i:Nat))]) (λV V h=>.tail _ h) (λV V V sc=>Bind.n) (λx hx cc sc=>CM.one ?_) (λx V h cc sc=>by cases h) ?_) ?_)) (Al _)) rfl) (λh=>by cases h) λV=>Be.nil y
    .have px:=pg x hx;have g5:=fq x hx;have sp:∀s∈Cz P x,PyData.strOk s=true/\s.length<=10:=λs hs=>by
      rw[px]at hs;refine Bi (AF.mp hs) ?_;rintro a ha rfl;exact WY i i5 a (gs x hx a ha)
     have pl:(Cz P x).length<=5:=by rw[px,AA];exact g5
     have f1:Gm 1 (.list ((Cz P x).map .str)):=.list λd hd=>by
      refine Bi (AF.mp hd) ?_;rintro s hs rfl;exact .str (sp s hs).1
     let q:Str:=Jc (Cz P x++Cz P x);have rN:PyData.strOk q=true:=Xx λs hs=>(sp s (by rcases Ar.mp hs with h|h<;>exact h)).1;refine CL.XB (a:=false) (b:=false) ?_ λV=>?_
     .refine CL.cmp (Bh.eq (Bh.W9 (n:=1) (m:=1) (a:=.list ((Cz P x).map .str)) (b:=.list ((Cz P x).map .str)) (Ev.CR Ev.n Ev.n (EP (kP x hx))) (Ev.eq (Ev.FW (fa:=278) (k:=1) (ds:=[.str (tx (Bo G x)),.int (i:Nat)]) Ev.g (.cons (Ev.CR Ev.n Ev.n (CN (kG x hx))) (.cons Ev.n .nil)) (VL cc.w 0 (Bo G x) i i5 (gs x hx) (lb g5 rfl)) (by rw[sc.k];exact AD (by decide) hk) ⟨_,_,_,_,_,MW⟩) ?_) f1 f1) ?_)
      .rw [px,AB];rfl
      .rw [EE (f:=D.str) DK];simp
     .refine CL.cmp (Bh.eq (Bh.W9 (n:=0) (m:=0) (a:=.str q) (b:=.str q) (Ev.eq (Ev.FW (fa:=El i) (k:=1) (ds:=[.str (tx (Bo G x++Bo G x))]) Ev.n (.cons (Ev.eq (Ev.bV (n:=2) (Ev.CR Ev.n Ev.n (CN (kG x hx))) Ev.cInt ?_) ?_) .nil) (by rw[sc.w];exact HD (Bo G x++Bo G x) (λa ha=>gs x hx a (by rcases Ar.mp ha with h|h<;>exact h)) (by rw[Ac];exact g9 g5 g5 rfl)) (by rw[sc.k];exact AD (by decide) hk) (U2 i i5)) ?_)
       (Ev.join (ys:=Cz P x++Cz P x) Ev.cStr (Ev.eq (Ev.iJ (Ev.CR Ev.n Ev.n (EP (kP x hx))) Ev.cInt ?_) ?_) ?_) (.str rN) (.str rN)) ?_)
      .rw [DY];exact⟨lb g5 rfl,by decide⟩
      .rw [YT]
      .rw [Af,<- px]
      .rw [AA];exact lb pl rfl
      .rw [Af]
      .have sm:∀l:List Str,(∀s∈l,s.length<=10)->(l.map (·.length)).sum<=10*l.length:=λl=>by
        induction l with
        |nil=>intro V;simp
        |cons s l ih=>
         intro h;rw[AI,BC,AZ];have:=h s (.head _);have:=ih λs hs=>h s (.tail _ hs);lia
       have h1:=sm (Cz P x++Cz P x) λs hs=>(sp s (by rcases Ar.mp hs with h|h<;>exact h)).2;rw[Ac]at h1;show _+_*0<=_;omega
      .rw [DK];simp
    .exact Je nl n5.2 rfl
    .rw [List.filter_eq_nil_iff.mpr (λx V h=>by cases h)];rfl
end
section
variable {c cc:Cx}{J J' KU J0:B4}{N:Eo}{R:Ct}{h h':Heap}{Z:Addr->Heap->Prop}
theorem Ex.Ym{y:Str}{np mp cp dp bp:Pos}{es es':Cy}{ls:BZ}{G:W2}{P:P2}{fr:List Env}(Sk:Dc c fr)(ow:∀x,c.own x)(ro:¬c.ro)(sub:∀b∈Bk fr,c.X b)(hk:4<=c.k)(O:KQ P G ls)(f:Ev c J (.Name x np) (.obj (.ref 295)))(a:FQ c J (e::es) [.list (Cw ls),.dict (dW G),.dict (dP P)])(g:∀D7,Ev (c.re D7) J (.Call (.Name y mp) es' [] dp) (.bool true))(he:autoParam (D9 c e es) Bd):Ex c J (.Return (some (.BoolOp .And [.Call (.Name x np) (e::es) [] cp,.Call (.Name y mp) es' [] dp] bp)) pos) N (λv h=>v=.bool true/\∃D7,Q8 fr c.h0 D7/\Bu c.M D7 h):=λs F Q E n r=>
 wpAny_Return_some (wpAny_And2 (wpAny_Call_NameR (f s F _ _ λv h1 t1 l1 r1=>by
  cases r1;have Ec:Le s.heap h1:=l1;refine BG (o:=Eu (Ba 30) (S "_law_book") .none CY (.ref 294)) (fd:=EW (Ba 30) (S "_law_book") .none CY (.ref 294)) rfl (a cp _ (F.le Ec) _ _ λvs h2 t2 l2 r2=>?_) he;have F2:=(F.le Ec).le l2;have Sa:∀b∈Bk (c.env::fr),c.X b:=λb m=>(Sk.DQ.mp m).elim (λe=>e▸F2.loc.1) (sub b);refine⟨F2.base.k _ _ (Iz.here _),fU c.w 0 (s:={s with heap:=h2,toks:=t2}) O (F.ok.CD hk) F2.base F2.Ck r2 Sk.fr (F2.Lv Sk) Sa λh3 t3 st=>?_⟩;refine EJ (F2.rebase Sk ow ro sub st) ?_;intro D7 rb F3 V;refine wpAny_truthy_bool ?_;refine g D7 {s with heap:=h3,toks:=t3} F3 _ _ λv h4 t4 l4 r4=>?_;cases r4;exact r _ h4 t4 ⟨rfl,D7,rb,(F3.le l4).old⟩)))
structure KT(cs:BZ)(a b m l:Nat)(ts:R2)(r:Nat)(th:TH)(nm:BZ)(B:A2)(G:W2)(P:P2):Prop where
 net:KV cs ts
 mJ:T8 cs a b=ts
 root:cs[m%cs.length]? = some r
 tree:M9 cs ts r (Zp (m/cs.length%3)) (decide (m/cs.length/3%2=1)) th nm
 Ot:UL nm (Ca th nm) (Cf cs ts)
 eB:B=Eg nm (Ca th nm) (Cf cs ts)
 eG:G=FK th nm B (l%7)
 eP:P=D0 nm G (l/7%5)
 sign:UP th nm B (l%7)
 book:KQ P G nm
 head:∃hd,nm.head? = some hd/\∀k y,nm[k]? = some y->∀x∈nm.take k,M5 (Cf cs ts) G P hd k y x
 good:∀x∈nm,∀s∈Cz P x,FE s
 long:∀x∈nm,(Bo G x).length+1=nm.length
def M4(w:World):Prop:=∀i<5,∀ss:List Nat,(∀a∈ss,a∈Bz)->ss.length<=20->DA w (El i) 1 [.str (tx ss)] (.str (Jc (ss.map (CP i))))
theorem handOk(w:World):M4 w:=λi hi ss hs hl=>fc w i hi ss hs hl
theorem aX(w:World){a b m l:Nat}{ts:R2}{r:Nat}{th:TH}{nm:BZ}{B:A2}{G:W2}{P:P2}(H:KT cs a b m l ts r th nm B G P)(HD:M4 w){fr:List Env}(ok:E9 24 A)(Bs:CW w s.heap)(xk:FU X s.heap)(rv:Bf X w s.heap vs [.list ([a,b,m,l].map λa=>.int (a:Nat)),.str (tx cs)])(ha:A.frames=some fr)(fs:Lu s.heap fr)(sub:∀b∈Bk fr,X b){E':CH}(q:∀h' tk,Step fr s.heap h'->Q (.bool true) {s with heap:=h',toks:=tk}):wpAny (model prog w) A (call (.ref 305) vs) Q E' s:=by
 refine wpAny_call ?_;refine Mo (HM.code w.params) ?_;intro oc vc tc ec dc qc;refine A7 (o:=Eu (Ba 32) (S "_law_holds") .none CY (.ref 304)) (fd:=EW (Ba 32) (S "_law_holds") .none CY (.ref 304)) ok.room (Bs.k _ _ (HM.here w.params)) rfl HM.plain.1 HM.plain.2 rfl ⟨304,oc,vc,tc,rfl,Bs.k _ _ ec,dc,qc⟩ ?_;have hb:bindArgs (EW (Ba 32) (S "_law_holds") .none CY (.ref 304)) ⟨vs,[]⟩=pure ([S "sums",S "names"].zip vs):=by
  have e:=rv.length;refine MC (Ou e) ?_;rintro v1 v2 rfl;rfl
 rw[hb];refine wpAny_pure (HN (k:=23) HM ok Bs xk (G:=Res.emp) trivial (λV z=>z.elim) (ds:=[.list ([a,b,m,l].map λa=>.int (a:Nat)),.str (tx cs)]) rv rv.length.symm (.of (by decide +kernel)) λc h1 t1 FA hA zz V F=>CC zz λfl ow=>?_)
 .have E:=FA.env;have Sk:=PA FA hA fl ha fs λb z=>z;have hk:20<=c.k:=by rw[FA.hk];decide
  have hX:∀b∈Bk fr,c.X b:=λb m=>FA.hX b (sub b m);have hw:c.w=w:=E.hw;have nl:=H.tree.len;have n5:=H.net.I0;have O5:∀x∈nm,x∈lows:=λx hx=>H.net.low x (H.tree.perm.mem_iff.mp hx);refine Bi H.head ?_;intro hd gC nN;have body:Be c (Jd cs [a,b,m,l]) [Bt (Ba 32)] (λV=>False) (λv h=>v=.bool true/\∃D7,Q8 fr c.h0 D7/\Bu c.M D7 h):=by
   refine az (rest:=[hS 5,hS 6,hS 7,hS 8,hS 9,hS 10,hS 11,hS 12,hS 13,hS 14,hS 15,hS 16,hS 17,hS 18]) E (AD (by decide) hk) H.net H.mJ (AE rfl) λnx ndx nl X1 OD=>?_;refine bA (c:=c.on X1 (c.G.star (CJ nx ndx nl (Bg (Dl ts))))) (rest:=[hS 9,hS 10,hS 11,hS 12,hS 13,hS 14,hS 15,hS 16,hS 17,hS 18]) E.on hk rfl H.net H.root H.tree λL X2 Hk eL=>?_;let c2:Cx:=c.on X2 ((c.G.star (CJ nx ndx nl (Bg (Dl ts)))).star (HI L));have E2:Bj c2 w (BY (Ba 32)) 23:=E.on;refine bB (c:=c2) (rest:=[hS 13,hS 14,hS 15,hS 16,hS 17,hS 18]) E2 hk (λX h z=>z.2.1) H.net H.tree eL H.Ot ?_;refine bD (c:=c2) (rest:=[hS 18]) E2 hk (λX h z=>z.2.1) H.net H.tree eL H.eB H.eG rfl H.eP H.sign (λss h1 h2=>by rw[E2.hw];exact HD _ (Nat.mod_lt _ (by decide)) ss h1 h2) ?_;have kG:∀x∈nm,x∈G.map (·.1):=λx hx=>by rw[H.eG];unfold FK;rw[AB];exact AF.mpr ⟨x,hx,rfl⟩
   have kP:∀x∈nm,x∈P.map (·.1):=λx hx=>by rw[H.eP];unfold D0;rw[AB];exact AF.mpr ⟨x,hx,rfl⟩
   have pg:∀x∈nm,Cz P x=(Bo G x).map (CP (l/7%5)):=λx hx=>by
    rw[H.eP];unfold Cz D0;rw[LD (f:=λx=>(Bo G x).map (CP (l/7%5))) hx];rfl
   have g:=Xv c.w 0 nm hd (Cf cs ts) G P (by lia) (λa ha=>(Cb a (O5 a ha)).2) gC kG kP H.Ot.has (λx hx=>⟨H.long x hx,λa ha=>H.sign.signs x hx a (by rw[<- H.eG];exact ha)⟩) (λx hx=>⟨by rw[pg x hx,AA];have:=H.long x hx;lia,H.good x hx⟩) nN;refine Be.ret (Ex.Ym (c:=c2) (ls:=nm) (G:=G) (P:=P) ⟨Sk.fr,Sk.own,Sk.Lv,Sk.mOff⟩ ow E2.ro (λb m=>Hk b (OD b (hX b m))) (AD (by decide) hk) H.book Ev.g (.cons Ev.n (.cons Ev.n (.cons Ev.n .nil))) λD7=>?_);have E3:Bj (c2.re D7) w (BY (Ba 32)) 23:=⟨E.hw,E.hs,E.hk,E.ro,E.slot⟩
   exact Ev.FW (c:=c2.re D7) (fa:=300) (k:=3) (ds:=[.list (Cw nm),.dict (dW G),.dict (dP P),.dict (dI (Cf cs ts))]) Ev.g (.cons Ev.n (.cons Ev.n (.cons Ev.n (.cons Ev.n .nil)))) g (AD (by decide) hk) ⟨_,_,_,_,_,OU⟩
  have z:=body {s with heap:=h1,toks:=t1} F (λf s'=>Q (match f with|.ret v=>v|_=>.none) s') (λe s'=>wpAny (model prog c.w) c.A (leaving c.env e) (λV Gd=>E' e Gd) (λe' Gd=>E' e' Gd) s') (λV V z=>z.elim) λv h' tk ⟨e,D7,rb,l⟩=>(by
   subst e;rw[FA.hh]at rb;exact q h' tk (rb.step.trans (.le (Bu.any l λb z=>Sk.mOff b z) fs.nt)))
  exact wpAny_mono z (λf s' k=>by cases f<;>exact k) λV V k=>k
end
noncomputable def QS(k:Nat->Int)(st:LS)(i:Nat):LS:=
 let sub:=st.dist+k i;let d:=st.row.getD i 0;let r:=min (min st.res d+2) sub;⟨d,r,if r<st.mn then r else st.mn,st.row.set i r⟩
noncomputable def JE(k:Nat->Int)(st:LS):Nat->LS
 |0=>st
 |n+1=>QS k (JE k st n) n
noncomputable def LQ(la:Nat)(K:Nat->Nat->Int):Nat->List Int×Int
 |0=>(J5 la,0)
 |j+1=>let st:=JE (λi=>K i j) (DP j (LQ la K j).1) la;(st.row,st.res)
noncomputable def kE(la:Nat)(K:Nat->Nat->Int)(j:Nat):Int:=(JE (λi=>K i j) (DP j (LQ la K j).1) la).mn
noncomputable def Zk(la lb:Nat)(K:Nat->Nat->Int)(m:Int):Int:=if(List.range lb).any (λj=>decide (m<kE la K j))then m+1 else(LQ la K lb).2
noncomputable def SP(la lb:Nat)(K:Nat->Nat->Int)(m:Int):Int:=if m<((lb:Int)-la)*2 then m+1 else Zk la lb K m
noncomputable def bS(la lb:Nat)(K:Nat->Nat->Int)(m:Int):Int:=
 if la=0\/lb=0 then 2*((la:Int)+lb)
 else if 40<la\/40<lb then m+1
 else if lb<la then SP lb la (λi j=>K j i) m else SP la lb K m
noncomputable def PD(f:Nat->Bool):Nat->Nat
 |0=>0
 |n+1=>if f 0 then PD (λi=>f (i+1)) n+1 else 0
noncomputable def QZ(la lb:Nat)(K:Nat->Nat->Int)(m:Int):Int:=
 let p:=PD (λi=>decide (K i i=0)) (min la lb);let q:=PD (λi=>decide (K (la-1-i) (lb-1-i)=0)) (min la lb-p);if la=lb/\p=la then 0 else bS (la-p-q) (lb-p-q) (λi j=>K (p+i) (p+j)) m
theorem j4{p q:Prop}[Decidable p][Decidable q]{x y u v:α}(h:p↔q)(e1:x=u)(e2:y=v):ite p x y=ite q u v:=by
 by_cases hp:p
 .rw [if_pos hp,if_pos (h.mp hp),e1]
 .rw [if_neg hp,if_neg λz=>hp (h.mpr z),e2]
theorem Me(bc:Str)(a:B3)(st:LS)(k:Nat->Int):∀n ≤a.length,(∀i<n,k i=DE bc (a.getD i ⟨#[]⟩))->JE k st n=C5 bc a st n:=by
 intro l;induction l with
 |zero=>exact λV V=>rfl
 |succ n ih=>
  intro h e;show QS k (JE k st n) n=inner bc a (C5 bc a st n) n;rw[ih (by exact A5 h) λi hi=>e i (by exact Nat.lt_add_right 1 hi)];unfold QS inner;rw[e n (by exact Nat.lt_add_one n)]
theorem JK(a b:B3)(K:Nat->Nat->Int)(e:∀i<a.length,∀j<b.length,K i j=DE (b.getD j ⟨#[]⟩) (a.getD i ⟨#[]⟩)):∀j ≤b.length,LQ a.length K j=CZ a b j
 |0,_=>rfl
 |j+1,h=>by
  show(let st:=JE (λi=>K i j) (DP j (LQ a.length K j).1) a.length;(st.row,st.res))=(let st:=C5 (b.getD j ⟨#[]⟩) a (DP j (CZ a b j).1) a.length;(st.row,st.res));rw[JK a b K e j (by exact A5 h),Me (b.getD j ⟨#[]⟩) a _ (λi=>K i j) _ (Ad _) λi hi=>e i hi j (by exact Nat.lt_of_succ_le h)]
theorem PJ(a b:B3)(K:Nat->Nat->Int)(m:Int)(e:∀i<a.length,∀j<b.length,K i j=DE (b.getD j ⟨#[]⟩) (a.getD i ⟨#[]⟩)):SP a.length b.length K m=ES a b m:=by
 have h1:∀j<b.length,kE a.length K j=Qd a b j:=λj hj=>by
  unfold kE Qd;rw[JK a b K e j (by exact A5 hj),Me (b.getD j ⟨#[]⟩) a _ (λi=>K i j) _ (Ad _) λi hi=>e i hi j hj]
 have h2:(List.range b.length).any (λj=>decide (m<kE a.length K j))=(List.range b.length).any (λj=>decide (m<Qd a b j)):=by
  rw[Bool.eq_iff_iff,Aq,Aq];exact exists_congr λj=>and_congr_right λhj=>by rw[h1 j (BB.mp hj)]
 unfold SP ES Zk Fd;rw[h2,JK a b K e _ (Ad _)]
theorem Lb(a b:Str):DE a b=DE b a:=j4 eq_comm rfl (j4 eq_comm rfl rfl)
theorem YS(a b:B3)(K:Nat->Nat->Int)(m:Int)(e:∀i<a.length,∀j<b.length,K i j=DE (a.getD i ⟨#[]⟩) (b.getD j ⟨#[]⟩)):bS a.length b.length K m=Eh a b m:=by
 unfold bS Eh;rw[PJ b a (λi j=>K j i) m λi hi j hj=>e j hj i hi,PJ a b K m λi hi j hj=>(e i hi j hj).trans (Lb _ _)];exact j4 (or_congr List.length_eq_zero_iff List.length_eq_zero_iff) rfl rfl
theorem cB{f:Nat->Bool}{n:Nat}:PD f (n+1)=if f 0 then PD (λi=>f (i+1)) n+1 else 0:=rfl
theorem Ny:∀(a b:B3) (f:Nat->Bool) (n:Nat),n=min a.length b.length->(∀i<n,f i=decide (a.getD i ⟨#[]⟩=b.getD i ⟨#[]⟩))->PD f n=B0 a b
 |[],b,f,n,h,e=>by rw[h,BS,Nat.zero_min];cases b<;>rfl
 |x::a,[],f,n,h,e=>by rw[h,BS,Nat.min_zero];rfl
 |x::a,y::b,f,n,h,e=>by
  have hn:n=min a.length b.length+1:=by rw[h,AZ,AZ];exact Nat.add_min_add_right a.length b.length 1
  rw[hn,cB,Hr];have e0:=e 0 (by exact Nat.lt_of_sub_eq_succ hn);rw[List.getD_cons_zero,List.getD_cons_zero]at e0;rw[e0,Ny a b (λi=>f (i+1)) (min a.length b.length) rfl λi hi=>by
   have:=e (i+1) (hn▸Nat.succ_lt_succ hi);rw[List.getD_cons_succ,List.getD_cons_succ]at this;exact this]
  by_cases hxy:x=y<;>simp[hxy]
theorem Lc(a b:Str):(DE a b=0)=(a=b):=by
 unfold DE;by_cases h:a=b
 .simp [h]
 .rw [if_neg h];by_cases h2:Txt.lower a=Txt.lower b<;>simp[h,h2]
theorem PC:∀(a b:B3),(a=b)↔(a.length=b.length/\B0 a b=a.length)
 |[],[]=>⟨λV=>⟨rfl,rfl⟩,λV=>rfl⟩
 |[],y::b=>by simp
 |x::a,[]=>by simp
 |x::a,y::b=>by
  rw[Hr,List.cons.injEq,PC a b];by_cases h:x=y<;>simp[h]
theorem Oc(l:B3)(p q i:Nat)(h:i<l.length-p-q):((l.drop p).take ((l.drop p).length-q)).getD i ⟨#[]⟩=l.getD (p+i) ⟨#[]⟩:=by
 rw[AN,AN,List.getElem?_take,if_pos (by rw[AM];exact Nat.lt_of_succ_le h),List.getElem?_drop]
theorem Np(a b:B3)(K:Nat->Nat->Int)(m:Int)(e:∀i<a.length,∀j<b.length,K i j=DE (a.getD i ⟨#[]⟩) (b.getD j ⟨#[]⟩)):Gp a b m=QZ a.length b.length K m:=by
 have hp:PD (λi=>decide (K i i=0)) (min a.length b.length)=B0 a b:=Ny a b _ _ rfl λi hi=>by
  rw[e i (Nat.lt_min.mp hi).1 i (Nat.lt_min.mp hi).2,decide_eq_decide,Lc]
 have xA:=HP a b;have rv:∀(l:B3) i,i<l.length-B0 a b->((l.drop (B0 a b)).reverse).getD i ⟨#[]⟩=l.getD (l.length-1-i) ⟨#[]⟩:=λl i hi=>by
  rw[AN,AN,List.getElem?_reverse (by rw[AM];exact hi),List.getElem?_drop,AM];congr 2;exact pK hi
 have hq:PD (λi=>decide (K (a.length-1-i) (b.length-1-i)=0)) (min a.length b.length-B0 a b)=B0 (a.drop (B0 a b)).reverse (b.drop (B0 a b)).reverse:=Ny _ _ _ _ (by rw[Au,Au,AM,AM];exact Eq.symm (Nat.sub_min_sub_right a.length b.length (B0 a b))) λi hi=>by
  rw[e _ (pL (sG hi)) _ (pL (sH hi)),decide_eq_decide,Lc,rv a i (sI hi),rv b i (sJ hi)]
 have vd:=HP (a.drop (B0 a b)).reverse (b.drop (B0 a b)).reverse;rw[Au,Au,AM,AM]at vd;unfold Gp QZ;dsimp only;rw[hp,hq];refine j4 (PC a b) rfl ?_
 .have l1:(mid a b).length=a.length-B0 a b-B0 (a.drop (B0 a b)).reverse (b.drop (B0 a b)).reverse:=by unfold mid;rw[Ae,AM,je]
  have l2:(Js a b).length=b.length-B0 a b-B0 (a.drop (B0 a b)).reverse (b.drop (B0 a b)).reverse:=by unfold Js;rw[Ae,AM,je]
  rw[<- l1,<- l2];refine(YS (mid a b) (Js a b) _ m λi hi j hj=>?_).symm;rw[l1]at hi;rw[l2]at hj;rw[e _ (pM hi) _ (pM hj)];unfold mid Js;have bl:(b.drop (B0 a b)).length-B0 (a.drop (B0 a b)).reverse (b.drop (B0 a b)).reverse=(b.drop (B0 a b)).length-B0 (a.drop (B0 a b)).reverse (b.drop (B0 a b)).reverse:=rfl;rw[Oc a _ _ i hi,Oc b _ _ j hj]
noncomputable def Lp:Nat->List (List Nat)
 |0=>[[]]
 |n+1=>(Lp n).flatMap λv=>[0::v,1::v,2::v]
noncomputable def H3(v:BZ)(i j:Nat):Int:=if Nat.beq i j then(v.getD i 0:Nat)else 2
noncomputable def PR(k j:Nat):Nat:=if Nat.blt j k then j else j+1
noncomputable def RI(v:BZ)(k i j:Nat):Int:=H3 v i (PR k j)
noncomputable def HV(v:BZ):Int:=(v.sum:Nat)
noncomputable def PY(v:BZ)(k:Nat):Int:=((v.eraseIdx k).sum+2:Nat)
noncomputable def kM(n:Nat)(v:BZ):Bool:=
 let s:=HV v;QZ n n (H3 v) s==s&&QZ n n (H3 v) (2*(n+1:Nat))==s&&decide (s<=QZ n n (H3 v) (s-1))
noncomputable def kL(n:Nat)(v:BZ)(k:Nat):Bool:=
 let s:=PY v k;QZ n (n-1) (RI v k) s==s&&decide (2<=QZ (n-1) n (λi j=>RI v k j i) 1)
theorem oS:(Lp 3).all (kM 3)=true:=by decide +kernel
theorem oT:(Lp 4).all (kM 4)=true:=by decide +kernel
theorem oQ:(Lp 3).all (λv=>(List.range 3).all (kL 3 v))=true:=by decide +kernel
theorem oR:(Lp 4).all (λv=>(List.range 4).all (kL 4 v))=true:=by decide +kernel
theorem Pe:∀v:List Nat,(∀d∈v,d<=2)->v∈Lp v.length
 |[],_=>.head _
 |d::v,h=>by
  refine Am.mpr ⟨v,Pe v λe he=>h e (.tail _ he),?_⟩;have:=h d (.head _);match d,this with
  |0,_=>exact .head _
  |1,_=>exact .tail _ (.head _)
  |2,_=>exact .tail _ (.tail _ (.head _))
theorem ig{n:Nat}(hn:n=3\/n=4){v:BZ}(h:v∈Lp n):kM n v=true:=by
 rcases hn with rfl|rfl
 .exact Ah.mp oS v h
 .exact Ah.mp oT v h
theorem ie{n:Nat}(hn:n=3\/n=4){v:BZ}(h:v∈Lp n)(hk:k<n):kL n v k=true:=by
 rcases hn with rfl|rfl
 .exact Ah.mp (Ah.mp oQ v h) k (BB.mpr hk)
 .exact Ah.mp (Ah.mp oR v h) k (BB.mpr hk)
theorem Vt{n:Nat}(hn:n=3\/n=4){a b:B3}{v:BZ}(la:a.length=n)(lb:b.length=n)(hv:v∈Lp n)(hK:∀i<n,∀j<n,H3 v i j=DE (a.getD i ⟨#[]⟩) (b.getD j ⟨#[]⟩)) :
  Gp a b (HV v)=HV v/\Gp a b (2*(n+1:Nat))=HV v/\HV v<=Gp a b (HV v-1):=by
 have e:=λm=>Np a b (H3 v) m (by rw[la,lb];exact hK);rw[la,lb]at e;have h:=ig hn hv;unfold kM at h;simp only[Bool.and_eq_true,beq_iff_eq,decide_eq_true_eq]at h;rw[e,e,e];exact⟨h.1.1,h.1.2,h.2⟩
theorem PS(b:B3)(k j:Nat)(hk:k<b.length):(b.take k++b.drop (k+1)).getD j ⟨#[]⟩=b.getD (PR k j) ⟨#[]⟩:=by
 rw[AN,AN,List.getElem?_append,Ae,Nat.min_eq_left (by exact A5 hk)];unfold PR;by_cases h:j<k
 .rw [if_pos h,show Nat.blt j k=true by rw[Nat.blt_eq];exact h,List.getElem?_take,if_pos h];rfl
 .rw [if_neg h,show Nat.blt j k=false by rw[Bool.eq_false_iff];intro z;rw[Nat.blt_eq]at z;exact h z,List.getElem?_drop,show k+1+(j-k)=j+1 by rw[Nat.add_right_comm,Nat.add_sub_cancel' (Nat.le_of_not_lt h)]];rfl
theorem TM{n:Nat}(hn:n=3\/n=4){a b:B3}{v:BZ}(la:a.length=n)(lb:b.length=n)(hv:v∈Lp n)(hk:k<n)(hK:∀i<n,∀j<n,H3 v i j=DE (a.getD i ⟨#[]⟩) (b.getD j ⟨#[]⟩)) :
  Gp a (b.take k++b.drop (k+1)) (PY v k)=PY v k/\2<=Gp (b.take k++b.drop (k+1)) a 1:=by
 have lc:(b.take k++b.drop (k+1)).length=n-1:=by rw[Ac,Ae,AM,lb,Nat.min_eq_left (A4 hk)];exact lF hk
 have sk:∀j<n-1,PR k j<n:=λj hj=>by
  unfold PR;cases Nat.blt j k
  .show j+1<n;exact Nat.add_lt_of_lt_sub hj
  .show j<n;exact Nat.lt_of_lt_pred hj
 have e1:=Np a (b.take k++b.drop (k+1)) (RI v k) (PY v k) (by
  rw[la,lc];intro i hi j hj;rw[PS b k j (by exact BE hk (id (Eq.symm lb)))];exact hK i hi _ (sk j hj))
 have e2:=Np (b.take k++b.drop (k+1)) a (λi j=>RI v k j i) 1 (by
  rw[la,lc];intro i hi j hj;rw[PS b k i (by exact BE hk (id (Eq.symm lb))),Lb];exact hK j hj _ (sk i hi))
 rw[la,lc]at e1 e2;have h:=ie hn hv hk;unfold kL at h;simp only[Bool.and_eq_true,beq_iff_eq,decide_eq_true_eq]at h;rw[e1,e2];exact h
theorem JL:∀(a b:B3) (i:Nat),i<a.length->i<b.length->a.getD i ⟨#[]⟩≠b.getD i ⟨#[]⟩->B0 a b<=i
 |x::a,y::b,0,_,_,h=>by
  have h':x≠y:=h;rw[Hr,if_neg h'];exact Ad 0
 |x::a,y::b,i+1,h1,h2,h=>by
  rw[Hr];by_cases e:x=y
  .rw [if_pos e];exact Nat.succ_le_succ (JL a b i (Nat.lt_of_succ_lt_succ h1) (Nat.lt_of_succ_lt_succ h2) h)
  .rw [if_neg e];exact Al _
theorem Vs{a b:B3}{n m:Nat}(la:a.length=n)(lb:b.length=n)(h1:k<n)(h2:m<n)(e1:a.getD k ⟨#[]⟩≠b.getD k ⟨#[]⟩)(e2:a.getD (n-1-m) ⟨#[]⟩≠b.getD (n-1-m) ⟨#[]⟩)(hl:k+m+41<=n)(c:Int):Gp a b c=c+1:=by
 have p1:=JL a b k (by exact BE h1 (id (Eq.symm la))) (by exact BE h1 (id (Eq.symm lb))) e1;have p2:B0 (a.drop (B0 a b)).reverse (b.drop (B0 a b)).reverse<=m:=by
  refine JL _ _ m (by rw[Au,AM];exact XI hl p1 la) (by rw[Au,AM];exact XI hl p1 lb) ?_;have rv:∀l:List Str,l.length=n->((l.drop (B0 a b)).reverse).getD m ⟨#[]⟩=l.getD (n-1-m) ⟨#[]⟩:=λl hn=>by
   rw[AN,AN,List.getElem?_reverse (by rw[AM];exact XI hl p1 hn),List.getElem?_drop,AM];congr 2;rw[hn];exact pK (XI hl p1 rfl)
  rw[rv a la,rv b lb];exact e2
 have Hl:a≠b:=λz=>e1 (by rw[z]);unfold Gp;rw[if_neg Hl];have l1:(mid a b).length=n-B0 a b-B0 (a.drop (B0 a b)).reverse (b.drop (B0 a b)).reverse:=by unfold mid;rw[Ae,AM,je,la]
 have l2:(Js a b).length=n-B0 a b-B0 (a.drop (B0 a b)).reverse (b.drop (B0 a b)).reverse:=by unfold Js;rw[Ae,AM,je,lb]
 unfold Eh;have g1:=eO hl p1 p2 l1;have g2:=eO hl p1 p2 l2;rw[if_neg (λz=>z.elim (λz=>Nat.not_lt_zero 40 (by rw[z]at g1;exact g1)) λz=>Nat.not_lt_zero 40 (by rw[z]at g2;exact g2)),if_pos (.inl g1)]
theorem Yl(c:BZ):(Dg c).length=20*c.length:=by unfold Dg;rw[List.length_flatten,List.map_replicate,List.sum_replicate_nat]
theorem Yk(c:BZ)(i j:Nat)(hi:i<c.length)(hj:j<20):(Dg c)[j*c.length+i]? = c[i]?:=by
 unfold Dg;generalize 20=N at hj;induction N generalizing j with
 |zero=>exact absurd hj (Nat.not_lt_zero _)
 |succ N ih=>
  rw[List.replicate_succ,List.flatten_cons];cases j with
  |zero=>rw[Nat.zero_mul,Nat.zero_add,List.getElem?_append_left hi]
  |succ j=>
   rw[List.getElem?_append_right lG,lH];exact ih j (Nat.lt_of_succ_lt_succ hj)
theorem YP{x y:BZ}{n i:Nat}(hn:n=3\/n=4)(lx:x.length=n)(ly:y.length=n)(hi:i<n)(Hl:x.getD i 0≠y.getD i 0):Jr (Dg x) (Dg y) 200=201:=by
 have lr:∀c:List Nat,c.length=n->((Dg c).map sg).length=20*n:=λc hc=>by rw[AA,Yl,hc]
 have gt:∀c:List Nat,c.length=n->∀j<20,((Dg c).map sg).getD (j*n+i) ⟨#[]⟩=sg (c.getD i 0):=λc hc j hj=>by
  have:=Yk c i j (by exact BE hi (id (Eq.symm hc))) hj;rw[hc]at this;rw[AN,AL,this,AN,AU (by exact BE hi (id (Eq.symm hc)))];rfl
 have ne:∀j<20,((Dg x).map sg).getD (j*n+i) ⟨#[]⟩≠((Dg y).map sg).getD (j*n+i) ⟨#[]⟩:=λj hj=>by
  rw[gt x lx j hj,gt y ly j hj];exact λz=>Hl (Ek z)
 have n0:=ne 0 (by decide);have n1:=ne 19 (by decide);rw[Nat.zero_mul,Nat.zero_add]at n0;refine Vs (k:=i) (m:=n-1-i) (lr x lx) (lr y ly) (XJ hn hi).1 (XJ hn hi).2.1 n0 ?_ (XJ hn hi).2.2.1 200;rw[(XJ hn hi).2.2.2];exact n1
noncomputable def bi(b:Bool)(t e:α):α:=@Bool.rec (λV=>α) e t b
noncomputable def Qb(a:Nat):Nat:=bi (Nat.ble 97 a) a (Nat.add a 32)
noncomputable def IJ(a b:Nat):Bool:=Nat.beq (Qb a) (Qb b)
noncomputable def Fm{β:Type}(f:α->β)(l:List α):List β:=@List.rec α (λV=>List β) [] (λa V ih=>f a::ih) l
noncomputable def Su(p:α->Bool)(l:List α):List α:=@List.rec α (λV=>List α) [] (λa V ih=>bi (p a) (a::ih) ih) l
noncomputable def anyF(p:α->Bool)(l:List α):Bool:=@List.rec α (λV=>Bool) false (λa V ih=>bi (p a) true ih) l
noncomputable def Gu(p:α->Bool)(l:List α):Bool:=@List.rec α (λV=>Bool) true (λa V ih=>bi (p a) ih false) l
noncomputable def Gv(l m:List α):List α:=@List.rec α (λV=>List α) m (λa V ih=>a::ih) l
noncomputable def OZ{β:Type}(f:β->α->β)(l:List α)(b:β):β:=@List.rec α (λV=>β->β) (λb=>b) (λa V ih b=>ih (f b a)) l b
noncomputable def Ks{β:Type}(f:α->List β)(l:List α):List β:=@List.rec α (λV=>List β) [] (λa V ih=>Gv (f a) ih) l
noncomputable def II(l:List α):Nat:=@List.rec α (λV=>Nat) 0 (λV V ih=>Nat.succ ih) l
theorem De(b:Bool)(t e:α):bi b t e=if b=true then t else e:=by cases b<;>rfl
theorem DM{β:Type}(f:α->β)(l:List α):Fm f l=l.map f:=by
 induction l with
 |nil=>rfl
 |cons a l ih=>exact congrArg (f a::·) ih
theorem NO(p:α->Bool)(l:List α):Su p l=l.filter p:=by
 induction l with
 |nil=>rfl
 |cons a l ih=>
  show bi (p a) (a::Su p l) (Su p l)=_;rw[ih,A8,De]
theorem HJ(p:α->Bool)(l:List α):anyF p l=l.any p:=by
 induction l with
 |nil=>rfl
 |cons a l ih=>
  show bi (p a) true (anyF p l)=_;rw[ih,List.any_cons];cases p a<;>rfl
theorem Es(p:α->Bool)(l:List α):Gu p l=l.all p:=by
 induction l with
 |nil=>rfl
 |cons a l ih=>
  show bi (p a) (Gu p l) false=_;rw[ih,List.all_cons];cases p a<;>rfl
theorem Hy(l m:List α):Gv l m=l++m:=by
 induction l with
 |nil=>rfl
 |cons a l ih=>exact congrArg (a::·) ih
theorem Gx{β:Type}(f:β->α->β):∀(l:List α) (b:β),OZ f l b=l.foldl f b
 |[],_=>rfl
 |a::l,b=>Gx f l (f b a)
theorem H9{β:Type}(f:α->List β)(l:List α):Ks f l=l.flatMap f:=by
 induction l with
 |nil=>rfl
 |cons a l ih=>show Gv (f a) (Ks f l)=_;rw[ih,Hy,AX]
theorem GR(l:List α):II l=l.length:=by
 induction l with
 |nil=>rfl
 |cons a l ih=>exact congrArg Nat.succ ih
theorem IL(a:Nat):Qb a=Ch a:=by
 unfold Qb Ch;rw[De];by_cases h:a<97
 .rw [if_pos h,if_neg (by rw[Nat.ble_eq];exact Nat.not_le_of_lt h)]
 .rw [if_neg h,if_pos (by rw[Nat.ble_eq];exact Nat.le_of_not_lt h)]
theorem HU(a b:Nat):Nat.beq a b=(a==b):=by rw[Bool.eq_iff_iff,Nat.beq_eq];simp
theorem IK(a b:Nat):IJ a b=(Ch a==Ch b):=by unfold IJ;rw[IL,IL,HU]
noncomputable def VN(net:R2)(q:Nat):List Nat:=@List.rec (Nat×Nat) (λV=>List Nat) [] (λp V ih=>bi (IJ p.1 q) (p.2::ih) ih) net
theorem Rb(net:R2)(q:Nat):VN net q=C8 net q:=by
 induction net with
 |nil=>rfl
 |cons p l ih=>
  show bi (IJ p.1 q) (p.2::VN l q) (VN l q)=_;rw[ih,IK,De];unfold C8;rw[A8];split<;>rfl
noncomputable def aS(r:R2)(q:Nat):Option Nat:=@List.rec (Nat×Nat) (λV=>Option Nat) none (λp V ih=>bi (IJ p.1 q) (some p.2) ih) r
theorem Xr(r:R2)(q:Nat):aS r q=C3 r q:=by
 induction r with
 |nil=>rfl
 |cons p l ih=>
  show bi (IJ p.1 q) (some p.2) (aS l q)=_;rw[ih,IK,De];unfold C3;rw[List.find?_cons];split
  .next h=>rw[h];rfl
  .next h=>rw[Bool.eq_false_iff.mpr h]
noncomputable def Oh(r:R2)(q:Nat):Bool:=anyF (λp=>IJ p.1 q) r
theorem Rc(r:R2)(q:Nat):Oh r q=(C3 r q).isSome:=by
 unfold Oh;rw[HJ];unfold C3;rw[Option.isSome_map,Bool.eq_iff_iff,List.find?_isSome,Aq];simp only[IK]
noncomputable def Yq(r:R2)(q v:Nat):R2:=@List.rec (Nat×Nat) (λV=>R2) [(q,v)] (λp V ih=>bi (IJ p.1 q) ih (p::ih)) r
theorem Yr(r:R2)(q v:Nat):Yq r q v=EK r q v:=by
 induction r with
 |nil=>rfl
 |cons p l ih=>
  show bi (IJ p.1 q) (Yq l q v) (p::Yq l q v)=_;rw[ih,IK,De];unfold EK;rw[A8];cases Ch p.1==Ch q<;>rfl
noncomputable def oz(r:R2)(q v:Nat):R2:=bi (Oh r q) r (Gv r [(q,v)])
theorem cK(r:R2)(q v:Nat):oz r q v=Tu r q v:=by unfold oz Tu;rw[De,Rc,Hy]
noncomputable def QG(late:Bool)(net seen:R2)(lvl:BZ):R2:=
 OZ (λf p=>OZ (λf q=>oz (bi late (Yq f q p) f) q p) (Su (λq=>bi (Oh seen q) false true) (VN net p)) f) lvl []
theorem Sx(late:Bool)(net seen:R2)(lvl:BZ):QG late net seen lvl=GN late net seen lvl:=by
 unfold QG GN;rw[Gx];congr 1;funext f p;unfold LZ FX;rw[Gx,NO,Rb];congr 1
 .funext f q;unfold IV Zn;rw[cK,Yr,De]
 .congr 1;funext q;rw[De,Rc];cases C3 seen q<;>rfl
noncomputable def Wk(f:R2):R2:=Fm (λr=>(Qb r.1,@Option.rec Nat (λV=>Nat) 0 (λv=>v) (aS f r.1))) f
theorem Wm(f:R2):Wk f=Gl f:=by
 unfold Wk Gl;rw[DM];congr 1;funext r;rw[IL,Xr];cases C3 f r.1<;>rfl
noncomputable def GW(l:BZ)(a:Nat):Bool:=anyF (λx=>Nat.beq a x) l
theorem GY(l:BZ)(a:Nat):GW l a=l.contains a:=by
 unfold GW;rw[HJ];induction l with
 |nil=>rfl
 |cons x l ih=>rw[List.any_cons,List.contains_cons,ih,HU]
noncomputable def V5(near:EB)(p:Nat):List Nat:=@List.rec (Nat×List Nat) (λV=>List Nat) [] (λx V ih=>bi (Nat.beq p x.1) x.2 ih) near
theorem V6(near:EB)(p:Nat):V5 near p=HA near p:=by
 induction near with
 |nil=>rfl
 |cons x l ih=>
  show bi (Nat.beq p x.1) x.2 (V5 l p)=_;rw[ih,De];obtain⟨a,b⟩:=x;unfold HA;rw[AK,HU];cases p==a<;>rfl
noncomputable def Qi(near:EB)(tags:BZ)(lvl:BZ):R2:=
 Ks (λp=>Fm (λq=>(Qb q,p)) (Su (λq=>bi (GW tags (Qb q)) false true) (V5 near p))) lvl
theorem bi_not(b:Bool):bi b false true=!b:=by cases b<;>rfl
theorem Tb(near:EB)(th:TH)(lvl:BZ):Qi near (CS th) lvl=D4 near th lvl:=by
 unfold Qi D4;rw[H9];congr 1;funext p;rw[DM,NO,V6];congr 1
 .funext q;rw[IL]
 .congr 1;funext q;rw[bi_not,GY,IL]
noncomputable def Sy(l:R2)(a:Nat):Bool:=anyF (λx=>Nat.beq a x.1) l
theorem RZ(l:R2)(a:Nat):Sy l a=(l.map (·.1)).contains a:=by
 rw[<- GY];unfold Sy GW;rw[HJ,HJ,List.any_map];rfl
noncomputable def Xd(l:R2):R2:=@List.rec (Nat×Nat) (λV=>R2) [] (λx tl ih=>bi (Sy tl x.1) ih (x::ih)) l
noncomputable def Xf(l:R2):R2->R2:=@List.rec (Nat×Nat) (λV=>R2->R2) (λV=>[]) (λx V ih pre=>bi (Sy pre x.1) (ih (x::pre)) (x::ih (x::pre))) l
theorem Xe(all:R2):∀(l:R2) (n:Nat),all.drop n=l->Xd l=((l.zipIdx n).filter λx=>!((all.drop (x.2+1)).map (·.1)).contains x.1.1).map (·.1):=by
 intro l;induction l with
 |nil=>exact λV V=>rfl
 |cons x l ih=>
  intro n h;have h2:all.drop (n+1)=l:=by rw[<- List.drop_drop,h];rfl
  show bi (Sy l x.1) (Xd l) (x::Xd l)=_;rw[List.zipIdx_cons,A8,ih (n+1) h2,De,RZ];dsimp only;rw[h2];cases(l.map (·.1)).contains x.1<;>rfl
theorem Xg(all:R2):∀(l:R2) (n:Nat) (pre:R2),all.drop n=l->(∀a,(pre.map (·.1)).contains a=((all.take n).map (·.1)).contains a)->Xf l pre=((l.zipIdx n).filter λx=>!((all.take x.2).map (·.1)).contains x.1.1).map (·.1):=by
 intro l;induction l with
 |nil=>exact λV V V V=>rfl
 |cons x l ih=>
  intro n pre h hp;have h2:all.drop (n+1)=l:=by rw[<- List.drop_drop,h];rfl
  have hx:all[n]? = some x:=by rw[<- List.head?_drop,h];rfl
  show bi (Sy pre x.1) (Xf l (x::pre)) (x::Xf l (x::pre))=_;rw[List.zipIdx_cons,A8,ih (n+1) (x::pre) h2 λa=>by
   rw[A3,hx,AI,List.contains_cons,hp,Af,List.contains_append,Bool.or_comm];congr 1;show(a==x.1)=(a==x.1||false);rw[Bool.or_false],De,RZ,hp]
  dsimp only;cases((all.take n).map (·.1)).contains x.1<;>rfl
noncomputable def aN(late:Bool)(l:R2):R2:=bi late (Xd l) (Xf l [])
theorem Xh(late:Bool)(l:R2):aN late l=NL late l:=by
 unfold aN NL;cases late with
 |true=>exact Xe l l 0 rfl
 |false=>exact Xg l l 0 [] rfl λa=>by simp
noncomputable def mE:R2->R2->Bool:=λa=>@List.rec (Nat×Nat) (λV=>R2->Bool) (λb=>@List.rec (Nat×Nat) (λV=>Bool) true (λV V V=>false) b) (λx V ih b=>@List.rec (Nat×Nat) (λV=>Bool) false (λy tl V=>bi (Nat.beq x.1 y.1) (bi (Nat.beq x.2 y.2) (ih tl) false) false) b) a
theorem Us:∀(a b:R2),mE a b=true->a=b
 |[],[],_=>rfl
 |[],_::_,h=>by cases h
 |_::_,[],h=>by cases h
 |x::a,y::b,h=>by
  have h':bi (Nat.beq x.1 y.1) (bi (Nat.beq x.2 y.2) (mE a b) false) false=true:=h;rw[De,De]at h';split at h'
  .next h1=>
   split at h'
   .next h2=>rw[Us a b h',Prod.ext (BL h1) (BL h2)]
   .cases h'
  .cases h'
noncomputable def kF(l:BZ):Bool:=@List.rec Nat (λV=>Bool) true (λa tl ih=>bi (GW tl a) false ih) l
theorem V3:∀l:List Nat,kF l=true->l.Nodup:=by
 intro l;induction l with
 |nil=>exact λV=>.nil
 |cons a l ih=>
  intro h;have h':bi (GW l a) false (kF l)=true:=h;rw[De,GY]at h';split at h'
  .cases h'
  .next h1=>exact List.nodup_cons.mpr ⟨by simpa using h1,ih h'⟩
theorem FJ(l:BZ)(a:Nat):GW l a=true↔a∈l:=by rw[GY];exact List.contains_iff_mem
noncomputable def bz(tags keys:BZ)(x:Nat×Nat):Bool:=bi (GW tags x.2) (bi (GW lows x.1) (bi (GW lows x.2) (GW keys x.1) false) false) false
noncomputable def b0(tags keys:BZ)(seen told pairs:R2):Bool:=
 bi (kF (Gv tags (Fm (·.1) told))) (bi (Gu (bz tags keys) told) (bi (Nat.ble (II told) 4) (bi (Nat.ble (II tags) 16) (bi (Nat.ble (II seen) 96) (Nat.ble (II pairs) 100) false) false) false) false) false
theorem bi_and{b c:Bool}(h:bi b c false=true):b=true/\c=true:=by cases b<;>cases c<;>first|exact⟨rfl,rfl⟩|cases h
noncomputable def Pc(late:Bool)(net:R2)(near:EB)(keys:BZ)(s:St):Option St:=
 (λtags told pairs=>bi (mE told (aN late pairs)) (bi (b0 tags keys s.seen told pairs) (some ⟨Fm (·.1) told,Gv s.seen told,OZ Fu told s.th⟩) none) none) (Fm (·.1) s.th) (Wk (QG late net s.seen s.lvl)) (Qi near (Fm (·.1) s.th) s.lvl)
theorem lookup_isSome{β:Type}:∀(near:List (Nat×β)) (a:Nat),a∈near.map (·.1)->(near.lookup a).isSome=true:=λnear a h=>by
 refine B6 (GV (W:=near) h) ?_;intro v hv;rw[hv];rfl
theorem Wq{late:Bool}{net:R2}{near:EB}{keys:BZ}(hk:keys=near.map (·.1)){s s':St}(h:Pc late net near keys s=some s'):IY late net near s=some s':=by
 unfold Pc at h;dsimp only at h;have et:Fm (·.1) s.th=CS s.th:=DM _ _;rw[et,Wm,Sx,Tb,Xh,De,De,DM,Hy,Gx]at h;unfold IY;split at h
 .next h1=>
  split at h
  .next h2=>
   have e1:=Us _ _ h1;refine CC (bi_and h2) ?_;intro a1 h2;refine CC (bi_and h2) ?_;intro a2 h2;refine CC (bi_and h2) ?_;intro a3 h2;refine CC (bi_and h2) ?_;intro a4 h2;refine CC (bi_and h2) ?_;intro a5 a6;have a1:=V3 _ a1;rw[Hy,DM]at a1;rw[Es,Ah]at a2;rw[GR,Nat.ble_eq]at a3 a4 a5 a6;have jd:∀x∈Gl (GN late net s.seen s.lvl),x.2∈CS s.th/\x.1∈lows/\x.2∈lows/\x.1∈keys:=λx hx=>by
    refine CC (bi_and (a2 x hx)) ?_;intro b1 b;refine CC (bi_and b) ?_;intro b2 b;refine CC (bi_and b) ?_;intro b3 b4;exact⟨(FJ _ _).mp b1,(FJ _ _).mp b2,(FJ _ _).mp b3,(FJ _ _).mp b4⟩
   dsimp only;have fl:(GN late net s.seen s.lvl).length=(Gl (GN late net s.seen s.lvl)).length:=by unfold Gl;rw[AA]
   rw[if_pos ⟨e1,a1,λx hx=>(jd x hx).1,λx hx=>⟨(jd x hx).2.1,(jd x hx).2.2.1⟩,λx hx=>lookup_isSome near x.1 (hk▸(jd x hx).2.2.2),a3,by rw[Ac,AA];exact g9 a4 a3 rfl,(Je fl a3 rfl),by rw[Ac];exact g9 a5 a3 rfl,a6⟩];exact h
  .cases h
 .cases h
noncomputable def Yo(late:Bool)(net:R2)(near:EB)(keys:BZ)(n:Nat):St->Option St:=
 @Nat.rec (λV=>St->Option St) some (λV ih s=>@Option.rec St (λV=>Option St) none ih (Pc late net near keys s)) n
theorem SH{late:Bool}{net:R2}{near:EB}{keys:BZ}(hk:keys=near.map (·.1)):∀ {n:Nat}{s s':St},Yo late net near keys n s=some s'->runN late net near n s=some s'
 |0,_,_,h=>h
 |n+1,s,s',h=>by
  have h' : @Option.rec St (λV=>Option St) none (Yo late net near keys n) (Pc late net near keys s)=some s':=h;rw[cG];cases e:Pc late net near keys s with
  |none=>rw[e]at h';cases h'
  |some s1=>
   rw[e]at h';rw[Wq hk e];exact SH hk h'
noncomputable def bL(th:TH)(p:Nat):List Nat:=@List.rec (Nat×List Nat×Option Nat) (λV=>List Nat) [] (λx V ih=>@Option.rec Nat (λV=>List Nat) ih (λa=>bi (Nat.beq a p) (x.1::ih) ih) x.2.2) th
theorem Vh(th:TH)(p:Nat):bL th p=Ie th p:=by
 induction th with
 |nil=>rfl
 |cons x l ih=>
  obtain⟨a,w,b⟩:=x;unfold Ie at ih ⊢;rw[A8];cases b with
  |none=>exact ih
  |some b=>
   show bi (Nat.beq b p) (a::bL l p) (bL l p)=_;rw[ih,De,HU];show _=List.map _ (if(b==p)=true then _ else _);cases b==p<;>rfl
noncomputable def SW(th:TH)(n:Nat):Nat->List Nat:=@Nat.rec (λV=>Nat->List Nat) (λV=>[]) (λV ih a=>a::Ks ih (bL th a)) n
theorem Wx(th:TH):∀(n a:Nat),SW th n a=CQ (Ie th) n a:=by
 intro l;induction l with
 |zero=>exact λV=>rfl
 |succ n ih=>
  intro a;show a::Ks (SW th n) (bL th a)=_;rw[SX,H9,Vh,show SW th n=CQ (Ie th) n from funext (ih)]
noncomputable def MR(th:TH)(n:Nat):Nat->Bool:=@Nat.rec (λV=>Nat->Bool) (λV=>false) (λV ih a=>Gu ih (bL th a)) n
theorem OR(th:TH):∀(n a:Nat),MR th n a=deep (Ie th) n a
 |0,_=>rfl
 |n+1,a=>by
  show Gu (MR th n) (bL th a)=_;rw[aM,Es,Vh,show MR th n=deep (Ie th) n from funext (OR th n)]
theorem Q6(kd:Nat->List Nat)(h:∀a,(kd a).length<=4):∀m ≤5,∀a,(CQ kd m a).length<=500:=by
 have step:∀m L,(∀a,(CQ kd m a).length<=L)->∀a,(CQ kd (m+1) a).length<=1+4*L:=λm L hL a=>by
  rw[SX,AZ];have key:∀l:List Nat,(l.flatMap (CQ kd m)).length<=l.length*L:=λl=>by
   induction l with
   |nil=>simp
   |cons x l ih=>
    rw[AX,Ac,AZ,Nat.succ_mul];have:=hL x;lia
  have h1:=key (kd a);have h2:=Nat.mul_le_mul_right L (h a);lia
 have h0:∀a,(CQ kd 0 a).length<=0:=λa=>Ad 0;have h1:=step 0 0 h0;have h2:=step 1 _ h1;have h3:=step 2 _ h2;have h4:=step 3 _ h3;have h5:=step 4 _ h4;intro m hm a;exact u9 (Nat.lt_succ_of_le hm) (lb (h0 a) rfl) (lb (h1 a) rfl) (lb (h2 a) rfl) (lb (h3 a) rfl) (lb (h4 a) rfl) (lb (h5 a) rfl)
noncomputable def EZ(x y:Nat):Nat:=Nat.add (Nat.mul (Nat.sub x 98) 5) (Nat.sub y 98)
noncomputable def Fp(M p:Nat):Nat:=Nat.mod (Nat.div M (Nat.pow 8 p)) 8
noncomputable def ofD(l:BZ):Nat:=@List.rec Nat (λV=>Nat) 0 (λd V ih=>Nat.add d (Nat.mul 8 ih)) l
theorem R7:∀(l:BZ) (p:Nat),(∀d∈l,d<8)->Fp (ofD l) p=l.getD p 0
 |[],p,_=>by show 0/8^p%8=0;rw[Nat.zero_div]
 |d::l,0,h=>by
  show(d+8*ofD l)/8^0%8=d;rw[Nat.pow_zero,Nat.div_one,Nat.add_mul_mod_self_left,Nat.mod_eq_of_lt (h d (.head _))]
 |d::l,p+1,h=>by
  have ih:=R7 l p λe he=>h e (.tail _ he);have hd:=h d (.head _);show(d+8*ofD l)/8^(p+1)%8=l.getD p 0;rw[<- ih,Nat.pow_succ',<- Nat.div_div_eq_div_mul,show(d+8*ofD l)/8=ofD l by rw[Nat.add_mul_div_left _ _ (by decide),Nat.div_eq_of_lt hd,Nat.zero_add]];rfl
theorem Xc(M p d:Nat)(h:d<=Fp M p)(q:Nat):Fp (M-d*8^p) q=if q=p then Fp M p-d else Fp M q:=by
 have hM:M=(M/8^(p+1)*8+Fp M p)*8^p+M%8^p:=by
  show M=(M/8^(p+1)*8+M/8^p%8)*8^p+M%8^p;rw[Nat.pow_succ,<- Nat.div_div_eq_div_mul,Nat.div_add_mod',Nat.div_add_mod']
 have Dx:Fp M p<8:=Nat.mod_lt _ (by decide);have QN:0<8^p:=Nat.pow_pos (by decide);have hL:M%8^p<8^p:=Nat.mod_lt _ QN;generalize M/8^(p+1)=H at hM;generalize Fp M p=o at *;generalize M%8^p=L at *;have hN:M-d*8^p=(H*8+(o-d))*8^p+L:=by
  rw[hM,Nat.add_mul,Nat.add_mul,Nat.sub_mul];exact lK (Nat.mul_le_mul_right (8^p) h)
 have gen:∀v<8,∀q,Fp ((H*8+v)*8^p+L) q=if q=p then v else if q<p then L/8^q%8 else H/8^(q-p-1)%8:=λv hv q=>by
  show((H*8+v)*8^p+L)/8^q%8=_;rcases Nat.lt_trichotomy q p with h1|h1|h1
  .rw [if_neg (by exact Nat.ne_of_lt h1),if_pos h1];obtain⟨e,rfl⟩:∃e,p=q+(e+1):=⟨p-q-1,by rw[<- XK h1];exact(Nat.add_sub_of_le (A4 h1)).symm⟩
   rw[Nat.pow_add,Nat.pow_succ,show(H*8+v)*(8^q*(8^e*8))=8^q*((H*8+v)*8^e*8)by rw[Nat.mul_left_comm,Nat.mul_assoc],Nat.mul_add_div (Nat.pow_pos (by decide)),Nat.add_comm,Nat.add_mul_mod_self_right]
  .rw [if_pos h1,h1,Nat.mul_comm,Nat.mul_add_div QN,Nat.div_eq_of_lt hL,Nat.add_zero,Nat.mul_comm,Nat.mul_add_mod,Nat.mod_eq_of_lt hv]
  .rw [if_neg (by exact Nat.ne_of_lt' h1),if_neg (by exact Nat.not_lt_of_gt h1)];obtain⟨e,rfl⟩:∃e,q=p+(1+e):=⟨q-p-1,by rw[Nat.add_comm 1,<- XK h1];exact(Nat.add_sub_of_le (A4 h1)).symm⟩
   rw[Nat.pow_add,<- Nat.div_div_eq_div_mul,Nat.mul_comm,Nat.mul_add_div QN,Nat.div_eq_of_lt hL,Nat.add_zero,Nat.pow_add,<- Nat.div_div_eq_div_mul,show(H*8+v)/8^1=H by rw[Nat.pow_one,Nat.mul_comm,Nat.mul_add_div (by decide),Nat.div_eq_of_lt hv,Nat.add_zero],show p+(1+e)-p-1=e by rw[Nat.add_sub_cancel_left,Nat.add_sub_cancel_left]]
 rw[hN,gen (o-d) (by exact Nat.sub_lt_of_lt Dx) q];by_cases e:q=p
 .rw [if_pos e,if_pos e]
 .rw [if_neg e,if_neg e,hM,gen o Dx q,if_neg e]
noncomputable def SM(M:Nat)(t:Nat×Nat×Nat):Nat:=
 (λo v=>bi (Nat.ble o v) M (Nat.sub M (Nat.mul (Nat.sub o v) (Nat.pow 8 (EZ t.2.1 t.2.2))))) (Fp M (EZ t.2.1 t.2.2)) (Nat.add (Fp M (EZ t.2.1 t.1)) (Fp M (EZ t.1 t.2.2)))
theorem Ip(A:A2)(k k':Nat×Nat)(v:Int)(h:ED A k'):DX (GI A k v) k'=if k'=k then v else DX A k':=by
 unfold GI;by_cases hk:A.any (λp=>decide (p.1=k))=true
 .rw [if_pos hk];unfold DX;induction A with
  |nil=>cases h
  |cons p A ih=>
   obtain⟨a,b⟩:=p;rw[AI];by_cases e:k'=a
   .subst e;rw[AK];by_cases e2:k'=k
    .rw [if_pos e2,if_pos e2];dsimp only;rw[beq_self_eq_true];rfl
    .rw [if_neg e2,if_neg e2,AK];dsimp only;rw[beq_self_eq_true]
   .have he:(k'==a)=false:=by simpa using e
    have hb:ED A k':=(AJ.mp h).resolve_left e;have tl:∀w:Int,(List.lookup k' ((if a=k then(a,v)else(a,b))::A.map λp=>if p.1=k then(p.1,v)else p))=List.lookup k' (A.map λp=>if p.1=k then(p.1,v)else p):=λw=>by
     split<;>(rw[AK,he])
    dsimp only;rw[tl 0,AK,he];dsimp only;by_cases hA:A.any (λp=>decide (p.1=k))=true
    .exact ih hb hA
    .have hn:∀p∈A,p.1≠k:=λp hp z=>hA (Aq.mpr ⟨p,hp,by simpa using z⟩);have ek:k'≠k:=λz=>by
      refine Bi (AF.mp hb) ?_;intro p hp e;exact hn p hp (e.trans z)
     rw[if_neg ek];congr 2;conv=>rhs;rw[<- List.map_id A]
     exact AW λp hp=>if_neg (hn p hp)
 .rw [if_neg hk,if_neg (λz=>by
   refine Bi (AF.mp h) ?_;intro p hp e;exact hk (Aq.mpr ⟨p,hp,by simpa using e.trans z⟩))]
  unfold DX;have:∀A:A2,ED A k'->(A++[(k,v)]).lookup k'=A.lookup k':=λA=>by
   induction A with
   |nil=>intro h;cases h
   |cons p A ih=>
    intro h;obtain⟨a,b⟩:=p;rw[List.cons_append,AK,AK];by_cases e:k'=a
    .rw [show(k'==a)=true by simpa using e]
    .rw [show(k'==a)=false by simpa using e];exact ih ((AJ.mp h).resolve_left e)
  rw[this A h]
theorem WC:∀x∈lows,∀y∈lows,∀x'∈lows,∀y'∈lows,x*5+y-588=x'*5+y'-588->x=x'/\y=y':=by decide +kernel
theorem R9:∀x∈lows,∀y∈lows,EZ x y=x*5+y-588:=by decide +kernel
def SZ(cs:BZ)(A:A2)(M:Nat):Prop:=GH cs A/\∀x∈cs,∀y∈cs,DX A (x,y)=Fp M (EZ x y)
theorem Wb(hc:∀x∈cs,x∈lows){A:A2}{M:Nat}(T:SZ cs A M){t:Nat×Nat×Nat}(ht:t∈EN cs):SZ cs (HH A t) (SM M t):=by
 refine FP (HS ht) ?_;intro h1 h2 h3;refine⟨PW T.1 h2 h3,λx hx y hy=>?_⟩;unfold HH;rw[Ip _ _ _ _ (T.1.2 x hx y hy),T.2 x hx y hy,T.2 _ h2 _ h3,T.2 _ h2 _ h1,T.2 _ h1 _ h3];have ep:((x,y)=(t.2.1,t.2.2))↔EZ x y=EZ t.2.1 t.2.2:=by
  refine⟨λe=>by rw[(Prod.mk.inj e).1,(Prod.mk.inj e).2],λe=>?_⟩;rw[R9 x (hc x hx) y (hc y hy),R9 _ (hc _ h2) _ (hc _ h3)]at e;refine CC (WC x (hc x hx) y (hc y hy) _ (hc _ h2) _ (hc _ h3) e) ?_;intro a b;rw[a,b]
 unfold SM;dsimp only;rw[De];generalize EZ x y=p at *;generalize EZ t.2.1 t.2.2=q at *;generalize EZ t.2.1 t.1=q1 at *;generalize EZ t.1 t.2.2=q2 at *;by_cases hle:Nat.ble (Fp M q) (Nat.add (Fp M q1) (Fp M q2))=true
 .rw [if_pos hle];have YB:Fp M q<=Fp M q1+Fp M q2:=AE hle;split
  .next e=>rw[ep.mp e];exact Int.min_eq_left (Int.ofNat_le.mpr YB)
  .rfl
 .rw [if_neg hle];have YB:Fp M q1+Fp M q2<Fp M q:=Nat.lt_of_not_le λz=>hle (Nat.ble_eq_true_of_le z);show _=((Fp (M-(Fp M q-(Fp M q1+Fp M q2))*8^q) p:Nat):Int);rw[Xc _ _ _ (by exact BN (Fp M q) (Fp M q1+Fp M q2))];by_cases e:(x,y)=(t.2.1,t.2.2)
  .rw [if_pos e,if_pos (ep.mp e),Nat.sub_sub_self (A4 YB)];exact Int.min_eq_right (Int.ofNat_le.mpr (A4 YB))
  .rw [if_neg e,if_neg λz=>e (ep.mpr z)]
theorem Mv(hc:∀x∈cs,x∈lows):∀(l:List (Nat×Nat×Nat)) (A:A2) (M:Nat),(∀t∈l,t∈EN cs)->SZ cs A M->SZ cs (l.foldl HH A) (l.foldl SM M)
 |[],_,_,_,T=>T
 |t::l,A,M,h,T=>Mv hc l _ _ (λq hq=>h q (.tail _ hq)) (Wb hc T (h t (.head _)))
noncomputable def Yy(ts:R2)(x y:Nat):Bool:=anyF (λt=>bi (Nat.beq x t.1) (Nat.beq y t.2) (bi (Nat.beq y t.1) (Nat.beq x t.2) false)) ts
noncomputable def Sw(n:Nat)(k:Nat->α):α:=@Nat.rec (λV=>α) (k 0) (λm V=>k (Nat.succ m)) n
noncomputable def Xt(l:BZ):(List Nat->α)->α:=@List.rec Nat (λV=>(List Nat->α)->α) (λk=>k []) (λa V ih k=>Sw a λa=>ih λl=>k (a::l)) l
noncomputable def mM(o:Option Nat)(k:Option Nat->α):α:=@Option.rec Nat (λV=>α) (k none) (λa=>Sw a λa=>k (some a)) o
noncomputable def mN(l:R2):(R2->α)->α:=@List.rec (Nat×Nat) (λV=>(R2->α)->α) (λk=>k []) (λa V ih k=>Sw a.1 λa1=>Sw a.2 λa2=>ih λl=>k ((a1,a2)::l)) l
noncomputable def fR(l:EB):(List (Nat×List Nat)->α)->α:=@List.rec (Nat×List Nat) (λV=>(List (Nat×List Nat)->α)->α) (λk=>k []) (λa V ih k=>Sw a.1 λa1=>Xt a.2 λa2=>ih λl=>k ((a1,a2)::l)) l
noncomputable def mP(l:TH):(TH->α)->α:=@List.rec (Nat×List Nat×Option Nat) (λV=>(TH->α)->α) (λk=>k []) (λa V ih k=>Sw a.1 λa1=>Xt a.2.1 λa2=>mM a.2.2 λa3=>ih λl=>k ((a1,a2,a3)::l)) l
theorem Hi(n:Nat)(k:Nat->α):Sw n k=k n:=by cases n<;>rfl
theorem NU:∀(l:BZ) (k:List Nat->α),Xt l k=k l
 |[],_=>rfl
 |a::l,k=>by
  show Sw a (λa=>Xt l λl=>k (a::l))=_;rw[Hi,NU]
theorem aV(o:Option Nat)(k:Option Nat->α):mM o k=k o:=by
 cases o with
 |none=>rfl
 |some a=>exact Hi a λa=>k (some a)
theorem VG:∀(l:R2) (k:R2->α),mN l k=k l
 |[],_=>rfl
 |a::l,k=>by
  show Sw a.1 (λa1=>Sw a.2 λa2=>mN l λl=>k ((a1,a2)::l))=_;rw[Hi,Hi,VG]
theorem QF:∀(l:EB) (k:List (Nat×List Nat)->α),fR l k=k l
 |[],_=>rfl
 |a::l,k=>by
  show Sw a.1 (λa1=>Xt a.2 λa2=>fR l λl=>k ((a1,a2)::l))=_;rw[Hi,NU,QF]
theorem VH:∀(l:TH) (k:TH->α),mP l k=k l
 |[],_=>rfl
 |a::l,k=>by
  show Sw a.1 (λa1=>Xt a.2.1 λa2=>mM a.2.2 λa3=>mP l λl=>k ((a1,a2,a3)::l))=_;rw[Hi,NU,aV,VH]
noncomputable def iC(th:TH)(x:Nat):Option (List Nat×Option Nat):=@List.rec (Nat×List Nat×Option Nat) (λV=>Option (List Nat×Option Nat)) none (λt V ih=>bi (Nat.beq x t.1) (some t.2) ih) th
noncomputable def Wz(th:TH)(x:Nat):List Nat:=@Option.rec (List Nat×Option Nat) (λV=>List Nat) [] (λv=>v.1) (iC th x)
noncomputable def lB(th:TH)(x:Nat):Nat:=@Option.rec (List Nat×Option Nat) (λV=>Nat) 0 (λv=>@Option.rec Nat (λV=>Nat) 0 (λa=>a) v.2) (iC th x)
noncomputable def Ew:List Bool->List Bool->Nat:=λa=>@List.rec Bool (λV=>List Bool->Nat) (λV=>0) (λx V ih b=>@List.rec Bool (λV=>Nat) 0 (λy tl V=>bi x (bi y (ih tl) (Nat.succ (ih tl))) (bi y (Nat.succ (ih tl)) (ih tl))) b) a
noncomputable def uF(th:TH)(ys:BZ)(x:Nat):List Bool:=Fm (λy=>GW (Wz th x) y) ys
noncomputable def dm(M:Nat)(th:TH)(ys:BZ)(x z:Nat):Nat:=Nat.sub (Nat.add (Ew (uF th ys x) (uF th ys z)) 8) (Fp M (EZ x z))
noncomputable def SK(M:Nat)(th:TH)(ys:BZ)(x y:Nat)(later:Bool):Bool:=
 (λa b=>bi (Nat.beq a (Nat.add b 2)) true (bi (Nat.beq a (Nat.add b 1)) (bi (Nat.beq (Nat.mod a 2) 0) (bi later false true) later) false)) (dm M th ys x y) (dm M th ys x (lB th y))
noncomputable def Iu(M:Nat)(th:TH)(ys:BZ)(x:Nat)(l:BZ):List Nat:=
 @List.rec Nat (λV=>List Nat) [] (λy tl ih=>bi (GW (Wz th x) y) 1 (bi (SK M th ys x y (GW (y::tl) x)) 2 0)::ih) l
noncomputable def NF:List Nat->List Nat->Nat:=λa=>@List.rec Nat (λV=>List Nat->Nat) (λV=>0) (λx V ih b=>@List.rec Nat (λV=>Nat) 0 (λy tl V=>bi (Nat.beq (Nat.add x y) 1) (Nat.succ (ih tl)) (ih tl)) b) a
noncomputable def Nu(l:BZ):Nat->Nat:=@List.rec Nat (λV=>Nat->Nat) (λV=>0) (λa V ih n=>@Nat.rec (λV=>Nat) a (λm V=>ih m) n) l
noncomputable def Ui(M:Nat)(k:Nat)(r0 row:Nat×List Nat):Bool:=
 bi (Nat.beq (Fp M (EZ r0.1 row.1)) (NF r0.2 row.2)) (bi (Nat.beq (Nu row.2 (Nat.sub k 1)) 1) (bi (Nat.beq (Nu r0.2 (Nat.sub k 1)) 1) false true) false) false
noncomputable def XU(M:Nat)(rows:EB):List (Nat×List Nat)->Nat->Bool:=
 @List.rec (Nat×List Nat) (λV=>List (Nat×List Nat)->Nat->Bool) (λV V=>true) (λrow V ih pre k=>bi (Gu (λr0=>Ui M k r0 row) pre) (ih (row::pre) (Nat.succ k)) false) rows
noncomputable def aB(cs:BZ)(th:TH)(nm ys:BZ):Bool:=
 bi (kF nm) (bi (Nat.beq (II nm) (II cs)) (bi (Gu (GW cs) nm) (bi (Gu (GW (Fm (·.1) th)) nm) (Gu (λy=>@Option.rec (List Nat×Option Nat) (λV=>Bool) false (λv=>@Option.rec Nat (λV=>Bool) false (λa=>GW nm a) v.2) (iC th y)) ys) false) false) false) false
noncomputable def aC(th:TH)(r:Nat):Bool:=
 @List.rec (Nat×List Nat×Option Nat) (λV=>Bool) false (λx l V=>@Option.rec Nat (λV=>Bool) (bi (Nat.ble (II l) 4) (MR th 5 r) false) (λV=>false) x.2.2) th
noncomputable def aD(M:Nat)(cs:BZ)(r:Nat)(th:TH):Bool:=
 bi (aC th r) (Xt (SW th 5 r) λnm=>@List.rec Nat (λV=>Bool) false (λV ys V=>bi (aB cs th nm ys) (fR (Fm (λx=>(x,Iu M th ys x ys)) nm) λrows=>XU M rows [] 0) false) nm) false
noncomputable def XX(M:Nat)(cs:BZ)(net:R2)(near:EB)(r:Nat)(late:Bool):Bool:=
 @Option.rec St (λV=>Bool) false (λs=>mP s.th λth=>aD M cs r th) (Yo late net near cs (II cs) ⟨[r],[(r,r)],[(r,[],none)]⟩)
noncomputable def iP(ts:R2):R2:=@List.rec (Nat×Nat) (λV=>R2) [] (λt V ih=>(t.1,t.2)::(Nat.sub t.2 32,Nat.sub t.1 32)::ih) ts
noncomputable def dq(ts:R2)(p:Nat):List Nat:=@List.rec (Nat×Nat) (λV=>List Nat) [] (λt V ih=>bi (Nat.beq p t.1) (t.2::ih) (bi (Nat.beq p t.2) (Nat.sub t.1 32::ih) ih)) ts
noncomputable def mG:List Nat->List Nat->Bool:=λa=>@List.rec Nat (λV=>List Nat->Bool) (λb=>@List.rec Nat (λV=>Bool) true (λV V V=>false) b) (λx V ih b=>@List.rec Nat (λV=>Bool) false (λy tl V=>bi (Nat.beq x y) (ih tl) false) b) a
noncomputable def eh(net:R2)(near:EB):Bool:=
 Gu (λx=>@List.rec Nat (λV=>Bool) false (λa l V=>mG (VN net (Nat.sub x.1 32)) (a::l)) x.2) near
noncomputable def TU(cs:BZ)(all:R2)(cm:List (Nat×Nat×Nat))(ts:R2):Nat:=
 OZ SM cm (ofD (Fm (λp=>bi (Nat.beq p.1 p.2) 0 (bi (Yy ts p.1 p.2) 1 (II cs))) all))
noncomputable def jG(all:R2)(M:Nat):Bool:=Gu (λp=>Nat.beq (Fp M (EZ p.1 p.2)) (Fp M (EZ p.2 p.1))) all
noncomputable def XT(cs:BZ)(all:R2)(cm:List (Nat×Nat×Nat))(ts:R2):Bool:=
 Sw (TU cs all cm ts) λM=>mN (iP ts) λnet=>fR (Fm (λp=>(p,dq ts p)) cs) λnear=>
  bi (jG all M) (bi (eh net near) (Gu (λr=>bi (XX M cs net near r true) (XX M cs net near r false) false) cs) false) false
noncomputable def JO:R2->List Bool->R2:=λps=>@List.rec (Nat×Nat) (λV=>List Bool->R2) (λV=>[]) (λp V ih bs=>@List.rec Bool (λV=>R2) [] (λb tl V=>bi b (p::ih tl) (ih tl)) bs) ps
noncomputable def bl(n:Nat):List (List Bool):=@Nat.rec (λV=>List (List Bool)) [[]] (λV ih=>Gv (Fm (true::·) ih) (Fm (false::·) ih)) n
noncomputable def ne(n:Nat):List (List Bool):=Su (anyF λb=>b) (bl n)
theorem YV(ts:R2):iP ts=Dl ts:=by
 induction ts with
 |nil=>rfl
 |cons t ts ih=>exact congrArg (λl=>(t.1,t.2)::(Em t.2,Em t.1)::l) ih
theorem bj(ts:R2)(p:Nat):dq ts p=CV ts p:=by
 induction ts with
 |nil=>rfl
 |cons t ts ih=>
  show bi (Nat.beq p t.1) (t.2::dq ts p) (bi (Nat.beq p t.2) (Em t.1::dq ts p) (dq ts p))=_;rw[ih,HU,HU];unfold CV;rw[A8];by_cases h1:p=t.1
  .subst h1;simp[bi]
  .by_cases h2:p=t.2
   .subst h2;simp[bi,h1,show(t.2==t.1)=false by simpa using h1]
   .simp [bi,h1,h2,show(p==t.1)=false by simpa using h1,show(p==t.2)=false by simpa using h2]
theorem Ut:∀(a b:BZ),mG a b=true->a=b
 |[],[],_=>rfl
 |[],_::_,h=>by cases h
 |_::_,[],h=>by cases h
 |x::a,y::b,h=>by
  have h':bi (Nat.beq x y) (mG a b) false=true:=h;refine CC (bi_and h') ?_;intro h1 h2;rw[Ut a b h2,BL h1]
theorem U6(r:R2)(q:Nat):C3 r q=(C8 r q).head?:=by
 unfold C3 C8;rw[List.head?_map,List.head?_filter]
theorem Ye{nm:BZ}:∀ {cs:BZ},nm.Nodup->nm.length=cs.length->(∀a∈nm,a∈cs)->nm.Perm cs:=by
 induction nm with
 |nil=>intro cs V hl V;rw[List.length_eq_zero_iff.mp hl.symm]
 |cons a l ih=>
  intro cs nd hl hs;have ha:=hs a (.head _);refine CC (List.nodup_cons.mp nd) ?_;intro n1 n2;refine((ih n2 ?_ λb hb=>?_).cons a).trans (List.perm_cons_erase ha).symm
  .rw [List.length_erase_of_mem ha,<- hl];rfl
  .exact (List.mem_erase_of_ne λe=>n1 (by rw[<- e];exact hb)).mpr (hs b (.tail _ hb))
theorem Qa(th:TH)(x:Nat):iC th x=th.lookup x:=by
 induction th with
 |nil=>rfl
 |cons t th ih=>
  show bi (Nat.beq x t.1) (some t.2) (iC th x)=_;obtain⟨a,b⟩:=t;rw[ih,AK,HU];dsimp only;cases x==a<;>rfl
theorem SY(th:TH)(x:Nat):Wz th x=Hu th x:=by
 unfold Wz Hu;rw[Qa];cases th.lookup x<;>rfl
theorem Zw(th:TH)(x:Nat):lB th x=Pp th x:=by
 unfold lB Pp;rw[Qa];cases th.lookup x with
 |none=>rfl
 |some v=>
  obtain⟨w,o⟩:=v;cases o<;>rfl
structure RA(M:Nat)(cs:BZ)(ts:R2)(r:Nat)(late:Bool)(th:TH)(nm:BZ):Prop where
 run:∃stF,stF.th=th/\runN late (Dl ts) (C7 ts cs) cs.length ⟨[r],[(r,r)],[(r,[],none)]⟩=some stF
 deep:deep (Ie th) 5 r=true
 I0:∀m ≤5,∀a∈CS th,(CQ (Ie th) m a).length<=500
 walk:CQ (Ie th) 5 r=nm
 perm:nm.Perm cs
 nd:nm.Nodup
 ways:∀x∈nm,∃w a,th.lookup x=some (w,a)
 above:∀y∈nm.drop 1,∃wy,th.lookup y=some (wy,some (Pp th y))/\Pp th y∈nm
 pairs:∀k y,nm[k]? = some y->∀x∈nm.take k,Fp M (EZ x y)=NF (Iu M th (nm.drop 1) x (nm.drop 1)) (Iu M th (nm.drop 1) y (nm.drop 1))/\Nu (Iu M th (nm.drop 1) y (nm.drop 1)) (k-1)=1/\Nu (Iu M th (nm.drop 1) x (nm.drop 1)) (k-1)≠1
theorem XW{M:Nat}{r0 row:Nat×List Nat}(h:Ui M k r0 row=true):Fp M (EZ r0.1 row.1)=NF r0.2 row.2/\Nu row.2 (k-1)=1/\Nu r0.2 (k-1)≠1:=by
 unfold Ui at h;refine CC (bi_and h) ?_;intro h1 h;refine CC (bi_and h) ?_;intro h2 h3;refine⟨BL h1,BL h2,λe=>?_⟩;have e':Nu r0.2 (Nat.sub k 1)=1:=e;rw[e']at h3;cases h3
theorem XV{M:Nat}:∀(rows pre:EB) (k:Nat),XU M rows pre k=true->∀j row,rows[j]? = some row->∀r0,(r0∈pre\/r0∈rows.take j)->Ui M (k+j) r0 row=true:=by
 intro l;induction l with
 |nil=>exact λV V V j row hj V V=>by cases hj
 |cons J5 rows ih=>
  intro pre k h j row hj r0 hr;have h':bi (Gu (λr0=>Ui M k r0 J5) pre) (XU M rows (J5::pre) (k+1)) false=true:=h;refine CC (bi_and h') ?_;intro h1 h2;rw[Es,Ah]at h1;match j,hj with
  |0,hj=>
   cases hj;rcases hr with hr|hr
   .exact h1 r0 hr
   .cases hr
  |j+1,hj=>
   rw[show k+(j+1)=k+1+j by exact Eq.symm (Nat.succ_add_eq_add_succ k j)];refine ih (J5::pre) (k+1) h2 j row hj r0 ?_;rcases hr with hr|hr
   .exact .inl (.tail _ hr)
   .rcases AJ.mp hr with rfl|hr
    .exact .inl (.head _)
    .exact .inr hr
theorem XY{M:Nat}{ts:R2}{r:Nat}{late:Bool}{s:St}(hs:runN late (Dl ts) (C7 ts cs) cs.length ⟨[r],[(r,r)],[(r,[],none)]⟩=some s)(h:aD M cs r s.th=true):∃nm,RA M cs ts r late s.th nm:=by
 unfold aD at h;refine CC (bi_and h) ?_;intro hB h;rw[NU,Wx]at h;generalize mC:CQ (Ie s.th) 5 r=nm at h;match nm,h with
 |x0::ys,h=>
  have h':bi (aB cs s.th (x0::ys) ys) (fR (Fm (λx=>(x,Iu M s.th ys x ys)) (x0::ys)) λrows=>XU M rows [] 0) false=true:=h;refine CC (bi_and h') ?_;intro hA hP;rw[QF]at hP;unfold aB at hA;refine CC (bi_and hA) ?_;intro a1 hA;refine CC (bi_and hA) ?_;intro a2 hA;refine CC (bi_and hA) ?_;intro a3 hA;refine CC (bi_and hA) ?_;intro a4 a5;have a2:=BL a2;rw[GR,GR]at a2;rw[Es,Ah]at a3 a4 a5;have nd:=V3 _ a1;refine⟨x0::ys,⟨s,rfl,hs⟩,?_,?_,mC,Ye nd a2 λa ha=>(FJ _ _).mp (a3 a ha),nd,λx hx=>?_,λy hy=>?_,λk y hk x hx=>?_⟩
  .unfold aC at hB;generalize s.th=th at hB;match th,hB with
   |(a,w,none)::l,hB=>
    have mi:bi (Nat.ble (II l) 4) (MR ((a,w,none)::l) 5 r) false=true:=hB;have:=(bi_and mi).2;rwa [OR]at this
  .unfold aC at hB;generalize s.th=th at hB;match th,hB with
   |(a,w,none)::l,hB=>
    have mi:bi (Nat.ble (II l) 4) (MR ((a,w,none)::l) 5 r) false=true:=hB;have hl:=AE (bi_and mi).1;rw[GR]at hl;intro m hm b V;refine Q6 _ (λb=>?_) m hm b;show(List.map _ (List.filter _ ((a,w,none)::l))).length<=4;rw[AA,A8,if_neg (by simp)];exact AD (AV _ _) hl
  .have:=(FJ _ _).mp (a4 x hx);rw[DM]at this;refine B6 (GV this) ?_;intro Cr e;obtain⟨w,a⟩:=Cr;exact⟨w,a,e⟩
  .have:=a5 y hy;unfold Pp;rw[Qa]at this;cases e:s.th.lookup y with
   |none=>rw[e]at this;cases this
   |some v=>
    rw[e]at this;obtain⟨w,o⟩:=v;cases o with
    |none=>cases this
    |some a=>exact⟨w,rfl,(FJ _ _).mp this⟩
  .have e1:(Fm (λx=>(x,Iu M s.th ys x ys)) (x0::ys))[k]? = some (y,Iu M s.th ys y ys):=by rw[DM,AL,hk];rfl
   have:=XV _ [] 0 hP k _ e1 (x,Iu M s.th ys x ys) (.inr (by rw[DM,<- List.map_take];exact AF.mpr ⟨x,hx,rfl⟩));rw[Nat.zero_add]at this;have q:=XW this;exact q
theorem oX{β:Type}(n:β)(f:α->β)(a:α) : @Option.rec α (λV=>β) n f (some a)=f a:=rfl
theorem RH{M:Nat}{ts:R2}{r:Nat}{late:Bool}(h:XX M cs (Dl ts) (C7 ts cs) r late=true):∃th nm,RA M cs ts r late th nm:=by
 unfold XX at h;cases e:Yo late (Dl ts) (C7 ts cs) cs (II cs) ⟨[r],[(r,r)],[(r,[],none)]⟩with
 |none=>rw[e]at h;cases h
 |some s=>
  rw[e,oX false,VH]at h;rw[GR]at e;refine B6 (XY (ts:=ts) (late:=late) (SH (by unfold C7;rw[AB];exact(List.map_id cs).symm) e) h) ?_;intro nm g;exact⟨s.th,nm,g⟩
structure eF(M:Nat)(cs:BZ)(ts:R2):Prop where
 get:∀p∈cs,∃a l,CV ts p=a::l/\C3 (Dl ts) (Em p)=some a/\C8 (Dl ts) (Em p)=a::l
 tree:∀r∈cs,∀late,∃th nm,RA M cs ts r late th nm
 sym:∀x∈cs,∀y∈cs,Fp M (EZ x y)=Fp M (EZ y x)
theorem RG{all:R2}{cm:List (Nat×Nat×Nat)}{ts:R2}(ha:∀x∈cs,∀y∈cs,(x,y)∈all)(h:XT cs all cm ts=true):eF (TU cs all cm ts) cs ts:=by
 have en:Fm (λp=>(p,dq ts p)) cs=C7 ts cs:=by
  rw[DM];exact AW λp V=>congrArg (Prod.mk p) (bj ts p)
 unfold XT at h;rw[Hi,VG,QF,YV,en]at h;generalize TU cs all cm ts=M at h ⊢;refine CC (bi_and h) ?_;intro h1 h;refine CC (bi_and h) ?_;intro h2 h3;unfold jG at h1;unfold eh at h2;rw[Es,Ah]at h1 h2 h3;refine⟨λp hp=>?_,λr hr late=>?_,λx hx y hy=>by
  have:=h1 (x,y) (ha x hx y hy);dsimp only at this;exact BL this⟩
 .have:=h2 (p,CV ts p) (AF.mpr ⟨p,hp,rfl⟩);dsimp only at this;rw[Rb]at this;cases e:CV ts p with
  |nil=>rw[e]at this;cases this
  |cons a l=>
   rw[e]at this;have e2:C8 (Dl ts) (Em p)=a::l:=Ut _ _ this;exact⟨a,l,rfl,by rw[U6,e2];rfl,e2⟩
 .refine CC (bi_and (h3 r hr)) ?_;intro ht hf;cases late with
  |true=>exact RH ht
  |false=>exact RH hf
noncomputable def EL(a b:Nat):Nat:=if Nat.beq a b then 0 else if Nat.beq (lo1 a) (lo1 b)then 1 else 2
noncomputable def XC(h a:Nat):Str:=if Nat.blt h 5 then CP h a else sg a
theorem WZ:∀h<6,∀a∈Bz,∀b∈Bz,DE (XC h a) (XC h b)=(EL a b:Nat):=by decide +kernel
noncomputable def Pj(c d:Nat):Nat:=if Nat.beq c d then 0 else if Nat.beq (c+d) 1 then 1 else 2
noncomputable def stN(t i:Nat):Nat:=DF.getD ((i+t)%7) 0
noncomputable def Ig(t:Nat)(p:Nat×Nat)(c:Nat):Nat:=if c=1 then Em p.1 else if c=2 then stN t p.2 else p.1
theorem JP(t i:Nat):stN t i∈DF:=by
 unfold stN;have h:(i+t)%7<DF.length:=Nat.mod_lt _ (by decide);rw[AN,AU h];exact List.getElem_mem h
theorem Wa:∀s∈DF,s∈Bz:=by decide
theorem Nq:∀y∈lows,y∈Bz/\Em y∈Bz:=by decide
theorem N6{t:Nat}{p:Nat×Nat}{c:Nat}(h:p.1∈lows):Ig t p c∈Bz:=by
 unfold Ig;split
 .exact (Nq _ h).2
 .split
  .exact Wa _ (JP _ _)
  .exact (Nq _ h).1
theorem XZ:∀y∈lows,∀z∈lows,y≠z->EL y z=2/\EL (Em y) z=2/\EL y (Em z)=2/\EL (Em y) (Em z)=2:=by decide
theorem aJ:∀y∈lows,EL y y=0/\EL (Em y) y=1/\EL y (Em y)=1/\EL (Em y) (Em y)=0:=by decide
theorem NH:∀y∈lows,∀s∈DF,EL y s=2/\EL (Em y) s=2/\EL s y=2/\EL s (Em y)=2:=by decide
theorem RJ:∀t<7,∀i<4,∀j<4,EL (stN t i) (stN t j)=if i=j then 0 else 2:=by decide +kernel
theorem three{c:Nat}(h:c<=2):c=0\/c=1\/c=2:=by lia
theorem OQ{t:Nat}(ht:t<7){p q:Nat×Nat}(h1:p.1∈lows)(h2:q.1∈lows)(l1:p.2<4)(l2:q.2<4){c d:Nat}(hc:c<=2)(hd:d<=2) :
  (p.2≠q.2->p.1≠q.1->EL (Ig t p c) (Ig t q d)=2)/\(p=q->EL (Ig t p c) (Ig t q d)=Pj c d):=by
 have v0:∀p:Nat×Nat,Ig t p 0=p.1:=λp=>rfl;have v1:∀p:Nat×Nat,Ig t p 1=Em p.1:=λp=>rfl;have v2:∀p:Nat×Nat,Ig t p 2=stN t p.2:=λp=>rfl;refine⟨λni nl=>?_,λe=>?_⟩
 .have a:=XZ _ h1 _ h2 nl;have b:=NH _ h1 _ (JP t q.2);have b':=NH _ h2 _ (JP t p.2);have s:=RJ t ht _ l1 _ l2;rw[if_neg ni]at s;rcases three hc with rfl|rfl|rfl<;>rcases three hd with rfl|rfl|rfl<;>simp only[v0,v1,v2]
  .exact a.1
  .exact a.2.2.1
  .exact b.1
  .exact a.2.1
  .exact a.2.2.2
  .exact b.2.1
  .exact b'.2.2.1
  .exact b'.2.2.2
  .exact s
 .subst e;have a:=aJ _ h1;have b:=NH _ h1 _ (JP t p.2);have s:=RJ t ht _ l1 _ l1;rw[if_pos rfl]at s;rcases three hc with rfl|rfl|rfl<;>rcases three hd with rfl|rfl|rfl<;>simp only[v0,v1,v2]
  .exact a.1
  .exact a.2.2.1
  .exact b.1
  .exact a.2.1
  .exact a.2.2.2
  .exact b.2.1
  .exact b.2.2.1
  .exact b.2.2.2
  .exact s
structure Places(ps:List (Nat×Nat)):Prop where
 len:ps.length=3\/ps.length=4
 low:∀p∈ps,p.1∈lows
 at':∀(i:Nat) (p:Nat×Nat),ps[i]? = some p->p.2=i
 diff:∀(i j:Nat) (p q:Nat×Nat),ps[i]? = some p->ps[j]? = some q->i≠j->p.1≠q.1
theorem Places.zip{ys:BZ}(hl:ys.length=3\/ys.length=4)(K6:∀y∈ys,y∈lows)(nd:ys.Nodup):Places ys.zipIdx:=by
 have g:∀(i:Nat) (p:Nat×Nat),(ys.zipIdx)[i]? = some p->ys[i]? = some p.1/\p.2=i:=λi p h=>by
  rw[List.getElem?_zipIdx,AS]at h;refine Bi h ?_;clear h;rintro y hy rfl;exact⟨hy,Nat.zero_add i⟩
 refine⟨by rw[List.length_zipIdx];exact hl,λp hp=>?_,λi p h=>(g i p h).2,λi j p q h1 h2 ar e=>?_⟩
 .refine B6 (List.mem_iff_getElem?.mp hp) ?_;intro i hi;exact K6 _ (AQ (g i p hi).1)
 .have a:=(g i p h1).1;have b:=(g j q h2).1;rw[e]at a;exact ar ((List.getElem?_inj (AP.mp a).1 nd).mp (a.trans b.symm))
noncomputable def vec(ps:List (Nat×Nat))(f g:Nat×Nat->Nat):List Nat:=ps.map λp=>Pj (f p) (g p)
theorem UZ(c d:Nat):Pj c d<=2:=by
 unfold Pj;split
 .decide
 .split<;>decide
theorem SV(ps:List (Nat×Nat))(f g:Nat×Nat->Nat):vec ps f g∈Lp ps.length:=by
 have:=Pe (vec ps f g) λd hd=>by
  refine Bi (AF.mp hd) ?_;rintro p V rfl;exact UZ _ _
 rwa [show(vec ps f g).length=ps.length from AA _]at this
theorem MQ{ps:List (Nat×Nat)}(P:Places ps){t h:Nat}(ht:t<7)(hh:h<6){f g:Nat×Nat->Nat}(hf:∀p,f p<=2)(hg:∀p,g p<=2):∀i<ps.length,∀j<ps.length,
  H3 (vec ps f g) i j=DE ((ps.map λp=>XC h (Ig t p (f p))).getD i ⟨#[]⟩) ((ps.map λp=>XC h (Ig t p (g p))).getD j ⟨#[]⟩):=λi hi j hj=>by
 have four:ps.length<=4:=by have:=P.len;(clear ht hh;lia)
 have e1:=AU hi;have e2:=AU hj;have a1:=P.at' i _ e1;have a2:=P.at' j _ e2;generalize ps[i]=p at *;generalize ps[j]=q at *;have l1:=P.low p (AQ e1);have l2:=P.low q (AQ e2);rw[AN,AN,AL,AL,e1,e2];show _=DE (XC h (Ig t p (f p))) (XC h (Ig t q (g q)));rw[WZ h hh _ (N6 l1) _ (N6 l2)];have key:=OQ ht l1 l2 (by lia) (by lia) (hf p) (hg q);unfold H3;by_cases ar:i=j
 .subst ar;have pZ:p=q:=BV (e1.symm.trans e2);rw[show Nat.beq i i=true from Nat.beq_refl i,if_pos rfl,key.2 pZ];unfold vec;rw[AN,AL,e1,pZ];rfl
 .rw [show Nat.beq i j=false by rw[Bool.eq_false_iff];exact λz=>ar (BL z),key.1 (by(clear hi;lia)) (P.diff i j p q e1 e2 ar)];rfl
noncomputable def Dr(t:Nat)(ps:List (Nat×Nat))(f:Nat×Nat->Nat):List Nat:=ps.map λp=>Ig t p (f p)
theorem SG{h:Nat}(h5:h<5)(t:Nat)(ps:List (Nat×Nat))(f:Nat×Nat->Nat):(Dr t ps f).map (CP h)=ps.map λp=>XC h (Ig t p (f p)):=by
 unfold Dr;rw[AB];refine AW λp V=>?_;show CP h _=XC h _;unfold XC;rw[if_pos (by rw[Nat.blt_eq];exact h5)]
theorem WR(t:Nat)(ps:List (Nat×Nat))(f:Nat×Nat->Nat):(Dr t ps f).map sg=ps.map λp=>XC 5 (Ig t p (f p)):=by
 unfold Dr;rw[AB];rfl
theorem JG{ps:List (Nat×Nat)}(P:Places ps){t:Nat}(ht:t<7){f g:Nat×Nat->Nat}(hf:∀p,f p<=2)(hg:∀p,g p<=2) :
  Jr (Dr t ps f) (Dr t ps g) (HV (vec ps f g))=HV (vec ps f g)/\Jr (Dr t ps f) (Dr t ps g) (2*(ps.length+1:Nat))=HV (vec ps f g)/\HV (vec ps f g)<=Jr (Dr t ps f) (Dr t ps g) (HV (vec ps f g)-1):=by
 unfold Jr;rw[WR,WR];exact Vt P.len (AA _) (AA _) (SV ps f g) (MQ P ht (by decide) hf hg)
theorem TL{ps:List (Nat×Nat)}(P:Places ps){t h:Nat}(ht:t<7)(h5:h<5){f g:Nat×Nat->Nat}(hf:∀p,f p<=2)(hg:∀p,g p<=2)(hk:k<ps.length) :
  Gp ((Dr t ps f).map (CP h)) (((Dr t ps g).map (CP h)).take k++((Dr t ps g).map (CP h)).drop (k+1)) (PY (vec ps f g) k)=PY (vec ps f g) k/\2<=Gp (((Dr t ps g).map (CP h)).take k++((Dr t ps g).map (CP h)).drop (k+1)) ((Dr t ps f).map (CP h)) 1:=by
 rw[SG h5,SG h5];exact TM P.len (AA _) (AA _) (SV ps f g) hk (MQ P ht (by exact Nat.lt_succ_of_lt h5) hf hg)
theorem Wu(ps:List (Nat×Nat))(f g:Nat×Nat->Nat):vec ps f g=vec ps g f:=by
 unfold vec;refine AW λp V=>?_;unfold Pj;rw[Nat.add_comm,show Nat.beq (f p) (g p)=Nat.beq (g p) (f p)by rw[HU,HU];exact Bool.beq_comm]
noncomputable def Pq:R2:=lows.flatMap λx=>lows.map λy=>(x,y)
noncomputable def LI:List Nat:=[98,99,100,101]
noncomputable def T6(cs:BZ):List (Nat×Nat×Nat):=Ks (λm=>Ks (λx=>Fm (λy=>(m,x,y)) cs) cs) cs
theorem Y2(cs:BZ):T6 cs=EN cs:=by
 unfold T6 EN;rw[H9];congr 1;funext m;rw[H9];congr 1;funext x;exact DM _ _
theorem YQ{β:Type}[BEq α][LawfulBEq α]{f:α->β}{ls:List α}{x:α}(h:x∈ls):(ls.map λx=>(x,f x)).lookup x=some (f x):=by
 induction ls with
 |nil=>cases h
 |cons y ls ih=>
  rw[AI,AK];by_cases e:x=y
  .rw [e,beq_self_eq_true]
  .rw [show(x==y)=false by simpa using e];exact ih ((AJ.mp h).resolve_left e)
theorem Yz(ts:R2){x y:Nat}(h:x≠y):Yy ts x y=(ts.contains (x,y)||ts.contains (y,x)):=by
 unfold Yy;rw[HJ];induction ts with
 |nil=>rfl
 |cons t ts ih=>
  obtain⟨a,b⟩:=t;rw[List.any_cons,List.contains_cons,List.contains_cons,ih];have e1:((x,y)==(a,b))=(Nat.beq x a&&Nat.beq y b):=by rw[HU,HU];rfl
  have e2:((y,x)==(a,b))=(Nat.beq y a&&Nat.beq x b):=by rw[HU,HU];rfl
  rw[e1,e2];dsimp only;by_cases h1:x=a
  .subst h1;have:Nat.beq y x=false:=by rw[HU];simpa using λe:y=x=>h e.symm
   rw[this,show Nat.beq x x=true from Nat.beq_refl x];show(Nat.beq y b||_)=_;cases Nat.beq y b<;>cases ts.contains (x,y)<;>rfl
  .have:Nat.beq x a=false:=by rw[HU];simpa using h1
   rw[this];show(bi (Nat.beq y a) (Nat.beq x b) false||_)=_;cases Nat.beq y a<;>cases Nat.beq x b<;>cases ts.contains (x,y)<;>rfl
theorem Yf:∀x∈lows,∀y∈lows,Pq[EZ x y]? = some (x,y):=by decide +kernel
theorem YR(hc:∀x∈cs,x∈lows)(h5:cs.length<=5)(ts:R2):SZ cs (Cf cs ts) (TU cs Pq (T6 cs) ts):=by
 unfold TU;rw[Gx,Y2];refine Mv hc (EN cs) _ _ (λV h=>h) ⟨Mu cs ts,λx hx y hy=>?_⟩;have e1:DX (D5 cs ts) (x,y)=Lh cs ts (x,y):=by
  unfold DX D5;rw[YQ (LU.mpr ⟨hx,hy⟩)];rfl
 rw[e1,R7,DM,AN,AL,Yf x (hc x hx) y (hc y hy)]
 .show Lh cs ts (x,y)=((bi (Nat.beq x y) 0 (bi (Yy ts x y) 1 (II cs)):Nat):Int);unfold Lh;dsimp only;by_cases h:x=y
  .rw [if_pos h,h,Nat.beq_refl];rfl
  .rw [if_neg h,show Nat.beq x y=false by rw[HU];simpa using h,Yz ts h,GR];show _=((bi _ 1 cs.length:Nat):Int);rw[De];split<;>rfl
 .intro d hd;rw[DM]at hd;refine Bi (AF.mp hd) ?_;rintro p V rfl;rw[De,De,GR];split
  .decide
  .split
   .decide
   .exact uy h5 rfl
theorem Z1:∀l:List Bool,l∈bl l.length:=by
 intro l;induction l with
 |nil=>exact  .head _
 |cons b l ih=>
  show b::l∈Gv (Fm (true::·) (bl l.length)) (Fm (false::·) (bl l.length));rw[Hy,DM,DM,Ar];cases b with
  |true=>exact .inl (AF.mpr ⟨l,ih,rfl⟩)
  |false=>exact .inr (AF.mpr ⟨l,ih,rfl⟩)
theorem LK(l:List Bool)(h:true∈l):l∈ne l.length:=by
 unfold ne;rw[NO,Az,HJ,Aq];exact⟨Z1 l,true,h,rfl⟩
theorem Yp(g:α->Nat×Nat)(f:α->Bool):∀l:List α,JO (l.map g) (l.map f)=(l.filter f).map g:=by
 intro l;induction l with
 |nil=>exact  rfl
 |cons a l ih=>
  show bi (f a) (g a::JO (l.map g) (l.map f)) (JO (l.map g) (l.map f))=_;rw[ih,De,A8];split<;>rfl
theorem Yg:(EH 4).zipIdx=[((0,1),0),((0,2),1),((1,2),2),((0,3),3),((1,3),4),((2,3),5)]:=by decide +kernel
theorem Yh:(EH 5).zipIdx=[((0,1),0),((0,2),1),((1,2),2),((0,3),3),((1,3),4),((2,3),5),((0,4),6),((1,4),7),((2,4),8),((3,4),9)]:=by decide +kernel
noncomputable def WD:R2:=[(98,99),(98,100),(99,100),(98,101),(99,101),(100,101)]
noncomputable def WE:R2:=[(98,99),(98,100),(99,100),(98,101),(99,101),(100,101),(98,102),(99,102),(100,102),(101,102)]
theorem jI(a b:Int)(k:Nat):FR a b ((0,1),k)=true:=by
 unfold FR;rw[Bool.or_eq_true];left;show decide ((0:Int)=a/1%1)=true;exact decide_eq_true (by exact Eq.symm (Int.emod_one (a/1)))
theorem jJ(a b:Int)(k l:Nat):true∈[FR a b ((0,2),k),FR a b ((1,2),l)]:=by
 have e:∀i k,((i:Nat):Int)=a/1%2->FR a b ((i,2),k)=true:=λi k h=>by
  unfold FR;rw[Bool.or_eq_true];exact .inl (decide_eq_true h)
 have:a/1%2=0\/a/1%2=1:=by exact Int.emod_two_eq (a/1)
 rcases this with h|h
 .rw [e 0 k h.symm];exact .head _
 .rw [e 1 l h.symm];exact .tail _ (.head _)
theorem jK(a b:Int)(k l m:Nat):true∈[FR a b ((0,3),k),FR a b ((1,3),l),FR a b ((2,3),m)]:=by
 have e:∀i k,((i:Nat):Int)=a/2%3->FR a b ((i,3),k)=true:=λi k h=>by
  unfold FR;rw[Bool.or_eq_true];exact .inl (decide_eq_true h)
 have:a/2%3=0\/a/2%3=1\/a/2%3=2:=by lia
 rcases this with h|h|h
 .rw [e 0 k h.symm];exact .head _
 .rw [e 1 l h.symm];exact .tail _ (.head _)
 .rw [e 2 m h.symm];exact .tail _ (.tail _ (.head _))
theorem pB(a b:Int)(k l m n:Nat):true∈[FR a b ((0,4),k),FR a b ((1,4),l),FR a b ((2,4),m),FR a b ((3,4),n)]:=by
 have e:∀i k,((i:Nat):Int)=a/6%4->FR a b ((i,4),k)=true:=λi k h=>by
  unfold FR;rw[Bool.or_eq_true];exact .inl (decide_eq_true h)
 have:a/6%4=0\/a/6%4=1\/a/6%4=2\/a/6%4=3:=by lia
 rcases this with h|h|h|h
 .rw [e 0 k h.symm];exact .head _
 .rw [e 1 l h.symm];exact .tail _ (.head _)
 .rw [e 2 m h.symm];exact .tail _ (.tail _ (.head _))
 .rw [e 3 n h.symm];exact .tail _ (.tail _ (.tail _ (.head _)))
theorem SS(cs:BZ)(a b:Nat):T8 cs a b=JO ((EH cs.length).zipIdx.map λp=>(cs.getD p.1.1 0,cs.getD p.1.2 0)) ((EH cs.length).zipIdx.map (FR a b)):=by
 rw[Yp];unfold T8 SR;rw[AB];rfl
theorem Y4(a b:Nat):∃l2∈ne 2,∃l3∈ne 3,T8 LI a b=JO WD (true::Gv l2 l3):=by
 refine⟨_,LK _ (jJ a b 1 2),_,LK _ (jK a b 3 4 5),?_⟩;rw[SS,show LI.length=4 from rfl,Yg];show JO WD (FR a b ((0,1),0)::_)=_;rw[jI];rfl
theorem Y5(a b:Nat):∃l2∈ne 2,∃l3∈ne 3,∃l4∈ne 4,T8 lows a b=JO WE (true::Gv l2 (Gv l3 l4)):=by
 refine⟨_,LK _ (jJ a b 1 2),_,LK _ (jK a b 3 4 5),_,LK _ (pB a b 6 7 8 9),?_⟩;rw[SS,show lows.length=5 from rfl,Yh];show JO WE (FR a b ((0,1),0)::_)=_;rw[jI];rfl
noncomputable def eZ:Bool:=Gu (λl2=>Gu (λl3=>XT LI Pq (T6 LI) (JO WD (true::Gv l2 l3))) (ne 3)) (ne 2)
noncomputable def NC(l3:List Bool):Bool:=Gu (λl2=>Gu (λl4=>XT lows Pq (T6 lows) (JO WE (true::Gv l2 (Gv l3 l4)))) (ne 4)) (ne 2)
noncomputable def uN(b:Bool):Nat:=if b then 1 else 0
noncomputable def uL(b:Bool)(y:Nat):Nat:=if b=true then Em y else y
theorem cq:∀y∈lows,(Em y != y)=true/\(y != Em y)=true/\(Em y != Em y)=false/\(y != y)=false:=by decide
theorem Ky(u w:Nat->Bool):∀ys:List Nat,(∀y∈ys,y∈lows)->unlike (ys.map λy=>uL (u y) y) (ys.map λy=>uL (w y) y)=Ew (ys.map u) (ys.map w)/\(ys.map λy=>Pj (uN (u y)) (uN (w y))).sum=Ew (ys.map u) (ys.map w):=by
 intro l;induction l with
 |nil=>exact λV=>⟨rfl,rfl⟩
 |cons y ys ih=>
  intro h;obtain⟨i1,i2⟩:=ih λz hz=>h z (.tail _ hz);refine Hv (cq y (h y (.head _))) ?_;intro n1 n2 n3 n4;unfold unlike at i1 ⊢;rw[AI,AI,AI,AI,AI,List.zip_cons_cons,A8,BC,i2];show _=bi (u y) (bi (w y) (Ew (ys.map u) (ys.map w)) (Nat.succ (Ew (ys.map u) (ys.map w)))) (bi (w y) (Nat.succ (Ew (ys.map u) (ys.map w))) (Ew (ys.map u) (ys.map w)))/\_=bi (u y) (bi (w y) (Ew (ys.map u) (ys.map w)) (Nat.succ (Ew (ys.map u) (ys.map w)))) (bi (w y) (Nat.succ (Ew (ys.map u) (ys.map w))) (Ew (ys.map u) (ys.map w)));rw[<- i1];have c0:Pj 0 0=0:=rfl;have c1:Pj 0 1=1:=rfl;have c2:Pj 1 0=1:=rfl;have c3:Pj 1 1=0:=rfl;cases u y<;>cases w y<;>simp[uL,uN,bi,n1,n2,c0,c1,c2,c3]<;>lia
theorem Rw(f:Nat->α)(ys:BZ):(ys.zipIdx.map λp=>f p.1)=ys.map f:=by
 have:(ys.zipIdx.map λp=>f p.1)=(ys.zipIdx.map Prod.fst).map f:=by rw[AB];rfl
 rw[this,List.zipIdx_map_fst]
theorem PH(u:Nat->Bool)(t:Nat)(ys:BZ):Dr t ys.zipIdx (λp=>uN (u p.1))=ys.map λy=>uL (u y) y:=by
 rw[<- Rw];unfold Dr;refine AW λp V=>?_;show Ig t p (uN (u p.1))=uL (u p.1) p.1;cases u p.1<;>rfl
theorem W0{ys:BZ}(P:Places ys.zipIdx)(hl:∀y∈ys,y∈lows)(u w:Nat->Bool):Jr (ys.map λy=>uL (u y) y) (ys.map λy=>uL (w y) y) (2*(ys.length+1:Nat))=(Ew (ys.map u) (ys.map w):Nat):=by
 have h:=(JG P (t:=0) (by decide) (f:=λp=>uN (u p.1)) (g:=λp=>uN (w p.1)) (λp=>by unfold uN;split<;>decide) (λp=>by unfold uN;split<;>decide)).2.1;rw[PH,PH,List.length_zipIdx]at h;rw[h];unfold HV vec;rw[Rw (λy=>Pj (uN (u y)) (uN (w y))),(Ky u w ys hl).2]
theorem VR(u w:Nat->Bool):∀ys:List Nat,Ew (ys.map u) (ys.map w)=Ew (ys.map w) (ys.map u):=by
 intro l;induction l with
 |nil=>exact  rfl
 |cons y ys ih=>
  show bi (u y) (bi (w y) (Ew (ys.map u) (ys.map w)) (Nat.succ (Ew (ys.map u) (ys.map w)))) (bi (w y) (Nat.succ (Ew (ys.map u) (ys.map w))) (Ew (ys.map u) (ys.map w)))=bi (w y) (bi (u y) (Ew (ys.map w) (ys.map u)) (Nat.succ (Ew (ys.map w) (ys.map u)))) (bi (u y) (Nat.succ (Ew (ys.map w) (ys.map u))) (Ew (ys.map w) (ys.map u)));rw[ih];cases u y<;>cases w y<;>rfl
theorem Se(φ:Nat×Nat->Int):∀(os A:A2),(∀p∈os,p.2=φ p.1)->(∀k,ED A k->DX A k=φ k)->∀k,(ED A k\/k∈os.map (·.1))->ED (RD A os) k/\DX (RD A os) k=φ k:=by
 intro l;induction l with
 |nil=>
  intro A V hA k hk;rcases hk with hk|hk
  .exact ⟨hk,hA k hk⟩
  .cases hk
 |cons p os ih=>
  intro A ho hA k hk;have put_has:ED (GI A p.1 p.2) p.1:=by
   unfold GI;by_cases h:A.any (λq=>decide (q.1=p.1))=true
   .refine Bi (Aq.mp h) ?_;intro q hq e;have:ED A p.1:=AF.mpr ⟨q,hq,by simpa using e⟩;have:=KW A p.1 p.1 p.2 this;unfold GI at this;exact this
   .rw [if_neg h];exact AF.mpr ⟨p,List.mem_append_right _ (.head _),rfl⟩
  have get_self:DX (GI A p.1 p.2) p.1=p.2:=by
   by_cases h:ED A p.1
   .rw [Ip _ _ _ _ h,if_pos rfl]
   .unfold GI;rw[if_neg λz=>h (by
     refine Bi (Aq.mp z) ?_;intro q hq e;exact AF.mpr ⟨q,hq,by simpa using e⟩)]
    unfold DX;have:∀A:A2,¬ED A p.1->(A++[(p.1,p.2)]).lookup p.1=some p.2:=λA=>by
     induction A with
     |nil=>intro V;rw[BT,AK,beq_self_eq_true]
     |cons q A ih=>
      intro h;obtain⟨a,b⟩:=q;rw[List.cons_append,AK,show(p.1==a)=false by simpa using λe=>h (AF.mpr ⟨_,.head _,e.symm⟩)];exact ih λz=>h (.tail _ z)
    rw[this A h];rfl
  refine ih (GI A p.1 p.2) (λq hq=>ho q (.tail _ hq)) (λk' Mb=>?_) k ?_
  .by_cases e:k'=p.1
   .rw [e,get_self];exact ho p (.head _)
   .have hb:ED A k':=by
     by_cases h:A.any (λq=>decide (q.1=p.1))=true
     .unfold ED GI at Mb;rw[if_pos h,AB]at Mb;refine Bi (AF.mp Mb) ?_;intro q hq e2;refine AF.mpr ⟨q,hq,?_⟩;rw[<- e2];show q.1=(if q.1=p.1 then(q.1,p.2)else q).1;split<;>rfl
     .unfold ED GI at Mb;rw[if_neg h,Af,Ar]at Mb;rcases Mb with Mb|Mb
      .exact Mb
      .exact absurd (AG.mp Mb) e
    rw[Ip _ _ _ _ hb,if_neg e];exact hA k' hb
  .rcases hk with hk|hk
   .exact .inl (KW _ _ _ _ hk)
   .rcases AJ.mp hk with hk|hk
    .exact .inl (by rw[hk];exact put_has)
    .exact .inr hk
theorem Qj{nm:BZ}{x y:Nat}(hx:x∈nm)(hy:y∈nm):(x,y)∈CK nm\/(y,x)∈CK nm:=by
 have mk:∀(i j a b:Nat),nm[i]? = some a->nm[j]? = some b->i<=j->(a,b)∈CK nm:=λi j a b ha hb ar=>by
  unfold CK;refine Am.mpr ⟨(a,i),?_,AF.mpr ⟨b,?_,rfl⟩⟩
  .exact List.mem_iff_getElem?.mpr ⟨i,by rw[List.getElem?_zipIdx,ha];simp⟩
  .exact List.mem_iff_getElem?.mpr ⟨j-i,by rw[List.getElem?_drop,show i+(j-i)=j by exact Nat.add_sub_of_le ar];exact hb⟩
 refine B6 (List.mem_iff_getElem?.mp hx) ?_;intro i hi;refine B6 (List.mem_iff_getElem?.mp hy) ?_;intro j hj;by_cases h:i<=j
 .exact .inl (mk i j x y hi hj h)
 .exact .inr (mk j i y x hj hi (by exact Nat.le_of_not_ge h))
theorem TG{nm:BZ}{W:W2}{A:A2}(φ:Nat×Nat->Int)(h1:∀p∈CK nm,Et W nm.length p-DX A (p.1,p.2)=φ p/\Et W nm.length p-DX A (p.2,p.1)=φ (p.2,p.1)){x y:Nat}(hx:x∈nm)(hy:y∈nm):ED (Eg nm W A) (x,y)/\DX (Eg nm W A) (x,y)=φ (x,y):=by
 refine Se φ _ [] (λq hq=>?_) (λk hk=>by cases hk) (x,y) (.inr ?_)
 .refine Bi (Am.mp hq) ?_;intro p hp hq;rcases AJ.mp hq with rfl|hq
  .exact (h1 p hp).1
  .rw [AG.mp hq];exact(h1 p hp).2
 .rcases Qj hx hy with h|h
  .exact AF.mpr ⟨_,Am.mpr ⟨_,h,.head _⟩,rfl⟩
  .exact AF.mpr ⟨_,Am.mpr ⟨_,h,.tail _ (.head _)⟩,rfl⟩
section
variable {cs:BZ}{ts:R2}{M r:Nat}{late:Bool}{th:TH}{nm:BZ}
structure Ij(cs:BZ)(ts:R2)(M:Nat)(r:Nat)(late:Bool)(th:TH)(nm:BZ):Prop where
 low:∀x∈cs,x∈lows
 I0:cs.length=4\/cs.length=5
 tab:SZ cs (Cf cs ts) M
 sym:∀x∈cs,∀y∈cs,Fp M (EZ x y)=Fp M (EZ y x)
 tree:RA M cs ts r late th nm
theorem Ij.in(S:Ij cs ts M r late th nm){x:Nat}(h:x∈nm):x∈cs:=S.tree.perm.mem_iff.mp h
theorem Ij.len(S:Ij cs ts M r late th nm):nm.length=cs.length:=S.tree.perm.length_eq
theorem Ij.rh(S:Ij cs ts M r late th nm):(nm.drop 1).length=3\/(nm.drop 1).length=4:=by
 rw[AM,S.len];exact S.I0.imp (λe=>by rw[e]) λe=>by rw[e]
theorem Ij.Pf(S:Ij cs ts M r late th nm):∀y∈nm.drop 1,y∈lows:=λy hy=>S.low y (S.in (Aj hy))
theorem Ij.pl(S:Ij cs ts M r late th nm):Places (nm.drop 1).zipIdx:=Places.zip S.rh S.Pf (S.tree.nd.sublist (List.drop_sublist 1 nm))
noncomputable def uT(th:TH)(x y:Nat):Bool:=(Hu th x).contains y
theorem Lq(x:Nat):wordOf th nm x=(nm.drop 1).map λy=>uL (uT th x y) y:=rfl
noncomputable def VQ(th:TH)(nm:BZ)(x z:Nat):Nat:=Ew ((nm.drop 1).map (uT th x)) ((nm.drop 1).map (uT th z))
theorem Ij.jo(S:Ij cs ts M r late th nm){x z:Nat}(hx:x∈nm)(hz:z∈nm):Et (Ca th nm) nm.length (x,z)=(VQ th nm x z:Nat)/\unlike (Bo (Ca th nm) x) (Bo (Ca th nm) z)=VQ th nm x z:=by
 unfold Et Ca;dsimp only;rw[GG hx,GG hz,Lq,Lq];refine⟨?_,(Ky _ _ _ S.Pf).1⟩;have e:nm.length=(nm.drop 1).length+1:=by rw[AM,S.len];exact S.I0.elim (λe=>by rw[e]) λe=>by rw[e]
 rw[e];exact W0 S.pl S.Pf _ _
noncomputable def K9(M:Nat)(th:TH)(nm:BZ)(p:Nat×Nat):Int:=(VQ th nm p.1 p.2:Nat)-(Fp M (EZ p.1 p.2):Nat)
theorem Ij.Ot(S:Ij cs ts M r late th nm){x y:Nat}(hx:x∈nm)(hy:y∈nm):ED (Eg nm (Ca th nm) (Cf cs ts)) (x,y)/\DX (Eg nm (Ca th nm) (Cf cs ts)) (x,y)=K9 M th nm (x,y):=by
 refine TG (K9 M th nm) (λp hp=>?_) hx hy;refine CC (Cu hp) ?_;intro h1 h2;have f:=(S.jo h1 h2).1;have t1:=S.tab.2 _ (S.in h1) _ (S.in h2);have t2:=S.tab.2 _ (S.in h2) _ (S.in h1);refine⟨?_,?_⟩
 .rw [show Et (Ca th nm) nm.length p=_ from f,t1];rfl
 .rw [show Et (Ca th nm) nm.length p=_ from f,t2];unfold K9 VQ;rw[VR (uT th p.2) (uT th p.1)]
theorem Vw(x z:Nat):((dm M th (nm.drop 1) x z:Nat):Int)=K9 M th nm (x,z)+8:=by
 have h:Fp M (EZ x z)<8:=Nat.mod_lt _ (by decide);have u:∀x,uF th (nm.drop 1) x=(nm.drop 1).map (uT th x):=λx=>by
  unfold uF;rw[DM];refine AW λy V=>?_;rw[SY,GY];rfl
 unfold dm K9 VQ;rw[u,u];dsimp only;generalize Ew _ _=H;generalize Fp M (EZ x z)=d at h;show((H+8-d:Nat):Int)=_;lia
noncomputable def Uk(B:A2)(x:Nat)(os wx:BZ)(ab:Nat->Nat)(p:Nat×Nat):Nat:=if wx.contains p.1 then 1 else if Jh B x os ab p then 2 else 0
theorem ND(B:A2)(x:Nat)(os wx:BZ)(ab:Nat->Nat)(p:Nat×Nat):Uk B x os wx ab p<=2:=by
 unfold Uk;split
 .decide
 .split<;>decide
theorem US(B:A2)(x:Nat)(os wx:BZ)(ab:Nat->Nat)(t:Nat):EC B x os wx ab t=Dr t os.zipIdx (Uk B x os wx ab):=by
 unfold EC Dr;refine AW λp V=>?_;unfold Io Ig Uk stN;by_cases h:wx.contains p.1=true
 .rw [if_pos h,if_pos h,if_pos rfl]
 .rw [if_neg h,if_neg h];by_cases h2:Jh B x os ab p=true
  .rw [if_pos h2,if_pos h2];rfl
  .rw [if_neg h2,if_neg h2];rfl
noncomputable abbrev LA(cs:BZ)(ts:R2)(th:TH)(nm:BZ):A2:=Eg nm (Ca th nm) (Cf cs ts)
noncomputable def OO(cs:BZ)(ts:R2)(th:TH)(nm:BZ)(x:Nat):Nat×Nat->Nat:=Uk (LA cs ts th nm) x (nm.drop 1) (Hu th x) (Pp th)
theorem Ij.row(S:Ij cs ts M r late th nm)(t:Nat){x:Nat}(hx:x∈nm):Bo (FK th nm (LA cs ts th nm) t) x=Dr t (nm.drop 1).zipIdx (OO cs ts th nm x):=by
 unfold FK;rw[GG hx,US];rfl
theorem Ij.star(S:Ij cs ts M r late th nm){x y:Nat}(hx:x∈nm)(hy:y∈nm.drop 1)(i:Nat)(later:Bool)(hl:later=((nm.drop 1).drop i).contains x):SK M th (nm.drop 1) x y later=Jh (LA cs ts th nm) x (nm.drop 1) (Pp th) (y,i):=by
 refine Bi (S.tree.above y hy) ?_;intro wy V ha;have b1:=(S.Ot hx (Aj hy)).2;have b2:=(S.Ot hx ha).2;have k1:=Vw (M:=M) (th:=th) (nm:=nm) x y;have k2:=Vw (M:=M) (th:=th) (nm:=nm) x (Pp th y);unfold Jh kY;dsimp only;rw[b1,b2,<- hl];unfold SK;rw[Zw];generalize dm M th (nm.drop 1) x y=a at *;generalize dm M th (nm.drop 1) x (Pp th y)=b at *;generalize K9 M th nm (x,y)=la at *;generalize K9 M th nm (x,Pp th y)=lb at *;have e1:Nat.beq a (Nat.add b 2)=decide (la-lb=2):=by
  rw[Bool.eq_iff_iff,Nat.beq_eq,decide_eq_true_eq];show a=b+2↔_;lia
 have e2:Nat.beq a (Nat.add b 1)=decide (la-lb=1):=by
  rw[Bool.eq_iff_iff,Nat.beq_eq,decide_eq_true_eq];show a=b+1↔_;lia
 have e3:Nat.beq (Nat.mod a 2) 0=decide (la%2=0):=by
  rw[Bool.eq_iff_iff,Nat.beq_eq,decide_eq_true_eq];show a%2=0↔_;lia
 dsimp only;rw[e1,e2,e3];cases decide (la-lb=2)<;>cases decide (la-lb=1)<;>cases decide (la%2=0)<;>(cases later with|false=>rfl|true=>rfl)
theorem Ij.cls(S:Ij cs ts M r late th nm){x:Nat}(hx:x∈nm):Iu M th (nm.drop 1) x (nm.drop 1)=(nm.drop 1).zipIdx.map (OO cs ts th nm x):=by
 have key:∀(l:BZ) (k:Nat),(nm.drop 1).drop k=l->Iu M th (nm.drop 1) x l=(l.zipIdx k).map (OO cs ts th nm x):=λl=>by
  induction l with
  |nil=>intro k V;rfl
  |cons y l ih=>
   intro k hk;have UD:(nm.drop 1).drop (k+1)=l:=by rw[<- List.drop_drop,hk];rfl
   have hy:y∈nm.drop 1:=Aj (i:=k) (by rw[hk];exact .head _);rw[List.zipIdx_cons,AI,<- ih (k+1) UD];show bi (GW (Wz th x) y) 1 (bi (SK M th (nm.drop 1) x y (GW (y::l) x)) 2 0)::Iu M th (nm.drop 1) x l=_;congr 1;rw[S.star hx hy k _ (by rw[GY,hk]),SY,GY,De,De];rfl
 exact key _ 0 rfl
theorem Ol:∀y∈lows,GQ y=true/\GQ (Em y)=true:=by decide +kernel
theorem TA:∀s∈DF,GQ s=false:=by decide +kernel
theorem IG{t:Nat}{p:Nat×Nat}(h:p.1∈lows){c:Nat}(hc:c<=2):GQ (Ig t p c)=!(Nat.beq c 2):=by
 rcases three hc with rfl|rfl|rfl
 .exact (Ol _ h).1
 .exact (Ol _ h).2
 .exact TA _ (JP _ _)
theorem Z3:∀c ≤2,∀d ≤2,Pj c d=uN (Nat.beq (c+d) 1)+2*uN ((!(Nat.beq c 2)) != (!(Nat.beq d 2))):=by decide
theorem sum_rows(t:Nat){f g:Nat×Nat->Nat}(hf:∀p,f p<=2)(hg:∀p,g p<=2):∀ps:List (Nat×Nat),(∀p∈ps,p.1∈lows)->(vec ps f g).sum=NF (ps.map f) (ps.map g)+2*bT (Dr t ps f) (Dr t ps g):=by
 intro l;induction l with
 |nil=>exact λV=>rfl
 |cons p ps ih=>
  intro h;have ih:=ih λq hq=>h q (.tail _ hq);have a1:=IG (t:=t) (h p (.head _)) (hf p);have a2:=IG (t:=t) (h p (.head _)) (hg p);unfold vec Dr bT at ih ⊢;rw[AI,AI,AI,AI,AI,BC,List.zip_cons_cons,A8,ih];dsimp only;rw[a1,a2];have e1:NF (f p::ps.map f) (g p::ps.map g)=NF (ps.map f) (ps.map g)+uN (Nat.beq (f p+g p) 1):=by
   show bi (Nat.beq (f p+g p) 1) (Nat.succ (NF (ps.map f) (ps.map g))) (NF (ps.map f) (ps.map g))=_;cases Nat.beq (f p+g p) 1<;>rfl
  have e2:∀(b:Bool) (q:Nat×Nat) (L:List (Nat×Nat)),(if b=true then q::L else L).length=L.length+uN b:=λb q L=>by cases b<;>rfl
  rw[e1,e2,Z3 _ (hf p) _ (hg p)];lia
theorem R6:∀(l:BZ) (i:Nat),Nu l i=l.getD i 0
 |[],_=>rfl
 |a::l,0=>rfl
 |a::l,i+1=>R6 l i
theorem My:∀(v:BZ) (k:Nat),k<v.length->v.sum=(v.eraseIdx k).sum+v.getD k 0
 |a::v,0,_=>by rw[List.eraseIdx_cons_zero,BC,List.getD_cons_zero];exact Nat.add_comm a v.sum
 |a::v,k+1,h=>by
  rw[List.eraseIdx_cons_succ,BC,BC,List.getD_cons_succ,My v k (Nat.lt_of_succ_lt_succ h)];exact Eq.symm (Nat.add_assoc a (v.eraseIdx k).sum (v.getD k 0))
theorem cV(v:BZ)(h:∀d∈v,d<=2):v.sum<=2*v.length:=by
 induction v with
 |nil=>exact Ad 0
 |cons a v ih=>
  rw[BC,AZ];have:=h a (.head _);have:=ih λd hd=>h d (.tail _ hd);lia
end
section
variable {cs:BZ}{ts:R2}{M r:Nat}{late:Bool}{th:TH}{nm:BZ}
theorem Ij.fm(S:Ij cs ts M r late th nm){x i:Nat}(hx:x∈nm){p:Nat×Nat}(hp:(nm.drop 1).zipIdx[i]? = some p):Nu (Iu M th (nm.drop 1) x (nm.drop 1)) i=OO cs ts th nm x p:=by
 rw[S.cls hx,R6,AN,AL,hp];rfl
theorem Ij.iq(S:Ij cs ts M r late th nm){t h:Nat}(ht:t<7)(hh:h<5){G:W2}{P:P2}(eG:G=FK th nm (LA cs ts th nm) t)(eP:P=D0 nm G h){hd:Nat}{y:Nat}(hk:nm[k]? = some y){x:Nat}(hx:x∈nm.take k):M5 (Cf cs ts) G P hd k y x:=by
 have hy:=AQ hk;have dR:=Ay hx;refine FP (S.tree.pairs k y hk x hx) ?_;intro c1 c2 c3;have k1:1<=k:=by
  cases k with
  |zero=>cases hx
  |succ k=>omega
 obtain⟨i,rfl⟩:∃i,k=i+1:=⟨k-1,by omega⟩
 rw[Nat.add_sub_cancel]at c2 c3;have uh:(nm.drop 1)[i]? = some y:=by rw[List.getElem?_drop,Nat.add_comm];exact hk
 have dQ:(nm.drop 1).zipIdx[i]? = some (y,i):=by rw[List.getElem?_zipIdx,uh];simp
 have gX:i<(nm.drop 1).zipIdx.length:=(AP.mp dQ).1;rw[S.fm hy dQ]at c2;rw[S.fm dR dQ]at c3;rw[S.cls hy,S.cls dR]at c1;let ps:=(nm.drop 1).zipIdx;let f:=OO cs ts th nm x;let g:=OO cs ts th nm y;have hf:∀p,f p<=2:=ND _ _ _ _ _;have hg:∀p,g p<=2:=ND _ _ _ _ _;have gx:Bo G x=Dr t ps f:=by rw[eG];exact S.row t dR
 have gy:Bo G y=Dr t ps g:=by rw[eG];exact S.row t hy
 have pc:∀z∈nm,Cz P z=(Bo G z).map (CP h):=λz hz=>by
  rw[eP];unfold Cz D0;rw[LD (f:=λx=>(Bo G x).map (CP h)) hz];rfl
 have PL:Places ps:=S.pl;have sum:=sum_rows t hf hg ps PL.low;have jn:ER (Cf cs ts) G x y=HV (vec ps f g):=by
  unfold ER HV;rw[gx,gy,S.tab.2 _ (S.in dR) _ (S.in hy),c1,sum];show((NF (ps.map f) (ps.map g):Nat):Int)+_=_;exact(λ{a} {n}=>Int.mem_toNat?.mp) rfl
 have small:(vec ps f g).sum<=8:=by
  have h1:=cV (vec ps f g) λd hd=>by
   refine Bi (AF.mp hd) ?_;rintro p V rfl;exact UZ _ _
  have h2:(vec ps f g).length=ps.length:=AA _;have:=PL.len;(clear ht gX sum;lia)
 have T1:=JG PL ht hf hg;have T2:=JG PL ht hg hf;have T3:=TL PL ht hh hg hf gX;rw[Wu ps g f]at T2 T3;have vi:(vec ps f g).getD i 0=Pj (f (y,i)) 1:=by
  unfold vec;rw[AN,AL,dQ];show Pj (f (y,i)) (g (y,i))=_;rw[show g (y,i)=1 from c2]
 have es:=My (vec ps f g) i (by rw[show(vec ps f g).length=ps.length from AA _];exact gX);rw[vi]at es;have Pf:y∈lows:=S.low y (S.in hy);have gi:(Bo G x).getD i 0=Ig t (y,i) (f (y,i)):=by
  rw[gx,AN];unfold Dr;rw[AL,dQ];rfl
 have tU:(Bo G y).getD i 0=Ig t (y,i) 1:=by
  rw[gy,AN];unfold Dr;rw[AL,dQ];show Ig t (y,i) (g (y,i))=_;rw[show g (y,i)=1 from c2]
 have tH:Dt (Cf cs ts) G x y (i+1)=PY (vec ps f g) i:=by
  unfold Dt PY;rw[Nat.add_sub_cancel,gi,IG Pf (hf _),jn];unfold HV;rcases three (hf (y,i))with e|e|e
  .rw [e]at es ⊢;rw[if_pos (by decide),show Pj 0 1=1 from rfl]at *;(clear sum;lia)
  .exact absurd e c3
  .rw [e]at es ⊢;rw[if_neg (by decide),show Pj 2 1=2 from rfl]at *;exact(λ{m n}=>Int.ofNat_inj.mpr) es
 have ph:∀z∈nm,Dn P z (i+1)=((Bo G z).map (CP h)).take i++((Bo G z).map (CP h)).drop (i+1):=λz hz=>by
  unfold Dn;rw[pc z hz,Nat.add_sub_cancel]
 refine⟨?_,?_,?_,λV=>?_,λV=>?_,λV=>?_⟩
 .rw [jn];unfold HV;(clear ht sum;lia)
 .rw [jn,gx,gy];exact T1.1
 .rw [tH,pc y hy,ph x dR,gx,gy];exact T3.1
 .rw [jn,gx,gy];exact T2.2.2
 .rw [pc y hy,ph x dR,gx,gy];exact T3.2
 .have lr:∀f,(Dr t ps f).length=ps.length:=λf=>AA _;refine YP (n:=ps.length) (i:=i) PL.len (by rw[gx];exact lr f) (by rw[gy];exact lr g) gX ?_;rw[gi,tU];intro z;have four:i<4:=by have h1:i<ps.length:=gX;have:=PL.len;lia
  have key:=(OQ ht (p:=(y,i)) (q:=(y,i)) Pf Pf four four (hf (y,i)) (d:=1) (by decide)).2 rfl;rw[z]at key;rw[show EL (Ig t (y,i) 1) (Ig t (y,i) 1)=0 from by unfold EL;rw[Nat.beq_refl];rfl]at key;rcases three (hf (y,i))with e|e|e
  .rw [e]at key;cases key
  .exact c3 e
  .rw [e]at key;cases key
end
section
variable {cs:BZ}{ts:R2}{M r:Nat}{late:Bool}{th:TH}{nm:BZ}
theorem Mr{f:Nat->Nat->List Nat}{l:BZ}{g:Nat->Nat}(h:∀i c,l[i]? = some c->f i c=[g c]):placed (tx l) f=(l.map g).toArray:=by
 unfold placed;apply Array.ext';rw[Array.toList_flatten,Array.toList_mapIdx];show(List.map Array.toList (List.mapIdx _ l)).flatten=l.map g;have e:List.mapIdx (λi c=>(f i c).toArray) l=l.map λc=>#[g c]:=by
  apply List.ext_getElem?;intro i;rw[List.getElem?_mapIdx,AL];cases hl:l[i]? with
  |none=>rfl
  |some c=>simp[h i c hl]
 rw[e,AB];clear h e;induction l with
 |nil=>rfl
 |cons a l ih=>rw[AI,List.flatten_cons,ih];rfl
noncomputable def Oz(c:Nat):Nat:=(Unicode.lowerOf c).headD c
noncomputable def rT(c:Nat):List Nat:=if Unicode.isUpper c then Unicode.lowerOf c else if Unicode.isLower c then Unicode.upperOf c else[c]
noncomputable def d7(c:Nat):Nat:=(rT c).headD c
theorem GA:∀c<128,(c==0x3A3)=false/\Unicode.lowerOf c=[Oz c]/\Oz c<128/\Df (Oz c)=Df c:=by decide +kernel
theorem Lk:∀c<128,rT c=[d7 c]/\d7 c<128/\Oz (d7 c)=Oz c/\Df (d7 c)=Df c:=by decide +kernel
theorem Ze{l:BZ}(h:∀a∈l,a<128){i c:Nat}(e:l[i]? = some c):Unicode.lowerAt (tx l).cps i=Unicode.lowerOf c:=by
 unfold Unicode.lowerAt;show(match l.toArray[i]? with|none=>_|some c=>_)=_;rw[BK,e];dsimp only;rw[(GA c (h c (AQ e))).1];rfl
theorem LH{l:BZ}(h:∀a∈l,a<128):Txt.lower (tx l)=tx (l.map Oz):=congrArg Str.mk (Mr λi c e=>by
 rw[Ze h e];exact(GA c (h c (AQ e))).2.1)
theorem SO{l:BZ}(h:∀a∈l,a<128):Txt.swapcase (tx l)=tx (l.map d7):=congrArg Str.mk (Mr λi c e=>by
 rw[Ze h e];exact(Lk c (h c (AQ e))).1)
theorem Pz(l:BZ):Dk (tx l)=l.any Df:=List.any_toArray
theorem O9{l:BZ}(h:∀a∈l,a<128):PyData.strOk (tx l)=true:=by
 show l.toArray.all _=true;rw[List.all_toArray,Ah];exact λa ha=>decide_eq_true (by have:=h a ha;exact kD this rfl)
theorem any_map{l:BZ}{g:Nat->Nat}(h:∀a∈l,Df (g a)=Df a):(l.map g).any Df=l.any Df:=by
 rw[List.any_map,Bool.eq_iff_iff,Aq,Aq];exact exists_congr λa=>and_congr_right λha=>by rw[Function.comp_apply,h a ha]
noncomputable def Tw(h a:Nat):List Nat:=(CP h a).cps.toList
theorem Ld:∀h<5,∀a∈Bz,1<=(Tw h a).length/\(Tw h a).length<=10/\∀c∈Tw h a,c<128/\Txt.contains (S "\t\n\r") (sg c)=Df c:=by decide +kernel
theorem SJ:∀h<5,∀y∈lows,(Tw h y).map Oz=[y]/\(Tw h (Em y)).map Oz=[y]:=by decide +kernel
theorem WV:∀h<5,∀s∈DF,∀y∈lows,((Tw h s).map Oz).head?≠none/\((Tw h s).map Oz).head?≠some y:=by decide +kernel
noncomputable def b9(h t:Nat)(b:Bool)(p:Nat×Nat):List Nat:=if b then[p.1]else(Tw h (stN t p.2)).map Oz
theorem cA{h t:Nat}(hh:h<5){p:Nat×Nat}(hp:p.1∈lows){c:Nat}(hc:c<=2):(Tw h (Ig t p c)).map Oz=b9 h t (GQ (Ig t p c)) p:=by
 rw[IG hp hc];rcases three hc with rfl|rfl|rfl
 .exact (SJ h hh _ hp).1
 .exact (SJ h hh _ hp).2
 .rfl
theorem R8{h t:Nat}(hh:h<5)(u v:Nat×Nat->Bool):∀ps:List (Nat×Nat),(∀p∈ps,p.1∈lows)->((ps.flatMap λp=>b9 h t (u p) p)=(ps.flatMap λp=>b9 h t (v p) p)↔ps.map u=ps.map v)
 |[],_=>⟨λV=>rfl,λV=>rfl⟩
 |p::ps,hp=>by
  have ih:=R8 (t:=t) hh u v ps λq hq=>hp q (.tail _ hq);have st:=WV h hh _ (JP t p.2) p.1 (hp p (.head _));rw[AX,AX,AI,AI,List.cons.injEq,<- ih];have ne:∀X Y:List Nat,b9 h t true p++X≠b9 h t false p++Y:=λX Y z=>by
   have:=congrArg List.head? z;rw[List.head?_append,List.head?_append]at this;show False;unfold b9 at this;rw[if_pos rfl,if_neg (by decide)]at this;generalize((Tw h (stN t p.2)).map Oz).head? = o at *;cases o with
   |none=>exact st.1 rfl
   |some c=>exact st.2 this.symm
  cases hu:u p<;>cases hv:v p
  .rw [List.append_cancel_left_eq];exact⟨λz=>⟨rfl,z⟩,λz=>z.2⟩
  .exact ⟨λz=>absurd z.symm (ne _ _),λz=>by cases z.1⟩
  .exact ⟨λz=>absurd z (ne _ _),λz=>by cases z.1⟩
  .rw [List.append_cancel_left_eq];exact⟨λz=>⟨rfl,z⟩,λz=>z.2⟩
noncomputable def FZ(h:Nat)(l:BZ):List Nat:=l.flatMap (Tw h)
theorem Sv{h:Nat}(hh:h<5):∀l:List Nat,(∀a∈l,a∈Bz)->l.length<=(FZ h l).length/\(FZ h l).length<=10*l.length:=by
 intro l;induction l with
 |nil=>exact λV=>⟨Ad _,Ad _⟩
 |cons a l ih=>
  intro hl;have ih:=ih λb hb=>hl b (.tail _ hb);have:=Ld h hh a (hl a (.head _));unfold FZ at ih ⊢;rw[AX,Ac,AZ];lia
theorem I9{h:Nat}(hh:h<5){l:BZ}(hl:∀a∈l,a∈Bz):∀c∈FZ h l,c<128/\Txt.contains (S "\t\n\r") (sg c)=Df c:=λc hc=>by
 refine Bi (Am.mp hc) ?_;intro a ha hc;exact(Ld h hh a (hl a ha)).2.2 c hc
theorem OX{h t:Nat}(hh:h<5){ps:List (Nat×Nat)}(hp:∀p∈ps,p.1∈lows){f:Nat×Nat->Nat}(hf:∀p,f p<=2):(FZ h (Dr t ps f)).map Oz=ps.flatMap λp=>b9 h t (GQ (Ig t p (f p))) p:=by
 unfold FZ Dr;rw[List.flatMap_map,BP];induction ps with
 |nil=>rfl
 |cons p ps ih=>rw[AX,AX,ih λq hq=>hp q (.tail _ hq),cA hh (hp p (.head _)) (hf p)]
theorem Ij.book(S:Ij cs ts M r late th nm){t h:Nat}(hh:h<5){G:W2}{P:P2}(eG:G=FK th nm (LA cs ts th nm) t)(eP:P=D0 nm G h):KQ P G nm/\(∀x∈nm,∀s∈Cz P x,FE s)/\(∀x∈nm,(Bo G x).length+1=nm.length)/\∀x∈nm,∀a∈Bo G x,a∈Bz:=by
 let ps:=(nm.drop 1).zipIdx;have PL:Places ps:=S.pl;have hf:∀x p,OO cs ts th nm x p<=2:=λx=>ND _ _ _ _ _;have gx:∀x∈nm,Bo G x=Dr t ps (OO cs ts th nm x):=λx hx=>by rw[eG];exact S.row t hx
 have pc:∀z∈nm,Cz P z=(Bo G z).map (CP h):=λz hz=>by
  rw[eP];unfold Cz D0;rw[LD (f:=λx=>(Bo G x).map (CP h)) hz];rfl
 have cQ:∀x∈nm,∀a∈Bo G x,a∈Bz:=λx hx a ha=>by
  rw[gx x hx]at ha;refine Bi (AF.mp ha) ?_;rintro p hp rfl;exact N6 (PL.low p hp)
 have ln:∀x∈nm,(Bo G x).length=ps.length:=λx hx=>by rw[gx x hx];exact AA _
 have nl:nm.length=ps.length+1:=by
  show _=(nm.drop 1).zipIdx.length+1;rw[List.length_zipIdx,AM,S.len];have:=S.I0;lia
 have four:ps.length<=4:=by have:=PL.len;(clear hh nl;lia)
 have bb:∀x∈nm,GZ P x=tx (FZ h (Bo G x)):=λx hx=>by
  show Jc _=_;rw[Od,pc x hx,List.flatMap_map];rfl
 have asc:∀x∈nm,∀c∈FZ h (Bo G x),c<128:=λx hx c hc=>(I9 hh (cQ x hx) c hc).1;have YN:∀x∈nm,1<=(FZ h (Bo G x)).length/\(FZ h (Bo G x)).length<=40:=λx hx=>by
  have a:=Sv hh _ (cQ x hx);have b:=ln x hx;have:=PL.len;(clear four;lia)
 have lM:∀x∈nm,∀c∈(FZ h (Bo G x)).map d7,c<128:=λx hx c hc=>by
  refine Bi (AF.mp hc) ?_;rintro a ha rfl;exact(Lk a (asc x hx a ha)).2.1
 have iF:∀x∈nm,Txt.lower (Txt.swapcase (GZ P x))=tx ((FZ h (Bo G x)).map Oz):=λx hx=>by
  rw[bb x hx,SO (asc x hx),LH (lM x hx),AB];congr 1;exact AW λa ha=>(Lk a (asc x hx a ha)).2.2.1
 have pH:∀x∈nm,∀c∈(FZ h (Bo G x)).map Oz,c<128:=λx hx c hc=>by
  refine Bi (AF.mp hc) ?_;rintro a ha rfl;exact(GA a (asc x hx a ha)).2.2.1
 have low:∀x∈nm,Txt.lower (GZ P x)=tx ((FZ h (Bo G x)).map Oz):=λx hx=>by rw[bb x hx,LH (asc x hx)]
 have o7:∀x∈nm,∀s∈Cz P x,∃a∈Bz,s=CP h a:=λx hx s hs=>by
  rw[pc x hx]at hs;refine Bi (AF.mp hs) ?_;rintro a ha rfl;exact⟨a,cQ x hx a ha,rfl⟩
 refine⟨⟨λx hx=>S.low x (S.in hx),S.tree.nd,by rw[nl];lia,λx hx=>?_,λx hx=>?_,λx hx=>by rw[ln x hx];exact lb four rfl,λx hx=>⟨?_,?_,?_⟩,λx hx Nc=>⟨?_,?_,?_,?_,?_⟩,λx hx Nc=>?_⟩,λx hx s hs=>?_,λx hx=>by rw[ln x hx,nl],cQ⟩
 .rw [eP];unfold D0;rw[AB];exact AF.mpr ⟨x,hx,rfl⟩
 .rw [eG];unfold FK;rw[AB];exact AF.mpr ⟨x,hx,rfl⟩
 .rw [bb x hx,DY];have:=YN x hx;lia
 .rw [pc x hx,AB];have e:∀l:List Nat,(∀a∈l,a∈Bz)->(l.map λa=>(CP h a).length).sum<=10*l.length:=λl=>by
   induction l with
   |nil=>intro V;exact Ad _
   |cons a l ih=>
    intro hl;have h1:=ih λb hb=>hl b (.tail _ hb);have h2:(CP h a).length<=10:=(Ld h hh a (hl a (.head _))).2.1;rw[AI,BC,AZ];lia
  have e:=e _ (cQ x hx);rw[ln x hx]at e;show((Bo G x).map λa=>(CP h a).length).sum<=1000;lia
 .unfold MD;rw[bb x hx,Kc,Pz,Bool.eq_iff_iff,List.isEmpty_iff,List.filter_eq_nil_iff,Bool.not_eq_true',List.any_eq_false];refine⟨λz c hc=>?_,λz s hs=>?_⟩
  .rw [<- (I9 hh (cQ x hx) c hc).2];exact z _ (AF.mpr ⟨c,hc,rfl⟩)
  .refine Bi (AF.mp hs) ?_;rintro c hc rfl;rw[(I9 hh (cQ x hx) c hc).2];exact z c hc
 .refine .name ?_ ?_ ?_
  .rw [iF x hx,Pz,any_map λa ha=>(GA a (asc x hx a ha)).2.2.2];unfold MD at Nc;rw[bb x hx,Pz]at Nc;simpa using Nc
  .rw [iF x hx,DY,AA];exact(YN x hx).1
  .rw [iF x hx,DY,AA];have:=(YN x hx).2;exact lb this rfl
 .rw [iF x hx];exact O9 (pH x hx)
 .rw [low x hx];exact O9 (pH x hx)
 .rw [bb x hx];exact O9 (asc x hx)
 .rw [bb x hx,SO (asc x hx),DY,AA];have:=(YN x hx).2;exact lb this rfl
 .unfold HO Cv FC;rw[List.filter_map,AB];show List.map sg _=List.map sg _;congr 1;refine List.filter_congr λy hy=>?_;have hy:=(Az.mp hy).1;show decide (Txt.lower (GZ P y)=_)=((Bo G y).map GQ==(Bo G x).map GQ);rw[low y hy,iF x hx,gx y hy,gx x hx,OX hh PL.low (hf y),OX hh PL.low (hf x),Bool.eq_iff_iff,decide_eq_true_eq,beq_iff_eq];have mp:∀f,(Dr t ps f).map GQ=ps.map λp=>GQ (Ig t p (f p)):=λf=>by unfold Dr;rw[AB];rfl
  rw[mp,mp,<- R8 (t:=t) hh _ _ ps PL.low];exact⟨λz=>congrArg (λs:Str=>s.cps.toList) z,congrArg tx⟩
 .refine Bi (o7 x hx s hs) ?_;rintro a ha rfl;have e:CP h a=tx (Tw h a):=rfl;have asc:∀c∈Tw h a,c<128:=λc hc=>((Ld h hh a ha).2.2 c hc).1;refine⟨?_,?_,AD (Ld h hh a ha).2.1 (by decide)⟩
  .rw [e];exact O9 asc
  .rw [e,LH asc];refine O9 λc hc=>?_;refine Bi (AF.mp hc) ?_;rintro b hb rfl;exact(GA b (asc b hb)).2.2.1
end
theorem XS:eZ=true:=by decide +kernel
theorem Z4:NC [true,true,true]=true:=by decide +kernel
theorem Z5:NC [true,true,false]=true:=by decide +kernel
theorem Z6:NC [true,false,true]=true:=by decide +kernel
theorem Z7:NC [true,false,false]=true:=by decide +kernel
theorem Z8:NC [false,true,true]=true:=by decide +kernel
theorem Z9:NC [false,true,false]=true:=by decide +kernel
theorem aA:NC [false,false,true]=true:=by decide +kernel
noncomputable def GC(L:List α)(lo hi st:Option Int):List α:=(PySem.sliceRange (sliceBounds lo hi st L.length).1 (sliceBounds lo hi st L.length).2.1 (sliceBounds lo hi st L.length).2.2).filterMap (L[·]?)
theorem Mq{β:Type}(f:α->β)(L:List α)(lo hi st:Option Int):GC (L.map f) lo hi st=(GC L lo hi st).map f:=by
 unfold GC;rw[AA,List.map_filterMap];congr 1;funext i;rw[AL]
theorem Bf.at:∀ {vs:DW}{ds:Cs},Bf X w h vs ds->∀i:Nat,(vs[i]? = none/\ds[i]? = none)\/∃v d,vs[i]? = some v/\ds[i]? = some d/\B9 X w h v d:=by
 intro vs ds r;induction ds generalizing vs with
 |nil=>cases Bf.HB r;exact λV=>.inl ⟨rfl,rfl⟩
 |cons d ds ih=>
  refine Du (Bf.Bp r) ?_;rintro V V rfl a b;intro i;cases i with
  |zero=>exact .inr ⟨_,_,rfl,rfl,a⟩
  |succ i=>exact ih b i
theorem Bf.pick(r:Bf X w h vs ds)(lo hi st:Option Int):Bf X w h (GC vs lo hi st) (GC ds lo hi st):=by
 unfold GC;rw[r.length];generalize PySem.sliceRange _ _ _=is;induction is with
 |nil=>exact .nil
 |cons i is ih=>
  rw[List.filterMap_cons,List.filterMap_cons];rcases r.at i with⟨e1,e2⟩|⟨v,d,e1,e2,a⟩
  .rw [e1,e2];exact ih
  .rw [e1,e2];exact .cons a ih
theorem HF(vs:DW)(lo hi st:Option Int):slicePick vs.toArray lo hi st=(GC vs lo hi st).toArray:=by
 unfold slicePick GC;rw[AY];congr 2;funext i;simp
theorem Ev.cR{value:Expr}{lo hi:Option Expr}{se:Expr}{p pos}{kl ku:Option Int}{ks:Int}(x:Ev c J value (.list ds))(y1:Part c J lo kl)(y2:Part c J hi ku)(y3:Part c J (some se) (some ks))(h0:ks≠0)(hz:ds.length<=1000000) :
  Ev c J (.Subscript value (.Slice lo hi (some se) p) pos) (.list (GC ds kl ku (some ks))):=
 λs F Q E q=>PyProof.Rows.Subscript_ (x s F _ _ λo h1 t1 l1 r1=>wpAny_Slice (y1 _ (F.le l1) _ _ λvl h2 t2 l2 zz=>Bi zz λdX e1 dE=>y2 _ ((F.le l1).le l2) _ _ λvu h3 t3 l3 zz=>Bi zz λdY e2 lZ=>y3 _ (((F.le l1).le l2).le l3) _ _ λvk h4 t4 l4 zz=>Bi zz λqg e3 pU=>by
  subst e1 e2 e3;have l5:Le h4 (h4.push {cls:=.type "slice",data:=.fields #[partValue dX,partValue dY,partValue qg]}):=Le.push _ _;have F5:=(((F.le l1).le l2).le l3).le l4 |>.le l5;have r5:=(((r1.le l2).le l3).le l4).le l5;refine Qg (B9.Hn r5) ?_;rintro ad us rfl nx nt pl r;have hl:=r.length;refine tail_any (ops:=[.ref ad,.ref h4.objs.size]) (s:={s with heap:=h4.push {cls:=.type "slice",data:=.fields #[partValue dX,partValue dY,partValue qg]},toks:=t4}) pl.isList.typeIs slot_list_getitem.lookup
   (wpAny_getItem_list_slice pl.isList (Heap.IsSliceOf.new _ _ _ _) Fz Fz Fz (by rw[pU];exact λz=>h0 (BV z)) ?_ (by simp only[AY];rw[sizeLine_eq];exact Je hl hz rfl)) rfl
  rw[HF,dE,lZ,pU];exact q _ _ _ (Bu.trans (Bu.trans (Bu.trans (Bu.trans (Bu.trans l1 l2) l3) l4) l5) (Le.push _ _)) (LM F5.Ck F5.base.tab (r.pick _ _ _))))
theorem YF:∀ {vs:DW}{ns:List Int},Bf X w h vs (ns.map .int)->IntsAre vs ns:=by
 intro vs ns r;induction ns generalizing vs with
 |nil=>cases r;exact .nil
 |cons n ns ih=>
  refine Du (Bf.Bp r) ?_;rintro V V rfl a b;cases a;exact .cons _ _ (ih b)
theorem Ev.sum{np:Pos}{ns:List Int}(f:Ev c J (.Name x np) (.obj (.builtin "sum")))(y:Ev c J e (.list (ns.map .int)))(he:autoParam (D9 c e []) Bd):Ev c J (.Call (.Name x np) [e] [] pos) (.int ns.sum):=
 .ON f (.cons y .nil he) (λvs s F r Q E q=>by
  cases r with|cons a r=>
  cases r;refine Qg (B9.Hn a) ?_;rintro ad us rfl nx nt p rr;have hi:IntsAre us ns:=YF rr;refine B6 hi.allInts.items ?_;intro xs hx;have hn:numsOf us.toArray.toList=ns:=by rw[show us.toArray.toList=us from rfl,hi.numsOf]
  have hl:=p.isList;rw[hx]at hl hn;rw[nums_intItems]at hn;refine sum_intListG F.ok.handled hl λh' tk t' hk=>?_;rw[preSum_eq,List.take_of_length_le (by simp),hn];exact q _ h' tk (Le.of hk) (.int _ _)) he
section
variable {c cc:Cx}{J J' KU J0:B4}{N:Eo}{R:Ct}{h h':Heap}{Z:Addr->Heap->Prop}
noncomputable def JQ(xs:List Int)(k start:Nat):Nat:=start+((GC xs (some (k:Nat)) (some 60) (some 4)).map λx=>(x%1000000).toNat).sum
noncomputable def Hp(xs:List Int):List Nat:=if xs.length≥4 then[98,99,100,101,102]else[98,99,100,101]
theorem Tc(xs:List Int)(lo hi st:Option Int):(GC xs lo hi st).length<=xs.length:=by
 have h:=slicePick_size_le (xs.map λx=>Value.int x 0).toArray lo hi st;rw[HF,Mq]at h;simpa using h
theorem sum_nat(l:List Int):((l.map λx=>x%1000000).sum:Int)=((l.map λx=>(x%1000000).toNat).sum:Nat):=by
 induction l with
 |nil=>rfl
 |cons a l ih=>
  rw[AI,BC,AI,BC,ih];lia
def Kept(c:Cx)(v:Value)(h:Heap):Prop:=v=.bool true/\(∀b o,b≠TP->c.h0.get? b=some o->h.get? b=some o)/\Tab h
theorem Ex.WN{np cp:Pos}{es:Cy}{a b m l:Nat}{ts:R2}{r:Nat}{th:TH}{nm:BZ}{B:A2}{G:W2}{P:P2}(Sk:Dc c [])(hk:24<=c.k)(H:KT cs a b m l ts r th nm B G P)(HD:M4 c.w)(f:Ev c J (.Name x np) (.obj (.ref 305)))(y:FQ c J (e::es) [.list ([a,b,m,l].map λa=>.int (a:Nat)),.str (tx cs)])(he:autoParam (D9 c e es) Bd):Ex c J (.Return (some (.Call (.Name x np) (e::es) [] cp)) pos) N (Kept c):=λs F Q E n q=>
 wpAny_Return_some (wpAny_Call_NameR (f s F _ _ λv h1 t1 l1 r1=>by
  cases r1;have Ec:Le s.heap h1:=l1;refine BG (o:=Eu (Ba 32) (S "_law_holds") .none CY (.ref 304)) (fd:=EW (Ba 32) (S "_law_holds") .none CY (.ref 304)) rfl (y cp _ (F.le Ec) _ _ λvs h2 t2 l2 r2=>?_) he;have F2:=(F.le Ec).le l2;have Sa:∀b∈Bk [c.env],c.X b:=λb m=>(Sk.DQ.mp m).elim (λe=>e▸F2.loc.1) (λm=>by cases m);exact⟨F2.base.k _ _ (HM.here _),aX c.w (s:={s with heap:=h2,toks:=t2}) H HD (F.ok.CD hk) F2.base F2.Ck r2 Sk.fr (F2.Lv Sk) Sa λh3 t3 st=>q _ h3 t3 ⟨rfl,λb o n e=>st.keep b o n (λm=>(Sk.DQ.mp m).elim (λz=>by rw[z,F2.loc.2.1]at e;cases e) λm=>by cases m) (F2.old.keep b o n (Sk.mOff b) e),st.tab F2.base.tab⟩⟩))
theorem YJ(E:Bj c w (BY (Ba 33)) 24)(Sk:Dc c [])(xs:List Int)(hl:xs.length<=1000000){ts:R2}{r:Nat}{th:TH}{nm:BZ}{B:A2}{G:W2}{P:P2}(H:KT (Hp xs) (JQ xs 0 2) (JQ xs 1 36) (JQ xs 2 4) (JQ xs 3 21) ts r th nm B G P)(HD:M4 c.w) :
  Be c [(S "script",.list (xs.map .int))] [Bt (Ba 33)] (λV=>False) (Kept c):=by
 let σ:List Nat:=[JQ xs 0 2,JQ xs 1 36,JQ xs 2 4,JQ xs 3 21]
 let R0:List (Str×D):=[(S "script",.list (xs.map .int))]
 have hlen:(xs.map D.int).length<=1000000:=by rw[AA];exact hl
 refine Be.step (J':=(S "sums",.list (σ.map λa=>.int (a:Nat)))::R0) (Ex.cL E (d:=.list (σ.map λa=>.int (a:Nat))) (CE.eq (CE.C1 [((0:Nat),(2:Nat)),(1,36),(2,4),(3,21)] (λq=>.tup [.int (q.1:Nat),.int (q.2:Nat)]) (λV=>true) (λq=>.int (JQ xs q.1 q.2:Nat)) (J0:=R0) E.co (Bb.eq (Bb.enum Ev.b (Ev.ls (.cons Ev.cInt (.cons Ev.cInt (.cons Ev.cInt (.cons Ev.cInt .nil)))))) ?_) (λq=>[(S "start",.int (q.2:Nat)),(S "k",.int (q.1:Nat)),(S "script",.list (xs.map .int))]) (λV V h=>.tail _ (.tail _ h)) (λV V V sc=>Bind.tup (.cons Bind.n (.cons Bind.n .nil))) (λV V V V=>CM.nil)
  (λq hq V cc sc=>Ev.eq (Ev.Il Ev.n (Ev.sum (ns:=(GC xs (some (q.1:Nat)) (some 60) (some 4)).map λx=>x%1000000) Ev.b (CE.ev (CE.eq (CE.C1 (GC xs (some (q.1:Nat)) (some 60) (some 4)) .int (λV=>true) (λx=>.int (x%1000000)) (J0:=[]) sc.co (Bb.eq (Bb.list (Ev.cR Ev.n (Part.int Ev.n) (Part.int Ev.cInt) (Part.int Ev.cInt) (by decide) hlen)) ?_) (λx=>[(S "x",.int x)]) (λV V h=>by cases h) (λV V V sc=>Bind.n) (λV V V V=>CM.nil) (λx V V cc sc=>Ev.eq (Ev.MB Ev.n (Ev.ik Ev.cInt Ev.cInt (by decide) (by decide)) (by decide)) ?_) ?_) ?_)))) ?_) ?_) ?_)) ?_
 .rfl
 .rw [Mq]
 .rfl
 .exact AD (Tc xs _ _ _) hl
 .rw [By,AB];rfl
 .rw [sum_nat];rfl
 .exact AE rfl
 .rw [By];rfl
 .refine Be.ret (Ex.WN Sk (by rw[E.hk];decide) H HD Ev.g (.cons Ev.n (.cons (Ev.K7 (a:=decide (xs.length≥4)) (CL.cmp (Bh.eq (Bh.tT (Ev.YM (xs:=xs) (g:=.int) Ev.b Ev.n hl) Ev.cInt) ?_)) (λh=>?_) (λh=>?_)) .nil)))
  .exact decide_eq_decide.mpr (by(clear hl hlen;omega))
  .have e:Hp xs=[98,99,100,101,102]:=by unfold Hp;rw[if_pos (of_decide_eq_true h)]
   rw[e];exact Ev.cStr
  .have e:Hp xs=[98,99,100,101]:=by unfold Hp;rw[if_neg (of_decide_eq_false h)]
   rw[e];exact Ev.cStr
end
theorem IT:∀(ps:R2) (bs:List Bool),(JO ps bs).Sublist ps
 |[],_=>.slnil
 |p::ps,[]=>List.nil_sublist _
 |p::ps,b::bs=>by
  show(bi b (p::JO ps bs) (JO ps bs)).Sublist _;cases b
  .exact .cons _ (IT ps bs)
  .exact .cons_cons _ (IT ps bs)
theorem vG:∀l3∈ne 3,NC l3=true:=λl3 h=>by
 have h':l3∈[[true,true,true],[true,true,false],[true,false,true],[true,false,false],[false,true,true],[false,true,false],[false,false,true]]:=h;refine pI h' ?_ ?_ ?_ ?_ ?_ ?_ ?_
 .exact Z4
 .exact Z5
 .exact Z6
 .exact Z7
 .exact Z8
 .exact Z9
 .exact aA
theorem lD:∀x∈LI,∀y∈LI,(x,y)∈Pq:=by decide
theorem eM:∀x∈lows,∀y∈lows,(x,y)∈Pq:=by decide
structure UJ(cs:BZ):Prop where
 low:∀x∈cs,x∈lows
 nd:cs.Nodup
 asc:cs.Pairwise (· < ·)
 I0:cs.length=4\/cs.length=5
 net:∀a b,eF (TU cs Pq (T6 cs) (T8 cs a b)) cs (T8 cs a b)/\(T8 cs a b).length<=10/\∀t∈T8 cs a b,t.1∈lows/\t.2∈lows
theorem eV:UJ LI:=⟨by decide,by decide,by decide,.inl rfl,λa b=>by
 obtain⟨l2,h2,l3,h3,e⟩:=Y4 a b;have h:=XS;unfold eZ at h;rw[Es,Ah]at h;have h:=h l2 h2;rw[Es,Ah]at h;have sb:=IT WD (true::Gv l2 l3);rw[e];exact⟨RG lD (h l3 h3),AD sb.length_le (by decide),λt ht=>(by decide:∀t∈WD,t.1∈lows/\t.2∈lows) t (sb.subset ht)⟩⟩
theorem eW:UJ lows:=⟨λV h=>h,by decide,by decide,.inr rfl,λa b=>by
 obtain⟨l2,h2,l3,h3,l4,h4,e⟩:=Y5 a b;have h:=vG l3 h3;unfold NC at h;rw[Es,Ah]at h;have h:=h l2 h2;rw[Es,Ah]at h;have sb:=IT WE (true::Gv l2 (Gv l3 l4));rw[e];exact⟨RG eM (h l4 h4),AD sb.length_le (by decide),λt ht=>(by decide:∀t∈WE,t.1∈lows/\t.2∈lows) t (sb.subset ht)⟩⟩
theorem PB(C:UJ cs)(a b m l:Nat):∃ts r th nm B G P,KT cs a b m l ts r th nm B G P:=by
 refine FP (C.net a b) ?_;intro N tl J7;have pos:0<cs.length:=by have:=C.I0;lia
 have hm:m%cs.length<cs.length:=Nat.mod_lt _ pos;have hr:cs[m%cs.length]∈cs:=List.getElem_mem hm;refine MC (N.tree _ hr (decide (m/cs.length/3%2=1))) ?_;intro th nm T;have S:Ij cs (T8 cs a b) _ _ _ th nm:=⟨C.low,C.I0,YR C.low (by have:=C.I0;(clear pos;lia)) _,N.sym,T⟩
 refine Hv (S.book (t:=l%7) (h:=l/7%5) (Nat.mod_lt _ (by decide)) rfl rfl) ?_;intro K1 K2 K3 K4;have nl:=S.len;have four:(nm.drop 1).length<=4:=by have:=S.rh;lia
 have W:∀x∈nm,Bo (Ca th nm) x=(nm.drop 1).map λy=>uL (uT th x y) y:=λx hx=>by unfold Ca;rw[GG hx,Lq]
 have Wl:∀x∈nm,(Bo (Ca th nm) x).length=(nm.drop 1).length:=λx hx=>by rw[W x hx,AA]
 have Gy:∃hd,nm.head? = some hd/\hd∈nm:=by
  cases e:nm with
  |nil=>rw[e]at nl;rw[<- nl]at pos;cases pos
  |cons x l=>exact⟨x,rfl,.head _⟩
 refine Bi Gy ?_;clear Gy;intro hd tG qy;refine⟨T8 cs a b,_,th,nm,_,_,_,⟨C.low,C.nd,by have:=C.I0;lia,tl,J7,N.get⟩,rfl,AU hm,⟨?_,nl,T.perm,C.asc,T.ways⟩,⟨λx hx y hy=>S.tab.1.2 x (S.in hx) y (S.in hy),λx hx=>⟨by rw[Wl x hx];exact lb four rfl,λs hs=>?_⟩,λx hx y hy=>(Wl x hx).trans (Wl y hy).symm,λp hp=>?_,λp hp=>?_,λz=>?_⟩,rfl,rfl,rfl,⟨λy hy=>?_,λx hx y hy=>?_,K4⟩,K1,⟨hd,tG,λk y hk x hx=>S.iq (Nat.mod_lt _ (by decide)) (Nat.mod_lt _ (by decide)) rfl rfl hk hx⟩,K2,K3⟩
 .refine Bi T.run ?_;intro stF e1 e2;exact⟨stF,5,e1,by decide,e2,T.deep,T.I0,T.walk⟩
 .rw [W x hx]at hs;refine Bi (AF.mp hs) ?_;rintro y hy rfl;have:=Nq y (S.Pf y hy);unfold uL;split
  .exact this.2
  .exact this.1
 .refine CC (Cu hp) ?_;intro h1 h2;refine CC (S.jo h1 h2) ?_;intro f1 f2;rw[f2];exact f1
 .refine CC (Cu hp) ?_;intro h1 h2;unfold unlike;refine BA (AV _ _) ?_;rw[List.length_zip,Wl _ h1,Wl _ h2];lia
 .have:=(S.Ot qy qy).1;rw[z]at this;cases this
 .refine Bi (T.above y hy) ?_;intro wy e V;exact⟨wy,e⟩
 .refine Bi (T.above y hy) ?_;intro V V ab;exact⟨(S.Ot hx (Aj hy)).1,(S.Ot hx ab).1⟩
noncomputable abbrev Rq(pm cd doc:Value):FuncData:={Calls.docDef (S "law") (J9 (Ba 33)) (Bt (Ba 33)) (BY (Ba 33)) pm cd doc with defaults:=.none,kwdefaults:=.none}
theorem YK{fa:Addr}{o:Obj}{pm cd doc:Value}(Bs:CW w s.heap)(ho:s.heap.get? fa=some o)(hd:o.data=.func (Rq pm cd doc))(ak:s.heap.CodeRec cd (S "law")){xs:List Int}(rv:Bf Hw w s.heap [v] [.list (xs.map .int)])(hl:xs.length<=1000000)(q:∀h' tk,(∀b o,b≠TP->s.heap.get? b=some o->h'.get? b=some o)->Tab h'->Q (.bool true) {s with heap:=h',toks:=tk}):wpAny (model prog w) callerA (call (.ref fa) [v]) Q E s:=by
 refine wpAny_call ?_;refine A7 (o:=o) (fd:=Rq pm cd doc) O8.room ho hd rfl rfl rfl ak ?_;have hb:bindArgs (Rq pm cd doc) ⟨[v],[]⟩=pure ([S "script"].zip [v]):=rfl;rw[hb];refine wpAny_pure (RX (k:=24) (Rq pm cd doc) (sc:=BY (Ba 33)) (bd:=Bt (Ba 33)) rfl (O8.CD (by decide)) Bs (X:=Hw) (λV z=>z.elim) (G:=Res.emp) trivial (λV z=>z.elim) (names:=[S "script"]) rv rfl (.of (by decide +kernel)) λc h1 t1 FA hA ⟨fl,ow⟩ _ F=>?_)
 .have En:=FA.env;have Sk:Dc c []:=PA FA hA fl rfl (λV m=>by cases m) λb z=>z;obtain⟨ts,r,th,nm,B,G,P,H⟩:∃ts r th nm B G P,KT (Hp xs) (JQ xs 0 2) (JQ xs 1 36) (JQ xs 2 4) (JQ xs 3 21) ts r th nm B G P:=by
   unfold Hp;split
   .exact PB eW _ _ _ _
   .exact PB eV _ _ _ _
  have body:=YJ En Sk xs hl H (handOk _);have z:=body {s with heap:=h1,toks:=t1} F (λf s'=>Q (match f with|.ret v=>v|_=>.none) s') (λe s'=>wpAny (model prog c.w) c.A (leaving c.env e) (λV Gd=>E e Gd) (λe' Gd=>E e' Gd) s') (λV V z=>z.elim) λv h' tk ⟨e,k,t⟩=>(by
   subst e;rw[FA.hh]at k;exact q h' tk k t)
  exact wpAny_mono z (λf s' k=>by cases f<;>exact k) λV V k=>k
theorem Rk:∀ {vs:DW}{ns:List Int},WellAll w.params h vs (ns.map .int)->Bf Hw w h vs (ns.map .int)
 |_,[],.nil=>.nil
 |_,n::ns,.cons a b=>by
  cases a with
  |int i t=>exact .cons (.int _ _) (Rk b)
theorem kC{q:Program}{loose:B3}{XP:(Str->Option Value)->Heap->Prop}{d:DefRec}{gu:List (Str×Expr)}(qM:d.name=S "law")(hp:d.params=J9 (Ba 33))(hb:d.body=Bt (Ba 33))(hs:d.scope=BY (Ba 33))(hk:gu=[]) :
  WalkO q loose XP Mine.hook.says PySem.Challenge.rw_ta0106_01.row.toRowW d gu λf vs=>PySem.call f vs:=by
 intro w s₀ s₁ mg mb Gr Y fa o pm cd doc dV kV ho hd ak hD wq aq args vals as nO uV wt gW Oj;refine FP Y ?_;clear Y;intro Y1 Cr Y3;obtain⟨og,eg,hg⟩:=Cr;have Bs:CW w s₁.heap:=⟨Y1,⟨mg,Gr.T.g,λp hp=>by
  refine V9 Gr.T.g ?_;intro o2 es ep e1 e2 V e3;cases eg.symm.trans e1;rw[<- hg p hp,<- e3];unfold ah;rw[e2]⟩,⟨mb,Gr.T.b,λx hx=>Gr.T.builtins x hx⟩,Gr.T.nolimit,⟨#[],Y3,trivial,λpos v z=>by cases z⟩⟩
 refine CC (pre_splitW nO) ?_;intro h1 h2;refine Du (hasAllW_cons h1) ?_;rintro d1 r1 rfl h3 h4;obtain rfl:=hasAllW_nil h4;refine Bi (hasW_list h3) ?_;rintro xs rfl h5;refine B6 (items_int h5) ?_;rintro ns rfl;obtain rfl:=hk;have e1:dV=.none:=Dflts.none hD (by rw[hp];rfl);have e2:kV=.none:=hD.kw.elim (·.2) λy=>absurd rfl y.1;subst e1 e2;rw[hp,hb,hs,qM]at hd;rw[qM]at ak;have ln:ns.length<=1000000:=by
  have z:RowW.pre PySem.Challenge.rw_ta0106_01.row.toRowW=.and (.not (.lt (.lit (.int 63)) (.len (.arg 0)))) (.lit (.bool true)):=rfl;rw[z]at h2;simp[WTm.holds,WTm.value]at h2;have e:less? (.int 63) (.int (ns.length:Nat))=some (decide ((63:Int)<(ns.length:Nat))):=rfl;rw[e]at h2;by_cases q:(63:Int)<(ns.length:Nat)
  .rw [decide_eq_true q]at h2;simp at h2
  .omega
 have post:PySem.Challenge.rw_ta0106_01.row.toRowW.claim.post [.list (ns.map .int)] (.bool true) [.list (ns.map .int)]=true:=by
  wrow_post
 cases gW with
 |cons a b=>
  cases b;cases a with
  |list el wl=>
   rename_i a vs;have nt:a≠TP:=λz=>by rw[z]at el;rw[el]at Y3;cases Y3
   refine YK Bs ho hd ak (Bf.cons (B9.list (λz=>z) nt ⟨_,el⟩ (Rk wl)) .nil) ln λh' tk k t=>⟨.inl ⟨_,.bool true,[],rfl,λV=>rfl,.bool true,post,λV=>⟨.nil,λa m=>by cases m⟩⟩,⟨λb o e=>?_,λb o e=>?_⟩,rfl,.of_eq aq⟩
   .by_cases z:b=TP
    .subst z;obtain rfl:=BV (Y3.symm.trans e);refine Bi t ?_;clear t;intro ps ep V;exact .inr (.inl ⟨⟨267,_,_,Y1 267 _ rfl,rfl,rfl,rfl⟩,rfl,_,ps,rfl,by rw[ep];simp⟩)
    .exact .inl (k b o z e)
   .by_cases z:b=TP
    .subst z;refine Bi t ?_;clear t;intro ps ep V;exact⟨_,ep⟩
    .exact ⟨o,k b o z e⟩
end Mine

theorem PySem.Challenge.cw_ta0106_01_holds : PySem.Challenge.rw_ta0106_01.Holds :=
  Mine.top Mine.kC
