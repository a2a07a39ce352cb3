import PyProof.Rows.All
import Wide.All
import Open.Line
import OpenK.KMeth
import OpenK.KDict
import OpenK.KCls
import PyProof.CodeObjX
import PyProof.DefMake
import PySem.Challenge.RW_ta0106_01
open PySem PySem.W PyProof.Rows
set_option Elab.async false
set_option linter.all false
set_option maxRecDepth 100000
set_option genInjectivity false
set_option genSizeOf false
set_option compiler.extract_closed false
set_option maxHeartbeats 0
namespace Mine
def AA:=@List.length_map
def AB:=@List.map_map
def AD:=@Nat.le_trans
def AE:=@Nat.le_of_ble_eq_true
def AF:=@List.mem_map
def AG:=@List.mem_singleton
def AH:=@Heap.get?_push_size
def AI:=@List.map_cons
def AJ:=@List.mem_cons
def AK:=@List.lookup_cons
def AL:=@List.getElem?_map
def AM:=@List.length_drop
def AN:=@List.getD_eq_getElem?_getD
def AO:=@Heap.get?_push_of_some
def AP:=@List.getElem?_eq_some_iff
def AQ:=@List.mem_of_getElem?
def AR:=@Bool.false_eq_true
def AS:=@Option.map_eq_some_iff
def AU:=@List.getElem?_eq_getElem
def AV:=@List.length_filter_le
def AW:=@List.map_congr_left
def AX:=@List.flatMap_cons
def AY:=@List.size_toArray
def AZ:=@List.length_cons
def Aa:=@Nat.lt_irrefl
def Ab:=@List.mem_map_of_mem
def Ac:=@List.length_append
def Ad:=@Nat.le_refl
def Ae:=@List.length_take
def Af:=@List.map_append
def Ag:=@Heap.lt_size
def Ah:=@List.all_eq_true
def Ai:=@Nat.lt_of_lt_of_le
def Aj:=@List.mem_of_mem_drop
def Ak:=@List.flatMap_def
def Al:=@Nat.zero_le
def Am:=@List.mem_flatMap
def An:=@List.not_mem_nil
def Ao:=@wpAny_execs_cons
def Ap:=@typeLookup_type
def Aq:=@List.any_eq_true
def Ar:=@List.mem_append
def As:=@List.foldl_cons
def Au:=@List.length_reverse
def Av:=@beq_eq_false_iff_ne
def Aw:=@Nat.le_add_right_of_le
def Ax:=@PyProof.Rows.callWith_type1
def Ay:=@List.mem_of_mem_take
def Az:=@List.mem_filter
def A1:=@Nat.le_add_left
def A3:=@List.take_add_one
def A4:=@Nat.le_of_lt
def A5:=@Nat.le_of_succ_le
def A6:=@Option.isSome_iff_exists
def A7:=@codeAny_call_function
def A8:=@List.filter_cons
def A9:=@Nat.min_le_right
def BA:=@Nat.lt_of_le_of_lt
def BB:=@List.mem_range
def BC:=@List.sum_cons
def BD:=@Int.natCast_nonneg
def BE:=@Nat.lt_of_lt_of_eq
def BF:=@List.take_length
def BG:=@PyProof.Rows.callWith_def
def BH:=@List.foldl_append
def BI:=@PyProof.Rows.callWith_method1
def BJ:=@Heap.get?_update_self
def BK:=@List.getElem?_toArray
def BL:=@Nat.eq_of_beq_eq_true
def BM:=@Nat.le_of_eq
def BN:=@Nat.sub_le
def BO:=@List.drop_eq_nil_iff
def BP:=@List.map_flatMap
def BQ:=@PyProof.Rows.Attribute_any_
def BR:=@List.length_flatMap
def BS:=@List.length_nil
def BT:=@List.nil_append
def BU:=@Nat.min_le_left
def BV:=@Array.getElem?_eq_getElem
abbrev BY:=List Nat
abbrev CG:=Value->Shared->Prop
abbrev DV:=List Value
abbrev Cw:=List Expr
abbrev B1:=List Str
abbrev CF:=Addr->Prop
abbrev Em:=Heap->Prop
abbrev Cs:=Value->Heap->Prop
abbrev Dh:=List (Str×Value)
abbrev Ch:=List (Str×Str)
abbrev ET:=Unit->Shared->Prop
abbrev D9:=List (Nat×List Nat)
abbrev Ec:=List Comprehension
abbrev Dx:=List Stmt
abbrev Hv:=Str->Option Value
variable {w:World}{k:Nat}{X X' W:CF}{x:Str}{e l r o:Expr}{s:Shared}{A:Around}{E Q:CG}{α:Type}{a:Addr}{v:Value}{vs:DV}{scope:Scope}{cs:BY}{pos:Pos}{m:Hv}{h h':Heap}
@[elab_as_elim] theorem oW{α:Sort _}{a b:α}{p:α->Prop}(h:a=b)(m:p b):p a:=h▸m
@[elab_as_elim] theorem vg{α:Sort _}{a b:α}{p:α->Prop}(h:a=b)(m:p a):p b:=h▸m
theorem Fn{α:Type _}{xs ys:List α}(is:BY)(h:is.map (λi=>ys[i]?)=xs.map some):∀p,p∈xs->p∈ys:=λp hp=>
 have q:some p∈is.map (λi=>ys[i]?):=h▸AF.mpr ⟨p,hp,rfl⟩;(AF.mp q).elim λV z=>AQ z.2
theorem cq{α:Type _}{p:α->Prop}:∀x,x∈[]->p x:=λV h=>absurd h An
theorem IY{α:Type _}{p:α->Prop}{a:α}{l:List α}(h:p a)(k:∀x,x∈l->p x):∀x,x∈a::l->p x:=List.forall_mem_cons.mpr ⟨h,k⟩
theorem lb{a b c:Nat}(h:a<=b)(k:Nat.ble b c=true):a<=c:=AD h (AE k)
theorem Jc{a b d c:Nat}(e:a=d)(h:d<=b)(k:Nat.ble b c=true):a<=c:=e▸lb h k
theorem dU{a b c n:Nat}(h:a<=b)(k:Nat.ble b c=true):a-n<=c:=AD (BN _ _) (lb h k)
theorem uk{a b c:Nat}(h:a<=b)(k:Nat.blt b c=true):a<c:=BA h (AE k)
theorem j4{a b c:Nat}(h:a<b)(k:Nat.ble b c=true):a<c:=AD h (AE k)
theorem qg{a b c n:Nat}(h:a<=b)(k:Nat.ble b c=true):min a n<=c:=AD (BU _ _) (lb h k)
theorem uv{a b c n:Nat}(h:a<=b)(k:Nat.ble b c=true):min n a<=c:=AD (A9 _ _) (lb h k)
theorem hO{a b c n:Nat}(h:a<=b)(k:Nat.ble (n*b) c=true):n*a<=c:=AD (Nat.mul_le_mul_left n h) (AE k)
theorem qb{a b:Nat}{c:Int}(h:a<=b)(k:decide ((b:Int)<c)=true):(a:Int)<c:=Int.lt_of_le_of_lt (Int.ofNat_le.mpr h) (of_decide_eq_true k)
theorem qd{a b:Nat}{c:Int}(h:a<=b)(k:decide ((b:Int)<c)=true):¬(a:Int)≥c:=Int.not_le.mpr (qb h k)
theorem ur{x a b c:Int}(h:0<=x/\x<a)(k:decide (b<0/\a<=c)=true):b<x/\x<c:=⟨Int.lt_of_lt_of_le (of_decide_eq_true k).1 h.1,Int.lt_of_lt_of_le h.2 (of_decide_eq_true k).2⟩
theorem uu{x a c:Int}(h:0<=x/\x<a)(k:decide (a<=c)=true):0<=x/\x<c:=⟨h.1,Int.lt_of_lt_of_le h.2 (of_decide_eq_true k)⟩
theorem gp{a b c d n:Nat}(h:a<=n)(h':b<=d)(k:Nat.ble (n+d) c=true):a+b<=c:=AD (Nat.add_le_add h h') (AE k)
theorem dT{a n m:Nat}(k:Nat.blt n m=true):a+n<a+m:=Nat.add_lt_add_left (AE k) a
theorem wj{a b:Nat}(k:Nat.ble a b=true):a<=b:=AE k
theorem YJ{a b d c:Nat}(e:a+1=d)(h:d<=b)(k:Nat.ble b (c+1)=true):a<=c:=Nat.le_of_succ_le_succ (show a+1<=c+1 from e.symm▸lb h k)
theorem qi{a b n:Nat}(h:a<=k)(i:b<=k*n):a+b<=k*(n+1):=Nat.add_comm a b▸Nat.add_le_add i h
theorem hZ{α:Type _}{a:α}{l:List α}(i:Nat)(h:l[i]? = some a):a∈l:=AQ h
@[elab_as_elim] theorem Sa{α:Type _}{p:α->Prop}{x a0 a1:α}(hb:x∈[a0,a1])(h0:p a0)(h1:p a1):p x:=(IY h0 (IY h1 cq)) x hb
@[elab_as_elim] theorem kq{α:Type _}{p:α->Prop}{x a0 a1 a2:α}(hb:x∈[a0,a1,a2])(h0:p a0)(h1:p a1)(h2:p a2):p x:=(IY h0 (IY h1 (IY h2 cq))) x hb
@[elab_as_elim] theorem cu{α:Type _}{p:α->Prop}{x a0 a1 a2 a3:α}(hb:x∈[a0,a1,a2,a3])(h0:p a0)(h1:p a1)(h2:p a2)(h3:p a3):p x:=(IY h0 (IY h1 (IY h2 (IY h3 cq)))) x hb
@[elab_as_elim] theorem eE{α:Type _}{p:α->Prop}{x a0 a1 a2 a3 a4:α}(hb:x∈[a0,a1,a2,a3,a4])(h0:p a0)(h1:p a1)(h2:p a2)(h3:p a3)(h4:p a4):p x:=(IY h0 (IY h1 (IY h2 (IY h3 (IY h4 cq))))) x hb
@[elab_as_elim] theorem rq{α:Type _}{p:α->Prop}{x a0 a1 a2 a3 a4 a5:α}(hb:x∈[a0,a1,a2,a3,a4,a5])(h0:p a0)(h1:p a1)(h2:p a2)(h3:p a3)(h4:p a4)(h5:p a5):p x:=(IY h0 (IY h1 (IY h2 (IY h3 (IY h4 (IY h5 cq)))))) x hb
@[elab_as_elim] theorem o9{α:Type _}{p:α->Prop}{x a0 a1 a2 a3 a4 a5 a6:α}(hb:x∈[a0,a1,a2,a3,a4,a5,a6])(h0:p a0)(h1:p a1)(h2:p a2)(h3:p a3)(h4:p a4)(h5:p a5)(h6:p a6):p x:=(IY h0 (IY h1 (IY h2 (IY h3 (IY h4 (IY h5 (IY h6 cq))))))) x hb
theorem CB{p0 p1:Prop}{G:Prop}(h:p0/\p1)(k:p0->p1->G):G:=by obtain⟨h0,h1⟩:=h;exact k h0 h1
theorem FO{p0 p1 p2:Prop}{G:Prop}(h:p0/\p1/\p2)(k:p0->p1->p2->G):G:=by obtain⟨h0,h1,h2⟩:=h;exact k h0 h1 h2
theorem Ht{p0 p1 p2 p3:Prop}{G:Prop}(h:p0/\p1/\p2/\p3)(k:p0->p1->p2->p3->G):G:=by obtain⟨h0,h1,h2,h3⟩:=h;exact k h0 h1 h2 h3
theorem oB{p0 p1 p2 p3 p4:Prop}{G:Prop}(h:p0/\p1/\p2/\p3/\p4)(k:p0->p1->p2->p3->p4->G):G:=by obtain⟨h0,h1,h2,h3,h4⟩:=h;exact k h0 h1 h2 h3 h4
theorem oC{p0 p1 p2 p3 p4 p5:Prop}{G:Prop}(h:p0/\p1/\p2/\p3/\p4/\p5)(k:p0->p1->p2->p3->p4->p5->G):G:=by obtain⟨h0,h1,h2,h3,h4,h5⟩:=h;exact k h0 h1 h2 h3 h4 h5
theorem B5{α0:Sort _}{p0:α0->Prop}{G:Prop}(h:∃x0,p0 x0)(k:∀x0,p0 x0->G):G:=by obtain⟨x0,h0⟩:=h;exact k x0 h0
theorem Bh{α0:Sort _}{p0 p1:α0->Prop}{G:Prop}(h:∃x0,p0 x0/\p1 x0)(k:∀x0,p0 x0->p1 x0->G):G:=by obtain⟨x0,h0,h1⟩:=h;exact k x0 h0 h1
theorem EI{α0:Sort _}{p0 p1 p2:α0->Prop}{G:Prop}(h:∃x0,p0 x0/\p1 x0/\p2 x0)(k:∀x0,p0 x0->p1 x0->p2 x0->G):G:=by obtain⟨x0,h0,h1,h2⟩:=h;exact k x0 h0 h1 h2
theorem UG{α0:Sort _}{p0 p1 p2 p3:α0->Prop}{G:Prop}(h:∃x0,p0 x0/\p1 x0/\p2 x0/\p3 x0)(k:∀x0,p0 x0->p1 x0->p2 x0->p3 x0->G):G:=by obtain⟨x0,h0,h1,h2,h3⟩:=h;exact k x0 h0 h1 h2 h3
theorem W8{α0:Sort _}{p0 p1 p2 p3 p4:α0->Prop}{G:Prop}(h:∃x0,p0 x0/\p1 x0/\p2 x0/\p3 x0/\p4 x0)(k:∀x0,p0 x0->p1 x0->p2 x0->p3 x0->p4 x0->G):G:=by obtain⟨x0,h0,h1,h2,h3,h4⟩:=h;exact k x0 h0 h1 h2 h3 h4
theorem qv{α0:Sort _}{p0 p1 p2 p3 p4 p5 p6:α0->Prop}{G:Prop}(h:∃x0,p0 x0/\p1 x0/\p2 x0/\p3 x0/\p4 x0/\p5 x0/\p6 x0)(k:∀x0,p0 x0->p1 x0->p2 x0->p3 x0->p4 x0->p5 x0->p6 x0->G):G:=by obtain⟨x0,h0,h1,h2,h3,h4,h5,h6⟩:=h;exact k x0 h0 h1 h2 h3 h4 h5 h6
theorem oF{α0:Sort _}{p0 p1 p2 p3 p4 p5 p6 p7:α0->Prop}{G:Prop}(h:∃x0,p0 x0/\p1 x0/\p2 x0/\p3 x0/\p4 x0/\p5 x0/\p6 x0/\p7 x0)(k:∀x0,p0 x0->p1 x0->p2 x0->p3 x0->p4 x0->p5 x0->p6 x0->p7 x0->G):G:=by obtain⟨x0,h0,h1,h2,h3,h4,h5,h6,h7⟩:=h;exact k x0 h0 h1 h2 h3 h4 h5 h6 h7
theorem MB{α0:Sort _}{α1:Sort _}{p0:α0->α1->Prop}{G:Prop}(h:∃x0 x1,p0 x0 x1)(k:∀x0 x1,p0 x0 x1->G):G:=by obtain⟨x0,x1,h0⟩:=h;exact k x0 x1 h0
theorem Fp{α0:Sort _}{α1:Sort _}{p0 p1:α0->α1->Prop}{G:Prop}(h:∃x0 x1,p0 x0 x1/\p1 x0 x1)(k:∀x0 x1,p0 x0 x1->p1 x0 x1->G):G:=by obtain⟨x0,x1,h0,h1⟩:=h;exact k x0 x1 h0 h1
theorem Dt{α0:Sort _}{α1:Sort _}{p0 p1 p2:α0->α1->Prop}{G:Prop}(h:∃x0 x1,p0 x0 x1/\p1 x0 x1/\p2 x0 x1)(k:∀x0 x1,p0 x0 x1->p1 x0 x1->p2 x0 x1->G):G:=by obtain⟨x0,x1,h0,h1,h2⟩:=h;exact k x0 x1 h0 h1 h2
theorem de{α0:Sort _}{α1:Sort _}{p0 p1 p2 p3:α0->α1->Prop}{G:Prop}(h:∃x0 x1,p0 x0 x1/\p1 x0 x1/\p2 x0 x1/\p3 x0 x1)(k:∀x0 x1,p0 x0 x1->p1 x0 x1->p2 x0 x1->p3 x0 x1->G):G:=by obtain⟨x0,x1,h0,h1,h2,h3⟩:=h;exact k x0 x1 h0 h1 h2 h3
theorem Qe{α0:Sort _}{α1:Sort _}{p0 p1 p2 p3 p4:α0->α1->Prop}{G:Prop}(h:∃x0 x1,p0 x0 x1/\p1 x0 x1/\p2 x0 x1/\p3 x0 x1/\p4 x0 x1)(k:∀x0 x1,p0 x0 x1->p1 x0 x1->p2 x0 x1->p3 x0 x1->p4 x0 x1->G):G:=by obtain⟨x0,x1,h0,h1,h2,h3,h4⟩:=h;exact k x0 x1 h0 h1 h2 h3 h4
theorem V6{α0:Sort _}{α1:Sort _}{p0 p1 p2 p3 p4 p5:α0->α1->Prop}{G:Prop}(h:∃x0 x1,p0 x0 x1/\p1 x0 x1/\p2 x0 x1/\p3 x0 x1/\p4 x0 x1/\p5 x0 x1)(k:∀x0 x1,p0 x0 x1->p1 x0 x1->p2 x0 x1->p3 x0 x1->p4 x0 x1->p5 x0 x1->G):G:=by obtain⟨x0,x1,h0,h1,h2,h3,h4,h5⟩:=h;exact k x0 x1 h0 h1 h2 h3 h4 h5
theorem j8{α0:Sort _}{α1:Sort _}{p0 p1 p2 p3 p4 p5 p6:α0->α1->Prop}{G:Prop}(h:∃x0 x1,p0 x0 x1/\p1 x0 x1/\p2 x0 x1/\p3 x0 x1/\p4 x0 x1/\p5 x0 x1/\p6 x0 x1)(k:∀x0 x1,p0 x0 x1->p1 x0 x1->p2 x0 x1->p3 x0 x1->p4 x0 x1->p5 x0 x1->p6 x0 x1->G):G:=by obtain⟨x0,x1,h0,h1,h2,h3,h4,h5,h6⟩:=h;exact k x0 x1 h0 h1 h2 h3 h4 h5 h6
theorem qw{α0:Sort _}{α1:Sort _}{p0 p1 p2 p3 p4 p5 p6 p7:α0->α1->Prop}{G:Prop}(h:∃x0 x1,p0 x0 x1/\p1 x0 x1/\p2 x0 x1/\p3 x0 x1/\p4 x0 x1/\p5 x0 x1/\p6 x0 x1/\p7 x0 x1)(k:∀x0 x1,p0 x0 x1->p1 x0 x1->p2 x0 x1->p3 x0 x1->p4 x0 x1->p5 x0 x1->p6 x0 x1->p7 x0 x1->G):G:=by obtain⟨x0,x1,h0,h1,h2,h3,h4,h5,h6,h7⟩:=h;exact k x0 x1 h0 h1 h2 h3 h4 h5 h6 h7
theorem bb{α0:Sort _}{α1:Sort _}{p0 p1 p2 p3 p4 p5 p6 p7 p8 p9:α0->α1->Prop}{G:Prop}(h:∃x0 x1,p0 x0 x1/\p1 x0 x1/\p2 x0 x1/\p3 x0 x1/\p4 x0 x1/\p5 x0 x1/\p6 x0 x1/\p7 x0 x1/\p8 x0 x1/\p9 x0 x1)(k:∀x0 x1,p0 x0 x1->p1 x0 x1->p2 x0 x1->p3 x0 x1->p4 x0 x1->p5 x0 x1->p6 x0 x1->p7 x0 x1->p8 x0 x1->p9 x0 x1->G):G:=by obtain⟨x0,x1,h0,h1,h2,h3,h4,h5,h6,h7,h8,h9⟩:=h;exact k x0 x1 h0 h1 h2 h3 h4 h5 h6 h7 h8 h9
theorem bg{α0:Sort _}{α1:Sort _}{α2:Sort _}{p0:α0->α1->α2->Prop}{G:Prop}(h:∃x0 x1 x2,p0 x0 x1 x2)(k:∀x0 x1 x2,p0 x0 x1 x2->G):G:=by obtain⟨x0,x1,x2,h0⟩:=h;exact k x0 x1 x2 h0
theorem Js{α0:Sort _}{α1:Sort _}{α2:Sort _}{p0 p1:α0->α1->α2->Prop}{G:Prop}(h:∃x0 x1 x2,p0 x0 x1 x2/\p1 x0 x1 x2)(k:∀x0 x1 x2,p0 x0 x1 x2->p1 x0 x1 x2->G):G:=by obtain⟨x0,x1,x2,h0,h1⟩:=h;exact k x0 x1 x2 h0 h1
theorem Mn{α0:Sort _}{α1:Sort _}{α2:Sort _}{p0 p1 p2:α0->α1->α2->Prop}{G:Prop}(h:∃x0 x1 x2,p0 x0 x1 x2/\p1 x0 x1 x2/\p2 x0 x1 x2)(k:∀x0 x1 x2,p0 x0 x1 x2->p1 x0 x1 x2->p2 x0 x1 x2->G):G:=by obtain⟨x0,x1,x2,h0,h1,h2⟩:=h;exact k x0 x1 x2 h0 h1 h2
theorem V7{α0:Sort _}{α1:Sort _}{α2:Sort _}{p0 p1 p2 p3:α0->α1->α2->Prop}{G:Prop}(h:∃x0 x1 x2,p0 x0 x1 x2/\p1 x0 x1 x2/\p2 x0 x1 x2/\p3 x0 x1 x2)(k:∀x0 x1 x2,p0 x0 x1 x2->p1 x0 x1 x2->p2 x0 x1 x2->p3 x0 x1 x2->G):G:=by obtain⟨x0,x1,x2,h0,h1,h2,h3⟩:=h;exact k x0 x1 x2 h0 h1 h2 h3
theorem qx{α0:Sort _}{α1:Sort _}{α2:Sort _}{p0 p1 p2 p3 p4:α0->α1->α2->Prop}{G:Prop}(h:∃x0 x1 x2,p0 x0 x1 x2/\p1 x0 x1 x2/\p2 x0 x1 x2/\p3 x0 x1 x2/\p4 x0 x1 x2)(k:∀x0 x1 x2,p0 x0 x1 x2->p1 x0 x1 x2->p2 x0 x1 x2->p3 x0 x1 x2->p4 x0 x1 x2->G):G:=by obtain⟨x0,x1,x2,h0,h1,h2,h3,h4⟩:=h;exact k x0 x1 x2 h0 h1 h2 h3 h4
theorem Ze{α0:Sort _}{α1:Sort _}{α2:Sort _}{p0 p1 p2 p3 p4 p5:α0->α1->α2->Prop}{G:Prop}(h:∃x0 x1 x2,p0 x0 x1 x2/\p1 x0 x1 x2/\p2 x0 x1 x2/\p3 x0 x1 x2/\p4 x0 x1 x2/\p5 x0 x1 x2)(k:∀x0 x1 x2,p0 x0 x1 x2->p1 x0 x1 x2->p2 x0 x1 x2->p3 x0 x1 x2->p4 x0 x1 x2->p5 x0 x1 x2->G):G:=by obtain⟨x0,x1,x2,h0,h1,h2,h3,h4,h5⟩:=h;exact k x0 x1 x2 h0 h1 h2 h3 h4 h5
theorem qy{α0:Sort _}{α1:Sort _}{α2:Sort _}{α3:Sort _}{p0:α0->α1->α2->α3->Prop}{G:Prop}(h:∃x0 x1 x2 x3,p0 x0 x1 x2 x3)(k:∀x0 x1 x2 x3,p0 x0 x1 x2 x3->G):G:=by obtain⟨x0,x1,x2,x3,h0⟩:=h;exact k x0 x1 x2 x3 h0
theorem j9{α0:Sort _}{α1:Sort _}{α2:Sort _}{α3:Sort _}{p0 p1:α0->α1->α2->α3->Prop}{G:Prop}(h:∃x0 x1 x2 x3,p0 x0 x1 x2 x3/\p1 x0 x1 x2 x3)(k:∀x0 x1 x2 x3,p0 x0 x1 x2 x3->p1 x0 x1 x2 x3->G):G:=by obtain⟨x0,x1,x2,x3,h0,h1⟩:=h;exact k x0 x1 x2 x3 h0 h1
theorem iO{α0:Sort _}{α1:Sort _}{α2:Sort _}{α3:Sort _}{p0 p1 p2:α0->α1->α2->α3->Prop}{G:Prop}(h:∃x0 x1 x2 x3,p0 x0 x1 x2 x3/\p1 x0 x1 x2 x3/\p2 x0 x1 x2 x3)(k:∀x0 x1 x2 x3,p0 x0 x1 x2 x3->p1 x0 x1 x2 x3->p2 x0 x1 x2 x3->G):G:=by obtain⟨x0,x1,x2,x3,h0,h1,h2⟩:=h;exact k x0 x1 x2 x3 h0 h1 h2
theorem YZ{α0:Sort _}{α1:Sort _}{α2:Sort _}{α3:Sort _}{p0 p1 p2 p3:α0->α1->α2->α3->Prop}{G:Prop}(h:∃x0 x1 x2 x3,p0 x0 x1 x2 x3/\p1 x0 x1 x2 x3/\p2 x0 x1 x2 x3/\p3 x0 x1 x2 x3)(k:∀x0 x1 x2 x3,p0 x0 x1 x2 x3->p1 x0 x1 x2 x3->p2 x0 x1 x2 x3->p3 x0 x1 x2 x3->G):G:=by obtain⟨x0,x1,x2,x3,h0,h1,h2,h3⟩:=h;exact k x0 x1 x2 x3 h0 h1 h2 h3
theorem kA{α0:Sort _}{α1:Sort _}{α2:Sort _}{α3:Sort _}{p0 p1 p2 p3 p4:α0->α1->α2->α3->Prop}{G:Prop}(h:∃x0 x1 x2 x3,p0 x0 x1 x2 x3/\p1 x0 x1 x2 x3/\p2 x0 x1 x2 x3/\p3 x0 x1 x2 x3/\p4 x0 x1 x2 x3)(k:∀x0 x1 x2 x3,p0 x0 x1 x2 x3->p1 x0 x1 x2 x3->p2 x0 x1 x2 x3->p3 x0 x1 x2 x3->p4 x0 x1 x2 x3->G):G:=by obtain⟨x0,x1,x2,x3,h0,h1,h2,h3,h4⟩:=h;exact k x0 x1 x2 x3 h0 h1 h2 h3 h4
theorem qz{α0:Sort _}{α1:Sort _}{α2:Sort _}{α3:Sort _}{p0 p1 p2 p3 p4 p5:α0->α1->α2->α3->Prop}{G:Prop}(h:∃x0 x1 x2 x3,p0 x0 x1 x2 x3/\p1 x0 x1 x2 x3/\p2 x0 x1 x2 x3/\p3 x0 x1 x2 x3/\p4 x0 x1 x2 x3/\p5 x0 x1 x2 x3)(k:∀x0 x1 x2 x3,p0 x0 x1 x2 x3->p1 x0 x1 x2 x3->p2 x0 x1 x2 x3->p3 x0 x1 x2 x3->p4 x0 x1 x2 x3->p5 x0 x1 x2 x3->G):G:=by obtain⟨x0,x1,x2,x3,h0,h1,h2,h3,h4,h5⟩:=h;exact k x0 x1 x2 x3 h0 h1 h2 h3 h4 h5
theorem q6{α0:Sort _}{α1:Sort _}{α2:Sort _}{α3:Sort _}{p0 p1 p2 p3 p4 p5 p6 p7:α0->α1->α2->α3->Prop}{G:Prop}(h:∃x0 x1 x2 x3,p0 x0 x1 x2 x3/\p1 x0 x1 x2 x3/\p2 x0 x1 x2 x3/\p3 x0 x1 x2 x3/\p4 x0 x1 x2 x3/\p5 x0 x1 x2 x3/\p6 x0 x1 x2 x3/\p7 x0 x1 x2 x3)(k:∀x0 x1 x2 x3,p0 x0 x1 x2 x3->p1 x0 x1 x2 x3->p2 x0 x1 x2 x3->p3 x0 x1 x2 x3->p4 x0 x1 x2 x3->p5 x0 x1 x2 x3->p6 x0 x1 x2 x3->p7 x0 x1 x2 x3->G):G:=by obtain⟨x0,x1,x2,x3,h0,h1,h2,h3,h4,h5,h6,h7⟩:=h;exact k x0 x1 x2 x3 h0 h1 h2 h3 h4 h5 h6 h7
theorem iP{α0:Sort _}{α1:Sort _}{α2:Sort _}{α3:Sort _}{α4:Sort _}{p0:α0->α1->α2->α3->α4->Prop}{G:Prop}(h:∃x0 x1 x2 x3 x4,p0 x0 x1 x2 x3 x4)(k:∀x0 x1 x2 x3 x4,p0 x0 x1 x2 x3 x4->G):G:=by obtain⟨x0,x1,x2,x3,x4,h0⟩:=h;exact k x0 x1 x2 x3 x4 h0
theorem Mo{α0:Sort _}{α1:Sort _}{α2:Sort _}{α3:Sort _}{α4:Sort _}{α5:Sort _}{α6:Sort _}{p0:α0->α1->α2->α3->α4->α5->α6->Prop}{G:Prop}(h:∃x0 x1 x2 x3 x4 x5 x6,p0 x0 x1 x2 x3 x4 x5 x6)(k:∀x0 x1 x2 x3 x4 x5 x6,p0 x0 x1 x2 x3 x4 x5 x6->G):G:=by obtain⟨x0,x1,x2,x3,x4,x5,x6,h0⟩:=h;exact k x0 x1 x2 x3 x4 x5 x6 h0
theorem vK{α0:Sort _}{α1:Sort _}{α2:Sort _}{α3:Sort _}{α4:Sort _}{α5:Sort _}{α6:Sort _}{p0 p1 p2 p3 p4:α0->α1->α2->α3->α4->α5->α6->Prop}{G:Prop}(h:∃x0 x1 x2 x3 x4 x5 x6,p0 x0 x1 x2 x3 x4 x5 x6/\p1 x0 x1 x2 x3 x4 x5 x6/\p2 x0 x1 x2 x3 x4 x5 x6/\p3 x0 x1 x2 x3 x4 x5 x6/\p4 x0 x1 x2 x3 x4 x5 x6)(k:∀x0 x1 x2 x3 x4 x5 x6,p0 x0 x1 x2 x3 x4 x5 x6->p1 x0 x1 x2 x3 x4 x5 x6->p2 x0 x1 x2 x3 x4 x5 x6->p3 x0 x1 x2 x3 x4 x5 x6->p4 x0 x1 x2 x3 x4 x5 x6->G):G:=by obtain⟨x0,x1,x2,x3,x4,x5,x6,h0,h1,h2,h3,h4⟩:=h;exact k x0 x1 x2 x3 x4 x5 x6 h0 h1 h2 h3 h4
theorem vJ{α0:Sort _}{p0 p1 p2 p3 p4 p5:α0->Prop}{G:Prop}(h:∃x0,p0 x0/\p1 x0/\p2 x0/\p3 x0/\p4 x0/\p5 x0)(k:∀x0,p0 x0->p1 x0->p2 x0->p3 x0->p4 x0->p5 x0->G):G:=by obtain⟨x0,h0,h1,h2,h3,h4,h5⟩:=h;exact k x0 h0 h1 h2 h3 h4 h5
theorem jV{a b:Nat}:min (a-b) a=a-b:=Nat.min_eq_left (BN a b)
theorem pA{a b c d:Nat}(h:a<=d):min c (a-b)<=d:=AD (A9 _ _) (AD (BN _ _) h)
theorem pB{l p i:Nat}(h:i<l-p):p+(l-p-1-i)=l-1-i:=by
 rw[Nat.sub_right_comm l p 1,Nat.sub_right_comm (l-1) p i];exact Nat.add_sub_of_le (Nat.le_sub_of_add_le (Nat.le_sub_one_of_lt (Nat.add_lt_of_lt_sub' h)))
theorem pC{a i:Nat}(h:i<a):a-1-i<a:=BA (BN _ _) (Nat.sub_lt (Nat.zero_lt_of_lt h) Nat.one_pos)
theorem rx{a b p i:Nat}(h:i<min a b-p):i<a:=Ai h (AD (BN _ _) (BU _ _))
theorem ry{a b p i:Nat}(h:i<min a b-p):i<b:=Ai h (AD (BN _ _) (A9 _ _))
theorem rz{a b p i:Nat}(h:i<min a b-p):i<a-p:=Ai h (Nat.sub_le_sub_right (BU _ _) _)
theorem r7{a b p i:Nat}(h:i<min a b-p):i<b-p:=Ai h (Nat.sub_le_sub_right (A9 _ _) _)
theorem pD{l p q i:Nat}(h:i<l-p-q):p+i<l:=Nat.add_lt_of_lt_sub' (Ai h (BN _ _))
theorem kz{n:Nat}(h:k<n):k+(n-(k+1))=n-1:=by
 rw[Nat.add_comm k 1,Nat.sub_add_eq];exact Nat.add_sub_of_le (Nat.le_sub_one_of_lt h)
theorem XG{n m p l:Nat}(h:k+m+41<=n)(q:p<=k)(e:l=n):m<l-p:=e▸Nat.lt_sub_of_add_lt (BA (AD (Nat.add_le_add_left q m) (BM (Nat.add_comm m k))) (Ai (Nat.lt_add_of_pos_right (Nat.succ_pos 40)) h))
theorem eF{n m p q x:Nat}(h:k+m+41<=n)(p1:p<=k)(p2:q<=m)(e:x=n-p-q):40<x:=by
 rw[e,Nat.sub_sub];exact Nat.le_sub_of_add_le (AD (AD (Nat.add_le_add_left (Nat.add_le_add p1 p2) 41) (BM (Nat.add_comm _ _))) h)
theorem k7{j c i:Nat}:c<=(j+1)*c+i:=Nat.succ_mul j c▸AD (A1 _ _) (Nat.le_add_right _ _)
theorem k8{j c i:Nat}:(j+1)*c+i-c=j*c+i:=by rw[Nat.succ_mul,Nat.add_right_comm,Nat.add_sub_cancel]
theorem XH{n i:Nat}(hn:n=3\/n=4)(h:i<n):i<20*n/\n-1-i<20*n/\i+(n-1-i)+41<=20*n/\20*n-1-(n-1-i)=19*n+i:=by
 rcases hn with rfl|rfl<;>revert i<;>decide
theorem k9{n m i:Nat}(e:n-i=m+1):n-(i+1)=m:=by rw[Nat.sub_add_eq,e,Nat.add_sub_cancel]
theorem XI{n i:Nat}(h:i<n):n-i=n-i-1+1:=(Nat.sub_add_cancel (Nat.sub_pos_of_lt h)).symm
theorem Zv{m j:Nat}(h:j<=m)(k:m-j<m):j-1<j/\j-1<=m/\m-(j-1)=m-j+1:=by
 cases j with
 |zero=>exact absurd k (Aa _)
 |succ j=>exact⟨Nat.lt_succ_self j,A5 h,XI h⟩
theorem lA{m j:Nat}(k:¬m-j<m):m-j=m:=Nat.le_antisymm (BN _ _) (Nat.le_of_not_lt k)
theorem lB{A O L D:Nat}(h:D<=O):A+O+L-D=A+(O-D)+L:=by
 refine(Nat.le.dest h).elim λx hx=>?_;subst hx;rw[Nat.add_sub_cancel_left,Nat.add_left_comm,Nat.add_assoc D,Nat.add_sub_cancel_left]
@[elab_as_elim] theorem wk{p:Nat->Prop}{i:Nat}(h:i<4)(h0:p 0)(h1:p 1)(h2:p 2)(h3:p 3):p i:=cu (show i∈[0,1,2,3]from(BB.mpr h:i∈List.range 4)) h0 h1 h2 h3
@[elab_as_elim] theorem nY{p:Nat->Prop}{i:Nat}(h:i<5)(h0:p 0)(h1:p 1)(h2:p 2)(h3:p 3)(h4:p 4):p i:=eE (show i∈[0,1,2,3,4]from(BB.mpr h:i∈List.range 5)) h0 h1 h2 h3 h4
@[elab_as_elim] theorem ux{p:Nat->Prop}{i:Nat}(h:i<6)(h0:p 0)(h1:p 1)(h2:p 2)(h3:p 3)(h4:p 4)(h5:p 5):p i:=rq (show i∈[0,1,2,3,4,5]from(BB.mpr h:i∈List.range 6)) h0 h1 h2 h3 h4 h5
theorem lC{n j:Nat}:n-1-j=(-(j:Int)-1+n).toNat:=by
 rw[show -(j:Int)-1+n=(n:Int)-((1+j:Nat):Int)by
  show -(j:Int)-1+n=(n:Int)-(1+j);rw[Int.add_comm,Int.sub_eq_add_neg,Int.sub_eq_add_neg,Int.neg_add,Int.add_comm (-1:Int)],Int.toNat_sub,Nat.sub_sub]
theorem eH{i n:Nat}(h:i<n) : -(n:Int)<=-(i:Int)-1:=Int.le_trans (Int.neg_le_neg (Int.ofNat_le.mpr h)) (Int.le_of_eq (Int.neg_add (a:=(i:Int)) (b:=1)))
theorem eI{i:Nat} : -(i:Int)-1<0:=Int.lt_of_le_of_lt (Int.le_of_eq (Int.neg_add (a:=(i:Int)) (b:=1)).symm) (Int.negSucc_lt_zero i)
theorem eK{α:Type _}{a:List α}{i:Nat}(h:i<a.length):(a.take (a.length-i)).isEmpty=false:=by
 rw[List.isEmpty_eq_false_iff];intro z;have z:=congrArg List.length z;rw[Ae,BS,Nat.min_eq_left (BN _ _)]at z;exact absurd (Nat.sub_pos_of_lt h) (z▸Aa 0)
theorem eM{i n:Nat}(h:0<min (n-i) n):i<n:=Nat.sub_pos_iff_lt.mp (Ai h (BU _ _))
local macro_rules
  | `(tactic| rw [$h:rwRule, $rs,*]) => `(tactic| (rewrite [$h]; rw [$rs,*]))
  | `(tactic| rewrite [$h:term]) => `(tactic| first | with_reducible_and_instances (first | refine Mine.oW $h ?_ | refine Mine.oW ($h _) ?_ | refine Mine.oW ($h _ _) ?_) | rewrite [$h:term] at ⊢)
  | `(tactic| rewrite [← $h:term]) => `(tactic| first | with_reducible_and_instances refine Mine.vg $h ?_ | rewrite [← $h:term] at ⊢)
  | `(tactic| cases $x:term) => `(tactic| first | subst $x | (injection $x with h g i; (try clear $x); cases h; cases g; cases i) | (injection $x with h g; (try clear $x); cases h; cases g) | (injection $x with h; (try clear $x); cases h) | (injection $x; done) | fail "no")
noncomputable abbrev S(x:String):Str:=Str.ofString x
noncomputable def BZ(i:Nat):Stmt:=(PySem.Challenge.pw_ta0106_01.main.body[i]?).getD (.Pass ⟨0,0,0,0⟩)
noncomputable def Bu(i:Nat):Stmt:=match BZ 12 with
 |.ClassDef _ _ _ b _ _ _ _ _ _ _=>(b[i]?).getD (.Pass ⟨0,0,0,0⟩)
 |s=>s
noncomputable def defName:Stmt->Str
 |.FunctionDef n _ _ _ _ _ _ _ _ _=>n
 |_=>Str.empty
noncomputable def J7:Stmt->Arguments
 |.FunctionDef _ a _ _ _ _ _ _ _ _=>a
 |_=>⟨[],[],none,[],[],none,[]⟩
noncomputable def Br:Stmt->List Stmt
 |.FunctionDef _ _ b _ _ _ _ _ _ _=>b
 |_=>[]
noncomputable def BX:Stmt->Scope
 |.FunctionDef _ _ _ _ _ _ s _ _ _=>s
 |_=>⟨.function,[],false,false,[]⟩
noncomputable def EV(st:Stmt)(qual:Str)(dflt mod code:Value):FuncData:=
 {name:=defName st,qualname:=qual,params:=J7 st,body:=.stmts (Br st),scope:=BX st,globals:=3,closure:=[],
  defaults:=dflt,kwdefaults:=.none,doc:=.none,pyModule:=mod,annotations:=none,code:=code,closureTuple:=.none,builtins:=0}
noncomputable def Et(st:Stmt)(qual:Str)(dflt mod code:Value):Obj:={cls:=.type "function",data:=.func (EV st qual dflt mod code)}
noncomputable def ent(P:Params)(n:String)(t:Nat)(v:Value):DictEntry:=⟨PyData.keyHash P (Str.ofString n),.str (Str.ofString n) t,v⟩
noncomputable def I9:ClassData:={name:=S "Headers",bases:=[.type "object"],mro:=[.ref 189,.type "object"],ns:=188,qualname:=S "Headers"}
noncomputable def qk:Value:=.str (S "cpy313.traceback") 282
noncomputable def Vy:Value:=.str (S "cpy313.wsgiref.headers") 318
noncomputable def bM:Value:=.str (S "cpy313.xml.etree.ElementTree") 582
noncomputable def W6:Value:=.str (S "law_ta0106_01") 646
noncomputable def Hx(n q:String)(t:Nat)(ln a k fl:Int)(r:Nat)(x y:Value)(z u:Nat):Obj:={cls:=.type "code",data:=.fields ⟨[.str (Str.ofString n) t,.str (Str.ofString q) (t+1),.str (S "/claim/cut.py") (t+2),.int ln 0,.int a 0,.int 0 0,.int k 0,.int fl 0,
 .ref r,.bool true,.int 276 0,.ref (r+1),.none,x,y,.ref (r+z),.int u 0,.int ln 0,.str (S "/claim/cut.py") (u+1)]⟩}
noncomputable def Kx(P:Params):Frag:=[
 (4,{cls:=.type "module",dict:=some 0,data:=.plain}),
 (37,Hx "_substitution_cost" "_substitution_cost" 290 6 2 0 3 32 (.ref 34) (.ref 35) 4 295),
 (38,Et (BZ 5) (S "_substitution_cost") .none qk (.ref 37)),
 (44,Hx "_levenshtein_distance" "_levenshtein_distance" 298 12 3 0 3 39 (.ref 41) (.ref 42) 4 315),
 (45,Et (BZ 6) (S "_levenshtein_distance") .none qk (.ref 44)),
 (54,{cls:=.type "tuple",data:=.seq (List.map (λn:Int=>Value.int n 0) [14,10,4,1,1,22,0,31,16,127,0,13,7,22,0,31,16,127,0,1]).toArray 0}),
 (55,{cls:=.type "re.Pattern",data:=.fields #[(.str (S "[\\x00-\\x1F\\x7F]") 355:Value),(.int 32 378:Value),(.int 0 0:Value),(.none:Value),(.none:Value),(.ref 54:Value),(.int 0 0:Value)]}),
 (59,{cls:=.type "tuple",data:=.seq (List.map (λn:Int=>Value.int n 0) [14,14,4,1,1,9,4294966783,0,0,2147483648,0,0,0,0,0,13,11,9,4294966783,0,0,2147483648,0,0,0,0,0,1]).toArray 0}),
 (60,{cls:=.type "re.Pattern",data:=.fields #[(.str (S "[\\x00-\\x08\\x0A-\\x1F\\x7F]") 381:Value),(.int 32 412:Value),(.int 0 0:Value),(.none:Value),(.none:Value),(.ref 59:Value),(.int 0 0:Value)]}),
 (76,{cls:=.type "tuple",data:=.seq #[(.none:Value)] 0}),
 (82,Hx "__init__" "Headers.__init__" 436 65 2 0 3 77 (.ref 79) (.ref 80) 4 443),
 (83,Et (Bu 0) (S "Headers.__init__") (.ref 76) Vy (.ref 82)),
 (89,Hx "_convert_string_type" "Headers._convert_string_type" 446 75 2 1 3 84 (.ref 86) (.ref 87) 4 453),
 (90,Et (Bu 1) (S "Headers._convert_string_type") .none Vy (.ref 89)),
 (103,Hx "__setitem__" "Headers.__setitem__" 463 86 3 0 3 98 (.ref 100) (.ref 101) 4 469),
 (104,Et (Bu 3) (S "Headers.__setitem__") .none Vy (.ref 103)),
 (108,Hx "__delitem__" "Headers.__delitem__" 472 90 2 0 3 105 .none .none 2 475),
 (109,Et (Bu 4) (S "Headers.__delitem__") .none Vy (.ref 108)),
 (127,Hx "get_all" "Headers.get_all" 494 100 2 0 3 124 .none .none 2 497),
 (128,Et (Bu 7) (S "Headers.get_all") .none Vy (.ref 127)),
 (129,{cls:=.type "tuple",data:=.seq #[(.none:Value)] 0}),
 (135,Hx "get" "Headers.get" 500 104 3 0 3 130 (.ref 132) (.ref 133) 4 508),
 (136,Et (Bu 8) (S "Headers.get") (.ref 129) Vy (.ref 135)),
 (140,Hx "keys" "Headers.keys" 511 111 1 0 3 137 .none .none 2 514),
 (141,Et (Bu 9) (S "Headers.keys") .none Vy (.ref 140)),
 (152,Hx "items" "Headers.items" 523 117 1 0 3 147 (.ref 149) (.ref 150) 4 527),
 (153,Et (Bu 11) (S "Headers.items") .none Vy (.ref 152)),
 (178,Hx "setdefault" "Headers.setdefault" 550 129 3 0 3 173 (.ref 175) (.ref 176) 4 557),
 (179,Et (Bu 15) (S "Headers.setdefault") .none Vy (.ref 178)),
 (185,Hx "add_header" "Headers.add_header" 560 137 3 0 11 180 (.ref 182) (.ref 183) 4 570),
 (186,Et (Bu 16) (S "Headers.add_header") .none Vy (.ref 185)),
 (188,{cls:=.type "dict",data:=.dict #[ent P "__module__" 431 Vy,
  ent P "__firstlineno__" 435 (.int 63 434),
  ent P "__init__" 445 (.ref 83),
  ent P "_convert_string_type" 455 (.ref 90),
  ent P "__len__" 462 (.ref 97),
  ent P "__setitem__" 471 (.ref 104),
  ent P "__delitem__" 477 (.ref 109),
  ent P "__getitem__" 485 (.ref 116),
  ent P "__contains__" 493 (.ref 123),
  ent P "get_all" 499 (.ref 128),
  ent P "get" 510 (.ref 136),
  ent P "keys" 516 (.ref 141),
  ent P "values" 522 (.ref 146),
  ent P "items" 529 (.ref 153),
  ent P "__repr__" 536 (.ref 160),
  ent P "__str__" 542 (.ref 165),
  ent P "__bytes__" 549 (.ref 172),
  ent P "setdefault" 559 (.ref 179),
  ent P "add_header" 572 (.ref 186),
  ent P "__static_attributes__" 574 (.ref 187),
  ent P "__dict__" 576 (.ref 190),
  ent P "__weakref__" 578 (.ref 191),
  ent P "__doc__" 579 (.none)] 4}),
 (189,{cls:=.type "type",data:=.cls I9,slots:=#[none,none,some (.str (S "Headers") 424),some (.str (S "Headers") 432),some (.builtin "object.__new__"),some (.bool true)]}),
 (194,{cls:=.type "dict",data:=.dict #[] 0}),
 (195,{cls:=.type "tuple",data:=.seq #[(.ref 194:Value)] 0}),
 (201,Hx "SubElement" "SubElement" 584 151 3 0 11 196 (.ref 198) (.ref 199) 4 592),
 (202,Et (BZ 14) (S "SubElement") (.ref 195) bM (.ref 201)),
 (208,Hx "_serialize_text" "_serialize_text" 595 156 2 0 3 203 (.ref 205) (.ref 206) 4 601),
 (209,Et (BZ 15) (S "_serialize_text") .none bM (.ref 208)),
 (222,Hx "_escape_cdata" "_escape_cdata" 611 163 1 0 3 217 (.ref 219) (.ref 220) 4 615),
 (223,Et (BZ 17) (S "_escape_cdata") .none bM (.ref 222)),
 (229,Hx "_escape_attrib" "_escape_attrib" 618 174 1 0 3 224 (.ref 226) (.ref 227) 4 622),
 (230,Et (BZ 18) (S "_escape_attrib") .none bM (.ref 229)),
 (236,Hx "_escape_attrib_html" "_escape_attrib_html" 625 193 1 0 3 231 (.ref 233) (.ref 234) 4 629),
 (237,Et (BZ 19) (S "_escape_attrib_html") .none bM (.ref 236)),
 (243,Hx "_escape_cdata_c14n" "_escape_cdata_c14n" 632 204 1 0 3 238 (.ref 240) (.ref 241) 4 636),
 (244,Et (BZ 20) (S "_escape_cdata_c14n") .none bM (.ref 243)),
 (250,Hx "_escape_attrib_c14n" "_escape_attrib_c14n" 639 217 1 0 3 245 (.ref 247) (.ref 248) 4 643),
 (251,Et (BZ 21) (S "_escape_attrib_c14n") .none bM (.ref 250)),
 (255,Hx "_law_ties" "_law_ties" 648 235 3 0 3 252 .none .none 2 651),
 (256,Et (BZ 23) (S "_law_ties") .none W6 (.ref 255)),
 (260,Hx "_law_steps" "_law_steps" 654 238 2 0 3 257 .none .none 2 657),
 (261,Et (BZ 24) (S "_law_steps") .none W6 (.ref 260)),
 (267,Hx "_law_thing" "_law_thing" 660 243 2 0 3 262 (.ref 264) (.ref 265) 4 668),
 (268,Et (BZ 25) (S "_law_thing") .none W6 (.ref 267)),
 (272,Hx "_law_tree" "_law_tree" 671 251 5 0 3 269 .none .none 2 674),
 (273,Et (BZ 26) (S "_law_tree") .none W6 (.ref 272)),
 (277,Hx "_law_spelled" "_law_spelled" 677 274 2 0 3 274 .none .none 2 680),
 (278,Et (BZ 27) (S "_law_spelled") .none W6 (.ref 277)),
 (282,Hx "_law_lacks" "_law_lacks" 683 278 3 0 3 279 .none .none 2 686),
 (283,Et (BZ 28) (S "_law_lacks") .none W6 (.ref 282)),
 (289,Hx "_law_address" "_law_address" 689 284 5 0 3 284 (.ref 286) (.ref 287) 4 703),
 (290,Et (BZ 29) (S "_law_address") .none W6 (.ref 289)),
 (294,Hx "_law_book" "_law_book" 706 292 3 0 3 291 .none .none 2 709),
 (295,Et (BZ 30) (S "_law_book") .none W6 (.ref 294)),
 (299,Hx "_law_prices" "_law_prices" 712 306 4 0 3 296 .none .none 2 715),
 (300,Et (BZ 31) (S "_law_prices") .none W6 (.ref 299)),
 (304,Hx "_law_holds" "_law_holds" 718 317 2 0 3 301 .none .none 2 721),
 (305,Et (BZ 32) (S "_law_holds") .none W6 (.ref 304))]
noncomputable def Vg:List Addr:=[4,37,38,44,45,54,55,59,60,76,82,83,89,90,103,104,108,109,127,128,129,135,136,140,141,152,153,178,179,185,186,188,189,194,195,201,202,208,209,222,223,229,230,236,237,243,244,250,251,255,256,260,261,267,268,272,273,277,278,282,283,289,290,294,295,299,300,304,305]
noncomputable def KG(n:String)(a:Addr):Str×Option Value:=(Str.ofString n,some (.ref a))
noncomputable def QF(n:String):Str×Option Value:=(Str.ofString n,none)
noncomputable def W3:List (Str×Option Value):=[
 KG "__builtins__" 4,(S "_MAX_STRING_SIZE",some (.int 40 284)),(S "_MOVE_COST",some (.int 2 286)),(S "_CASE_COST",some (.int 1 288)),KG "_substitution_cost" 38,KG "_levenshtein_distance" 45,KG "_name_disallowed_re" 55,KG "_value_disallowed_re" 60,KG "Headers" 189,KG "SubElement" 202,KG "_serialize_text" 209,KG "_escape_cdata" 223,KG "_escape_attrib" 230,KG "_escape_attrib_html" 237,KG "_escape_cdata_c14n" 244,KG "_escape_attrib_c14n" 251,KG "_law_ties" 256,KG "_law_steps" 261,KG "_law_thing" 268,KG "_law_tree" 273,KG "_law_spelled" 278,KG "_law_lacks" 283,KG "_law_address" 290,KG "_law_book" 295,KG "_law_prices" 300,KG "_law_holds" 305,KG "law" 310,QF "len",QF "range",QF "enumerate",QF "zip",QF "sum",QF "min",QF "sorted",QF "list",QF "str",QF "type",QF "ValueError",QF "TypeError",QF "AttributeError",QF "AssertionError",QF "repr"]
noncomputable def aa(o:Obj)(n:Str):Option Value:=match o.data with
 |.dict es _=>nsFind es n
 |_=>none
noncomputable def hook:Hook where
 α:=List (Option Obj)×Option (List (Option Value))×Option Obj
 obs:=λs=>(Vg.map s.heap.get?,(s.heap.get? 3).map λo=>W3.map λp=>aa o p.1,s.heap.get? 263)
 val:=λw=>((Kx w.params).map λp=>some p.2,some (W3.map λp=>p.2),some {cls:=.none,data:=.fields #[]})
 says:=λw h=>(Kx w.params).In h/\(∃o,h.get? 3=some o/\∀p∈W3,aa o p.1=p.2)/\h.get? 263=some {cls:=.none,data:=.fields #[]}
 of:=λw s x=>by
  obtain⟨x1,x2,x3⟩:=(Prod.mk.inj x).1,(Prod.mk.inj (Prod.mk.inj x).2).1,(Prod.mk.inj (Prod.mk.inj x).2).2;refine⟨Frag.in_of (as:=Vg) rfl x1,?_,x3⟩;cases h3:s.heap.get? 3 with
  |none=>rw[h3]at x2;cases x2
  |some o=>
   rw[h3]at x2;refine⟨o,rfl,?_⟩;exact List.map_inj_left.mp (Option.some.inj x2)
 keeps:=λw h h' x k=>⟨x.1.keeps k,let⟨o,ho,r⟩:=x.2.1;⟨o,k _ _ ho,r⟩,k _ _ x.2.2⟩
noncomputable abbrev LB:OpenRow:=PySem.Challenge.rw_ta0106_01.row
noncomputable def vw:Program:={LB.toRowW.prog with main:={LB.toRowW.prog.main with body:=[0,2,3,4,5,6,8,9,10,12,15,16,17,18,19,20,21,23,24,25,26,27,28,29,30,31,32,33].filterMap λi=>LB.toRowW.prog.main.body[i]?}}
noncomputable def uw:List Str:=[S "tspecials",S "_name_disallowed_re",S "_value_disallowed_re",S "_formatparam",S "SubElement"]
theorem gv:LeftO LB.prog vw uw (λs=>xlAt vw [] s&&recOk (RowW.records LB.toRowW) s) hook.obs hook.val 3456:=λw=>by kernel_rfl
theorem top(k:∀ {q:Program}{loose:B1}{XP:(Str->Option Value)->Heap->Prop}{d:DefRec}{gf:List (Str×Expr)},d.name=S "law"->d.params=J7 (BZ 33)->d.body=Br (BZ 33)->d.scope=BX (BZ 33)->gf=[]->
  WalkO q loose XP hook.says PySem.Challenge.rw_ta0106_01.row.toRowW d gf λf vs=>PySem.call f vs):PySem.Challenge.rw_ta0106_01.Holds:=by
 w_on
 refine holds_law (by kernel_rfl) λoX=>?_;exact holds_open (q:=vw) gv hook.of hook.keeps (λs e=>xl_of s (Bool.and_eq_true_iff.mp e).1) XL.keeps (by rfl) (by rfl) (by rfl) (λs e=>recFacts_of (Bool.and_eq_true_iff.mp e).2) rfl oX (by decide +kernel) ⟨rfl,rfl,rfl,rfl,rfl,by decide +kernel⟩ (by w_witness2) (k rfl rfl rfl rfl rfl)
section
variable {X X' W:CF}{w:World}{h h':Heap}
variable {α β:Type}{w:World}{A:Around}{W W':CF}{s:Shared}
def Bc:Lean.Syntax:=Lean.Unhygienic.run `(Lean.Parser.Tactic.tacticSeq| rfl)
def Dy:Lean.Syntax:=Lean.Unhygienic.run `(Lean.Parser.Tactic.tacticSeq| with_unfolding_all rfl)
def Fi:Lean.Syntax:=Lean.Unhygienic.run `(Lean.Parser.Tactic.tacticSeq| decide)
def Gn:Lean.Syntax:=Lean.Unhygienic.run `(Lean.Parser.Tactic.tacticSeq| intros;rfl)
def Nc:Lean.Syntax:=Lean.Unhygienic.run `(Lean.Parser.Tactic.tacticSeq| intros;with_unfolding_all rfl)
noncomputable abbrev prog:Program:=PySem.Challenge.pw_ta0106_01
noncomputable abbrev TP:Addr:=263
noncomputable abbrev KS(w:World):=PySem.strKind prog w
noncomputable abbrev QU:Str:=Str.ofString "_law_thing.<locals>.<lambda>"
def Cd(o:Obj):Prop:=∃vs t,o.data=.fields vs/\vs[1]? = some (.str QU t)
def OE(h:Heap)(v:Value):Prop:=∃c o,v=.ref c/\c≠TP/\h.get? c=some o/\Cd o
def Tab(h:Heap):Prop:=∃ps:Array Value,h.get? TP=some {cls:=.none,data:=.fields ps}/\TriplesOk ps.toList/\∀pos v,codeAmong pos ps.toList=some v->OE h v
theorem Tab.keep(t:Tab h)(k1:∀o,h.get? TP=some o->h'.get? TP=some o)(k2:∀c o,c≠TP->h.get? c=some o->Cd o->h'.get? c=some o):Tab h':=
 by refine EI t ?_;clear t;intro ps e r l;exact⟨ps,k1 _ e,r,λpos v hv=>by refine de (l pos v hv) ?_;intro c o e1 e2 e3 e4;exact⟨c,o,e1,e2,k2 c o e2 e3 e4,e4⟩⟩
structure Bt(W:CF)(h h':Heap):Prop where
 keep:∀b o,b≠TP->¬W b->h.get? b=some o->h'.get? b=some o
 live:∀b o,b≠TP->W b->h.get? b=some o->∃o',h'.get? b=some o'
 tab:Tab h->Tab h'
 code:∀b o,h.get? b=some o->Cd o->h'.get? b=some o
noncomputable abbrev Hu:Addr->Prop:=λV=>False
noncomputable abbrev Le:Heap->Heap->Prop:=Bt Hu
theorem Bt.refl(h:Heap):Bt W h h:=⟨λV V V V e=>e,λV o V V e=>⟨o,e⟩,id,λV V e V=>e⟩
theorem Bt.trans{Hh:Heap}(x:Bt W h h')(y:Bt W h' Hh):Bt W h Hh:=
 ⟨λb o n nw e=>y.keep b o n nw (x.keep b o n nw e),λb o n w e=>by refine B5 (x.live b o n w e) ?_;intro o' e';exact y.live b o' n w e',λt=>y.tab (x.tab t),λb o e z=>y.code b o (x.code b o e z) z⟩
theorem Bt.any{W':CF}(x:Bt W h h')(s:∀a,W a->W' a):Bt W' h h':=
 ⟨λb o n nw e=>x.keep b o n (λq=>nw (s b q)) e,λb o n V e=>by
  by_cases q:W b
  .exact x.live b o n q e
  .exact ⟨o,x.keep b o n q e⟩,x.tab,x.code⟩
theorem Bt.alive(x:Bt W h h'){b:Addr}{o:Obj}(n:b≠TP)(e:h.get? b=some o):∃o',h'.get? b=some o':=by
 by_cases q:W b
 .exact x.live b o n q e
 .exact ⟨o,x.keep b o n q e⟩
theorem Bt.at(x:Bt W h h'){b:Addr}{o:Obj}(n:b≠TP)(e:h.get? b=some o)(q:W b->Cd o):h'.get? b=some o:=by
 by_cases w:W b
 .exact x.code b o e (q w)
 .exact x.keep b o n w e
theorem Bt.of(k:∀b o,¬W b->h.get? b=some o->h'.get? b=some o)(l:∀b o,W b->h.get? b=some o->∃o',h'.get? b=some o')(nt:¬W TP)(nc:∀b o,W b->h.get? b=some o->¬Cd o):Bt W h h':=
 ⟨λb o V nw e=>k b o nw e,λb o V w e=>l b o w e,λt=>t.keep (λo e=>k _ o nt e) λc o V e hc=>k c o (λw=>nc c o w e hc) e,λb o e z=>k b o (λw=>nc b o w e z) e⟩
theorem Le.of(k:∀b o,h.get? b=some o->h'.get? b=some o):Le h h':=Bt.of (λb o V e=>k b o e) (λV V w=>w.elim) id λV V w=>w.elim
theorem Cd.fd{o:Obj}{a:Array Value}(e:o.data=.fields a)(h:∀t,a[1]?≠some (.str QU t)):¬Cd o:=λzz=>by refine Fp zz ?_;clear zz;intro vs t z q;rw[e]at z;cases z;exact h t q
theorem Cd.cell{o:Obj}{v:Option Value}(e:o.data=.cell v):¬Cd o:=λzz=>by refine Fp zz ?_;clear zz;intro V V z V;rw[e]at z;cases z
theorem Cd.seq{o:Obj}{a:Array Value}{n:Nat}(e:o.data=.seq a n):¬Cd o:=λzz=>by refine Fp zz ?_;clear zz;intro V V z V;rw[e]at z;cases z
theorem Cd.dict{o:Obj}{a:Array DictEntry}{n:Nat}(e:o.data=.dict a n):¬Cd o:=λzz=>by refine Fp zz ?_;clear zz;intro V V z V;rw[e]at z;cases z
theorem Le.push(h:Heap)(o:Obj):Le h (h.push o):=Le.of λV V e=>AO o e
theorem Bt.fresh{W':CF}(x:Bt W' h h')(s:∀a,W' a->W a\/h.get? a=none):Bt W h h':=
 ⟨λb o n nw e=>x.keep b o n (λq=>(s b q).elim nw λz=>by rw[z]at e;cases e) e,λb o n V e=>x.alive n e,x.tab,x.code⟩
theorem Le.to(x:Le h h'):Bt W h h':=x.any λV q=>q.elim
inductive D where
 |none
 |bool (b:Bool)
 |int (i:Int)
 |str (s:Str)
 |obj (v:Value)
 |list (ds:List D)
 |tup (ds:List D)
 |dict (es:List (Str×D))
abbrev B3:=List (Str×D)
abbrev Cr:=List D
mutual
inductive B8(X:CF)(w:World)(h:Heap):Value->D->Prop
 |none:B8 X w h .none .none
 |bool (b:Bool):B8 X w h (.bool b) (.bool b)
 |int (i:Int) (t:Tok):B8 X w h (.int i t) (.int i)
 |str (s:Str) (t:Tok):B8 X w h (.str s t) (.str s)
 |obj (v:Value):B8 X w h v (.obj v)
 |list {a:Addr}{vs:DV}{ds:Cr}:¬X a->a≠TP->h.PlainList a vs.toArray->Be X w h vs ds->B8 X w h (.ref a) (.list ds)
 |tup {a:Addr}{vs:DV}{ds:Cr}:¬X a->a≠TP->h.IsTuple a vs.toArray->Be X w h vs ds->B8 X w h (.ref a) (.tup ds)
 |dict {a:Addr}{kvs:Dh}{es:B3}:¬X a->a≠TP->(a==sysModules)=false->h.DictOf (KS w) a kvs->Cb X w h kvs es->B8 X w h (.ref a) (.dict es)
inductive Be(X:CF)(w:World)(h:Heap):List Value->List D->Prop
 |nil:Be X w h [] []
 |cons {v:Value}{vs:DV}{d:D}{ds:Cr}:B8 X w h v d->Be X w h vs ds->Be X w h (v::vs) (d::ds)
inductive Cb(X:CF)(w:World)(h:Heap):List (Str×Value)->List (Str×D)->Prop
 |nil:Cb X w h [] []
 |cons {k:Str}{v:Value}{vs:Dh}{d:D}{ds:B3}:B8 X w h v d->Cb X w h vs ds->Cb X w h ((k,v)::vs) ((k,d)::ds)
end
theorem B8.bX(r:B8 X w h v .none):v=.none:=by cases r;rfl
theorem B8.Zy{b:Bool}(r:B8 X w h v (.bool b)):v=.bool b:=by cases r;rfl
theorem B8.gU{i:Int}(r:B8 X w h v (.int i)):∃t,v=.int i t:=by cases r;exact⟨_,rfl⟩
theorem B8.i6{s:Str}(r:B8 X w h v (.str s)):∃t,v=.str s t:=by cases r;exact⟨_,rfl⟩
theorem B8.iQ{o:Value}(r:B8 X w h v (.obj o)):v=o:=by cases r;rfl
theorem B8.Hl{ds:Cr}(r:B8 X w h v (.list ds)):∃a vs,v=.ref a/\¬X a/\a≠TP/\h.PlainList a vs.toArray/\Be X w h vs ds:=by cases r with|list a b c d=>exact⟨_,_,rfl,a,b,c,d⟩
theorem B8.M1{ds:Cr}(r:B8 X w h v (.tup ds)):∃a vs,v=.ref a/\¬X a/\a≠TP/\h.IsTuple a vs.toArray/\Be X w h vs ds:=by cases r with|tup a b c d=>exact⟨_,_,rfl,a,b,c,d⟩
theorem B8.Iq{es:B3}(r:B8 X w h v (.dict es)):∃a kvs,v=.ref a/\¬X a/\a≠TP/\(a==sysModules)=false/\h.DictOf (KS w) a kvs/\Cb X w h kvs es:=by cases r with|dict a b c d e=>exact⟨_,_,rfl,a,b,c,d,e⟩
theorem Be.G9(r:Be X w h vs []):vs=[]:=by cases r;rfl
theorem Be.Bo{d:D}{ds:Cr}(r:Be X w h vs (d::ds)):∃v Wt,vs=v::Wt/\B8 X w h v d/\Be X w h Wt ds:=by cases r with|cons a b=>exact⟨_,_,rfl,a,b⟩
theorem EX{gY:Array Value}(x:h.IsList a gY)(k:∀o,h.get? a=some o->h'.get? a=some o):h'.IsList a gY:=
 by refine Bh x ?_;clear x;intro o e r;exact⟨o,k o e,r⟩
theorem GO{gY:Array Value}(x:h.IsTuple a gY)(k:∀o,h.get? a=some o->h'.get? a=some o):h'.IsTuple a gY:=
 by refine Bh x ?_;clear x;intro o e r;exact⟨o,k o e,r⟩
theorem C1{kvs:Dh}(x:h.DictOf (KS w) a kvs)(k:∀o,h.get? a=some o->h'.get? a=some o):h'.DictOf (KS w) a kvs:=
 by refine Js x ?_;clear x;intro o es ep e r;exact⟨o,es,ep,k o e,r⟩
section
theorem B8.move(k:∀a o,¬X a->a≠TP->h.get? a=some o->h'.get? a=some o/\¬X' a){v d}(r:B8 X w h v d):B8 X' w h' v d:=
 @B8.rec X w h (λv d V=>B8 X' w h' v d) (λv d V=>Be X' w h' v d) (λv d V=>Cb X' w h' v d) .none .bool .int .str .obj
  (λnx nt hl V r=>.list (B5 hl λV e=>(k _ _ nx nt e).2) nt (hl.at λo e=>(k _ o nx nt e).1) r)
  (λnx nt hl V r=>.tup (Bh hl λo e V=>(k _ o nx nt e).2) nt (GO hl λo e=>(k _ o nx nt e).1) r)
  (λnx nt ns hl V r=>.dict (Js hl λo V V e V=>(k _ o nx nt e).2) nt ns (C1 hl λo e=>(k _ o nx nt e).1) r)
  .nil (λV V a b=>.cons a b) .nil (λV V a b=>.cons a b) v d r
theorem Be.move(k:∀a o,¬X a->a≠TP->h.get? a=some o->h'.get? a=some o/\¬X' a){vs ds}(r:Be X w h vs ds):Be X' w h' vs ds:=by
 induction ds generalizing vs with
 |nil=>cases Be.G9 r;exact .nil
 |cons d ds ih=>refine Dt (Be.Bo r) ?_;rintro V V rfl a b;exact .cons (B8.move k a) (ih b)
theorem Cb.G9{vs}(r:Cb X w h vs []):vs=[]:=by cases r;rfl
theorem Cb.Bo{k d vs ds}(r:Cb X w h vs ((k,d)::ds)):∃v Wt,vs=(k,v)::Wt/\B8 X w h v d/\Cb X w h Wt ds:=by cases r with|cons a b=>exact⟨_,_,rfl,a,b⟩
theorem Cb.move(k:∀a o,¬X a->a≠TP->h.get? a=some o->h'.get? a=some o/\¬X' a){vs ds}(r:Cb X w h vs ds):Cb X' w h' vs ds:=by
 induction ds generalizing vs with
 |nil=>cases Cb.G9 r;exact .nil
 |cons d ds ih=>refine Dt (Cb.Bo r) ?_;rintro V V rfl a b;exact .cons (B8.move k a) (ih b)
theorem DQ(x:Bt W h h')(s:∀a,W a->X a):∀a o,¬X a->a≠TP->h.get? a=some o->h'.get? a=some o/\¬X a:=
 λa o nx nt e=>⟨x.keep a o nt (λq=>nx (s a q)) e,nx⟩
theorem Cc(s:∀a,X' a->X a):∀a o,¬X a->a≠TP->h.get? a=some o->h.get? a=some o/\¬X' a:=
 λa V nx V e=>⟨e,λq=>nx (s a q)⟩
theorem ES(s:∀a,X' a->X a\/h.get? a=none):∀a o,¬X a->a≠TP->h.get? a=some o->h.get? a=some o/\¬X' a:=
 λa V nx V e=>⟨e,λq=>(s a q).elim nx λz=>by rw[z]at e;cases e⟩
theorem B8.le{v d}(r:B8 X w h v d)(x:Le h h'):B8 X w h' v d:=r.move (DQ x λV q=>q.elim)
theorem Be.le{v d}(r:Be X w h v d)(x:Le h h'):Be X w h' v d:=r.move (DQ x λV q=>q.elim)
theorem Cb.le{v d}(r:Cb X w h v d)(x:Le h h'):Cb X w h' v d:=r.move (DQ x λV q=>q.elim)
theorem Be.length{vs ds}(r:Be X w h vs ds):vs.length=ds.length:=by
 induction ds generalizing vs with
 |nil=>cases Be.G9 r;rfl
 |cons d ds ih=>refine Dt (Be.Bo r) ?_;rintro V V rfl a b;exact congrArg Nat.succ (ih b)
theorem Be.get{ds:Cr}(r:Be X w h vs ds):∀ {i:Nat}{d:D},ds[i]? = some d->∃v,vs[i]? = some v/\B8 X w h v d:=by
 induction ds generalizing vs with
 |nil=>intro i d e;cases e
 |cons d ds ih=>
  intro i d' e;refine Dt (Be.Bo r) ?_;rintro V V rfl a b;cases i with
  |zero=>cases e;exact⟨_,rfl,a⟩
  |succ i=>exact ih b (i:=i) e
theorem Be.append{Wt:DV}{ds IZ:Cr}(r:Be X w h vs ds)(r':Be X w h Wt IZ):Be X w h (vs++Wt) (ds++IZ):=by
 induction ds generalizing vs with
 |nil=>cases Be.G9 r;exact r'
 |cons d ds ih=>refine Dt (Be.Bo r) ?_;rintro V V rfl a b;exact .cons a (ih b)
theorem Be.drop{ds:Cr}(r:Be X w h vs ds)(n:Nat):Be X w h (vs.drop n) (ds.drop n):=by
 induction n generalizing vs ds with
 |zero=>exact r
 |succ n ih=>cases r with|nil=>exact .nil|cons a b=>exact ih b
theorem Be.take{ds:Cr}(r:Be X w h vs ds)(n:Nat):Be X w h (vs.take n) (ds.take n):=by
 induction n generalizing vs ds with
 |zero=>exact .nil
 |succ n ih=>cases r with|nil=>exact .nil|cons a b=>exact .cons a (ih b)
theorem Cb.keys{vs ds}(r:Cb X w h vs ds):vs.map (·.1)=ds.map (·.1):=by
 induction ds generalizing vs with
 |nil=>cases Cb.G9 r;rfl
 |cons d ds ih=>refine Dt (Cb.Bo r) ?_;rintro V V rfl a b;exact congrArg (_::·) (ih b)
end
structure CV(w:World)(h:Heap):Prop where
 k:(Kx w.params).In h
 gl:∃mg,h.Ns 3 mg/\∀p∈W3,mg p.1=p.2
 bt:∃mb,h.Ns 0 mb/\∀x,x≠Str.ofString "__name__"->mb x=bootBuiltins x
 lim:h.NoLimit
 tab:Tab h
theorem lookup_mem{β:Type}[BEq α][LawfulBEq α]{a:α}{b:β}:∀ {l:List (α×β)},l.lookup a=some b->(a,b)∈l
 |(x,y)::r,e=>by
  rw[AK]at e;cases q:a==x with
  |true=>rw[q]at e;cases e;rw[eq_of_beq q];exact .head _
  |false=>rw[q]at e;exact .tail _ (lookup_mem e)
theorem QS:∀a∈Vg,a<306:=by decide
theorem K6{P:Params}{o:Obj}(e:(Kx P).lookup a=some o):a<306:=
 QS a (by
  have:a∈(Kx P).map (·.1):=Ab (f:=(·.1)) (lookup_mem e);exact this)
theorem ZX{P:Params}{o:Obj}(e:(Kx P).lookup a=some o):a≠TP:=λq=>by
 have:a∈Vg:=by
  have:a∈(Kx P).map (·.1):=Ab (f:=(·.1)) (lookup_mem e);exact this
 subst q;revert this;decide
def FT(X:CF)(h:Heap):Prop:=∀a,X a->306<=a/\∃o,h.get? a=some o
theorem FT.le(x:FT X h)(l:Bt W h h'):FT X h':=λa q=>
 by obtain⟨b,o,e⟩:=x a q;exact⟨b,l.alive (λt=>by subst t;exact absurd b (by decide)) e⟩
theorem FT.nt(x:FT X h):¬X TP:=λq=>absurd (x _ q).1 (by decide)
theorem Ck(x:h.Ns a m)(k:∀o,h.get? a=some o->h'.get? a=some o):h'.Ns a m:=x.at' k
theorem CV.le(B:CV w h)(l:Bt W h h')(s:∀a,W a->306<=a):CV w h' where
 k:=λa o e=>l.keep a o (ZX e) (λq=>absurd (s a q) (Nat.not_le.mpr (K6 e))) (B.k a o e)
 gl:=by refine Bh B.gl ?_;intro mg n r;exact⟨mg,Ck n λo e=>l.keep _ o (by decide) (λq=>absurd (s _ q) (by decide)) e,r⟩
 bt:=by refine Bh B.bt ?_;intro mg n r;exact⟨mg,Ck n λo e=>l.keep _ o (by decide) (λq=>absurd (s _ q) (by decide)) e,r⟩
 lim:=by refine Bh B.lim ?_;intro mc n r;exact⟨mc,Ck n λo e=>l.keep _ o (by decide) (λq=>absurd (s _ q) (by decide)) e,r⟩
 tab:=l.tab B.tab
def Run(w:World)(A:Around)(W:CF)(t:Sem α)(s:Shared)(Φ:α->Heap->Prop):Prop:=
 ∀(Q:α->Shared->Prop) (E:CG),(∀a h' tk,Bt W s.heap h'->Φ a h'->Q a {s with heap:=h',toks:=tk})->wpAny (model prog w) A t Q E s
section
theorem Run.imp{t:Sem α}{Φ Ψ:α->Heap->Prop}(x:Run w A W t s Φ)(i:∀a h',Bt W s.heap h'->Φ a h'->Ψ a h'):Run w A W t s Ψ:=
 λQ E q=>x Q E λa h' tk l p=>q a h' tk l (i a h' l p)
theorem Run.any{t:Sem α}{Φ:α->Heap->Prop}(x:Run w A W t s Φ)(i:∀a,W a->W' a):Run w A W' t s Φ:=
 λQ E q=>x Q E λa h' tk l p=>q a h' tk (l.any i) p
end
structure E7(n:Nat)(A:Around):Prop where
 handled:A.handled=none
 depth:A.depth+2*n+2<=900
 units:A.units+10*n+80<=9000
 guards:A.guards=some []
theorem E7.CC{n m:Nat}(x:E7 n A)(h:m<=n):E7 m A:=⟨x.handled,by have:=x.depth;lia,by have:=x.units;lia,x.guards⟩
theorem E7.deeper{n:Nat}(x:E7 (n+1) A)(env:Env):E7 n (A.deeper env):=
 ⟨x.handled,by have:=x.depth;show A.depth+1+2*n+2<=900;lia,by have:=x.units;show A.units+3+10*n+80<=9000;lia,x.guards⟩
theorem E7.room{n:Nat}(x:E7 n A):A.depth<recursionLimit:=by
 have:=x.depth;show A.depth<1000;lia
theorem E7.line{n:Nat}(x:E7 n A):A.units+64<cLine:=by
 have:=x.units;show A.units+64<9900;lia
theorem O7:E7 40 callerA:=⟨rfl,by decide,by decide,rfl⟩
end
local macro_rules
  | `(tactic| cases $x:term) => `(tactic| first | (have h := (Mine.B8.iQ $x).symm; subst h) | (refine Exists.elim (Mine.B8.i6 $x) ?_; intro _ h; subst h) | (refine Exists.elim (Mine.B8.gU $x) ?_; intro _ h; subst h) | (have h := (Mine.Be.G9 $x).symm; subst h) | (have h := (Mine.B8.bX $x).symm; subst h) | (have h := (Mine.B8.Zy $x).symm; subst h) | fail "no")
variable {c cc:Cx}{J J' KR J0 es:B3}{N N':Em}{R R':Cs}{d:D}{ds:Cr}
structure Res where
 fp:Addr->Prop
 P:World->(Addr->Prop)->Heap->Prop
 mv:∀ {w:World}{X X':CF}{h h':Heap},P w X h->(∀b o,(fp b\/¬X b\/Cd o)->b≠TP->h.get? b=some o->h'.get? b=some o/\(¬X b->¬X' b))->P w X' h'
noncomputable def Res.emp:Res:=⟨λV=>False,λV V V=>True,λV V=>trivial⟩
noncomputable def Res.star(r t:Res):Res where
 fp:=λb=>r.fp b\/t.fp b
 P:=λw X h=>r.P w X h/\t.P w X h/\∀b,r.fp b->t.fp b->False
 mv:=λzz k=>by refine FO zz ?_;clear zz;intro a b n;exact⟨r.mv a λx o q=>k x o (q.imp_left .inl),t.mv b λx o q=>k x o (q.imp_left .inr),n⟩
structure Cx where
 w:World
 A:Around
 env:Env
 k:Nat
 X:Addr->Prop
 G:Res
 own:Str->Prop
 h0:Heap
 M:Addr->Prop
 ro:Prop
abbrev D8(c:Cx)(e:Expr)(es:Cw):Prop:=starEach (e::es) c.env=(false,eval e c.env)::starEach es c.env
abbrev J6(a p:Pos):Prop:=(a.endLine==p.line)=true
abbrev XC(s:Expr)(o i:Value):Prop:=subscripted s false o i=operate [o,i] (getItem o i)
abbrev Q7(i:Expr)(env:Env)(x:Value):Prop:=foldedSetIterable i env x=pure x
abbrev UM(x:Str):Prop:=(x==("__debug__" : Str))=false
abbrev Zr(x:Str):Prop:=(x==("__classdict__" : Str))=false
abbrev jR(c:Cx)(o:Expr)(name:Str):Prop:=attributeBase o name c.env (eval o c.env)=eval o c.env
def Holds(env:Env)(h:Heap)(x:Str)(v:Value):Prop:=
 ((x==("__debug__" : Str))=false/\(x==("__classdict__" : Str))=false)/\
 ((env.kindOf x=some .local/\env.locals≠TP/\∃m,h.Ns env.locals m/\m x=some v)\/
 (∃c,(env.kindOf x=some .cell\/env.kindOf x=some .free)/\env.cells.lookup x=some c/\c≠TP/\h.IsCell c (some v)))
structure Fr(c:Cx)(J:B3)(h:Heap):Prop where
 base:CV c.w h
 Cj:FT c.X h
 kind:c.env.scope.kind=.function
 glob:c.env.globals=3
 blt:c.env.builtins=0
 ok:E7 c.k c.A
 old:Bt c.M c.h0 h
 loc:c.X c.env.locals/\c.h0.get? c.env.locals=none/\∃m,h.Ns c.env.locals m
 Ez:∀x a,c.env.cells.lookup x=some a->a≠c.env.locals/\a≠TP/\(∃v,h.IsCell a v)/\(c.own x->c.X a/\c.h0.get? a=none)
 apart:∀x y a,c.env.cells.lookup x=some a->c.env.cells.lookup y=some a->x=y
 names:∀x d,(x,d)∈J->∃v,Holds c.env h x v/\B8 c.X c.w h v d
 g:c.G.P c.w c.X h
 gx:∀b,c.G.fp b->(c.X b/\(c.ro\/c.M b\/c.h0.get? b=none))/\b≠c.env.locals/\∀x,c.env.cells.lookup x≠some b
def Off(c:Cx)(a:Addr):Prop:=c.X a/\(c.M a\/c.h0.get? a=none)/\¬c.G.fp a/\a≠c.env.locals/\∀x,c.env.cells.lookup x≠some a
theorem Holds.keep{env:Env}(H:Holds env h x v)(k1:∀o,env.locals≠TP->h.get? env.locals=some o->h'.get? env.locals=some o)(k2:∀a o,a≠TP->env.cells.lookup x=some a->h.get? a=some o->h'.get? a=some o):Holds env h' x v:=
 ⟨H.1,H.2.imp (λzz=>by obtain⟨k,n,m,e,q⟩:=zz;exact⟨k,n,m,Ck e λo z=>k1 o n z,q⟩)
  λzz=>by obtain⟨c,k,e,n,o,z,q⟩:=zz;exact⟨c,k,e,n,o,k2 c o n e z,q⟩⟩
theorem Fr.W5(F:Fr c J h):c.env.locals≠TP:=λq=>F.Cj.nt (q▸F.loc.1)
theorem B0{v:Option Value}(x:h.IsCell a v)(k:∀o,h.get? a=some o->h'.get? a=some o):h'.IsCell a v:=
 by refine Bh x ?_;clear x;intro o e r;exact⟨o,k o e,r⟩
theorem Fr.off(F:Fr c J h)(l:Bt W h h')(s:∀a,W a->Off c a):Fr c J h':=
 have kl:∀o,h.get? c.env.locals=some o->h'.get? c.env.locals=some o:=λo e=>l.keep _ o F.W5 (λq=>(s _ q).2.2.2.1 rfl) e;have kc:∀x a o,c.env.cells.lookup x=some a->a≠TP->h.get? a=some o->h'.get? a=some o:=λx a o e n z=>l.keep _ o n (λq=>(s _ q).2.2.2.2 x e) z
 {base:=F.base.le l λa q=>(F.Cj a (s a q).1).1
  Cj:=F.Cj.le l
  kind:=F.kind,glob:=F.glob,blt:=F.blt,ok:=F.ok
  old:=⟨λb o n nw e=>(l.keep b o n · (F.old.keep b o n nw e)) λq=>(s b q).2.1.elim nw (λz=>by rw[z]at e;cases e),λb o n V e=>by
   refine B5 (F.old.alive n e) ?_;intro o' e';exact l.alive n e',λt=>l.tab (F.old.tab t),λb o e z=>l.code b o (F.old.code b o e z) z⟩
  loc:=⟨F.loc.1,F.loc.2.1,by refine B5 F.loc.2.2 ?_;intro m n;exact⟨m,Ck n kl⟩⟩
  Ez:=λx a e=>by refine Ht (F.Ez x a e) ?_;intro a1 a2 Cq a4;refine B5 Cq ?_;intro v a3;exact⟨a1,a2,⟨v,B0 a3 λo z=>kc x a o e a2 z⟩,a4⟩
  apart:=F.apart
  names:=λx d m=>by refine Bh (F.names x d m) ?_;intro v H r;exact⟨v,H.keep (λo V e=>kl o e) (λa o n e z=>kc x a o e n z),r.move (DQ l λa q=>(s a q).1)⟩
  g:=c.G.mv F.g λb o q n e=>⟨l.at n e λz=>q.elim (λy=>absurd y (s b z).2.2.1) λq=>q.elim (λy=>absurd (s b z).1 y) id,id⟩
  gx:=F.gx}
theorem Fr.le(F:Fr c J h)(l:Le h h'):Fr c J h':=F.off l λV q=>q.elim
theorem Fr.sub(F:Fr c J h)(s:∀p∈J',p∈J):Fr c J' h:={F with names:=λx d m=>F.names x d (s _ m)}
def Ev(c:Cx)(J:B3)(e:Expr)(d:D):Prop:=
 ∀s,Fr c J s.heap->Run c.w c.A Hu (eval e c.env) s λv h'=>B8 c.X c.w h' v d
def CK(c:Cx)(J:B3)(e:Expr)(b:Bool):Prop:=
 ∀s,Fr c J s.heap->Run c.w c.A Hu (isTrue e c.env (eval e c.env)) s λx V=>x=b
def FP(c:Cx)(J:B3)(es:Cw)(ds:Cr):Prop:=
 ∀pos s,Fr c J s.heap->Run c.w c.A Hu (spliced (backTo pos (starEach es c.env))) s λvs h'=>Be c.X c.w h' vs ds
theorem Ev.eq{d':D}(x:Ev c J e d)(q:d=d'):Ev c J e d':=q▸x
theorem CK.eq{d d':Bool}(x:CK c J e d)(q:d=d'):CK c J e d':=q▸x
theorem Ev.cInt{i:Int}{k pos}:Ev c J (.Constant (.int i) k pos) (.int i):=λV V Q V q=>wpAny_Constant_int (q _ _ _ (.refl _) (.int _ _))
theorem Ev.cStr{k pos}:Ev c J (.Constant (.str x) k pos) (.str x):=λV V Q V q=>wpAny_Constant_str (q _ _ _ (.refl _) (.str _ _))
theorem Ev.OL{k pos}:Ev c J (.Constant .none k pos) .none:=λs V Q V q=>wpAny_Constant_none (q _ s.heap s.toks (.refl _) .none)
theorem Ev.cBool{b:Bool}{k pos}:Ev c J (.Constant (.bool b) k pos) (.bool b):=λs V Q V q=>wpAny_Constant_bool (q _ s.heap s.toks (.refl _) (.bool _))
theorem D1{env:Env}{M:Model}(H:Holds env s.heap x v)(k:env.scope.kind=.function)(q:Q v s) :
  wpAny M A (loadName env x) Q E s:=by
 refine CB H ?_;clear H;intro Du H;refine CB Du ?_;intro V hc;rcases H with⟨hk,_,m,n,e⟩|⟨c,hk|hk,e,_,n⟩
 .exact wpAny_loadName_local k hk n e q
 .exact wpAny_loadName_cell k hk e n q
 .exact wpAny_loadName_free k hk e n q hc
theorem Ev.name(m:(x,d)∈J):Ev c J (.Name x pos) d:=λs F Q V q=>by
 refine Bh (F.names x d m) ?_;intro v H r;exact wpAny_Name (D1 H F.kind (q v s.heap s.toks (.refl _) r)) H.1.1
theorem Ev.n(h:autoParam (J.lookup x=some d) Bc):Ev c J (.Name x pos) d:=Ev.name (lookup_mem h)
theorem Rq{env:Env}(k:env.scope.kind=.function)(hk:env.kindOf x=some .globalImplicit):loadName env x=loadGlobal env x:=by
 unfold loadName Env.blockKind;rw[k,hk];rfl
theorem Oz{M:Model}{env:Env}(B:CV c.w s.heap)(k:env.scope.kind=.function)(g:env.globals=3)(hk:env.kindOf x=some .globalImplicit)(m:(x,some v)∈W3)(q:Q v s):wpAny M A (loadName env x) Q E s:=by
 refine Bh B.gl ?_;intro mg n r;rw[Rq k hk];unfold loadGlobal;rw[g];refine wpAny_bind (wpAny_nsGet n ?_);rw[r _ m];exact wpAny_pure q
theorem GS{M:Model}{env:Env}(B:CV c.w s.heap)(k:env.scope.kind=.function)(g:env.globals=3)(b:env.builtins=0)(hk:env.kindOf x=some .globalImplicit)(m:(x,none)∈W3)(hb:bootBuiltins x=some v)(hn:x≠Str.ofString "__name__")(q:Q v s):wpAny M A (loadName env x) Q E s:=by
 refine Bh B.gl ?_;intro mg n r;refine Bh B.bt ?_;intro mb n' r';rw[Rq k hk];unfold loadGlobal;rw[g,b];refine wpAny_bind (wpAny_nsGet n ?_);rw[r _ m];refine wpAny_bind (wpAny_nsGet n' ?_);rw[r' _ hn,hb];exact wpAny_pure q
theorem Ev.glob(m:(x,some v)∈W3)(hk:c.env.kindOf x=some .globalImplicit)(r:∀h,B8 c.X c.w h v d)(hd:autoParam (UM x) Fi):Ev c J (.Name x pos) d:=
 λs F Q V q=>wpAny_Name (Oz F.base F.kind F.glob hk m (q v s.heap s.toks (.refl _) (r _))) hd
theorem Ev.Gm(m:(x,Option.none)∈W3)(hb:bootBuiltins x=some v)(hk:c.env.kindOf x=some .globalImplicit)(hn:autoParam (x≠Str.ofString "__name__") Fi)(hd:autoParam (UM x) Fi) :
  Ev c J (.Name x pos) (.obj v):=
 λs F Q V q=>wpAny_Name (GS F.base F.kind F.glob F.blt hk m hb hn (q v s.heap s.toks (.refl _) (.obj _))) hd
theorem Ev.two{dl dr:D}{f:Value->Value->Sem Value}(x:Ev c J l dl)(y:Ev c J r dr)(z:∀a b s,Fr c J s.heap->B8 c.X c.w s.heap a dl->B8 c.X c.w s.heap b dr->Run c.w c.A Hu (f a b) s λv h'=>B8 c.X c.w h' v d)(F:Fr c J s.heap)(q:∀a h' tk,Le s.heap h'->B8 c.X c.w h' a d->Q a {s with heap:=h',toks:=tk}) :
  wpAny (model prog c.w) c.A (eval l c.env) (λa s₁=>wpAny (model prog c.w) c.A (eval r c.env) (λb s₂=>wpAny (model prog c.w) c.A (f a b) Q E s₂) E s₁) E s:=
 x s F _ _ λa h1 t1 l1 r1=>y _ (F.le l1) _ _ λb h2 t2 l2 r2=>
  z a b _ ((F.le l1).le l2) (r1.le l2) r2 Q E λv h3 t3 l3 r3=>q v h3 t3 ((l1.trans l2).trans l3) r3
theorem Ev.bin{op:Operator}{dl dr:D}(x:Ev c J l dl)(y:Ev c J r dr)(z:∀a b s,Fr c J s.heap->B8 c.X c.w s.heap a dl->B8 c.X c.w s.heap b dr->Run c.w c.A Hu (binaryOp op a b) s λv h'=>B8 c.X c.w h' v d):Ev c J (.BinOp l op r pos) d:=
 λV F V V q=>wpAny_BinOp (Ev.two x y z F q)
def Bg(c:Cx)(J:B3)(l:Expr)(op:CmpOp)(r:Expr)(b:Bool):Prop:=
 behindInMarks op r=false/\∀s,Fr c J s.heap->∀(Q:CG) (E:CG),(∀h' tk,Le s.heap h'->Q (.bool b) {s with heap:=h',toks:=tk})->
  wpAny (model prog c.w) c.A (eval l c.env) (λa s₁=>wpAny (model prog c.w) c.A (eval r c.env) (λb s₂=>wpAny (model prog c.w) c.A (compareOp op a b) Q E s₂) E s₁) E s
theorem Bg.of{op:CmpOp}{dl dr:D}{b:Bool}(x:Ev c J l dl)(y:Ev c J r dr)(z:∀v u s,Fr c J s.heap->B8 c.X c.w s.heap v dl->B8 c.X c.w s.heap u dr->Run c.w c.A Hu (compareOp op v u) s λv h'=>B8 c.X c.w h' v (.bool b))(hm:autoParam (behindInMarks op r=false) Dy) :
  Bg c J l op r b:=⟨hm,λs F Q E q=>Ev.two x y z F λv h' tk l r=>by cases r;exact q h' tk l⟩
theorem Bg.eq{op:CmpOp}{b b':Bool}(x:Bg c J l op r b)(e:b=b'):Bg c J l op r b':=e▸x
theorem Ev.cmp{op:CmpOp}{b:Bool}(x:Bg c J l op r b):Ev c J (.Compare l [op] [r] pos) (.bool b):=
 λs F Q E q=>wpAny_Compare1 (x.2 s F Q E λh' tk l=>q _ h' tk l (.bool _)) x.1
theorem CK.cmp{op:CmpOp}{b:Bool}(x:Bg c J l op r b):CK c J (.Compare l [op] [r] pos) b:=
 λs F Q E q=>wpAny_isTrue_Compare1 (x.2 s F _ E λh' tk l=>wpAny_truthy_bool (q _ h' tk l rfl)) x.1
theorem FP.nil:FP c J [] []:=λpos s V V V q=>wpAny_items_nil (q _ s.heap s.toks (.refl _) .nil)
theorem FP.cons{es:Cw}(x:Ev c J e d)(y:FP c J es ds)(he:autoParam (D8 c e es) Bc):FP c J (e::es) (d::ds):=
 λpos s F V V q=>wpAny_items_cons (x s F _ _ λa h1 t1 l1 r1=>y pos _ (F.le l1) _ _ λvs h2 t2 l2 r2=>q _ h2 t2 (l1.trans l2) (.cons (r1.le l2) r2)) he
theorem fresh_ne(x:FT X h):¬X h.objs.size:=λq=>by obtain⟨_,_,e⟩:=x _ q;exact Aa _ (Ag e)
theorem B4(t:Tab h):h.objs.size≠TP:=λq=>by refine Bh t ?_;clear t;intro V e V;exact Aa _ (q▸Ag e)
theorem Bm(h:Heap):h.get? h.objs.size=none:=by
 cases e:h.get? h.objs.size with
 |none=>rfl
 |some o=>exact absurd (Ag e) (Aa _)
theorem Ev.tuple{es:Cw}{k pos}(x:FP c J es ds)(hn:autoParam (ds.length<=1000) Fi):Ev c J (.Tuple es k pos) (.tup ds):=λs F V V q=>
 wpAny_Tuple (x pos s F _ _ λvs h1 t1 l1 r1=>⟨by have:=r1.length;rw[sizeLine_eq];exact Jc this hn rfl,q _ _ _ (l1.trans (Le.push _ _))
  (.tup (fresh_ne (F.Cj.le l1)) (B4 (l1.tab F.base.tab)) ⟨_,AH _ rfl,rfl,0,rfl⟩ (r1.le (Le.push _ _)))⟩)
theorem Ev.list{es:Cw}{pos}(x:FP c J es ds)(hn:autoParam (ds.length<=1000) Fi):Ev c J (.List es pos) (.list ds):=λs F V V q=>
 wpAny_List (x pos s F _ _ λvs h1 t1 l1 r1=>⟨by have:=r1.length;rw[sizeLine_eq];exact Jc this hn rfl,q _ _ _ (l1.trans (Le.push _ _))
  (.list (fresh_ne (F.Cj.le l1)) (B4 (l1.tab F.base.tab)) ⟨0,AH _ rfl⟩ (r1.le (Le.push _ _)))⟩)
theorem Ev.Ij{pos}{a b:Int}(x:Ev c J l (.int a))(y:Ev c J r (.int b)):Ev c J (.BinOp l .Add r pos) (.int (a+b)):=
 .bin x y λV V s F ra rb Q E q=>by cases ra;cases rb;exact PyProof.Rows.add_int (q _ s.heap _ (.refl _) (.int _ _))
theorem Ev.Lh{pos}{a b:Int}(x:Ev c J l (.int a))(y:Ev c J r (.int b)):Ev c J (.BinOp l .Sub r pos) (.int (a-b)):=
 .bin x y λV V s F ra rb Q E q=>by cases ra;cases rb;exact PyProof.Rows.sub_int (q _ s.heap _ (.refl _) (.int _ _))
theorem Ev.TS{pos}{a b:Int}(x:Ev c J l (.int a))(y:Ev c J r (.int b))(h : -(2^60)<a/\a<2^60):Ev c J (.BinOp l .Mult r pos) (.int (a*b)):=
 .bin x y λV V s F ra rb Q E q=>by
  cases ra;cases rb;exact PyProof.Rows.mul_int (q _ s.heap _ (.refl _) (.int _ _)) (IntMulOk.of_left (intBits_le_64 (by lia) (by lia)))
theorem Ev.Sl{pos}{a b:Int}(x:Ev c J l (.int a))(y:Ev c J r (.int b))(h:0<b/\b<2^29):Ev c J (.BinOp l .FloorDiv r pos) (.int (a/b)):=
 .bin x y λV V s F ra rb Q E q=>by
  cases ra;cases rb;refine PyProof.Rows.floordiv_int (by lia) ?_ (.inl (PyProof.noPylong_small (by omega)));rw[Int.fdiv_eq_ediv_of_nonneg _ (by lia)];exact q _ s.heap _ (.refl _) (.int _ _)
theorem Ev.MA{pos}{a b:Int}(x:Ev c J l (.int a))(y:Ev c J r (.int b))(h:0<b):Ev c J (.BinOp l .Mod r pos) (.int (a%b)):=
 .bin x y λV V s F ra rb Q E q=>by
  cases ra;cases rb;refine PyProof.Rows.mod_int' (by exact Ne.symm (Int.ne_of_lt h)) ?_;rw[Int.fmod_eq_emod_of_nonneg _ (by exact Int.le_of_lt h)];exact q _ s.heap _ (.refl _) (.int _ _)
theorem Ev.iW{pos}{a n:Int}(x:Ev c J l (.int a))(y:Ev c J r (.int n))(h:0<=n/\n<=100)(ha:0<=a/\a<=1000):Ev c J (.BinOp l .Pow r pos) (.int (a^n.toNat)):=
 .bin x y λV V s F ra rb Q E q=>by
  cases ra;cases rb;refine PyProof.Rows.pow_int h.1 ?_ (q _ s.heap _ (.refl _) (.int _ _));have hb:Builtin.Int.intBits a<=64:=intBits_le_64 (by omega) (by omega);have:(Builtin.Int.intBits a:Int)*n<=64*n:=Int.mul_le_mul_of_nonneg_right (by exact Nat.ToInt.of_le rfl rfl hb) h.1;lia
theorem Ev.d9{pos}{a b:Str}(x:Ev c J l (.str a))(y:Ev c J r (.str b))(h:a.length+b.length<=1000000):Ev c J (.BinOp l .Add r pos) (.str (a++b)):=
 .bin x y λV V s F ra rb Q E q=>by cases ra;cases rb;exact PyProof.Rows.add_str (λt' tk=>q _ s.heap _ (.refl _) (.str _ _)) (by rw[sizeLine_eq];exact lb h rfl)
theorem Ev.bR{pos}{a:Str}{n:Int}(x:Ev c J l (.str a))(y:Ev c J r (.int n))(h:a.length<=1000/\0<n/\n<=100):Ev c J (.BinOp l .Mult r pos) (.str (Txt.mul a n)):=
 .bin x y λV V s F ra rb Q E q=>by
  cases ra;cases rb;refine SB.mul ⟨by simp only[Bool.or_eq_false_iff,decide_eq_false_iff_not];lia,λh1 h2=>?_,λh1 h2=>?_⟩ (λt' k=>q _ s.heap _ (.refl _) (.str _ _))
  .have:(1000:Int)<=(2^63-1)/n:=(Int.le_ediv_iff_mul_le (by(clear h h2;lia))).mpr (by lia);lia
  .have:a.length*n.toNat<=1000*100:=Nat.mul_le_mul h.1 (by lia);unfold Builtin.Str.tooLong;simp only[decide_eq_false_iff_not];rw[sizeLine_eq];omega
theorem Tc{l b:Addr}{i1 i2:Array Value}(h1:s.heap.PlainList l i1)(h2:s.heap.PlainList b i2)(hz:i1.size+i2.size<=sizeLine)(q:Q (.ref s.heap.objs.size) {s with heap:=s.heap.push {cls:=.type "list",data:=.seq (i1++i2)}}):wpAny (model prog w) A (binaryOp .Add (.ref l) (.ref b)) Q E s:=by
 refine B5 h1 ?_;clear h1;intro n1 e1;refine B5 h2 ?_;clear h2;intro n2 e2;exact concat_meets ⟨_,e1,rfl⟩ ⟨_,e2,rfl⟩ noFill_list_add seq_list_add PySem.F.slot_list_add PySem.F.entry_list_add (PySem.F.args_list_add_2 _ _) (list_addW l b i1 i2 n1 n2 none none #[] #[] hz) ⟨e1,e2,q⟩
theorem LL(Cj:FT X h)(t:Tab h)(r:Be X w h vs ds) :
  B8 X w (h.push {cls:=.type "list",data:=.seq vs.toArray}) (.ref h.objs.size) (.list ds):=
 .list (fresh_ne Cj) (B4 t) ⟨0,AH _ rfl⟩ (r.le (Le.push _ _))
theorem Ev.d8{pos}{a b:Cr}(x:Ev c J l (.list a))(y:Ev c J r (.list b))(h:a.length+b.length<=10000):Ev c J (.BinOp l .Add r pos) (.list (a++b)):=
 .bin x y λV V s F ra rb Q E q=>by
  cases ra with|list n1 t1 p1 r1=>cases rb with|list n2 t2 p2 r2=>
  have e1:=r1.length;have e2:=r2.length;refine Tc p1 p2 (by simp only[AY];rw[sizeLine_eq];omega) ?_;rw[List.append_toArray];exact q _ _ _ (Le.push _ _) (LL F.Cj F.base.tab (r1.append r2))
section
variable {X:CF}{w:World}{h:Heap}
mutual
noncomputable def D.py:D->PyData
 |.none=>.none
 |.bool b=>.bool b
 |.int i=>.int i
 |.str s=>.str s
 |.obj _=>.none
 |.list ds=>.list (D.KJ ds)
 |.tup ds=>.tuple (D.KJ ds)
 |.dict _=>.none
noncomputable def D.KJ:List D->List PyData
 |[]=>[]
 |d::ds=>d.py::D.KJ ds
end
theorem SA:D.py .none=.none:=rfl
theorem R9{b:Bool}:D.py (.bool b)=.bool b:=rfl
theorem Qk{i:Int}:D.py (.int i)=.int i:=rfl
theorem Ql{s:Str}:D.py (.str s)=.str s:=rfl
theorem Fe:D.py (.list ds)=.list (D.KJ ds):=rfl
theorem Nz:D.py (.tup ds)=.tuple (D.KJ ds):=rfl
theorem KL:D.KJ []=[]:=rfl
theorem IL:D.KJ (d::ds)=d.py::D.KJ ds:=rfl
theorem D.GZ:∀ds:List D,D.KJ ds=ds.map D.py
 |[]=>by rw[KL];rfl
 |d::ds=>by rw[IL,D.GZ ds];rfl
inductive Gl:Nat->D->Prop
 |none {n:Nat}:Gl n .none
 |bool {n:Nat}{b:Bool}:Gl n (.bool b)
 |int {n:Nat}{i:Int}:Gl n (.int i)
 |str {n:Nat}{s:Str}:PyData.strOk s=true->Gl n (.str s)
 |list {n:Nat}{ds:Cr}:(∀d∈ds,Gl n d)->Gl (n+1) (.list ds)
 |tup {n:Nat}{ds:Cr}:(∀d∈ds,Gl n d)->Gl (n+1) (.tup ds)
theorem Ny:∀ {ds:Cr},(∀d∈ds,d.py.canLay0=true)->PyData.canLayAll0 (D.KJ ds)=true
 |[],_=>by rw[KL,PyData.canLayAll0]
 |d::ds,k=>by rw[IL,PyData.canLayAll0,k d (.head _),Ny λe he=>k e (.tail _ he)];rfl
theorem JK{n:Nat}:∀ {ds:Cr},(∀d∈ds,d.py.depth<=n)->PyData.depthAll (D.KJ ds)<=n
 |[],_=>by rw[KL,PyData.depthAll];exact Al _
 |d::ds,k=>by rw[IL,PyData.depthAll];exact Nat.max_le.mpr ⟨k d (.head _),JK λe he=>k e (.tail _ he)⟩
theorem Gl.Pf{n:Nat}(f:Gl n d):d.py.canLay0=true/\d.py.depth<=n:=by
 induction f with
 |none=>rw[SA];exact⟨by rw[PyData.canLay0],by rw[PyData.depth];exact Al _⟩
 |bool=>rw[R9];exact⟨by rw[PyData.canLay0],by rw[PyData.depth];exact Al _⟩
 |int=>rw[Qk];exact⟨by rw[PyData.canLay0],by rw[PyData.depth];exact Al _⟩
 |str h=>rw[Ql];exact⟨by rw[PyData.canLay0];exact h,by rw[PyData.depth];exact Al _⟩
 |list h ih=>rw[Fe];exact⟨by rw[PyData.canLay0];exact Ny λd hd=>(ih d hd).1,by rw[PyData.depth];exact Nat.succ_le_succ (JK λd hd=>(ih d hd).2)⟩
 |tup h ih=>rw[Nz];exact⟨by rw[PyData.canLay0];exact Ny λd hd=>(ih d hd).1,by rw[PyData.depth];exact Nat.succ_le_succ (JK λd hd=>(ih d hd).2)⟩
section
theorem Be.reads(r:Be X w h vs ds)(k:∀v d,d∈ds->B8 X w h v d->∃as,Reads h v d.py as):∃as,ReadsAll h vs (D.KJ ds) as:=by
 induction ds generalizing vs with
 |nil=>cases r;rw[KL];exact⟨[],.nil⟩
 |cons d ds ih=>
  cases r with
  |cons a b=>
   refine B5 (k _ _ (.head _) a) ?_;intro as x;obtain⟨bs,y⟩:=ih b λv e he=>k v e (.tail _ he);rw[IL];exact⟨_,.cons x y⟩
theorem B8.reads{n:Nat}(f:Gl n d):∀ {v:Value},B8 X w h v d->∃as,Reads h v d.py as:=by
 induction f with
 |none=>intro v r;cases r;rw[SA];exact⟨[],.none⟩
 |bool=>intro v r;cases r;rw[R9];exact⟨[],.bool _⟩
 |int=>intro v r;cases r;rw[Qk];exact⟨[],.int _ _⟩
 |str _=>intro v r;cases r;rw[Ql];exact⟨[],.str _ _⟩
 |list _ ih=>
  intro v r;cases r with
  |list nx nt p r=>
   refine B5 p ?_;clear p;intro k e;obtain⟨as,x⟩:=r.reads λv d hd rr=>ih d hd rr;rw[Fe];exact⟨_,.list e rfl rfl x⟩
 |tup _ ih=>
  intro v r;cases r with
  |tup nx nt p r=>
   obtain⟨o,e,hc,k,hd⟩:=p;obtain⟨as,x⟩:=r.reads λv d hd rr=>ih d hd rr;rw[Nz];exact⟨_,.tuple e hc hd x⟩
end
variable {c:Cx}{J:B3}
noncomputable def D.eqv(a b:D):Bool:=PyData.eqv a.py b.py
theorem Bg.UA{a b:D}{n m:Nat}(x:Ev c J l a)(y:Ev c J r b)(fa:Gl n a)(fb:Gl m b)(hn:autoParam (n<=60) Fi)(hm:autoParam (behindInMarks .Eq r=false) Dy) :
  Bg c J l .Eq r (a.eqv b):=
 Bg.of x y (λV V s F ra rb Q E q=>by
  refine B5 (ra.reads fa) ?_;intro as r1;refine B5 (rb.reads fb) ?_;intro bs r2;have d1:=fa.Pf.2;have u:=F.ok.line;exact SeqAt.compareEq_reads r1 r2 fa.Pf.1 fb.Pf.1 (BA (Nat.add_le_add_left (AD (BU _ _) d1) _) (by lia)) (q _ s.heap s.toks (.refl _) (.bool _))) hm
theorem Bg.W7{a b:D}{n m:Nat}(x:Ev c J l a)(y:Ev c J r b)(fa:Gl n a)(fb:Gl m b)(hn:autoParam (n<=60) Fi)(hm:autoParam (behindInMarks .NotEq r=false) Dy) :
  Bg c J l .NotEq r (!a.eqv b):=
 Bg.of x y (λV V s F ra rb Q E q=>by
  refine B5 (ra.reads fa) ?_;intro as r1;refine B5 (rb.reads fb) ?_;intro bs r2;have d1:=fa.Pf.2;have u:=F.ok.line;exact SeqAt.compareNe_reads r1 r2 fa.Pf.1 fb.Pf.1 (BA (Nat.add_le_add_left (AD (BU _ _) d1) _) (by lia)) (q _ s.heap s.toks (.refl _) (.bool _))) hm
noncomputable def D.L0(ds:Cr)(d:D):Bool:=ds.any λe=>e.eqv d
theorem M9(ds:Cr)(d:D):((D.KJ ds).any λy=>PyData.eqv y d.py)=D.L0 ds d:=by
 rw[D.GZ,List.any_map];rfl
theorem Bg.qQ{a:D}{n m:Nat}(x:Ev c J l a)(y:Ev c J r (.list ds))(fa:Gl n a)(fb:Gl m (.list ds))(hn:autoParam (n<=50) Fi)(hm:autoParam (behindInMarks .In r=false) Dy) :
  Bg c J l .In r (D.L0 ds a):=
 Bg.of x y (λV V s F ra rb Q E q=>by
  refine B5 (ra.reads fa) ?_;intro as r1;refine B5 (rb.reads fb) ?_;intro bs r2;have d1:=fa.Pf.2;have u:=F.ok.line;rw[Fe]at r2;have cb:(D.list ds).py.canLay0=true:=fb.Pf.1;rw[Fe,PyData.canLay0]at cb;refine SeqAt.in_list_reads r2 r1 cb fa.Pf.1 (BA (Nat.add_le_add_left (AD (A9 _ _) d1) _) (by lia)) ?_;rw[M9];exact q _ s.heap s.toks (.refl _) (.bool _)) hm
theorem Bg.bY{a:D}{n m:Nat}(x:Ev c J l a)(y:Ev c J r (.list ds))(fa:Gl n a)(fb:Gl m (.list ds))(hn:autoParam (n<=50) Fi)(hm:autoParam (behindInMarks .NotIn r=false) Dy) :
  Bg c J l .NotIn r (!D.L0 ds a):=
 Bg.of x y (λV V s F ra rb Q E q=>by
  refine B5 (ra.reads fa) ?_;intro as r1;refine B5 (rb.reads fb) ?_;intro bs r2;have d1:=fa.Pf.2;have u:=F.ok.line;rw[Fe]at r2;have cb:(D.list ds).py.canLay0=true:=fb.Pf.1;rw[Fe,PyData.canLay0]at cb;refine SeqAt.notIn_list_reads r2 r1 cb fa.Pf.1 (BA (Nat.add_le_add_left (AD (A9 _ _) d1) _) (by lia)) ?_;rw[M9];exact q _ s.heap s.toks (.refl _) (.bool _)) hm
theorem Bg.uZ{a:D}{n m:Nat}(x:Ev c J l a)(y:Ev c J r (.tup ds))(fa:Gl n a)(fb:Gl m (.tup ds))(hn:autoParam (n<=50) Fi)(hm:autoParam (behindInMarks .In r=false) Dy) :
  Bg c J l .In r (D.L0 ds a):=
 Bg.of x y (λV V s F ra rb Q E q=>by
  refine B5 (ra.reads fa) ?_;intro as r1;refine B5 (rb.reads fb) ?_;intro bs r2;have d1:=fa.Pf.2;have u:=F.ok.line;rw[Nz]at r2;have cb:(D.tup ds).py.canLay0=true:=fb.Pf.1;rw[Nz,PyData.canLay0]at cb;refine SeqAt.in_tuple_reads r2 r1 cb fa.Pf.1 (BA (Nat.add_le_add_left (AD (A9 _ _) d1) _) (by lia)) ?_;rw[M9];exact q _ s.heap s.toks (.refl _) (.bool _)) hm
theorem Bg.ltI{a b:Int}(x:Ev c J l (.int a))(y:Ev c J r (.int b))(hm:autoParam (behindInMarks .Lt r=false) Dy):Bg c J l .Lt r (decide (a<b)):=
 Bg.of x y (λV V s F ra rb Q E q=>by cases ra;cases rb;exact PyProof.Rows.lt_int (q _ s.heap s.toks (.refl _) (.bool _))) hm
theorem Bg.jg{a b:Int}(x:Ev c J l (.int a))(y:Ev c J r (.int b))(hm:autoParam (behindInMarks .Gt r=false) Dy):Bg c J l .Gt r (decide (b<a)):=
 Bg.of x y (λV V s F ra rb Q E q=>by cases ra;cases rb;exact PyProof.Rows.gt_int (q _ s.heap s.toks (.refl _) (.bool _))) hm
theorem Bg.tJ{a b:Int}(x:Ev c J l (.int a))(y:Ev c J r (.int b))(hm:autoParam (behindInMarks .GtE r=false) Dy):Bg c J l .GtE r (decide (b<=a)):=
 Bg.of x y (λV V s F ra rb Q E q=>by cases ra;cases rb;exact PyProof.Rows.ge_int (q _ s.heap s.toks (.refl _) (.bool _))) hm
theorem Bg.nQ{a b:Str}(x:Ev c J l (.str a))(y:Ev c J r (.str b))(hm:autoParam (behindInMarks .In r=false) Dy):Bg c J l .In r (Txt.contains b a):=
 Bg.of x y (λV V s F ra rb Q E q=>by cases ra;cases rb;exact SB.contains (q _ s.heap s.toks (.refl _) (.bool _))) hm
theorem Bg.isNone{k p}(x:Ev c J l d)(b:Bool)(hb:∀h v,B8 c.X c.w h v d->(v==Value.none)=b):Bg c J l .Is (.Constant .none k p) b:=
 Bg.of x Ev.OL (λv V s F ra rb Q E q=>by
  cases rb;refine PySem.is_none ?_;rw[hb _ _ ra];exact q _ s.heap s.toks (.refl _) (.bool _)) rfl
theorem Bg.isNotNone{k p}(x:Ev c J l d)(b:Bool)(hb:∀h v,B8 c.X c.w h v d->(!(v==Value.none))=b):Bg c J l .IsNot (.Constant .none k p) b:=
 Bg.of x Ev.OL (λv V s F ra rb Q E q=>by
  cases rb;refine PySem.isNot_none ?_;rw[hb _ _ ra];exact q _ s.heap s.toks (.refl _) (.bool _)) rfl
end
noncomputable def cut(L:List α)(lo hi:Option Int):List α:=(L.drop (lo.elim 0 (clipAt L.length))).take (hi.elim L.length (clipAt L.length)-lo.elim 0 (clipAt L.length))
theorem NH{β:Type}(f:α->β)(L:List α)(lo hi:Option Int):cut (L.map f) lo hi=(cut L lo hi).map f:=by
 unfold cut;rw[AA,<- List.map_drop,<- List.map_take]
theorem HZ(vs:DV)(lo hi:Option Int):slicePick vs.toArray lo hi none=(cut vs lo hi).toArray:=by
 rw[slicePick_plain];unfold cut;rw[AY]
theorem Mv(lo hi:Option Int)(n:Nat):Builtin.Str.strSliceIndices lo hi 1 n=PySem.sliceRange (sliceBounds lo hi none n).1 (sliceBounds lo hi none n).2.1 (sliceBounds lo hi none n).2.2:=rfl
theorem Be.cut(r:Be X w h vs ds)(lo hi:Option Int):Be X w h (cut vs lo hi) (cut ds lo hi):=by
 unfold Mine.cut;rw[r.length];exact(r.drop _).take _
theorem N7(cps:Array Nat)(lo hi:Option Int):((Builtin.Str.strSliceIndices lo hi 1 cps.size).filterMap (cps[·]?))=cut cps.toList lo hi:=by
 have k:=congrArg Array.toList (HZ (cps.toList.map λc=>Value.int (c:Nat) 0) lo hi);rw[NH]at k;have hs:(cps.toList.map λc=>Value.int (c:Nat) 0).toArray.size=cps.size:=by simp
 unfold slicePick at k;rw[hs]at k;have e:(λi:Nat=>(cps.toList.map λc=>Value.int (c:Nat) 0).toArray[i]?)=λi=>(cps[i]?).map λc=>Value.int (c:Nat) 0:=by
  funext i;simp
 have k':((Builtin.Str.strSliceIndices lo hi 1 cps.size).filterMap (cps[·]?)).map (λc=>Value.int (c:Nat) 0)=(cut cps.toList lo hi).map λc=>Value.int (c:Nat) 0:=by
  rw[Mv,List.map_filterMap];simpa using k
 exact(List.map_inj_right (λa b e=>by injection e with e;omega)).mp k'
theorem Ev.item{value slice:Expr}{pos}{dv di:D}(x:Ev c J value dv)(y:Ev c J slice di)(z:∀o i s,Fr c J s.heap->B8 c.X c.w s.heap o dv->B8 c.X c.w s.heap i di->
   (∃T id,s.TypeIs o T/\typeLookup (.type T) "__getitem__"=pure (some (.builtin id)))/\Run c.w c.A Hu (getItem o i) s λv h'=>B8 c.X c.w h' v d)(hs:autoParam (∀o i,XC slice o i) Nc):Ev c J (.Subscript value slice pos) d:=
 λV F V V q=>PyProof.Rows.Subscript_ (Ev.two x y (λa b s F ra rb Q E q=>by
  refine CB (z a b s F ra rb) ?_;intro Cq r;refine Fp Cq ?_;intro T id ht hl;exact tail_any ht hl (r Q E q) (hs _ _)) F q)
theorem Ev.FG{value slice:Expr}{pos}{i:Int}(x:Ev c J value (.list ds))(y:Ev c J slice (.int i))(h0:0<=i)(hd:ds[i.toNat]? = some d)(hz:autoParam (ds.length<=1000000) Fi)(hs:autoParam (∀o i,XC slice o i) Nc):Ev c J (.Subscript value slice pos) d:=
 .item x y (λo iv s F ra rb=>by
  cases rb;cases ra with|list nx nt p r=>
  refine Bh (r.get hd) ?_;intro v hv rv;have Dw:=(AP.mp hd).1;exact⟨⟨_,_,p.isList.typeIs,slot_list_getitem.lookup⟩,λQ E q=>wpAny_getItem_list p.isList h0 (by(clear h0;lia)) (by simpa using hv) (q _ s.heap s.toks (.refl _) rv)⟩) hs
theorem Ev.Vb{value slice:Expr}{pos}{i:Int}(x:Ev c J value (.list ds))(y:Ev c J slice (.int i))(h0:i<0)(h1 : -(ds.length:Int)<=i)(hd:ds[(i+ds.length).toNat]? = some d)(hz:autoParam (ds.length<=1000000) Fi)(hs:autoParam (∀o i,XC slice o i) Nc):Ev c J (.Subscript value slice pos) d:=
 .item x y (λo iv s F ra rb=>by
  cases rb;cases ra with|list nx nt p r=>
  refine Bh (r.get hd) ?_;intro v hv rv;have hl:=r.length;refine⟨⟨_,_,p.isList.typeIs,slot_list_getitem.lookup⟩,λQ E q=>wpAny_getItem_list_neg p.isList h0 (by simpa[hl]using h1) (by(clear h0;lia)) ?_ (q _ s.heap s.toks (.refl _) rv)⟩;simpa[hl]using hv) hs
theorem Ev.gX{value slice:Expr}{pos}{t:Str}{i:Int}(x:Ev c J value (.str t))(y:Ev c J slice (.int i))(h:(Txt.charAt t i).isSome=true)(hi:fitsSsize i=true)(hs:autoParam (∀o i,XC slice o i) Nc):Ev c J (.Subscript value slice pos) (.str (Txt.item t i)):=
 .item x y (λo iv s F ra rb=>by
  cases rb;cases ra;exact⟨⟨_,_,typeIs_str s _ _,PyProof.Rows.slot_str_getitem.lookup⟩,λQ E q=>SB.getItem hi h (q _ s.heap _ (.refl _) (.str _ _))⟩) hs
theorem LV{kvs:Dh}(r:Cb X w h kvs es){k:Str}(e:es.lookup k=some d):∃v,valueAt kvs k=some v/\B8 X w h v d:=by
 induction es generalizing kvs with
 |nil=>cases e
 |cons p es ih=>
  cases r with
  |cons a b=>
   rename_i k' v d' vs;rw[AK]at e;unfold valueAt;by_cases q:k'=k
   .subst q;simp only[beq_self_eq_true]at e;cases e;exact⟨_,by simp,a⟩
   .have q':(k==k')=false:=by simpa using λz=>q z.symm
    rw[q']at e;refine Bh (ih b e) ?_;intro v hv rv;refine⟨v,?_,rv⟩;unfold valueAt at hv;simpa[List.find?_cons,q]using hv
theorem Tg{kvs:Dh}(r:Cb X w h kvs es){k:Str}(e:es.lookup k=none):valueAt kvs k=none:=by
 induction es generalizing kvs with
 |nil=>cases r;rfl
 |cons p es ih=>
  cases r with
  |cons a b=>
   rename_i k' v d' vs;rw[AK]at e;by_cases q:k'=k
   .subst q;simp at e
   .have q':(k==k')=false:=by simpa using λz=>q z.symm
    rw[q']at e;have hv:=ih b e;unfold valueAt at hv ⊢;simpa[List.find?_cons,q]using hv
theorem Ea{kvs:Dh}(x:s.heap.DictOf (KS w) a kvs):s.TypeIs (.ref a) "dict":=by refine Mn x ?_;clear x;intro o es ep e ex V;exact⟨o,e,ex.1⟩
theorem DK(w:World)(k:Str)(t:Tok):(KS w).is k (.str k t)=true:=by show Value.isStrOf k (.str k t)=true;simp[Value.isStrOf]
theorem Ev.CQ{value slice:Expr}{pos}{k:Str}(x:Ev c J value (.dict es))(y:Ev c J slice (.str k))(hd:es.lookup k=some d)(hs:autoParam (∀o i,XC slice o i) Nc):Ev c J (.Subscript value slice pos) d:=
 .item x y (λo iv s F ra rb=>by
  cases rb;cases ra with|dict nx nt ns p r=>
  refine Bh (LV r hd) ?_;intro v hv rv;exact⟨⟨_,_,Ea p,PySem.slot_dict_getitem.lookup⟩,λQ E q=>wpAny_getItem_of (knd:=KS c.w) (DK _ _ _) p.mapOf hv (q _ s.heap _ (.refl _) rv)⟩) hs
theorem WH{kvs:Dh}(r:Cb X w h kvs es)(k:Str):(valueAt kvs k).isSome=(es.lookup k).isSome:=by
 cases e:es.lookup k with
 |none=>rw[Tg r e];rfl
 |some d=>refine Bh (LV r e) ?_;intro v hv V;rw[hv];rfl
theorem MN(n:Nat)(i:Int):clipAt n i<=n:=
 Int.toNat_le.mpr (Int.max_le.mpr ⟨BD n,Int.min_le_right _ _⟩)
theorem Si{L:List α}{lo hi:Option Int}(h:(Builtin.Str.strSliceIndices lo hi 1 L.length).length=L.length):cut L lo hi=L:=by
 rw[Mv,sliceBounds_plain]at h;unfold cut;have ha:lo.elim 0 (clipAt L.length)<=L.length:=by cases lo with|none=>exact Al _|some i=>exact MN _ _
 have hb:hi.elim L.length (clipAt L.length)<=L.length:=by cases hi with|none=>exact Ad _|some i=>exact MN _ _
 generalize lo.elim 0 (clipAt L.length)=a at h ha ⊢;generalize hi.elim L.length (clipAt L.length)=b at h hb ⊢;unfold sliceRange at h;simp only[AA,List.length_range]at h;by_cases hn:L.length=0
 .rw [List.length_eq_zero_iff.mp hn];simp
 .have e0:a=0/\b=L.length:=by
   split at h
   .split at h<;>lia
   .lia
  rw[e0.1,e0.2];simp
def Part(c:Cx)(J:B3)(e:Option Expr)(k:Option Int):Prop:=
 ∀s,Fr c J s.heap->Run c.w c.A Hu (evalPart e c.env) s λv V=>∃kt:Option (Int×Tok),v=partValue kt/\kt.map (·.1)=k
theorem Part.no:Part c J none none:=λs F Q E q=>by rw[evalPart_none];exact wpAny_pure (q _ s.heap s.toks (.refl _) ⟨none,rfl,rfl⟩)
theorem Part.int{i:Int}(x:Ev c J e (.int i)):Part c J (some e) (some i):=λs F Q E q=>by
 rw[evalPart_some];exact x s F Q E λv h tk l r=>by cases r with|int _ t=>exact q _ h tk l ⟨some (i,t),rfl,rfl⟩
theorem Part.nul(x:Ev c J e .none):Part c J (some e) none:=λs F Q E q=>by
 rw[evalPart_some];exact x s F Q E λv h tk l r=>by cases r;exact q _ h tk l ⟨none,rfl,rfl⟩
theorem Fy{kt:Option (Int×Tok)}:IsPart (partValue kt) (kt.map (·.1)):=by
 cases kt with
 |none=>exact .none
 |some p=>exact .int _ _
theorem Ev.slice{value:Expr}{lo hi:Option Expr}{p pos}{dv:D}{kl ku:Option Int}(x:Ev c J value dv)(y1:Part c J lo kl)(y2:Part c J hi ku)(z:∀o sl s l u,Fr c J s.heap->B8 c.X c.w s.heap o dv->l.map (·.1)=kl->u.map (·.1)=ku->s.heap.IsSlice sl l u none->s.heap.IsSliceOf sl (partValue l) (partValue u) .none->
   (∃T id,s.TypeIs o T/\typeLookup (.type T) "__getitem__"=pure (some (.builtin id)))/\Run c.w c.A Hu (getItem o (.ref sl)) s λv h'=>B8 c.X c.w h' v d) :
  Ev c J (.Subscript value (.Slice lo hi none p) pos) d:=
 λs F Q E q=>PyProof.Rows.Subscript_ (x s F _ _ λo h1 t1 l1 r1=>wpAny_Slice (y1 _ (F.le l1) _ _ λvl h2 t2 l2 zz=>Bh zz λdO e1 c8=>y2 _ ((F.le l1).le l2) _ _ λvu h3 t3 l3 zz=>Bh zz λdQ e2 lQ=>by
  subst e1 e2;rw[evalPart_none];refine wpAny_pure ?_;have l4:Le h3 (h3.push {cls:=.type "slice",data:=.fields #[partValue dO,partValue dQ,.none]}):=Le.push _ _;have F4:=((F.le l1).le l2).le l3 |>.le l4;obtain⟨⟨T,id,ht,hl⟩,r⟩:=z o _ {s with heap:=h3.push {cls:=.type "slice",data:=.fields #[partValue dO,partValue dQ,.none]},toks:=t3} dO dQ F4 (((r1.le l2).le l3).le l4) c8 lQ
   ⟨_,AH _ rfl,rfl,rfl⟩ (Heap.IsSliceOf.new _ _ _ _)
  refine tail_any (ops:=[.ref h3.objs.size,o]) ht hl (r Q E λv h5 t5 l5 r5=>q v h5 t5 ((((l1.trans l2).trans l3).trans l4).trans l5) r5) rfl))
theorem Ev.EH{value:Expr}{lo hi:Option Expr}{p pos}{kl ku:Option Int}(x:Ev c J value (.list ds))(y1:Part c J lo kl)(y2:Part c J hi ku)(hz:autoParam (ds.length<=1000000) Fi) :
  Ev c J (.Subscript value (.Slice lo hi none p) pos) (.list (cut ds kl ku)):=
 .slice x y1 y2 λo sl s l u F ro e1 e2 UC QM=>by
  refine Qe (B8.Hl ro) ?_;rintro V V rfl nx nt pl r;have hl:=r.length;refine⟨⟨_,_,pl.isList.typeIs,slot_list_getitem.lookup⟩,λQ E q=>wpAny_getItem_list_slice pl.isList QM Fy Fy .none (by nofun) ?_ (by simp only[AY];rw[sizeLine_eq];exact Jc hl hz rfl)⟩;rw[HZ,e1,e2];exact q _ _ _ (Le.push _ _) (LL F.Cj F.base.tab (r.cut _ _))
theorem Ev.cM{value:Expr}{lo hi:Option Expr}{p pos}{t:Str}{kl ku:Option Int}(x:Ev c J value (.str t))(y1:Part c J lo kl)(y2:Part c J hi ku)(hz:autoParam (t.length<=1000000) Fi) :
  Ev c J (.Subscript value (.Slice lo hi none p) pos) (.str ⟨(cut t.cps.toList kl ku).toArray⟩):=
 .slice x y1 y2 λo sl s l u F ro e1 e2 UC QM=>by
  cases ro;refine⟨⟨_,_,typeIs_str s _ _,PyProof.Rows.slot_str_getitem.lookup⟩,λQ E q=>wpAny_getItem_str_slice UC rfl ?_⟩;have key:((slicePicked t l u none).filterMap (t.cps[·]?))=cut t.cps.toList kl ku:=by
   unfold slicePicked;rw[e1,e2];exact N7 t.cps kl ku
  unfold sliceMade;split
  .rename_i hc;have hle:(slicePicked t l u none).length=t.length:=by simp only[Bool.and_eq_true,beq_iff_eq]at hc;exact hc.2
   have e:(⟨(cut t.cps.toList kl ku).toArray⟩:Str)=t:=by
    have hp:(Builtin.Str.strSliceIndices kl ku 1 t.cps.toList.length).length=t.cps.toList.length:=by
     have:t.cps.toList.length=t.length:=by simp[Str.length]
     rw[this];unfold slicePicked at hle;rw[e1,e2]at hle;exact hle
    rw[Si hp]
   exact q (.str t _) s.heap s.toks (.refl _) (by rw[e];exact .str _ _)
  .rw [key];refine⟨?_,q _ s.heap _ (.refl _) (.str _ _)⟩;show(cut t.cps.toList kl ku).toArray.size<=sizeLine;have:(cut t.cps.toList kl ku).length<=t.cps.toList.length:=by unfold cut;rw[Ae,AM];exact AD (A9 _ _) (BN _ _)
   rw[AY,sizeLine_eq];have h2:t.cps.toList.length=t.length:=by simp[Str.length]
   omega
noncomputable def D.Ll:D->Bool
 |.none=>false
 |.bool b=>b
 |.int i=>i != 0
 |.str s=>((s.length:Int) != 0)
 |.list ds=>!ds.isEmpty
 |.dict es=>!es.isEmpty
 |_=>false
noncomputable def D.small:D->Prop
 |.none=>True
 |.bool _=>True
 |.int _=>True
 |.str s=>s.length<=1000000
 |.list ds=>ds.length<=1000000
 |.dict es=>es.length<=1000000
 |_=>False
theorem Cb.length{vs ds}(r:Cb X w h vs ds):vs.length=ds.length:=by
 have:=congrArg List.length r.keys;simpa using this
theorem N9(r:B8 X w s.heap v d)(m:d.small):Run w A Hu (truthy v) s λb V=>b=d.Ll:=λQ E q=>by
 cases r with
 |none=>exact truthy_none (q false s.heap s.toks (.refl _) rfl)
 |bool b=>exact wpAny_truthy_bool (q b s.heap s.toks (.refl _) rfl)
 |int i t=>exact truthy_int (q _ s.heap s.toks (.refl _) rfl)
 |str x t=>exact PySem.P.truthy_str (by have:x.length<=1000000:=m;exact qd this rfl) (q _ s.heap _ (.refl _) rfl)
 |obj=>exact m.elim
 |list nx nt p r=>
  have e:=r.length;have m':_<=1000000:=m;refine wpAny_truthy_list p.isList (by simp only[AY];omega) (q _ s.heap _ (.refl _) ?_);rename_i vs ds;cases vs<;>cases ds<;>first|rfl|cases e
 |tup=>exact m.elim
 |dict nx nt ns p r=>
  have e:=r.length;have m':_<=1000000:=m;refine wpAny_truthy_dict ns p (by omega) (q _ s.heap _ (.refl _) ?_);rename_i vs ds;cases vs<;>cases ds<;>first|rfl|cases e
theorem CK.val(x:Ev c J e d)(m:d.small)(he:autoParam (isTrue e c.env (eval e c.env)=(do let v <- eval e c.env;standAt e.pos;holding [v] (truthy v))) Bc):CK c J e d.Ll:=
 λs F Q E q=>wpAny_isTrue_value (x s F _ _ λv h1 t1 l1 r1=>N9 (s:={s with heap:=h1,toks:=t1}) r1 m _ _ λb h2 t2 l2 e2=>q b h2 t2 (l1.trans l2) e2) he
theorem CK.not{pos}{b:Bool}(x:CK c J e b):CK c J (.UnaryOp .Not e pos) (!b):=
 λs F Q E q=>wpAny_isTrue_Not (x s F _ _ λb h1 t1 l1 e1=>q _ h1 t1 l1 (by rw[e1]))
def Ha(c:Cx)(J:B3)(op:BoolOp)(es:Cw)(b:Bool):Prop:=
 ∀s,Fr c J s.heap->Run c.w c.A Hu (allTrue op es c.env) s λx V=>x=b
theorem Ha.Pp:Ha c J .And [] true:=λs F Q E q=>wpAny_allTrue_And_nil (q _ s.heap s.toks (.refl _) rfl)
theorem Ha.Zf:Ha c J .Or [] false:=λs F Q E q=>wpAny_allTrue_Or_nil (q _ s.heap s.toks (.refl _) rfl)
theorem Ha.FU{es:Cw}{a b:Bool}(x:CK c J e a)(y:a=true->Ha c J .And es b):Ha c J .And (e::es) (a&&b):=
 λs F Q E q=>wpAny_allTrue_And_cons (x s F _ _ λb1 h1 t1 l1 e1=>by
  subst e1;cases b1 with
  |true=>exact y rfl _ (F.le l1) _ _ λb2 h2 t2 l2 e2=>q b2 h2 t2 (l1.trans l2) (by rw[e2];rfl)
  |false=>exact q _ h1 t1 l1 rfl)
theorem Ha.LO{es:Cw}{a b:Bool}(x:CK c J e a)(y:a=false->Ha c J .Or es b):Ha c J .Or (e::es) (a||b):=
 λs F Q E q=>wpAny_allTrue_Or_cons (x s F _ _ λb1 h1 t1 l1 e1=>by
  subst e1;cases b1 with
  |false=>exact y rfl _ (F.le l1) _ _ λb2 h2 t2 l2 e2=>q b2 h2 t2 (l1.trans l2) (by rw[e2];rfl)
  |true=>exact q _ h1 t1 l1 rfl)
theorem CK.boolOp{op:BoolOp}{es:Cw}{pos}{b:Bool}(x:Ha c J op es b):CK c J (.BoolOp op es pos) b:=
 λs F Q E q=>wpAny_isTrue_BoolOp (x s F _ _ q)
theorem CK.Zt{pos}{a b:Bool}(x:CK c J l a)(y:a=true->CK c J r b):CK c J (.BoolOp .And [l,r] pos) (a&&b):=
 (CK.boolOp (.FU x λh=>.FU (y h) λV=>.Pp)).eq (by simp)
theorem CK.W9{pos}{a b:Bool}(x:CK c J l a)(y:a=false->CK c J r b):CK c J (.BoolOp .Or [l,r] pos) (a||b):=
 (CK.boolOp (.LO x λh=>.LO (y h) λV=>.Zf)).eq (by simp)
theorem Ev.Zt{pos}{a b:D}(x:Ev c J l a)(m:a.small)(y:a.Ll=true->Ev c J r b):Ev c J (.BoolOp .And [l,r] pos) (if a.Ll then b else a):=
 λs F Q E q=>wpAny_And2 (x s F _ _ λv h1 t1 l1 r1=>N9 (s:={s with heap:=h1,toks:=t1}) r1 m _ _ λb1 h2 t2 l2 e2=>by
  subst e2;cases hb:a.Ll with
  |true=>
   rw[hb]at q;exact y hb _ ((F.le l1).le l2) _ _ λv h3 t3 l3 r3=>q v h3 t3 ((l1.trans l2).trans l3) r3
  |false=>rw[hb]at q;exact q v h2 t2 (l1.trans l2) (r1.le l2))
theorem Ev.W9{pos}{a b:D}(x:Ev c J l a)(m:a.small)(y:a.Ll=false->Ev c J r b):Ev c J (.BoolOp .Or [l,r] pos) (if a.Ll then a else b):=
 λs F Q E q=>wpAny_Or2 (x s F _ _ λv h1 t1 l1 r1=>N9 (s:={s with heap:=h1,toks:=t1}) r1 m _ _ λb1 h2 t2 l2 e2=>by
  subst e2;cases hb:a.Ll with
  |false=>
   rw[hb]at q;exact y hb _ ((F.le l1).le l2) _ _ λv h3 t3 l3 r3=>q v h3 t3 ((l1.trans l2).trans l3) r3
  |true=>rw[hb]at q;exact q v h2 t2 (l1.trans l2) (r1.le l2))
theorem Ev.Y8{pos}{a b:Bool}(x:Ev c J l (.bool a))(y:a=true->Ev c J r (.bool b)):Ev c J (.BoolOp .And [l,r] pos) (.bool (a&&b)):=
 (Ev.Zt x trivial y).eq (by cases a<;>rfl)
theorem Ev.oP{pos}{a b:Bool}(x:Ev c J l (.bool a))(y:a=false->Ev c J r (.bool b)):Ev c J (.BoolOp .Or [l,r] pos) (.bool (a||b)):=
 (Ev.W9 x trivial y).eq (by cases a<;>rfl)
theorem Ev.K5{t:Expr}{pos}{a:Bool}(x:CK c J t a)(y:a=true->Ev c J l d)(z:a=false->Ev c J r d):Ev c J (.IfExp t l r pos) d:=
 λs F Q E q=>wpAny_IfExp (x s F _ _ λb1 h1 t1 l1 e1=>by
  subst e1;cases b1 with
  |true=>exact y rfl _ (F.le l1) _ _ λv h2 t2 l2 e2=>q v h2 t2 (l1.trans l2) e2
  |false=>exact z rfl _ (F.le l1) _ _ λv h2 t2 l2 e2=>q v h2 t2 (l1.trans l2) e2)
theorem Ev.Gz{t:Expr}{pos}{a:Bool}{d':D}(x:CK c J t a)(y:a=true->Ev c J l d)(z:a=false->Ev c J r d'):Ev c J (.IfExp t l r pos) (if a then d else d'):=
 .K5 x (λh=>(y h).eq (by rw[h];rfl)) λh=>(z h).eq (by rw[h];rfl)
theorem Ev.OM{np:Pos}{es:Cw}{id:String}(f:Ev c J (.Name x np) (.obj (.builtin id)))(y:FP c J (e::es) ds)(z:∀vs s,Fr c J s.heap->Be c.X c.w s.heap vs ds->Run c.w c.A Hu (call (.builtin id) vs) s λv h'=>B8 c.X c.w h' v d)(he:autoParam (D8 c e es) Bc)(QK:autoParam ((backTo pos (starEach es c.env)).any (·.1)=false) Bc):Ev c J (.Call (.Name x np) (e::es) [] pos) d:=
 λs F Q E q=>wpAny_Call_NameR (f s F _ _ λv h1 t1 l1 r1=>by
  cases r1;exact PyProof.Rows.callWith_builtin1 (y pos _ (F.le l1) _ _ λvs h2 t2 l2 r2=>z vs {s with heap:=h2,toks:=t2} ((F.le l1).le l2) r2 _ _ λv h3 t3 l3 r3=>q v h3 t3 (Bt.trans (Bt.trans l1 l2) l3) r3) he QK)
theorem Ev.RD{np:Pos}{es:Cw}{T:String}(f:Ev c J (.Name x np) (.obj (.type T)))(y:FP c J (e::es) ds)(z:∀vs s,Fr c J s.heap->Be c.X c.w s.heap vs ds->Run c.w c.A Hu (call (.type T) vs) s λv h'=>B8 c.X c.w h' v d)(he:autoParam (D8 c e es) Bc)(QK:autoParam ((backTo pos (starEach es c.env)).any (·.1)=false) Bc):Ev c J (.Call (.Name x np) (e::es) [] pos) d:=
 λs F Q E q=>wpAny_Call_NameR (f s F _ _ λv h1 t1 l1 r1=>by
  cases r1;exact Ax (y pos _ (F.le l1) _ _ λvs h2 t2 l2 r2=>z vs {s with heap:=h2,toks:=t2} ((F.le l1).le l2) r2 _ _ λv h3 t3 l3 r3=>q v h3 t3 (Bt.trans (Bt.trans l1 l2) l3) r3) he QK)
theorem Ev.Nl{np:Pos}{t:Str}(f:Ev c J (.Name x np) (.obj (.builtin "len")))(y:Ev c J e (.str t))(hz:t.length<=1000000)(he:autoParam (D8 c e []) Bc):Ev c J (.Call (.Name x np) [e] [] pos) (.int t.length):=
 .OM f (.cons y .nil he) (λvs s F r Q E q=>by
  refine Dt (Be.Bo r) ?_;rintro V V rfl a b;cases b;cases a;exact PyProof.Rows.len_str (qd hz rfl) (q _ s.heap _ (.refl _) (.int _ _))) he
theorem Ev.g9{np:Pos}(f:Ev c J (.Name x np) (.obj (.builtin "len")))(y:Ev c J e (.list ds))(hz:ds.length<=1000000)(he:autoParam (D8 c e []) Bc):Ev c J (.Call (.Name x np) [e] [] pos) (.int ds.length):=
 .OM f (.cons y .nil he) (λvs s F r Q E q=>by
  refine Dt (Be.Bo r) ?_;rintro V V rfl a b;cases b;cases a with|list nx nt p r=>
  have e:=r.length;refine Calls.call_len_list p.isList (by simp only[AY];omega) (q _ s.heap _ (.refl _) ?_);rw[AY,e];exact .int _ _) he
theorem Ev.min2{np:Pos}{e1 e2:Expr}{a b:Int}(f:Ev c J (.Name x np) (.obj (.builtin "min")))(y1:Ev c J e1 (.int a))(y2:Ev c J e2 (.int b))(he:autoParam (D8 c e1 [e2]) Bc)(Jn:autoParam (D8 c e2 []) Bc)(hp:autoParam ((backTo pos (starEach [e2] c.env)).any (·.1)=false) Bc):Ev c J (.Call (.Name x np) [e1,e2] [] pos) (.int (min a b)):=
 .OM f (.cons y1 (.cons y2 .nil Jn) he) (λvs s F r Q E q=>by
  refine Dt (Be.Bo r) ?_;rintro V V rfl r1 r;refine Dt (Be.Bo r) ?_;rintro V V rfl r2 r;cases r;cases r1;cases r2;refine min_two_ints F.ok.handled λh' tk k=>?_;refine q _ h' tk (Le.of k) ?_;split
  .rw [Int.min_def,if_neg (by lia)];exact .int _ _
  .rw [Int.min_def,if_pos (by lia)];exact .int _ _) he hp
theorem Ev.strOf{np:Pos}{n:Nat}(f:Ev c J (.Name x np) (.obj (.type "str")))(y:Ev c J e (.list ds))(fit:Gl n (.list ds))(hn:n<=50)(hs:(D.list ds).py.showable=true)(hz:(D.list ds).py.shown.length<=100000)(he:autoParam (D8 c e []) Bc):Ev c J (.Call (.Name x np) [e] [] pos) (.str (D.list ds).py.shown):=
 .RD f (.cons y .nil he) (λvs s F r Q E q=>by
  refine Dt (Be.Bo r) ?_;rintro V V rfl a b;cases b;refine B5 (a.reads fit) ?_;intro as rd;have hd:=fit.Pf;have u:=F.ok.line;cases a;exact str_of_reads rd hs (λz=>by rw[PyData.hasDict_of_canLay _ hd.1]at z;cases z) F.ok.guards (by lia) (λV V e=>e) (λh' u tk k=>q _ h' tk (Le.of k) (.str _ _)) (by rw[sizeLine_eq];exact lb hz rfl)) he
theorem Ev.Rv{name:Str}{apos:Pos}{d':D}(x:Ev c J o d)(z:∀v s,Fr c J s.heap->B8 c.X c.w s.heap v d->∀(Q E:CG),(∀v h' tk,Le s.heap h'->B8 c.X c.w h' v d'->Q v {s with heap:=h',toks:=tk})->MethodOnS prog c.w c.A E name v pos [] Q s)(hb:autoParam (jR c o name) Bc)(hl:autoParam (J6 apos pos) Bc):Ev c J (.Call (.Attribute o name apos) [] [] pos) d':=
 λs F Q E q=>Call_method0 hb hl (x s F _ _ λv h1 t1 l1 r1=>z v _ (F.le l1) r1 Q E λu h2 t2 l2 r2=>q u h2 t2 (Bt.trans l1 l2) r2)
theorem Ev.upper{apos:Pos}{t:Str}(x:Ev c J o (.str t))(hz:t.length<=1000000)(hb:autoParam (attributeBase o "upper" c.env (eval o c.env)=eval o c.env) Bc)(hl:autoParam (J6 apos pos) Bc) :
  Ev c J (.Call (.Attribute o "upper" apos) [] [] pos) (.str (Txt.upper t)):=
 .Rv x (λv s F r Q E q=>by cases r;exact SB.upper (fit_upper (lb hz rfl)) (q _ s.heap _ (.refl _) (.str _ _))) hb hl
theorem Ev.lower{apos:Pos}{t:Str}(x:Ev c J o (.str t))(hz:t.length<=1000000)(hb:autoParam (attributeBase o "lower" c.env (eval o c.env)=eval o c.env) Bc)(hl:autoParam (J6 apos pos) Bc) :
  Ev c J (.Call (.Attribute o "lower" apos) [] [] pos) (.str (Txt.lower t)):=
 .Rv x (λv s F r Q E q=>by cases r;exact SB.lower (fit_lower (lb hz rfl)) (q _ s.heap _ (.refl _) (.str _ _))) hb hl
theorem Ev.swapcase{apos:Pos}{t:Str}(x:Ev c J o (.str t))(hz:t.length<=1000000)(hb:autoParam (attributeBase o "swapcase" c.env (eval o c.env)=eval o c.env) Bc)(hl:autoParam (J6 apos pos) Bc) :
  Ev c J (.Call (.Attribute o "swapcase" apos) [] [] pos) (.str (Txt.swapcase t)):=
 .Rv x (λv s F r Q E q=>by cases r;exact SB.swapcase (fit_swapcase (lb hz rfl)) (q _ s.heap _ (.refl _) (.str _ _))) hb hl
theorem Ev.isalpha{apos:Pos}{t:Str}(x:Ev c J o (.str t))(hb:autoParam (attributeBase o "isalpha" c.env (eval o c.env)=eval o c.env) Bc)(hl:autoParam (J6 apos pos) Bc) :
  Ev c J (.Call (.Attribute o "isalpha" apos) [] [] pos) (.bool (Txt.isalpha t)):=
 .Rv x (λv s F r Q E q=>by cases r;exact SB.isalpha (q _ s.heap s.toks (.refl _) (.bool _))) hb hl
theorem Ev.index{apos:Pos}{t u:Str}(x:Ev c J o (.str t))(y:Ev c J e (.str u))(hc:Txt.contains t u=true)(hs:autoParam (starEach [e] c.env=[(false,eval e c.env)]) Bc)(hb:autoParam (attributeBase o "index" c.env (eval o c.env)=eval o c.env) Bc)(hl:autoParam (J6 apos pos) Bc) :
  Ev c J (.Call (.Attribute o "index" apos) [e] [] pos) (.int (Txt.find t u)):=
 λs F Q E q=>Call_method1 hb hs hl (x s F _ _ λv h1 t1 l1 r1=>by
  cases r1;exact SB.indexFound (y _ (F.le l1) _ _ λv h2 t2 l2 r2=>by cases r2;exact⟨_,_,rfl,hc,q _ h2 _ (Bt.trans l1 l2) (.int _ _)⟩))
theorem To{ys:B1}(r:Be X w h vs (ys.map .str)):∃l:List (Str×Tok),vs=strValues l/\l.map (·.1)=ys:=by
 induction ys generalizing vs with
 |nil=>cases r;exact⟨[],rfl,rfl⟩
 |cons y ys ih=>
  cases r with
  |cons a b=>cases a;refine Bh (ih b) ?_;rintro l rfl hl;exact⟨(y,_)::l,rfl,by rw[AI,hl]⟩
theorem Ng{sep:Str}{ys:B1}(h:(ys.map (·.length)).sum+ys.length*sep.length<=1000000):JoinOk sep ys=true:=by
 unfold JoinOk Builtin.Str.tooLong;rw[StrLaws.joinTotal];simp only[Bool.not_eq_true',decide_eq_false_iff_not];rw[sizeLine_eq];omega
theorem Ev.join{apos:Pos}{t:Str}{ys:B1}(x:Ev c J o (.str t))(y:Ev c J e (.list (ys.map .str)))(hz:(ys.map (·.length)).sum+ys.length*t.length<=1000000)(hs:autoParam (starEach [e] c.env=[(false,eval e c.env)]) Bc)(hb:autoParam (attributeBase o "join" c.env (eval o c.env)=eval o c.env) Bc)(hl:autoParam (J6 apos pos) Bc) :
  Ev c J (.Call (.Attribute o "join" apos) [e] [] pos) (.str (Txt.join t ys)):=
 λs F Q E q=>Call_method1 hb hs hl (x s F _ _ λv h1 t1 l1 r1=>by
  cases r1;exact SB.join (y _ (F.le l1) _ _ λv h2 t2 l2 r2=>by
   refine Qe (B8.Hl r2) ?_;rintro V V rfl nx nt p r;refine Bh (To r) ?_;rintro l rfl e2;exact⟨_,l,rfl,p.isList,ys,e2,Ng hz,λt' k=>q _ h2 _ (Bt.trans l1 l2) (.str _ _)⟩))
def Kn(X X':CF)(h h':Heap):Prop:=∀b o,¬X b->b≠TP->h.get? b=some o->h'.get? b=some o/\¬X' b
def Kp(fp X X':CF)(h h':Heap):Prop:=∀b o,(fp b\/¬X b\/Cd o)->b≠TP->h.get? b=some o->h'.get? b=some o/\(¬X b->¬X' b)
theorem Kp.kn{fp:CF}(k:Kp fp X X' h h'):Kn X X' h h':=λb o n t e=>by refine CB (k b o (.inr (.inl n)) t e) ?_;intro a c;exact⟨a,c n⟩
theorem Kp.trans{fp cn:CF}{Hh:Heap}(k:Kp fp X X' h h')(l:Kp fp X' cn h' Hh):Kp fp X cn h Hh:=λb o n t e=>
 let⟨a,c⟩:=k b o n t e;let⟨a',c'⟩:=l b o (n.imp_right λn=>n.imp_left c) t a;⟨a',λq=>c' (c q)⟩
theorem Kn.le(l:Bt W h h')(s:∀b,W b->X b):Kn X X h h':=λb o n t e=>⟨l.keep b o t (λq=>n (s b q)) e,n⟩
theorem Be.kn{v d}(r:Be X w h v d)(k:Kn X X' h h'):Be X' w h' v d:=r.move k
noncomputable def Draws(w:World)(A:Around)(target:Expr)(it:Value)(fp:CF):List D->(Addr->Prop)->Heap->Prop
 |[],X,h=>∀X' (s:Shared),Kp fp X X' h s.heap->(∀b,fp b->X' b)->∀(Q:Option Value->Shared->Prop) (E:CG),
   (∀h2 tk,(∀b o,¬fp b\/Cd o->s.heap.get? b=some o->h2.get? b=some o)->Q none {s with heap:=h2,toks:=tk})->wpAny (model prog w) A (pyNext it) Q E s
 |d::ds,X,h=>∀X' (s:Shared),Kp fp X X' h s.heap->(∀b,fp b->X' b)->FT X' s.heap->Tab s.heap->∀(Q:CG) (E:CG),
   (∀v h2 tk,Bt fp s.heap h2->B8 X' w h2 v d->Draws w A target it fp ds X' h2->Q v {s with heap:=h2,toks:=tk})->
   wpAny (model prog w) A (pyNext it) (λr s₁=>∃v,r=some v/\wpAny (model prog w) A (letOwnedTupleGo target it v) (λV s₂=>Q v s₂) E s₁) E s
theorem Draws.mv{target:Expr}{it:Value}{fp:CF}:∀ {ds},Draws w A target it fp ds X h->Kp fp X X' h h'->Draws w A target it fp ds X' h'
 |[],x,k=>λcn s k' sx=>x cn s (k.trans k') sx
 |_::_,x,k=>λcn s k' sx=>x cn s (k.trans k') sx
noncomputable def Gh(A:Around)(target:Expr)(it:Value)(fp:CF)(ds:Cr):Res:=
 ⟨fp,λw X h=>Draws w A target it fp ds X h,λx k=>x.mv k⟩
theorem G6{wr:List Addr}(k:∀b o,b∉wr->h.get? b=some o->h'.get? b=some o)(l:∀b o,b∈wr->h.get? b=some o->∃o',h'.get? b=some o')(nt:TP∉wr)(nc:∀b o,b∈wr->h.get? b=some o->¬Cd o):Bt (·∈wr) h h':=Bt.of k l nt nc
def OF(h:Heap)(b:Addr):Prop:=∃o,h.get? b=some o/\¬Cd o
theorem OF.nc{b:Addr}{o:Obj}(x:OF h b)(e:h.get? b=some o):¬Cd o:=by refine Bh x ?_;clear x;intro o' e' n;exact by rw[e']at e;cases e;exact n
theorem OF.ex{b:Addr}(x:OF h b):∃o,h.get? b=some o:=by refine Bh x ?_;clear x;intro o e V;exact⟨o,e⟩
section
variable {w:World}{A:Around}{target:Expr}{I:Addr}{ZL wr:List Addr}{n:Nat}{P:Nat->Value->Prop}{St:Nat->Heap->Prop}
theorem Kf(W:Walks prog w A I ZL wr n P St)(lv:∀i h,St i h->∀b∈wr,OF h b)(uB:∀i v (s:Shared) (Q:ET) (E:CG),St i s.heap->Q () s->wpAny (model prog w) A (letOwnedTupleGo target (.ref I) v) Q E s)(all:Cr)(hn:all.length=n)(Rp:(Addr->Prop)->Heap->Prop)(kp:∀X X' h h',Rp X h->Kn X X' h h'->Rp X' h')(hr:∀X h j v d,Rp X h->P j v->all[j]? = some d->B8 X w h v d)(nt:TP∉wr) :
  ∀(ds:Cr) (i:Nat) (X:CF) (h:Heap),i<=n->all.drop i=ds->St i h->Rp X h->(∀b∈ZL,(b∈wr\/¬X b)/\b≠TP/\∃o,h.get? b=some o)->Draws w A target (.ref I) (·∈wr) ds X h:=by
 intro l;induction l with
 |nil=>
  intro i X h hi e st rp hf X' s k sx Q E q;have hl:n<=i:=by rw[<- hn];exact BO.mp e
  have Lv:St i s.heap:=W.frame _ _ _ st λb hb o eo=>(k b o ((hf b hb).1.imp_right .inl) (hf b hb).2.1 eo).1;cases Nat.le_antisymm hi hl;exact W.done s Q E Lv λh2 tk kk=>q h2 tk λb o z e=>kk b o (λhb=>z.elim (λz=>z hb) λz=>(lv _ _ Lv b hb).nc e z) e
 |cons d ds ih=>
  intro i X h hi e st rp hf X' s k sx xo tb Q E q;have Dw:i<all.length:=by
   apply Nat.lt_of_not_le;intro hc;rw[List.drop_eq_nil_of_le hc]at e;cases e
  have EW:all[i]? = some d:=by rw[<- List.head?_drop,e];rfl
  have ai:all.drop (i+1)=ds:=by rw[<- List.drop_drop,e];rfl
  have Lv:St i s.heap:=W.frame _ _ _ st λb hb o eo=>(k b o ((hf b hb).1.imp_right .inl) (hf b hb).2.1 eo).1;refine W.item i s _ _ (hn▸Dw) Lv λv h2 tk pv iz nS=>⟨v,rfl,?_⟩;refine uB (i+1) v _ _ _ iz ?_;have l:Bt (·∈wr) s.heap h2:=G6 nS (λb o hb V=>(lv _ _ iz b hb).ex) nt λb o hb e=>(lv _ _ Lv b hb).nc e;have rG:Rp X' h2:=kp _ _ _ _ (kp _ _ _ _ rp k.kn) (Kn.le l sx);refine q v h2 tk l (hr _ _ i v d rG pv EW) (ih (i+1) X' h2 (hn▸Dw) ai iz rG λb hb=>?_);obtain⟨a1,a2,o,a3⟩:=hf b hb;have a4:=k b o (a1.imp_right .inl) a2 a3;exact⟨a1.imp_right a4.2,a2,l.alive a2 a4.1⟩
theorem P6{Pt:Nat->Array Value->Prop}{o7:Nat->Addr->Heap->Prop}{elts:Cw}{kk:Nat}{tp:Pos}(W:WalksT prog w A I ZL wr n Pt St o7)(lv:∀i h,St i h->∀b∈wr,OF h b)(lm:∀i T h,o7 i T h->∀b∈wr,OF h b)(all:List (List D))(hn:all.length=n)(Rp:(Addr->Prop)->Heap->Prop)(kp:∀X X' h h',Rp X h->Kn X X' h h'->Rp X' h')(hr:∀X h j vs ds,Rp X h->Pt j vs->all[j]? = some ds->Be X w h vs.toList ds)(nt:TP∉wr) :
  ∀(ds:List (List D)) (i:Nat) (X:CF) (h:Heap),i<=n->all.drop i=ds->St i h->Rp X h->(∀b∈ZL,(b∈wr\/¬X b)/\b≠TP/\∃o,h.get? b=some o)->
   Draws w A (.Tuple elts kk tp) (.ref I) (·∈wr) (ds.map .tup) X h:=by
 intro l;induction l with
 |nil=>
  intro i X h hi e st rp hf X' s k sx Q E q;have hl:n<=i:=by rw[<- hn];exact BO.mp e
  have Lv:St i s.heap:=W.frame _ _ _ st λb hb o eo=>(k b o ((hf b hb).1.imp_right .inl) (hf b hb).2.1 eo).1;cases Nat.le_antisymm hi hl;exact W.done s Q E Lv λh2 tk kk=>q h2 tk λb o z e=>kk b o (λhb=>z.elim (λz=>z hb) λz=>(lv _ _ Lv b hb).nc e z) e
 |cons d ds ih=>
  intro i X h hi e st rp hf X' s k sx xo tb Q E q;have Dw:i<all.length:=by
   apply Nat.lt_of_not_le;intro hc;rw[List.drop_eq_nil_of_le hc]at e;cases e
  have EW:all[i]? = some d:=by rw[<- List.head?_drop,e];rfl
  have ai:all.drop (i+1)=ds:=by rw[<- List.drop_drop,e];rfl
  have Lv:St i s.heap:=W.frame _ _ _ st λb hb o eo=>(k b o ((hf b hb).1.imp_right .inl) (hf b hb).2.1 eo).1;refine W.item i s _ _ (hn▸Dw) Lv λT vals h2 tk pv fT hT mid nS=>⟨_,rfl,?_⟩;have l2:Bt (·∈wr) s.heap h2:=G6 nS (λb o hb V=>(lm _ _ _ mid b hb).ex) nt λb o hb e=>(lv _ _ Lv b hb).nc e;refine W.go elts kk tp i T _ _ _ mid λh3 kL qU=>?_;have l3:Bt (·∈wr) h2 h3:=G6 qU (λb o hb V=>(lv _ _ kL b hb).ex) nt λb o hb e=>(lm _ _ _ mid b hb).nc e;have l:=l2.trans l3;have rH:Rp X' h3:=kp _ _ _ _ (kp _ _ _ _ rp k.kn) (Kn.le l sx);have nT:s.heap.get? T=none:=by
   cases e:s.heap.get? T with
   |none=>rfl
   |some o=>exact absurd (Ag e) (Nat.not_lt.mpr fT)
  have tT:h3.IsTuple T vals:=GO hT λo eo=>qU T o (W.apart _ _ _ mid) eo;refine q _ h3 tk l ?_ (ih (i+1) X' h3 (hn▸Dw) ai kL rH λb hb=>?_)
  .refine B8.tup (vs:=vals.toList) (λq=>?_) (λq=>?_) (by simpa using tT) (hr _ _ i vals d rH pv EW)
   .obtain ⟨_,o,eo⟩:=xo _ q;rw[nT]at eo;cases eo
   .subst q;refine Bh tb ?_;clear tb;intro ps eo V;rw[nT]at eo;cases eo
  .obtain ⟨a1,a2,o,a3⟩:=hf b hb;have a4:=k b o (a1.imp_right .inl) a2 a3;exact⟨a1.imp_right a4.2,a2,l.alive a2 a4.1⟩
end
noncomputable def DG(X fp:CF):Addr->Prop:=λb=>X b\/fp b
def M7(w:World)(A:Around)(it:Value)(h:Heap):Prop:=∀s:Shared,Le h s.heap->∀(Q:CG) (E:CG),Q it s->wpAny (model prog w) A (pyIter it) Q E s
def Ba(c:Cx)(J:B3)(target e:Expr)(ds:Cr):Prop:=
 ∀s,Fr c J s.heap->∀(Q:CG) (E:CG),
  (∀it fp h' tk,Le s.heap h'->(∀b,fp b->s.heap.get? b=none/\306<=b/\∃o,h'.get? b=some o)->Draws c.w c.A target it fp ds (DG c.X fp) h'->M7 c.w c.A it h'->Q it {s with heap:=h',toks:=tk})->
  wpAny (model prog c.w) c.A (eval e c.env) (λx s₁=>wpAny (model prog c.w) c.A (pyIter x) Q E s₁) E s
theorem Bw(l:Le h h'){b:Addr}(nt:b≠TP)(e:h'.get? b=none):h.get? b=none:=by
 cases q:h.get? b with
 |none=>rfl
 |some o=>rw[l.keep b o nt id q]at e;cases e
theorem GN(l:Le h h')(t:Tab h'):h.get? h'.objs.size=none:=Bw l (B4 t) (Bm h')
theorem bI{P:Params}(m:a∈Vg):∃o,(Kx P).lookup a=some o:=by
 have m':a∈(Kx P).map (·.1):=m;refine Bh (AF.mp m') ?_;intro p hp e;have key:∀l:Frag,p∈l->∃o,l.lookup p.1=some o:=λl=>by
  induction l with
  |nil=>intro h;cases h
  |cons q r ih=>
   intro h;obtain⟨a1,a2⟩:=q;rw[AK];cases hb:p.1==a1 with
   |true=>exact⟨_,rfl⟩
   |false=>
    rcases AJ.mp h with rfl|h
    .simp at hb
    .exact ih h
 exact e▸key _ hp
theorem B6(B:CV w h):306<=h.objs.size:=by
 refine B5 (bI (P:=w.params) (a:=305) (by decide)) ?_;intro o e;exact Ag (B.k _ o e)
theorem LM{h1 h2:Heap}(B:CV w h1)(l:Le h h1){o:Obj}(e:h2.get? h1.objs.size=some o):h.get? h1.objs.size=none/\306<=h1.objs.size/\∃o,h2.get? h1.objs.size=some o:=
 ⟨GN l B.tab,B6 B,o,e⟩
theorem Ba.list{target:Expr}(x:Ev c J e (.list ds)):Ba c J target e ds:=λs F Q E q=>
 x s F _ _ λv h1 t1 l1 r1=>by
  refine Qe (B8.Hl r1) ?_;rintro a vs rfl nx nt p r;have F1:=F.le l1;refine wpAny_pyIter_list p.isList ?_;have lp:Le h1 (h1.push {cls:=.type "list_iterator",data:=.fields #[.ref a,.int 0 0]}):=Le.push _ _;have Hj:a≠h1.objs.size:=λz=>by refine B5 p ?_;clear p;intro V e;exact Aa _ (z▸Ag e)
  have hI:(h1.push {cls:=.type "list_iterator",data:=.fields #[.ref a,.int 0 0]}).IsListIter h1.objs.size a 0:=⟨_,AH _ rfl,rfl,rfl⟩
  have KH:=B4 F1.base.tab;refine q (.ref h1.objs.size) (·∈[h1.objs.size]) _ t1 (l1.trans lp) ?_ ?_ ?_
  .intro b hb;rw[AG.mp hb];exact LM F1.base l1 (AH _ rfl)
  .refine Kf (P:=λi v=>vs.toArray[i]? = some v) (Walks.list F.ok.handled h1.objs.size a Hj vs.toArray) (λi h st b hb=>?_) (λi v s' Q E st h=>letGo_listiter st.1 h) ds (by rw[AY,r.length])
    (λX h=>Be X c.w h vs ds) (λX X' h h' r k=>r.kn k) (λX h j v d r pv hd=>?_) (by simp[Ne.symm KH]) ds 0 _ _ (Al _) rfl ⟨hI,EX p.isList λo e=>lp.keep _ o nt id e⟩ ?_ ?_
   .rw [AG.mp hb];refine CB st ?_;clear st;intro Cq V;refine EI Cq ?_;intro o e V ed;exact⟨o,e,Cd.fd ed (by intro t h;simp at h)⟩
   .refine Bh (r.get hd) ?_;intro v' bE rv;rw[BK,bE]at pv;cases pv;exact rv
   .exact Be.le (r.move (ES λb z=>z.imp_right λz=>by rw[AG.mp z];exact Bm _)) lp
   .intro b hb;rcases AJ.mp hb with rfl|hb
    .exact ⟨.inl (AG.mpr rfl),KH,_,AH _ rfl⟩
    .rw [AG.mp hb];refine B5 p ?_;clear p;intro k e;exact⟨.inr λz=>z.elim nx λz=>Hj (AG.mp z),nt,_,lp.keep _ _ nt id e⟩
  .exact λs' l Q E h=>wpAny_pyIter_listiter (hI.at λo e=>l.keep _ o KH id e) h
theorem Ba.tup{target:Expr}(x:Ev c J e (.tup ds)):Ba c J target e ds:=λs F Q E q=>
 x s F _ _ λv h1 t1 l1 r1=>by
  refine Qe (B8.M1 r1) ?_;rintro a vs rfl nx nt p r;have F1:=F.le l1;refine wpAny_pyIter_tuple p ?_;have lp:Le h1 (h1.push {cls:=.type "tuple_iterator",data:=.fields #[.ref a,.int 0 0]}):=Le.push _ _;have Hj:a≠h1.objs.size:=λz=>by refine Bh p ?_;clear p;intro o e V;exact Aa _ (z▸Ag e)
  have hI:(h1.push {cls:=.type "tuple_iterator",data:=.fields #[.ref a,.int 0 0]}).IsTupleIter h1.objs.size a 0:=⟨_,AH _ rfl,rfl,rfl⟩
  have KH:=B4 F1.base.tab;refine q (.ref h1.objs.size) (·∈[h1.objs.size]) _ t1 (l1.trans lp) ?_ ?_ ?_
  .intro b hb;rw[AG.mp hb];exact LM F1.base l1 (AH _ rfl)
  .refine Kf (P:=λi v=>vs.toArray[i]? = some v) (Walks.tuple F.ok.handled h1.objs.size a Hj vs.toArray) (λi h st b hb=>?_) (λi v s' Q E st h=>letGo_tupleiter st.1 h) ds (by rw[AY,r.length])
    (λX h=>Be X c.w h vs ds) (λX X' h h' r k=>r.kn k) (λX h j v d r pv hd=>?_) (by simp[Ne.symm KH]) ds 0 _ _ (Al _) rfl ⟨hI,GO p λo e=>lp.keep _ o nt id e⟩ ?_ ?_
   .rw [AG.mp hb];refine CB st ?_;clear st;intro Du V;refine EI Du ?_;intro o e V ed;exact⟨o,e,Cd.fd ed (by intro t h;simp at h)⟩
   .refine Bh (r.get hd) ?_;intro v' bE rv;rw[BK,bE]at pv;cases pv;exact rv
   .exact Be.le (r.move (ES λb z=>z.imp_right λz=>by rw[AG.mp z];exact Bm _)) lp
   .intro b hb;rcases AJ.mp hb with rfl|hb
    .exact ⟨.inl (AG.mpr rfl),KH,_,AH _ rfl⟩
    .rw [AG.mp hb];refine Bh p ?_;clear p;intro o e k;exact⟨.inr λz=>z.elim nx λz=>Hj (AG.mp z),nt,_,lp.keep _ _ nt id e⟩
  .exact λs' l Q E h=>wpAny_pyIter_tupleiter (hI.at λo e=>l.keep _ o KH id e) h
noncomputable def Str.chars(t:Str):List Str:=t.cps.toList.map λc=>⟨#[c]⟩
theorem Ww(hh:A.handled=none)(I:Addr)(x:Str)(t:Tok):Walks prog w A I [I] [I] x.cps.size (SignAt x) (λi h=>h.IsStrIter I (strIterType x) x t i):=by
 unfold strIterType;split
 .exact Walks.strAscii hh I x t
 .exact Walks.strWide hh I x t
theorem Ba.str{n:Str}{np:Pos}{t:Str}(x:Ev c J e (.str t)):Ba c J (.Name n np) e ((Str.chars t).map .str):=λs F Q E q=>
 x s F _ _ λv h1 t1 l1 r1=>by
  cases r1;rename_i tk;have F1:=F.le l1;refine wpAny_pyIter_strU ?_;have lp:Le h1 (h1.push {cls:=.type (strIterType t),data:=.fields #[.str t tk,.int 0 0]}):=Le.push _ _;have KH:=B4 F1.base.tab;have hW:=Ww (w:=c.w) F.ok.handled h1.objs.size t tk;have hI:(h1.push {cls:=.type (strIterType t),data:=.fields #[.str t tk,.int 0 0]}).IsStrIter h1.objs.size (strIterType t) t tk 0:=⟨_,AH _ rfl,rfl,rfl⟩
  refine q (.ref h1.objs.size) (·∈[h1.objs.size]) _ t1 (l1.trans lp) ?_ ?_ ?_
  .intro b hb;rw[AG.mp hb];exact LM F1.base l1 (AH _ rfl)
  .refine Kf hW (λi h st b hb=>?_) (λi v s' Q E st h=>?_) _ (by simp[Str.chars]) (λV V=>True) (λV V V V V V=>trivial) (λX h j v d V pv hd=>?_) (by simp[Ne.symm KH]) _ 0 _ _ (Al _) rfl hI trivial ?_
   .rw [AG.mp hb];refine EI st ?_;clear st;intro o e V ed;exact⟨o,e,Cd.fd ed (by intro t h;simp at h)⟩
   .exact wpAny_of_eq (t:=pure ()) rfl h
   .refine Fp pv ?_;clear pv;rintro cc u e1 rfl;have:d=.str ⟨#[cc]⟩:=by
     simp only[Str.chars,AB,AL,Array.getElem?_toList,e1,Option.map_some]at hd;cases hd;rfl
    subst this;exact .str _ _
   .intro b hb;rw[AG.mp hb];exact⟨.inl (AG.mpr rfl),KH,_,AH _ rfl⟩
  .exact λs' l Q E h=>hW.self 0 s' Q E (hW.frame _ _ _ hI λb hb o e=>l.keep _ o (by rw[AG.mp hb];exact KH) id e) h
noncomputable def DM(a c:Int)(n:Nat):List D:=(List.range n).map λi=>.int (a+(i:Nat)*c)
theorem Me{n:Str}{np:Pos}{h1:Heap}{t1:Nat}{r:Addr}{a b cc:Int}{t u v:Tok}(F:Fr c J s.heap)(l1:Le s.heap h1)(hr:IsRange h1 r a b cc t u v)(hs:Builtin.Range.small a b cc=true)(hk:Builtin.Range.rangeSize a b cc=k)(q:∀it fp h' tk,Le s.heap h'->(∀b,fp b->s.heap.get? b=none/\306<=b/\∃o,h'.get? b=some o)->Draws c.w c.A (.Name n np) it fp (DM a cc k) (DG c.X fp) h'->M7 c.w c.A it h'->Q it {s with heap:=h',toks:=tk}) :
  wpAny (model prog c.w) c.A (pyIter (.ref r)) Q E {s with heap:=h1,toks:=t1}:=by
 have F1:=F.le l1;refine wpAny_pyIter_range hr hs ?_;rw[hk];have lp:Le h1 (h1.push {cls:=.type "range_iterator",data:=.fields #[rawInt a,rawInt k,rawInt cc]}):=Le.push _ _;have KH:=B4 F1.base.tab;have hW:=Walks.range (prog:=prog) (w:=c.w) F.ok.handled h1.objs.size a cc k;have hI:IsRangeIter (h1.push {cls:=.type "range_iterator",data:=.fields #[rawInt a,rawInt k,rawInt cc]}) h1.objs.size (a+(0:Nat)*cc) ((k:Int)-(0:Nat)) cc:=by
  simp only[Int.natCast_zero,Int.zero_mul,Int.add_zero,Int.sub_zero];exact AH _ rfl
 refine q (.ref h1.objs.size) (·∈[h1.objs.size]) _ t1 (l1.trans lp) ?_ ?_ ?_
 .intro b hb;rw[AG.mp hb];exact LM F1.base l1 (AH _ rfl)
 .refine Kf hW (λi h st b hb=>?_) (λi v s' Q E st h=>wpAny_of_eq (t:=pure ()) rfl h) _ (by simp[DM]) (λV V=>True) (λV V V V V V=>trivial) (λX h j v d V pv hd=>?_) (by simp[Ne.symm KH]) _ 0 _ _ (Al _) rfl hI trivial ?_
  .rw [AG.mp hb];exact⟨_,st,Cd.fd rfl (by intro t h;simp[rawInt]at h)⟩
  .refine B5 pv ?_;clear pv;rintro u rfl;have:d=.int (a+(j:Nat)*cc):=by
    simp only[DM,AL,AS]at hd;refine Bh hd ?_;clear hd;intro j' e1 e2;have:=AP.mp e1;refine B5 this ?_;clear this;intro hl e3;rw[List.getElem_range]at e3;rw[<- e2,e3]
   subst this;exact .int _ _
  .intro b hb;rw[AG.mp hb];exact⟨.inl (AG.mpr rfl),KH,_,AH _ rfl⟩
 .exact λs' l Q E h=>hW.self 0 s' Q E (hW.frame _ _ _ hI λb hb o e=>l.keep _ o (by rw[AG.mp hb];exact KH) id e) h
theorem Ba.Qm{n:Str}{xp np:Pos}(f:Ev c J (.Name x xp) (.obj (.type "range")))(y:Ev c J e (.int (k:Nat)))(hz:k<=1000000)(he:autoParam (D8 c e []) Bc):Ba c J (.Name n np) (.Call (.Name x xp) [e] [] pos) (DM 0 1 k):=λs F Q E q=>
 wpAny_Call_NameR (f s F _ _ λv h1 t1 l1 r1=>by
  cases r1;refine Ax ((FP.cons y .nil he) pos _ (F.le l1) _ _ λvs h2 t2 l2 r2=>?_) he rfl;refine Dt (Be.Bo r2) ?_;rintro V V rfl a b;cases b;cases a;have Gj:Le s.heap h2:=Bt.trans l1 l2;refine call_range_1 ?_;refine Me (s:=s) F (Bt.trans Gj (Le.push _ _)) (AH _ rfl) (small_one (by exact Int.neg_ofNat_le_ofNat (2^62) 0) (by exact(λ{a}=>Int.sign_eq_one_iff_pos.mp) rfl) (by exact Int.neg_ofNat_le_natCast (2^62) k) (qb hz rfl)) ?_ q;rw[rangeSize_nat];simp)
theorem Ba.b9{n:Str}{xp np:Pos}{e1 e2:Expr}{a b:Int}(f:Ev c J (.Name x xp) (.obj (.type "range")))(y1:Ev c J e1 (.int a))(y2:Ev c J e2 (.int b))(hz:0<=a/\a<=1000000/\0<=b/\b<=1000000)(he:autoParam (D8 c e1 [e2]) Bc)(Jn:autoParam (D8 c e2 []) Bc)(hp:autoParam ((backTo pos (starEach [e2] c.env)).any (·.1)=false) Bc):Ba c J (.Name n np) (.Call (.Name x xp) [e1,e2] [] pos) (DM a 1 (b-a).toNat):=λs F Q E q=>
 wpAny_Call_NameR (f s F _ _ λv h1 t1 l1 r1=>by
  cases r1;refine Ax ((FP.cons y1 (.cons y2 .nil Jn) he) pos _ (F.le l1) _ _ λvs h2 t2 l2 r2=>?_) he hp;refine Dt (Be.Bo r2) ?_;rintro V V rfl ra r;refine Dt (Be.Bo r) ?_;rintro V V rfl rb r;cases r;cases ra;cases rb;have Gj:Le s.heap h2:=Bt.trans l1 l2;refine call_range_2 ?_;refine Me (s:=s) F (Bt.trans Gj (Le.push _ _)) (AH _ rfl) (small_one (by lia) (by omega) (by lia) (by omega)) ?_ q;rw[rangeSize_nat])
noncomputable def JW(ds:Cr):List (List D):=ds.zipIdx.map λp=>[.int (p.2:Nat),p.1]
theorem Sm{j:Nat}{e:Cr}(h:(JW ds)[j]? = some e):∃d,ds[j]? = some d/\e=[.int (j:Nat),d]:=by
 simp only[JW,AL,List.getElem?_zipIdx,Option.map_map,AS]at h;refine Bh h ?_;clear h;intro d e1 e2;exact⟨d,e1,by rw[<- e2];simp⟩
theorem Ba.enum{xp tp:Pos}{tk:Nat}{elts:Cw}(f:Ev c J (.Name x xp) (.obj (.type "enumerate")))(y:Ev c J e (.list ds))(he:autoParam (D8 c e []) Bc):Ba c J (.Tuple elts tk tp) (.Call (.Name x xp) [e] [] pos) ((JW ds).map .tup):=λs F Q E q=>
 wpAny_Call_NameR (f s F _ _ λv h1 t1 l1 r1=>by
  cases r1;refine Ax ((FP.cons y .nil he) pos _ (F.le l1) _ _ λvs h2 t2 l2 r2=>?_) he rfl;cases r2 with|cons a b=>
  cases b;cases a with|list nx nt p r=>
  rename_i a vs;have Gj:Le s.heap h2:=Bt.trans l1 l2;have F2:=F.le Gj;refine call_enumerate_list p.isList λh3 ZR mq nH jq=>?_;dsimp only at ZR mq nH jq ⊢;have l3:Le h2 h3:=Le.of jq;have QT:=Bt.trans Gj l3;have rL:=QT.tab F.base.tab;refine wpAny_pyIter_enum ZR ?_;have ha:a<h2.objs.size:=by refine B5 p ?_;clear p;intro k e;exact Ag e
  have nv:=B4 F2.base.tab;have nr:h2.get? (h2.objs.size+1)=none:=by
   cases e:h2.get? (h2.objs.size+1)with
   |none=>rfl
   |some o=>exact absurd (Ag e) (Nat.not_lt.mpr (Nat.le_succ _))
  have KH:h2.objs.size+1≠TP:=λq=>by refine Bh F2.base.tab ?_;intro ps e V;rw[<- q,nr]at e;cases e
  have sz:=B6 F2.base;have f6:=mq;refine Bh f6 ?_;clear f6;intro oi ei V;refine q (.ref (h2.objs.size+1)) (·∈[h2.objs.size+1,h2.objs.size]) h3 t2 QT ?_ ?_ ?_
  .intro b hb;refine Sa hb ?_ ?_
   .exact ⟨Bw Gj KH nr,Nat.le_succ_of_le sz,_,ZR⟩
   .exact ⟨Bw Gj nv (Bm _),sz,_,ei⟩
  .refine P6 (Rp:=λX h=>Be X c.w h vs ds) (WalksT.enumerate F.ok.handled (h2.objs.size+1) h2.objs.size a (Nat.succ_ne_self _) (Nat.ne_of_lt (Nat.lt_succ_of_lt ha)) (Nat.ne_of_lt ha) vs.toArray) (λi h st b hb=>?_) (λi T h mid b hb=>?_) (JW ds)
    (by simp[JW,r.length]) (λX X' h h' r k=>r.kn k) (λX h j v d r pv hd=>?_) (by simp[Ne.symm KH,Ne.symm nv]) (JW ds) 0 _ _ (Al _) rfl
    ⟨⟨_,ZR⟩,mq,EX p.isList λo e=>jq _ o e⟩ ?_ ?_
   .refine Sa hb ?_ ?_
    .refine CB st ?_;clear st;intro Cq V;refine B5 Cq ?_;intro V z;exact⟨_,z,Cd.fd rfl (by intro t h;simp[rawInt]at h)⟩
    .refine FO st ?_;clear st;intro V Du V;refine EI Du ?_;intro o z V ed;exact⟨_,z,Cd.fd ed (by intro t h;simp at h)⟩
   .refine Sa hb ?_ ?_
    .refine CB mid ?_;clear mid;intro HU V;refine B5 HU ?_;intro V z;exact⟨_,z,Cd.fd rfl (by intro t h;simp[rawInt]at h)⟩
    .refine FO mid ?_;clear mid;intro V Jh V;refine EI Jh ?_;intro o z V ed;exact⟨_,z,Cd.fd ed (by intro t h;simp at h)⟩
   .refine Fp pv ?_;clear pv;rintro t x e1 rfl;refine Bh (Sm hd) ?_;rintro d' e2 rfl;refine Bh (r.get e2) ?_;intro v' bE rv;rw[BK,bE]at e1;cases e1;exact .cons (.int _ _) (.cons rv .nil)
   .exact Be.le (r.move (ES λb z=>z.imp_right λz=>by
     refine Sa z ?_ ?_
     .exact nr
     .exact Bm _)) l3
   .intro b hb;refine kq hb ?_ ?_ ?_
    .exact ⟨.inl (by simp),KH,_,ZR⟩
    .exact ⟨.inl (by simp),nv,_,ei⟩
    .refine B5 p ?_;clear p;intro k e;refine⟨.inr λz=>z.elim nx λz=>?_,nt,_,jq _ _ e⟩;simp only[AJ,An,or_false]at z;exact z.elim (Nat.ne_of_lt (Nat.lt_succ_of_lt ha)) (Nat.ne_of_lt ha)
  .exact λs' l Q E h=>wpAny_pyIter_enum (l.keep _ _ KH id ZR) h)
theorem Fr.re(F:Fr c J h)(l:Bt W h h')(sW:∀a,W a->c.X a/\(c.M a\/c.h0.get? a=none)/\¬c.G.fp a)(ns:∃m,h'.Ns c.env.locals m)(Ez:∀x a,c.env.cells.lookup x=some a->∃v,h'.IsCell a v)(nm:∀x d,(x,d)∈J'->∃v,Holds c.env h' x v/\B8 c.X c.w h' v d):Fr c J' h':=
 {base:=F.base.le l λa q=>(F.Cj a (sW a q).1).1
  Cj:=F.Cj.le l
  kind:=F.kind,glob:=F.glob,blt:=F.blt,ok:=F.ok
  old:=⟨λb o n nw e=>(l.keep b o n · (F.old.keep b o n nw e)) λq=>(sW b q).2.1.elim nw (λz=>by rw[z]at e;cases e),λb o n V e=>by
   refine B5 (F.old.alive n e) ?_;intro o' e';exact l.alive n e',λt=>l.tab (F.old.tab t),λb o e z=>l.code b o (F.old.code b o e z) z⟩
  loc:=⟨F.loc.1,F.loc.2.1,ns⟩
  Ez:=λx a e=>by refine Ht (F.Ez x a e) ?_;intro a1 a2 V a4;exact⟨a1,a2,Ez x a e,a4⟩
  apart:=F.apart
  names:=nm
  g:=c.G.mv F.g λb o q n e=>⟨l.at n e λz=>q.elim (λy=>absurd y (sW b z).2.2) λq=>q.elim (λy=>absurd (sW b z).1 y) id,id⟩
  gx:=F.gx}
theorem Nr{m':Hv}(x:h.Ns a m)(y:h.Ns a m')(n:Str):m n=m' n:=by
 refine V7 x ?_;clear x;intro o es ep e d V f;refine V7 y ?_;clear y;intro o' es' wO e' d' V f';rw[e]at e';cases e';rw[d]at d';cases d';rw[<- f,<- f']
def DF(J:B3)(x:Str)(d:D)(J':B3):Prop:=∀p∈J',p=(x,d)\/(p∈J/\p.1≠x)
def Cm(x:Str):Prop:=(x==("__debug__" : Str))=false/\(x==("__classdict__" : Str))=false
def Cf(c:Cx)(x:Str):Prop:=c.env.kindOf x=some .local\/(c.env.kindOf x=some .cell/\c.own x/\(c.env.cells.lookup x).isSome=true)
def Fx(c:Cx)(b:Addr):Prop:=b=c.env.locals\/∃x,c.env.cells.lookup x=some b/\c.own x
theorem Fr.fx(F:Fr c J h){b:Addr}(q:Fx c b):c.X b:=q.elim (λe=>e▸F.loc.1) λzz=>by refine Bh zz ?_;clear zz;intro x e o;exact((F.Ez x b e).2.2.2 o).1
def Bind(c:Cx)(J:B3)(t:Expr)(d:D)(J':B3):Prop:=
 ∀v s,Fr c J s.heap->B8 c.X c.w s.heap v d->Run c.w c.A (Fx c) (assign t c.env v) s λV h'=>Fr c J' h'
def MJ(c:Cx)(J:B3)(ts:Cw)(ds:Cr)(J':B3):Prop:=
 ∀vs s,Fr c J s.heap->Be c.X c.w s.heap vs ds->Run c.w c.A (Fx c) (assignInOrder ((assignEach ts c.env).map (·.2)) vs) s λV h'=>Fr c J' h'
theorem Co(s:Heap.SameBut a h h')(o':Obj)(e:h'.get? a=some o')(nt:a≠TP)(nc:∀o,h.get? a=some o->¬Cd o):Bt (·=a) h h':=
 Bt.of (λb o n e=>(s.2 b n).trans e) (λb o w e'=>⟨o',w▸e⟩) (λq=>nt q.symm) λb o w e'=>nc o (w▸e')
theorem Cd.at{o:Obj}(e:h.get? a=some o)(n:¬Cd o):∀o',h.get? a=some o'->¬Cd o':=λo' e'=>by rw[e]at e';cases e';exact n
theorem Cd.ns(x:h.Ns a m):∀o',h.get? a=some o'->¬Cd o':=by refine Mn x ?_;clear x;intro V V V e d V;exact Cd.at e (Cd.dict d)
theorem Cd.ce{v:Option Value}(x:h.IsCell a v):∀o',h.get? a=some o'->¬Cd o':=by refine Bh x ?_;clear x;intro V e d;exact Cd.at e (Cd.cell d)
theorem Fr.store(F:Fr c J s.heap)(hx:Cm x)(k:Cf c x)(r:B8 c.X c.w s.heap v d)(p:DF J x d J'){Q:ET}{M:Model}(q:∀h' tk,Bt (Fx c) s.heap h'->Fr c J' h'->Q () {s with heap:=h',toks:=tk}):wpAny M A (storeName c.env x v) Q E s:=by
 rcases k with k|⟨k,ow,lk⟩
 .obtain ⟨lx,l0,m,n⟩:=F.loc;refine wpAny_storeName_local k n (λh2 n2 s2=>?_) (by rw[F.kind];rfl);obtain⟨o2,e2⟩:∃o,h2.get? c.env.locals=some o:=by refine Js n2 ?_;clear n2;intro o V V e V;exact⟨o,e⟩
  have l:=Co s2 o2 e2 F.W5 (Cd.ns n);refine q h2 _ (l.any λa z=>.inl z) (F.re l (λa z=>by rw[z];exact⟨lx,.inr l0,λz=>(F.gx _ z).2.1 rfl⟩) ⟨_,n2⟩ (λy a e=>?_) λy dy my=>?_)
  .refine Ht (F.Ez y a e) ?_;intro a1 a2 Cq V;refine B5 Cq ?_;intro u a3;exact⟨u,B0 a3 λo z=>l.keep _ o a2 a1 z⟩
  .rcases p _ my with e|⟨my,ny⟩
   .cases e;exact⟨v,⟨hx,.inl ⟨k,F.W5,_,n2,by simp⟩⟩,r.move (DQ l λa z=>z▸lx)⟩
   .refine Bh (F.names y dy my) ?_;intro u Du ru;refine CB Du ?_;intro hy H;refine⟨u,⟨hy,H.imp (λ⟨ky,ly,m',n',e'⟩=>⟨ky,ly,_,n2,?_⟩) λzz=>by refine UG zz ?_;clear zz;intro a ka ea na ca;exact⟨a,ka,ea,na,B0 ca λo z=>l.keep _ o na (F.Ez y a ea).1 z⟩⟩,ru.move (DQ l λa z=>z▸lx)⟩;rw[if_neg ny,<- e',Nr n' n]
 .refine B5 (A6.mp lk) ?_;intro a ea;refine Ht (F.Ez x a ea) ?_;intro a1 a2 HU a4;refine B5 HU ?_;intro u0 a3;refine CB (a4 ow) ?_;intro ax a0;refine wpAny_storeName_cell F.kind k ea a3 λh2 c2 s2=>?_;obtain⟨o2,e2⟩:∃o,h2.get? a=some o:=by refine Bh c2 ?_;clear c2;intro o e V;exact⟨o,e⟩
  have l:=Co s2 o2 e2 a2 (Cd.ce a3);obtain⟨lx,l0,m,n⟩:=F.loc;have n2:h2.Ns c.env.locals m:=Ck n λo z=>l.keep _ o F.W5 (λz=>a1 z.symm) z;refine q h2 s.toks (l.any λb z=>.inr ⟨x,z▸ea,ow⟩) (F.re l (λb z=>by rw[z];exact⟨ax,.inr a0,λz=>(F.gx _ z).2.2 x ea⟩) ⟨_,n2⟩ (λy b e=>?_) λy dy my=>?_)
  .by_cases hb:b=a
   .exact ⟨_,hb▸c2⟩
   .refine Ht (F.Ez y b e) ?_;intro b1 b2 Jh V;refine B5 Jh ?_;intro u b3;exact⟨u,B0 b3 λo z=>l.keep _ o b2 hb z⟩
  .rcases p _ my with e|⟨my,ny⟩
   .cases e;exact⟨v,⟨hx,.inr ⟨a,.inl k,ea,a2,c2⟩⟩,r.move (DQ l λb z=>z▸ax)⟩
   .refine Bh (F.names y dy my) ?_;intro u Wz ru;refine CB Wz ?_;intro hy H;exact⟨u,⟨hy,H.imp (λzz=>by obtain⟨ky,ly,m',n',e'⟩:=zz;exact⟨ky,ly,m',Ck n' λo z=>l.keep _ o F.W5 (λz=>a1 z.symm) z,e'⟩)
     λzz=>by refine UG zz ?_;clear zz;intro b kb eb nb cb;exact⟨b,kb,eb,nb,B0 cb λo z=>l.keep _ o nb (λe=>ny (F.apart y x a (e▸eb) ea)) z⟩⟩,ru.move (DQ l λb z=>z▸ax)⟩
theorem Bind.name(hx:Cm x)(k:Cf c x)(p:DF J x d J'):Bind c J (.Name x pos) d J':=λv s F r Q E q=>
 wpAny_assign_Name (F.store hx k r p λh' tk l F'=>q () h' tk l F')
theorem MJ.nil:MJ c J [] [] J:=λvs s F r Q E q=>by
 cases r;exact wpAny_assignInOrder_none (q () s.heap s.toks (.refl _) F)
theorem MJ.cons{t:Expr}{ts:Cw}(x:Bind c J t d J')(y:MJ c J' ts ds KR)(he:autoParam (assignEach (t::ts) c.env=(false,assign t c.env)::assignEach ts c.env) Bc):MJ c J (t::ts) (d::ds) KR:=
 λvs s F r Q E q=>by
  refine Dt (Be.Bo r) ?_;rintro V V rfl a b;rw[he,AI];exact wpAny_assignInOrder_more (x _ s F a _ _ λV h1 t1 l1 F1=>y _ _ F1 (b.move (DQ l1 λV z=>F.fx z)) _ _ λV h2 t2 l2 F2=>q () h2 t2 (Bt.trans l1 l2) F2)
theorem Bind.tup{elts:Cw}(x:MJ c J elts ds J')(hn:autoParam ((assignEach elts c.env).length=ds.length) Bc)(hs:autoParam ((assignEach elts c.env).findIdx? (·.1)=none) Bc):Bind c J (.Tuple elts k pos) (.tup ds) J':=
 λv s F r Q E q=>by
  refine Qe (B8.M1 r) ?_;rintro V V rfl nx nt p r;refine wpAny_assign_Tuple F.ok.handled p (by rw[hn,AY,r.length]) hs λh1 x1=>?_;have l1:Le s.heap h1:=Le.of λb o e=>x1 b o (λz=>Aa _ (z▸Ag e)) e;exact x _ _ (F.le l1) (r.le l1) Q E λV h2 t2 l2 F2=>q () h2 t2 (Bt.trans l1.to l2) F2
structure JQ(W:CF)(h h':Heap):Prop where
 keep:∀b o,b≠TP->¬W b->h.get? b=some o->h'.get? b=some o
 tab:Tab h->Tab h'
 code:∀b o,h.get? b=some o->Cd o->h'.get? b=some o
theorem Bt.ZY(l:Bt W h h'):JQ W h h':=⟨l.keep,l.tab,l.code⟩
theorem JQ.at(x:JQ W h h'){b:Addr}{o:Obj}(n:b≠TP)(e:h.get? b=some o)(q:W b->Cd o):h'.get? b=some o:=by
 by_cases w:W b
 .exact x.code b o e (q w)
 .exact x.keep b o n w e
theorem JQ.trans{Hh:Heap}(x:JQ W h h')(y:JQ W h' Hh):JQ W h Hh:=⟨λb o n nw e=>y.keep b o n nw (x.keep b o n nw e),λt=>y.tab (x.tab t),λb o e z=>y.code b o (x.code b o e z) z⟩
theorem JQ.any{W':CF}(x:JQ W h h')(s:∀a,W a->W' a):JQ W' h h':=⟨λb o n nw e=>x.keep b o n (λq=>nw (s b q)) e,x.tab,x.code⟩
theorem JQ.fresh{W':CF}(x:JQ W' h h')(s:∀a,W' a->W a\/h.get? a=none):JQ W h h':=
 ⟨λb o n nw e=>x.keep b o n (λq=>(s b q).elim nw λz=>by rw[z]at e;cases e) e,x.tab,x.code⟩
theorem JQ.b(x:JQ W h h')(l:∀b o,W b->b≠TP->h.get? b=some o->∃o',h'.get? b=some o'):Bt W h h':=⟨x.keep,λb o n w e=>l b o w n e,x.tab,x.code⟩
noncomputable def Cx.plus(c:Cx)(fp:CF):Cx:={c with X:=DG c.X fp}
def MK(c:Cx)(b:Addr):Prop:=¬c.X b/\306<=b/\c.h0.get? b=none/\¬c.G.fp b/\b≠c.env.locals/\∀x,c.env.cells.lookup x≠some b
theorem Fr.new(F:Fr c J h){b:Addr}(e:h.get? b=none)(big:306<=b):MK c b:=by
 have nx:¬c.X b:=λq=>by obtain⟨_,o,e'⟩:=F.Cj b q;exact by rw[e]at e';cases e'
 have nt:b≠TP:=λq=>by refine Bh F.base.tab ?_;intro ps e' V;rw[<- q,e]at e';cases e'
 refine⟨nx,big,?_,λq=>nx (F.gx b q).1.1,λq=>nx (q▸F.loc.1),λx q=>?_⟩
 .cases q:c.h0.get? b with
  |none=>rfl
  |some o=>refine B5 (F.old.alive nt q) ?_;intro o' e';rw[e]at e';cases e'
 .refine Ht (F.Ez x b q) ?_;intro V V Cq V;refine Fp Cq ?_;intro v o e' V;rw[e]at e';cases e'
theorem MK.off{fp:CF}{b:Addr}(n:MK c b)(q:fp b):Off (c.plus fp) b:=⟨.inr q,.inr n.2.2.1,n.2.2.2.1,n.2.2.2.2.1,n.2.2.2.2.2⟩
theorem Fr.plus{fp:CF}(F:Fr c J h)(l:Le h h')(n:∀b,fp b->h.get? b=none/\306<=b/\∃o,h'.get? b=some o):Fr (c.plus fp) J h':=
 have F':=F.le l
 {base:=F'.base
  Cj:=λa q=>q.elim (λq=>F'.Cj a q) λq=>(n a q).2
  kind:=F.kind,glob:=F.glob,blt:=F.blt,ok:=F.ok,old:=F'.old
  loc:=⟨.inl F.loc.1,F.loc.2.1,F'.loc.2.2⟩
  Ez:=λx a e=>by refine Ht (F'.Ez x a e) ?_;intro a1 a2 a3 a4;exact⟨a1,a2,a3,λo=>⟨.inl (a4 o).1,(a4 o).2⟩⟩
  apart:=F.apart
  names:=λx d m=>by
   refine Bh (F.names x d m) ?_;intro v H r;exact⟨v,H.keep (λo nt e=>l.keep _ o nt id e) (λa o nt V e=>l.keep _ o nt id e),(r.move (ES λb q=>q.imp_right λq=>(n b q).1)).le l⟩
  g:=c.G.mv F.g λb o q nt e=>⟨l.keep b o nt id e,λnx z=>z.elim nx λz=>by rw[(n b z).1]at e;cases e⟩
  gx:=λb q=>by refine CB (F.gx b q) ?_;intro Du a3;refine CB Du ?_;intro a1 a2;exact⟨⟨.inl a1,a2⟩,a3⟩}
theorem CV.ke(B:CV w h)(k:∀b o,b<306->h.get? b=some o->h'.get? b=some o)(kt:Tab h->Tab h'):CV w h' where
 k:=λa o e=>k a o (K6 e) (B.k a o e)
 gl:=by refine Bh B.gl ?_;intro mg n r;exact⟨mg,Ck n λo e=>k _ o (by decide) e,r⟩
 bt:=by refine Bh B.bt ?_;intro mg n r;exact⟨mg,Ck n λo e=>k _ o (by decide) e,r⟩
 lim:=by refine Bh B.lim ?_;intro mc n r;exact⟨mc,Ck n λo e=>k _ o (by decide) e,r⟩
 tab:=kt B.tab
theorem Fr.drop{fp:CF}{hx:Heap}(F0:Fr c J' hx)(F:Fr (c.plus fp) J h)(n:∀b,fp b->MK c b)(k0:∀b o,¬fp b\/Cd o->h.get? b=some o->h'.get? b=some o):Fr c J h':=
 have k:∀b o,¬fp b->h.get? b=some o->h'.get? b=some o:=λb o z=>k0 b o (.inl z);have kt:Tab h->Tab h':=λt=>t.keep (λo e=>k _ o (λz=>absurd (n _ z).2.1 (by decide)) e) λc o V e hc=>k0 c o (.inr hc) e;have kn:∀b o,¬DG c.X fp b->h.get? b=some o->h'.get? b=some o/\¬c.X b:=λb o q e=>⟨k b o (λz=>q (.inr z)) e,λz=>q (.inl z)⟩
 {base:=F.base.ke (λb o lt e=>k b o (λq=>absurd (n b q).2.1 (Nat.not_le.mpr lt)) e) kt
  Cj:=λa q=>⟨(F0.Cj a q).1,by
   obtain⟨_,o,e⟩:=F.Cj a (.inl q);exact⟨o,k a o (λz=>(n a z).1 q) e⟩⟩
  kind:=F.kind,glob:=F.glob,blt:=F.blt,ok:=F.ok
  old:=⟨λb o nt nw e=>k b o (λz=>by rw[(n b z).2.2.1]at e;cases e) (F.old.keep b o nt nw e),λb o nt w e=>by
   refine B5 (F.old.live b o nt w e) ?_;intro o' e';exact⟨o',k b o' (λz=>by rw[(n b z).2.2.1]at e;cases e) e'⟩,λtb=>kt (F.old.tab tb),λb o e z=>k0 b o (.inr z) (F.old.code b o e z)⟩
  loc:=⟨F0.loc.1,F0.loc.2.1,by refine B5 F.loc.2.2 ?_;intro m q;exact⟨m,Ck q λo e=>k _ o (λz=>(n _ z).2.2.2.2.1 rfl) e⟩⟩
  Ez:=λx a e=>let⟨a1,a2,⟨v,a3⟩,_⟩:=F.Ez x a e
   ⟨a1,a2,⟨v,B0 a3 λo z=>k _ o (λq=>(n _ q).2.2.2.2.2 x e) z⟩,(F0.Ez x a e).2.2.2⟩
  apart:=F.apart
  names:=λx d m=>by
   refine Bh (F.names x d m) ?_;intro v H r;exact⟨v,H.keep (λo V e=>k _ o (λz=>(n _ z).2.2.2.2.1 rfl) e) (λa o V ea e=>k _ o (λz=>(n _ z).2.2.2.2.2 x ea) e),r.move λb o q V e=>kn b o q e⟩
  g:=c.G.mv F.g λb o q nt e=>⟨(Classical.em (fp b)).elim (λz=>k0 b o (.inr (q.elim (λy=>absurd y (n b z).2.2.2.1) λq=>q.elim (λy=>absurd (.inr z) y) id)) e) λz=>k b o z e,λq z=>q (.inl z)⟩
  gx:=F0.gx}
structure Sub(c cc:Cx)(scope:Scope):Prop where
 w:cc.w=c.w
 A:cc.A=c.A
 k:cc.k=c.k
 sc:cc.env.scope=relabel scope c.env
 own:∀x,scope.names.lookup x=some .cell->cc.own x/\(cc.env.cells.lookup x).isSome=true
 g:∀X h,cc.G.P cc.w X h->c.G.P c.w X h
theorem Sub.plus{fp:CF}(s:Sub c cc scope):Sub c (cc.plus fp) scope:=⟨s.w,s.A,s.k,s.sc,s.own,s.g⟩
structure Jj(O:Type) where
 P:World->(Addr->Prop)->Heap->Addr->List O->Prop
 kn:∀ {w X X' h h' a os},P w X h a os->(∀o,h.get? a=some o->h'.get? a=some o)->Kn X X' h h'->P w X' h' a os
 live:∀ {w X h a os},P w X h a os->∃o,h.get? a=some o
def CL(c:Cx)(J:B3)(ifs:Cw)(b:Bool):Prop:=
 ∀s,Fr c J s.heap->Run c.w c.A Hu (forIn ifs true λe r=>if r=true then do let ok <- isTrue e c.env (eval e c.env);pure (ForInStep.yield ok)else pure (ForInStep.yield r)) s λx V=>x=b
theorem CL.nil:CL c J [] true:=λs F Q E q=>by
 rw[List.forIn_nil];exact wpAny_pure (q _ s.heap s.toks (.refl _) rfl)
def Ie{O:Type}(T:Jj O)(em:Value->Env->Sem Unit)(c:Cx)(J:B3)(o:O):Prop:=
 ∀a os s,Fr c J s.heap->Off c a->T.P c.w c.X s.heap a os->os.length<=1000000->Run c.w c.A (·=a) (em (.ref a) c.env) s λV h'=>T.P c.w c.X h' a (os++[o])
noncomputable def Gens(S:Cx->Prop){O:Type}(T:Jj O)(em:Value->Env->Sem Unit):List Comprehension->List (Str×D)->List O->Prop
 |[],J,bw=>∃o,bw=[o]/\∀cc,S cc->Ie T em cc J o
 |g::gs,J,bw=>∃(ds:List (D×List O)),(∀cc,S cc->Ba cc J g.target g.iter (ds.map (·.1)))/\bw=ds.flatMap (·.2)/\
   ∀d∈ds,∃J' b,(∀p∈J,p∈J')/\(∀cc,S cc->Bind cc J g.target d.1 J')/\(∀cc,S cc->CL cc J' g.ifs b)/\(b=false->d.2=[])/\(b=true->Gens S T em gs J' d.2)
def Turn(S:Cx->Prop){O:Type}(T:Jj O)(em:Value->Env->Sem Unit)(g:Comprehension)(gs:Ec)(J:B3)(d:D)(out:List O):Prop:=
 ∃J' b,(∀p∈J,p∈J')/\(∀cc,S cc->Bind cc J g.target d J')/\(∀cc,S cc->CL cc J' g.ifs b)/\(b=false->out=[])/\(b=true->Gens S T em gs J' out)
structure Fq(e:Expr)(all:Ec)(em:Value->Env->Sem Unit):Prop where
 sync:∀g∈all,g.is_async=0/\∀env x,foldedSetIterable g.iter env x=pure x
 cl:clausesOf e=all
 code:∀k it acc env,(Code.compLoop e k it acc env).isFrame=false/\(Code.compStart e k it acc env).isFrame=false
 quiet:∀k it acc env,(Code.compLoop e k it acc env).quiet=true
 under:∀(A:Around) k it acc env,A.under (Code.compLoop e k it acc env)=A/\A.under (Code.compStart e k it acc env)=A
 last:∀k it acc env g,all[k]? = some g->g.is_async=0->all[k+1]? = none->(compTurn e k it acc env=(standAt g.iter.pos >>= λV=>pyNext it >>= λr=>match r with
   |none=>pure (.done .next)
   |some v=>letOwnedTupleGo g.target it v >>= λV=>assign g.target env v >>= λV=>
    (forIn g.ifs true λe r=>if r=true then do let ok <- isTrue e env (eval e env);pure (ForInStep.yield ok)else pure (ForInStep.yield r)) >>= λok=>
    (if ok=true then em acc env >>= λV=>again (.compLoop e k it acc env)else again (.compLoop e k it acc env))))
 more:∀k it acc env g g',all[k]? = some g->g.is_async=0->all[k+1]? = some g'->g'.is_async=0->(compTurn e k it acc env=(standAt g.iter.pos >>= λV=>pyNext it >>= λr=>match r with
   |none=>pure (.done .next)
   |some v=>letOwnedTupleGo g.target it v >>= λV=>assign g.target env v >>= λV=>
    (forIn g.ifs true λe r=>if r=true then do let ok <- isTrue e env (eval e env);pure (ForInStep.yield ok)else pure (ForInStep.yield r)) >>= λok=>
    (if ok=true then eval g'.iter env >>= λx=>standAt g'.iter.pos >>= λV=>foldedSetIterable g'.iter env x >>= λx=>holding [x] (pyIter x) >>= λua=>
      runOwn (.compStart e (k+1) ua acc env) env >>= λV=>again (.compLoop e k it acc env)else again (.compLoop e k it acc env))))
noncomputable def jc(elt:Expr)(acc:Value)(env:Env):Sem Unit:=eval elt env >>= λx=>call (.builtin "list.append") [acc,x] >>= λV=>pure ()
theorem Hd{elt:Expr}{all:Ec}(hs:∀g∈all,g.is_async=0/\∀env x,foldedSetIterable g.iter env x=pure x):Fq (.ListComp elt all scope pos) all (jc elt) where
 sync:=hs
 cl:=rfl
 code:=λV V V V=>⟨rfl,rfl⟩
 quiet:=λV V V V=>rfl
 under:=λV V V V V=>⟨rfl,rfl⟩
 last:=λk it acc env g hg ha hn=>by
  unfold compTurn;simp only[hg,ha,hn,bne_self_eq_false,AR,if_false];rfl
 more:=λk it acc env g g' hg ha hn hb=>by
  unfold compTurn;simp only[hg,ha,hn,hb,bne_self_eq_false,AR,if_false];rfl
theorem Ke{all:Ec}{em:Value->Env->Sem Unit}(CT:Fq e all em){it acc:Value}{env:Env}{R:Result->Shared->Prop}(l:M7 w A it s.heap)(h:codeAny (model prog w) A (.compLoop e k it acc env) R s)(hk:k<all.length):codeAny (model prog w) A (.compStart e k it acc env) R s:=by
 refine codeAny_of_tree ?_;rw[(CT.under A k it acc env).2];show wpAny _ _ (if(Code.compStart e k it acc env).isFrame then(compStart e k it acc env).onRaise (leaving env)else(compStart e k it acc env).onRaise (λx=>do noteFrame x env;standAt theWindowsPlace)) _ _ s;rw[(CT.code k it acc env).2];simp -iota only[AR,if_false];refine wpAny_notedAt ?_;unfold compStart;have hg:all[k]? = some all[k]:=AU hk;have ha:=(CT.sync _ (List.getElem_mem hk)).1;rw[CT.cl,hg];simp -iota only[Option.elim_some,ha,bne_self_eq_false,AR,if_false];refine wpAny_bind (wpAny_askSetting (wpAny_ite ?_));split
 .exact wpAny_pure (And.intro (CT.quiet _ _ _ _) h)
 .refine wpAny_bind (wpAny_rule ?_);exact wpAny_bind (wpAny_standAt (wpAny_bind (l s (.refl _) _ _ (wpAny_pure (And.intro (CT.quiet _ _ _ _) h)))))
theorem Rk{fp:CF}(l:JQ W h h')(n:∀b,W b->(∃o,h.get? b=some o)->¬fp b/\X b):Kp fp X X h h':=λb o q nt e=>
 ⟨l.at nt e λw=>by refine CB (n b w ⟨o,e⟩) ?_;intro a x;exact q.elim (λy=>absurd y a) λq=>q.elim (λy=>absurd x y) id,id⟩
theorem Off.plus{fp:CF}(o:Off c a):Off (c.plus fp) a:=⟨.inl o.1,o.2.1,o.2.2.1,o.2.2.2.1,o.2.2.2.2⟩
theorem bj(o:Off c a):¬Fx c a:=λq=>q.elim o.2.2.2.1 λzz=>by refine Bh zz ?_;clear zz;intro x e V;exact o.2.2.2.2 x e
theorem Ho(o:MK c a):¬Fx c a:=λq=>q.elim o.2.2.2.2.1 λzz=>by refine Bh zz ?_;clear zz;intro x e V;exact o.2.2.2.2.2 x e
theorem TA{target:Expr}{p:Pos}{B:Value->Sem α}{Q:α->Shared->Prop}(Fj:Ba c J target e ds)(F:Fr c J s.heap)(hf:∀x,foldedSetIterable e c.env x=pure x)(q:∀it fp h' tk,Le s.heap h'->(∀b,fp b->s.heap.get? b=none/\306<=b/\∃o,h'.get? b=some o)->Draws c.w c.A target it fp ds (DG c.X fp) h'->M7 c.w c.A it h'->wpAny (model prog c.w) c.A (B it) Q E {s with heap:=h',toks:=tk}) :
  wpAny (model prog c.w) c.A (eval e c.env >>= λx=>standAt p >>= λV=>foldedSetIterable e c.env x >>= λx=>holding [x] (pyIter x) >>= B) Q E s:=by
 refine wpAny_bind (wpAny_mono (Fj s F (λit s'=>wpAny (model prog c.w) c.A (B it) Q E s') E q) (λx s1 h1=>?_) λV V z=>z);exact wpAny_bind (wpAny_standAt (wpAny_bind (wpAny_of_eq (hf x) (wpAny_bind (wpAny_holding h1)))))
def Pl(e:Expr){O:Type}(T:Jj O)(em:Value->Env->Sem Unit)(S:Cx->Prop)(acc:Addr)(gs:Ec)(g:Comprehension)(k:Nat):Prop:=
 ∀(cc:Cx),S cc->∀(J J0:B3) (hx:Heap) (fp:CF) (it:Value) (ds:List (D×List O)),
   (∀d∈ds,Turn S T em g gs J d.1 d.2)->∀(s:Shared),Fr cc J0 hx->(∀b,fp b->MK cc b)->Fr (cc.plus fp) J s.heap->Draws cc.w cc.A g.target it fp (ds.map (·.1)) (DG cc.X fp) s.heap->
   ∀os,T.P cc.w (DG cc.X fp) s.heap acc os->Off cc acc->¬fp acc->os.length+(ds.flatMap (·.2)).length<=1000000->∀(R:Result->Shared->Prop),
   (∀h' tk,JQ (λb=>Fx cc b\/b=acc\/fp b) s.heap h'->Fr cc J h'->T.P cc.w cc.X h' acc (os++ds.flatMap (·.2))->R (.ok .next) {s with heap:=h',toks:=tk})->
   codeAny (model prog cc.w) cc.A (.compLoop e k it (.ref acc) cc.env) R s
theorem MO{all:Ec}{em:Value->Env->Sem Unit}(CT:Fq e all em){O:Type}(T:Jj O){S:Cx->Prop}(Sp:∀cc fp,S cc->S (Cx.plus cc fp))(acc:Addr)(gs:Ec)(g:Comprehension)(k:Nat)(hk:all.drop k=g::gs)(IH:∀g' fh,gs=g'::fh->Pl e T em S acc fh g' (k+1)):Pl e T em S acc gs g k:=
 λcc hS J J0 hx fp it ds hT s F0 hn F dr os tH Jt nf sz R hR=>by
  have Dw:k<all.length:=by apply Nat.lt_of_not_le;intro z;rw[List.drop_eq_nil_of_le z]at hk;cases hk
  have hg:all[k]? = some g:=by rw[<- List.head?_drop,hk];rfl
  have qH:all.drop (k+1)=gs:=by rw[<- List.drop_drop,hk];rfl
  have ha:=CT.sync g (AQ hg);refine codeAny_loop (CT.quiet _ _ _ _) (λn s1=>∃ZC TY h1 t1,ZC.length=n/\(∀d∈ZC,Turn S T em g gs J d.1 d.2)/\TY++ZC.flatMap (·.2)=os++ds.flatMap (·.2)/\s1={s with heap:=h1,toks:=t1}/\
   JQ (λb=>Fx cc b\/b=acc\/fp b) s.heap h1/\Fr (cc.plus fp) J h1/\Draws cc.w cc.A g.target it fp (ZC.map (·.1)) (DG cc.X fp) h1/\T.P cc.w (DG cc.X fp) h1 acc TY) (λn s1 hI=>?_) ds.length ⟨ds,os,s.heap,s.toks,rfl,hT,rfl,rfl,⟨λV V V V e=>e,id,λV V e V=>e⟩,F,dr,tH⟩
  refine q6 hI ?_;clear hI;rintro ZC TY h1 t1 hlen ft W4 rfl qf F1 c6 fY;rw[(CT.under cc.A k it (.ref acc) cc.env).1];show wpAny _ _ (if(Code.compLoop e k it (.ref acc) cc.env).isFrame then(compTurn e k it (.ref acc) cc.env).onRaise (leaving cc.env)else(compTurn e k it (.ref acc) cc.env).onRaise (λx=>do noteFrame x cc.env;theTreesLotGoes x)) _ _ _;rw[(CT.code k it (.ref acc) cc.env).1];simp -iota only[AR,if_false];refine wpAny_noted ?_;have kr:Kp fp (DG cc.X fp) (DG cc.X fp) h1 h1:=λb o q nt e=>⟨e,id⟩;have body:∀ {B:Sem Fin}{Q:Fin->Shared->Prop}{E:CG},
    (ZC=[]->∀h2 tk,JQ (λb=>Fx cc b\/b=acc\/fp b) s.heap h2->Fr cc J h2->T.P cc.w cc.X h2 acc TY->Q (.done .next) {s with heap:=h2,toks:=tk})->
    (∀d RJ,ZC=d::RJ->∀J' b,(∀p∈J,p∈J')->(b=false->d.2=[])->(b=true->Gens S T em gs J' d.2)->∀h2 tk,JQ (λb=>Fx cc b\/b=acc\/fp b) s.heap h2->Fr (cc.plus fp) J' h2->
     Draws cc.w cc.A g.target it fp (RJ.map (·.1)) (DG cc.X fp) h2->T.P cc.w (DG cc.X fp) h2 acc TY->
     wpAny (model prog cc.w) cc.A (if b=true then B else again (.compLoop e k it (.ref acc) cc.env)) Q E {s with heap:=h2,toks:=tk})->
    wpAny (model prog cc.w) cc.A (standAt g.iter.pos >>= λV=>pyNext it >>= λr=>match r with
     |none=>pure (.done .next)
     |some v=>letOwnedTupleGo g.target it v >>= λV=>assign g.target cc.env v >>= λV=>
      (forIn g.ifs true λe r=>if r=true then do let ok <- isTrue e cc.env (eval e cc.env);pure (ForInStep.yield ok)else pure (ForInStep.yield r)) >>= λok=>
      (if ok=true then B else again (.compLoop e k it (.ref acc) cc.env))) Q E {s with heap:=h1,toks:=t1}:=by
   intro B Q E q0 q1;refine wpAny_bind (wpAny_standAt (wpAny_bind ?_));cases ZC with
   |nil=>
    refine c6 _ _ kr (λb q=>.inr q) _ _ λh2 tk kk=>?_;have l2:JQ fp h1 h2:=⟨λb o V nf e=>kk b o (.inl nf) e,λtb=>tb.keep (λo e=>kk _ o (.inl λz=>absurd (hn _ z).2.1 (by decide)) e) λc o V e hc=>kk c o (.inr hc) e,λb o e z=>kk b o (.inr z) e⟩
    refine wpAny_pure (q0 rfl h2 tk (qf.trans (l2.any λa z=>.inr (.inr z))) (F0.drop F1 hn kk) (T.kn fY (λo e=>kk _ o (.inl nf) e) λb o q nt e=>⟨kk b o (.inl λz=>q (.inr z)) e,λz=>q (.inl z)⟩))
   |cons d RJ=>
    refine wpAny_mono (c6 _ _ kr (λb q=>.inr q) F1.Cj F1.base.tab _ _ λv h2 tk l2 r2 NJ=>(?_:(λv s2=>wpAny (model prog cc.w) cc.A (assign g.target cc.env v >>= λV=>
      (forIn g.ifs true λe r=>if r=true then do let ok <- isTrue e cc.env (eval e cc.env);pure (ForInStep.yield ok)else pure (ForInStep.yield r)) >>= λok=>
      (if ok=true then B else again (.compLoop e k it (.ref acc) cc.env))) Q E s2) v _)) (λr s2 hr=>?_) λV V z=>z
    .refine Qe (ft d (.head _)) ?_;intro J' b D7 hb hi hf ht;have F2:=F1.off l2 λa q=>(hn a q).off q;have Jl:=T.kn fY (λo e=>l2.keep _ o (λz=>absurd (z▸Jt.1) F0.Cj.nt) nf e) (Kn.le l2 λb q=>.inr q);refine wpAny_bind (hb _ (Sp cc fp hS) v {s with heap:=h2,toks:=tk} F2 r2 _ _ λV h3 t3 l3 F3=>?_);have L8:JQ (Fx cc) h2 h3:=Bt.ZY l3;have Up:=NJ.mv (Rk L8 λb w V=>⟨λz=>Ho (hn b z) w,F2.fx w⟩);have VK:=T.kn Jl (λo e=>l3.keep _ o (λz=>absurd (z▸Jt.1) F0.Cj.nt) (bj (Jt.plus (fp:=fp))) e) (Kn.le l3 λb q=>F2.fx q);refine wpAny_bind (hi _ (Sp cc fp hS) _ F3 _ _ λok h4 t4 l4 e4=>?_);subst e4;have UD:Le h3 h4:=l4;exact q1 d RJ rfl J' ok D7 hf ht h4 t4 (((qf.trans (l2.ZY.any λa z=>.inr (.inr z))).trans (L8.any λa z=>.inl z)).trans (UD.ZY.any λa z=>z.elim)) (F3.le UD)
      (Up.mv (Rk UD.ZY λb w V=>w.elim)) (T.kn VK (λo e=>UD.keep _ o (λz=>absurd (z▸Jt.1) F0.Cj.nt) id e) (Kn.le UD λb q=>q.elim))
    .refine Bh hr ?_;clear hr;rintro v rfl hv;exact wpAny_bind hv
  cases gs with
  |nil=>
   rw[CT.last k it (.ref acc) cc.env g hg ha.1 (by rw[<- List.head?_drop,qH];rfl)];refine body (λe h2 tk l2 F2 Jl=>?_) (λd RJ e J' b D7 hf ht h2 t2 l2 F2 NJ Jl=>?_)
   .subst e;rw[List.flatMap_nil,List.append_nil]at W4;exact hR h2 tk l2 F2 (W4▸Jl)
   .subst e;cases b with
    |false=>
     simp -iota only[AR,if_false];exact wpAny_pure ⟨rfl,RJ.length,by rw[<- hlen];exact Nat.lt_succ_self _,RJ,TY,h2,t2,rfl,λd hd=>ft d (.tail _ hd),by rw[<- W4,AX,hf rfl];rfl,rfl,l2,F2.sub D7,NJ,Jl⟩
    |true=>
     simp -iota only[if_true];refine Bh (ht rfl) ?_;intro o ho tq;have vr:TY.length<=1000000:=by
      have:=congrArg List.length W4;simp -iota only[Ac]at this;omega
     refine wpAny_bind (tq _ (Sp cc fp hS) acc TY {s with heap:=h2,toks:=t2} F2 Jt.plus Jl vr _ _ λV h3 t3 l3 VK=>?_);have L8:Bt (·=acc) h2 h3:=l3;exact wpAny_pure ⟨rfl,RJ.length,by rw[<- hlen];exact Nat.lt_succ_self _,RJ,TY++[o],h3,t3,rfl,λd hd=>ft d (.tail _ hd),by rw[<- W4,AX,ho,List.append_assoc],rfl,
      l2.trans (L8.ZY.any λa z=>.inr (.inl z)),(F2.off L8 λa z=>z▸Jt.plus).sub D7,NJ.mv (Rk L8.ZY λb w V=>⟨λz=>nf (w▸z),.inl (w▸Jt.1)⟩),VK⟩
  |cons g' fh=>
   have mm:all[k+1]? = some g':=by rw[<- List.head?_drop,qH];rfl
   have qA:=CT.sync g' (AQ mm);rw[CT.more k it (.ref acc) cc.env g g' hg ha.1 mm qA.1];refine body (λe h2 tk l2 F2 Jl=>?_) (λd RJ e J' b D7 hf ht h2 t2 l2 F2 NJ Jl=>?_)
   .subst e;rw[List.flatMap_nil,List.append_nil]at W4;exact hR h2 tk l2 F2 (W4▸Jl)
   .subst e;cases b with
    |false=>
     simp -iota only[AR,if_false];exact wpAny_pure ⟨rfl,RJ.length,by rw[<- hlen];exact Nat.lt_succ_self _,RJ,TY,h2,t2,rfl,λd hd=>ft d (.tail _ hd),by rw[<- W4,AX,hf rfl];rfl,rfl,l2,F2.sub D7,NJ,Jl⟩
    |true=>
     simp -iota only[if_true];refine EI (ht rfl) ?_;intro sS Fj dG FF;refine TA (c:=Cx.plus cc fp) (Fj _ (Sp cc fp hS)) (s:={s with heap:=h2,toks:=t2}) F2 (λx=>qA.2 _ x) λdK aQ h3 t3 l3 n3 Up iq=>?_
     .have L8:Le h2 h3:=l3;have u4:∀b,aQ b->MK (cc.plus fp) b:=λb q=>F2.new (n3 b q).1 (n3 b q).2.1;have F3:Fr ((cc.plus fp).plus aQ) J' h3:=F2.plus L8 n3;have RA:=T.live Jl;have iH:¬aQ acc:=λq=>by refine B5 RA ?_;clear RA;intro o eo;exact by rw[(n3 _ q).1]at eo;cases eo
      have VK:T.P cc.w (DG (DG cc.X fp) aQ) h3 acc TY:=T.kn Jl (λo e=>L8.keep _ o (λz=>absurd (z▸Jt.1) F0.Cj.nt) id e)
       λb o q nt e=>⟨L8.keep b o nt id e,λz=>z.elim q λz=>by rw[(n3 b z).1]at e;cases e⟩
      have Jo:k+1<all.length:=(AP.mp mm).1;refine wpAny_bind (wpAny_runOwn (Ke CT (A:=cc.A) iq (IH g' fh rfl (cc.plus fp) (Sp cc fp hS) J' J' h2 aQ dK sS FF {s with heap:=h3,toks:=t3} F2 u4 F3 Up TY VK Jt.plus iH ?_ _ λh4 t4 l4 F4 mM=>?_) Jo))
      .have:=congrArg List.length W4;simp -iota only[Ac,AX,dG]at this;omega
      .have UD:JQ (λb=>Fx cc b\/b=acc\/aQ b) h3 h4:=l4;have gn:JQ (λb=>Fx cc b\/b=acc) h2 h4:=((L8.ZY.any (W':=λb=>Fx cc b\/b=acc\/aQ b) λa z=>z.elim).trans UD).fresh λa q=>q.elim (λq=>.inl (.inl q)) λq=>q.elim (λq=>.inl (.inr q)) λq=>.inr (n3 a q).1;refine wpAny_pure ⟨rfl,RJ.length,by rw[<- hlen];exact Nat.lt_succ_self _,RJ,TY++d.2,h4,t4,rfl,λd hd=>ft d (.tail _ hd),by rw[<- W4,AX,List.append_assoc],rfl,
        l2.trans (gn.any λa z=>z.imp_right .inl),F4.sub D7,NJ.mv (Rk gn λb w V=>w.elim (λw=>⟨λz=>Ho (hn b z) w,F2.fx w⟩) λw=>⟨λz=>nf (w▸z),.inl (w▸Jt.1)⟩),dG▸mM⟩
theorem Sh{all:Ec}{em:Value->Env->Sem Unit}(CT:Fq e all em){O:Type}(T:Jj O){S:Cx->Prop}(Sp:∀cc fp,S cc->S (Cx.plus cc fp))(acc:Addr) :
  ∀(gs:Ec) (g:Comprehension) (k:Nat),all.drop k=g::gs->Pl e T em S acc gs g k:=by
 intro l;induction l with
 |nil=>exact λg k hk=>MO CT T Sp acc [] g k hk λV V e=>by cases e
 |cons g2 gs ih=>
  exact λg k hk=>MO CT T Sp acc (g2::gs) g k hk λg' fh e=>by
   cases e;exact ih g2 (k+1) (by rw[<- List.drop_drop,hk];rfl)
noncomputable def FX(cells:List (Str×Addr))(names:List (Str×NameKind))(acc:List (Str×Addr)):List (Str×Addr):=
 names.foldl (λcs p=>if p.2==.free then(p.1,(cells.lookup p.1).getD 0)::cs else cs) acc
theorem HV{env:Env}(hf:∀p∈scope.names,p.2=.free->(env.cells.lookup p.1).isSome=true):closureFor scope env=pure (FX env.cells scope.names []):=by
 have key:∀(names:List (Str×NameKind)) (acc:List (Str×Addr)),(∀p∈names,p.2=.free->(env.cells.lookup p.1).isSome=true)->
   (forIn names acc λp (cs:List (Str×Addr))=>(if p.2==.free then(do let a <- cellOf env p.1;pure (.yield ((p.1,a)::cs)))else pure (.yield cs):Sem (ForInStep (List (Str×Addr)))))=pure (FX env.cells names acc):=by
  intro names;induction names with
  |nil=>intro acc V;rw[List.forIn_nil];rfl
  |cons p r ih=>
   intro acc hp;rw[List.forIn_cons];have qP:=λacc=>ih acc λq hq=>hp q (.tail _ hq);by_cases hk:p.2=.free
   .refine B5 (A6.mp (hp p (.head _) hk)) ?_;intro a ha;have hc:cellOf env p.1=pure a:=by unfold cellOf;rw[ha]
    simp only[hk,beq_self_eq_true,if_true,hc,pure_bind];rw[qP];unfold FX;rw[As];simp only[hk,beq_self_eq_true,if_true,ha,Option.getD_some]
   .have Ma:(p.2==NameKind.free)=false:=by simpa using hk
    simp only[Ma,AR,if_false,pure_bind];rw[qP];unfold FX;rw[As];simp only[Ma,AR,if_false]
 exact(congrArg (λm:Sem (List (Str×Addr))=>m >>= λcs=>pure cs) (key scope.names [] hf)).trans (pure_bind _ _)
theorem Uh(cells:List (Str×Addr)):∀(names:List (Str×NameKind)) (acc:List (Str×Addr)),
  (∀x a,(FX cells names acc).lookup x=some a->acc.lookup x=some a\/((x,NameKind.free)∈names/\(cells.lookup x).getD 0=a))/\
  (∀x,(x,NameKind.free)∈names\/acc.lookup x=some ((cells.lookup x).getD 0)->(FX cells names acc).lookup x=some ((cells.lookup x).getD 0)):=by
 intro l;induction l with
 |nil=>exact λacc=>⟨λx a e=>.inl e,λx m=>m.elim (λm=>by cases m) id⟩
 |cons p0 r ih=>
  obtain⟨n,k⟩:=p0;intro acc;have e:FX cells ((n,k)::r) acc=FX cells r (if k==.free then(n,(cells.lookup n).getD 0)::acc else acc):=rfl;rw[e];refine CB (ih (if k==.free then(n,(cells.lookup n).getD 0)::acc else acc)) ?_;intro h1 h2;refine⟨λx a q=>?_,λx m=>h2 x ?_⟩
  .rcases h1 x a q with q|⟨q,q'⟩
   .by_cases hk:(k==NameKind.free)=true
    .rw [if_pos hk,AK]at q;cases hb:x==n with
     |true=>
      rw[hb]at q;cases q;have:=beq_iff_eq.mp hb;subst this;exact .inr ⟨by rw[beq_iff_eq.mp hk];exact .head _,rfl⟩
     |false=>rw[hb]at q;exact .inl q
    .rw [if_neg hk]at q;exact .inl q
   .exact .inr ⟨.tail _ q,q'⟩
  .rcases m with m|m
   .rcases AJ.mp m with e|m
    .cases e;right;simp
    .exact .inl m
   .right;split
    .rw [AK];cases hb:x==n with
     |true=>rw[beq_iff_eq.mp hb]
     |false=>exact m
    .exact m
theorem NA:∀(names:List (Str×NameKind)) (h:Heap) (acc:List (Str×Addr)),
  (∀x a,(cellsFrom h.objs.size names acc).lookup x=some a->acc.lookup x=some a\/((x,NameKind.cell)∈names/\h.objs.size<=a/\(pushCells h names).IsCell a none))/\
  (∀x,(x,NameKind.cell)∈names\/(∃a,acc.lookup x=some a/\h.objs.size<=a)->∃a,(cellsFrom h.objs.size names acc).lookup x=some a/\h.objs.size<=a)/\
  (∀x,(x,NameKind.cell)∉names->(cellsFrom h.objs.size names acc).lookup x=acc.lookup x)/\
  ((∀x a,acc.lookup x=some a->a<h.objs.size)->(∀x y a,acc.lookup x=some a->acc.lookup y=some a->x=y)->
   ∀x y a,(cellsFrom h.objs.size names acc).lookup x=some a->(cellsFrom h.objs.size names acc).lookup y=some a->x=y):=by
 intro names;induction names with
 |nil=>exact λh acc=>⟨λx a e=>.inl e,λx m=>m.elim (λm=>by cases m) id,λV V=>rfl,λV i=>i⟩
 |cons p r ih=>
  intro h acc;obtain⟨n,k⟩:=p;unfold cellsFrom pushCells;by_cases hk:(k==NameKind.cell)=true
  .rw [if_pos hk,if_pos hk];have Ma:=beq_iff_eq.mp hk;refine Ht (ih (h.push {cls:=.type "cell",data:=.cell none}) ((n,h.objs.size)::acc)) ?_;intro h1 h2 h3 h4;rw[Heap.size_push]at h1 h2 h3 h4;refine⟨λx a q=>?_,λx m=>?_,λx m=>?_,λlt inj=>h4 (λx a e=>?_) (λx y a e e'=>?_)⟩
   .rcases h1 x a q with q|⟨q,q',vR⟩
    .rw [AK]at q;cases hb:x==n with
     |true=>
      rw[hb]at q;cases q;rw[beq_iff_eq.mp hb,Ma];exact .inr ⟨.head _,Ad _,_,pushCells_keeps r _ _ _ (AH _ rfl),rfl⟩
     |false=>rw[hb]at q;exact .inl q
    .exact .inr ⟨.tail _ q,by exact A5 q',vR⟩
   .rcases m with m|⟨a,ea,la⟩
    .rcases AJ.mp m with e|m
     .cases e.symm;by_cases hm:(n,NameKind.cell)∈r
      .refine Bh (h2 n (.inl hm)) ?_;intro a ea la;exact⟨a,ea,by exact A5 la⟩
      .exact ⟨h.objs.size,by rw[h3 n hm];simp,Ad _⟩
     .refine Bh (h2 x (.inl m)) ?_;intro a ea la;exact⟨a,ea,by exact A5 la⟩
    .by_cases hm:(x,NameKind.cell)∈r
     .refine Bh (h2 x (.inl hm)) ?_;intro a ea la;exact⟨a,ea,by exact A5 la⟩
     .rw [h3 x hm,AK];cases hb:x==n with
      |true=>exact⟨_,rfl,Ad _⟩
      |false=>exact⟨a,ea,la⟩
   .rw [h3 x λz=>m (.tail _ z),AK];cases hb:x==n with
    |true=>exact absurd (by rw[beq_iff_eq.mp hb,Ma];exact .head _) m
    |false=>rfl
   .rw [AK]at e;cases hb:x==n with
    |true=>rw[hb]at e;cases e;exact Nat.lt_succ_self _
    |false=>rw[hb]at e;exact Nat.lt_succ_of_lt (lt x a e)
   .rw [AK]at e e';cases hb:x==n with
    |true=>
     rw[hb]at e;cases e;cases Ph:y==n with
     |true=>rw[beq_iff_eq.mp hb,beq_iff_eq.mp Ph]
     |false=>rw[Ph]at e';exact absurd (lt _ _ e') (Aa _)
    |false=>
     rw[hb]at e;cases Ph:y==n with
     |true=>rw[Ph]at e';cases e';exact absurd (lt _ _ e) (Aa _)
     |false=>rw[Ph]at e';exact inj x y a e e'
  .rw [if_neg hk,if_neg hk];have Ma:k≠NameKind.cell:=λz=>hk (by rw[z];rfl);refine Ht (ih h acc) ?_;intro h1 h2 h3 h4;refine⟨λx a q=>(h1 x a q).imp_right λzz=>by refine CB zz ?_;clear zz;intro a b;exact⟨.tail _ a,b⟩,λx m=>h2 x (m.imp_left λm=>?_),λx m=>h3 x λz=>m (.tail _ z),h4⟩;rcases AJ.mp m with e|m
   .cases e;exact absurd rfl Ma
   .exact m
noncomputable def Cx.comp(c:Cx)(Ci:Env)(X':CF)(h:Heap):Cx:=
 {c with env:=Ci,X:=X',own:=λx=>∃b,Ci.cells.lookup x=some b/\h.get? b=none,h0:=h,M:=Hu,ro:=True}
theorem Fr.comp(F:Fr c J h)(l:Le h h'){Ci:Env}(hX:∀b,c.X b->X' b)(hN:∀b,X' b->c.X b\/(h.get? b=none/\306<=b/\∃o,h'.get? b=some o))(k:Ci.scope.kind=.function)(g:Ci.globals=3)(bl:Ci.builtins=0)(L:X' Ci.locals/\h.get? Ci.locals=none/\∃m,h'.Ns Ci.locals m)(cl:∀x a,Ci.cells.lookup x=some a->c.env.cells.lookup x=some a\/(h.get? a=none/\X' a/\a≠Ci.locals/\a≠TP/\∃v,h'.IsCell a v))(inj:∀x y a,Ci.cells.lookup x=some a->Ci.cells.lookup y=some a->x=y)(nm:∀p∈J0,p∈J/\(c.env.kindOf p.1=some .cell\/c.env.kindOf p.1=some .free)/\(Ci.kindOf p.1=some .cell\/Ci.kindOf p.1=some .free)/\Ci.cells.lookup p.1=c.env.cells.lookup p.1) :
  Fr (c.comp Ci X' h) J0 h':=
 have F':=F.le l
 {base:=F'.base
  Cj:=λa q=>(hN a q).elim (λq=>F'.Cj a q) λq=>q.2
  kind:=k,glob:=g,blt:=bl,ok:=F.ok
  old:=l
  loc:=L
  Ez:=λx a e=>by
   rcases cl x a e with e'|⟨a1,a2,a3,a4,a5⟩
   .refine Ht (F.Ez x a e') ?_;intro b1 b2 Cq b4;refine B5 Cq ?_;intro v b3;have lv:∃o,h.get? a=some o:=by refine Bh b3 ?_;clear b3;intro o e V;exact⟨o,e⟩
    refine⟨λz=>?_,b2,⟨v,B0 b3 λo z=>l.keep _ o b2 id z⟩,λzz=>?_⟩
    .refine B5 lv ?_;clear lv;intro o eo;have z':a=Ci.locals:=z;rw[z',L.2.1]at eo;cases eo
    .refine Bh zz ?_;clear zz;intro b eb nb;refine B5 lv ?_;clear lv;intro o eo;have ZD:Ci.cells.lookup x=some b:=eb;have e2:Ci.cells.lookup x=some a:=e;rw[e2]at ZD;cases ZD;rw[nb]at eo;cases eo
   .exact ⟨a3,a4,a5,λV=>⟨a2,a1⟩⟩
  apart:=inj
  names:=λx d m=>by
   refine Ht (nm _ m) ?_;intro m' k1 k2 e;refine Bh (F.names x d m') ?_;intro v Du r;refine CB Du ?_;intro hp H;refine⟨v,⟨hp,.inr ?_⟩,(r.move (ES λb q=>(hN b q).imp_right λq=>q.1)).le l⟩;rcases H with⟨kl,_⟩|⟨a,ka,ea,na,ca⟩
   .rcases k1 with k1|k1<;>(rw[kl]at k1;cases k1)
   .exact ⟨a,k2,e.trans ea,na,B0 ca λo z=>l.keep _ o na id z⟩
  g:=c.G.mv F.g λb o q nt e=>⟨l.keep b o nt id e,λnx z=>(hN b z).elim nx λz=>by rw[z.1]at e;cases e⟩
  gx:=λb q=>by
   refine FO (F.gx b q) ?_;intro HU a2 a3;refine CB HU ?_;intro a1 V;obtain⟨_,o,lv⟩:=F.Cj b a1;refine⟨⟨hX b a1,.inl trivial⟩,λz=>?_,λx e=>?_⟩
   .have z':b=Ci.locals:=z;rw[z',L.2.1]at lv;cases lv
   .rcases cl x b e with e'|⟨b1,_⟩
    .exact a3 x e'
    .rw [b1]at lv;cases lv}
structure C8(c:Cx)(J:B3)(scope:Scope)(J0:B3):Prop where
 kind:scope.kind=.function
 uniq:∀p∈scope.names,scope.names.lookup p.1=some p.2
 free:∀p∈scope.names,p.2=.free->(∃d,(p.1,d)∈J)/\(c.env.kindOf p.1=some .cell\/c.env.kindOf p.1=some .free)
 names:∀p∈J0,p∈J/\scope.names.lookup p.1=some .free
theorem IM{env:Env}(h:scope.names.lookup x=some .free):(relabel scope env).names.lookup x=some .cell\/(relabel scope env).names.lookup x=some .free:=by
 unfold relabel;dsimp only;generalize scope.names=names at h ⊢;induction names with
 |nil=>cases h
 |cons p r ih=>
  obtain⟨n,k⟩:=p;rw[AK]at h;rw[AI];cases hb:x==n with
  |true=>
   rw[hb]at h;cases h;dsimp only;split
   .left;rw[AK,hb]
   .right;rw[AK,hb]
  |false=>
   rw[hb]at h;have:=ih h;dsimp only;split<;>(rw[AK,hb];exact this)
theorem MF{env:Env}{k:NameKind}(h:scope.names.lookup x=some k)(nf:k≠.free):(relabel scope env).names.lookup x=some k:=by
 unfold relabel;dsimp only;generalize scope.names=names at h ⊢;induction names with
 |nil=>cases h
 |cons p r ih=>
  obtain⟨n,k'⟩:=p;rw[AK]at h;rw[AI];cases hb:x==n with
  |true=>
   rw[hb]at h;cases h.symm;have hk:(k==NameKind.free)=false:=by simpa using nf
   dsimp only;rw[hk];simp only[Bool.false_and,AR,if_false];rw[AK,hb]
  |false=>
   rw[hb]at h;have:=ih h;dsimp only;split<;>(rw[AK,hb];exact this)
theorem Sub.kind(s:Sub c cc scope){k:NameKind}(h:scope.names.lookup x=some k)(nf:autoParam (k≠.free) Fi):cc.env.kindOf x=some k:=by
 unfold Env.kindOf;rw[s.sc];exact MF h nf
theorem C8.some(CO:C8 c J scope J0)(F:Fr c J h):∀p∈scope.names,p.2=.free->(c.env.cells.lookup p.1).isSome=true:=λp m e=>by
 refine CB (CO.free p m e) ?_;intro Jh k;refine B5 Jh ?_;intro d md;refine Bh (F.names _ d md) ?_;intro v Wz V;refine CB Wz ?_;intro V H;rcases H with⟨kl,_⟩|⟨a,_,ea,_⟩
 .rcases k with k|k<;>(rw[kl]at k;cases k)
 .rw [ea];rfl
theorem Fu{g:Comprehension}{gs:Ec}{em:Value->Env->Sem Unit}(CT:Fq e (g::gs) em){O:Type}(T:Jj O){newAcc:Sem Value}{o0:Obj}(aq:∀(M:Model) (A:Around) (s:Shared) (Q:CG) (E:CG),Q (.ref s.heap.objs.size) {s with heap:=s.heap.push o0}->wpAny M A newAcc Q E s)(fo:o0.isFreed=false)(T0:∀w X h a,h.get? a=some o0->¬a=sysModules->T.P w X h a [])(CO:C8 c J scope J0){use:Option (Value->Sem Unit)}{ds:List (D×List O)}(Fj:Ba c J g.target g.iter (ds.map (·.1)))(FF:∀d∈ds,Turn (λcc=>Sub c cc scope) T em g gs J0 d.1 d.2)(sz:(ds.flatMap (·.2)).length<=1000000)(F:Fr c J s.heap)(q:∀acc C h' tk m,s.heap.get? acc=none->s.heap.get? C=none->306<=acc->306<=C->acc≠C->acc≠TP->C≠TP->Le s.heap h'->h'.Ns C m->T.P c.w (DG c.X (·=C)) h' acc (ds.flatMap (·.2))->compPost (model prog c.w) c.A E use Q (.ref acc) C (.ok .next) {s with heap:=h',toks:=tk}) :
  wpAny (model prog c.w) c.A (comprehension e scope c.env pos newAcc false (eval g.iter c.env) use) Q E s:=by
 refine wpAny_comprehension_free CT.cl (λx=>(CT.sync g (.head _)).2 _ x) (HV (CO.some F)) CO.kind (λx hx hl=>by rw[CO.uniq x hx,hl]) ?_;refine Fj s F _ _ λit fp h2 t2 l2 n2 NJ ik=>aq _ _ _ _ _ ?_;have F2:Fr c J h2:=F.le l2;have SO:=F2.base.tab;have XK:=B6 F2.base;dsimp only;generalize Sy:h2.objs.size=acc at *;have l3:Le h2 (h2.push o0):=Le.push _ _;generalize jn:h2.push o0=h3 at *;have e3:h3.get? acc=some o0:=by rw[<- jn,<- Sy];exact AH _ fo
 have s3:h3.objs.size=acc+1:=by rw[<- jn,Heap.size_push,Sy]
 have iD:h2.get? acc=none:=by rw[<- Sy];exact Bm _
 have Rz:acc≠TP:=by rw[<- Sy];exact B4 SO
 have rL:=l3.tab SO;unfold newFunctionEnv;refine wpAny_bind (wpAny_alloc ?_);dsimp only;have l4:Le h3 (h3.push {cls:=.type "dict",data:=.dict #[]}):=Le.push _ _;have OD:h3.objs.size≠TP:=B4 rL;have u5:h3.get? h3.objs.size=none:=Bm _;have eC:(h3.push {cls:=.type "dict",data:=.dict #[]}).get? h3.objs.size=some {cls:=.type "dict",data:=.dict #[]}:=AH _ rfl;have s4:(h3.push {cls:=.type "dict",data:=.dict #[]}).objs.size=acc+2:=by rw[Heap.size_push,s3]
 generalize hC:h3.objs.size=C at *;simp only[Option.isSome_some,if_true];generalize jo:h3.push {cls:=.type "dict",data:=.dict #[]}=h4 at *;have gm:Le h2 h4:=Bt.trans l3 l4;have fm:acc<C:=by rw[s3];exact Nat.lt_succ_self _
 have mU:C<h4.objs.size:=by rw[s4,s3];exact Nat.lt_succ_self _
 have jk:acc<h4.objs.size:=Nat.lt_trans fm mU;have Zw:306<=C:=AD XK (A4 fm);have lG:306<=h4.objs.size:=AD Zw (A4 mU);have rM:=gm.tab SO;refine wpAny_bind (wpAny_layCells _ (λname kind cells=>rfl) _ _ _ _ ?_);dsimp only;refine Ht (NA scope.names h4 (FX c.env.cells scope.names [])) ?_;intro c1 c2 c3 c4;refine CB (Uh c.env.cells scope.names []) ?_;intro d1 d2;have l5:Le h4 (pushCells h4 scope.names):=Le.of λb o e=>pushCells_keeps _ _ _ _ e;generalize cellsFrom h4.objs.size scope.names (FX c.env.cells scope.names [])=cs at *;generalize pushCells h4 scope.names=h5 at *;have big:∀ {h:Heap}{a:Addr},h.objs.size<=a->h.get? a=none:=λ{h a} le=>by
  cases e:h.get? a with
  |none=>rfl
  |some o=>exact absurd (Ag e) (Nat.not_lt.mpr le)
 have XN:∀x a,(FX c.env.cells scope.names []).lookup x=some a->c.env.cells.lookup x=some a:=λx a e=>by
  rcases d1 x a e with z|⟨m,e'⟩
  .cases z
  .refine B5 (A6.mp (CO.some F _ m rfl)) ?_;intro b eb;have ZD:c.env.cells.lookup x=some b:=eb;rw[ZD]at e' ⊢;exact congrArg some e'
 have jx:Le s.heap h4:=Bt.trans l2 gm;have qW:Le s.heap h5:=Bt.trans jx l5;have qo:∀ {h:Heap}{a:Addr},Tab h->h.get? a=none->a≠TP:=λtb e q=>by refine Bh tb ?_;clear tb;intro ps e' V;rw[q]at e;rw[e]at e';cases e'
 have Tr:s.heap.get? acc=none:=Bw l2 Rz iD;have sC:s.heap.get? C=none:=Bw (Bt.trans l2 l3:Le s.heap h3) OD u5;have d7:acc≠C:=by rw[s3];exact Nat.ne_of_lt (Nat.lt_succ_self _)
 have IA:∀x a,cs.lookup x=some a->c.env.cells.lookup x=some a\/(s.heap.get? a=none/\h4.objs.size<=a/\a≠C/\a≠acc/\a≠TP/\h5.IsCell a none):=λx a e=>by
  rcases c1 x a e with e|⟨_,la,ca⟩
  .exact .inl (XN x a e)
  .have na:=qo rM (big la);exact .inr ⟨Bw jx na (big la),la,λz=>Aa _ (Ai mU (z▸la)),λz=>Aa _ (Ai jk (z▸la)),na,ca⟩
 have live:∀x a,c.env.cells.lookup x=some a->a<h4.objs.size/\∃o,s.heap.get? a=some o:=λx a e=>by
  refine Ht (F.Ez x a e) ?_;intro V nt jL V;refine Fp jL ?_;intro v o eo V;exact⟨Ag (jx.keep _ o nt id eo),o,eo⟩
 have inj:=c4 (λx a e=>(live x a (XN x a e)).1) λx y a e e'=>F.apart x y a (XN x a e) (XN y a e');rw[List.forIn_nil];refine wpAny_bind (wpAny_pure (wpAny_pure ?_));dsimp only;let Ci:Env:={scope:=relabel scope c.env,locals:=C,globals:=c.env.globals,cells:=cs,qual:=c.env.qual,code:=c.env.code,frame:=c.env.frame,builtins:=c.env.builtins}
 let N1:Addr->Prop:=λb=>b=acc\/b=C\/∃x,cs.lookup x=some b/\s.heap.get? b=none;have pU:∀(X':CF),(∀b,c.X b->X' b)->(∀b,X' b->c.X b\/(s.heap.get? b=none/\306<=b/\∃o,h5.get? b=some o))->X' C->(∀x b,cs.lookup x=some b->s.heap.get? b=none->X' b)->Fr (c.comp Ci X' s.heap) J0 h5:=λX' hX hN hC hc=>
  F.comp qW hX hN CO.kind F.glob F.blt ⟨hC,sC,_,⟨_,_,_,l5.keep _ _ OD id eC,rfl,λe he=>absurd he (by simp),λn=>rfl⟩⟩ (λx a e=>(IA x a e).imp_right λzz=>by refine oC zz ?_;clear zz;intro a1 a2 a3 a4 a5 a6;exact⟨a1,hc x a e a1,a3,a5,_,a6⟩) inj λp hp=>by
   refine CB (CO.names p hp) ?_;intro m lk;have mf:(p.1,NameKind.free)∈scope.names:=lookup_mem lk;have hs:=CO.some F _ mf rfl;refine B5 (A6.mp hs) ?_;intro b eb;have ZD:c.env.cells.lookup p.1=some b:=eb;refine⟨m,(CO.free _ mf rfl).2,IM lk,?_⟩;show cs.lookup p.1=_;have nc:(p.1,NameKind.cell)∉scope.names:=λz=>by
    have u:=CO.uniq _ z;rw[show scope.names.lookup (p.1,NameKind.cell).1=some .free from lk]at u;cases u
   exact(c3 p.1 nc).trans ((d2 p.1 (.inl mf)).trans (by rw[ZD];rfl))
 have n1:∀b,N1 b->s.heap.get? b=none/\306<=b/\∃o,h5.get? b=some o:=λb q=>by
  rcases q with rfl|rfl|⟨x,e,nb⟩
  .exact ⟨Tr,XK,_,(Bt.trans l4 l5:Le h3 h5).keep _ _ Rz id e3⟩
  .exact ⟨sC,Zw,_,l5.keep _ _ OD id eC⟩
  .rcases IA x b e with e'|⟨a1,a2,_,_,_,o,eo,_⟩
   .obtain ⟨_,o,eo⟩:=live x b e';rw[nb]at eo;cases eo
   .exact ⟨nb,AD lG a2,o,eo⟩
 have F5:=pU (DG c.X N1) (λb q=>.inl q) (λb q=>q.imp_right (n1 b)) (.inr (.inr (.inl rfl))) λx b e nb=>.inr (.inr (.inr ⟨x,e,nb⟩));have ZL:∀b,fp b->b<acc/\∃o,h5.get? b=some o:=λb q=>by
  obtain⟨_,_,o,eo⟩:=n2 b q;exact⟨Sy▸Ag eo,o,(Bt.trans gm l5:Le h2 h5).keep _ _ (λz=>absurd (z▸(n2 b q).2.1) (by decide)) id eo⟩
 have rf:Fr ((c.comp Ci (DG c.X N1) s.heap).plus fp) J0 h5:=pU (DG (DG c.X N1) fp) (λb q=>.inl (.inl q))
  (λb q=>q.elim (λq=>q.imp_right (n1 b)) λq=>.inr ⟨(n2 b q).1,(n2 b q).2.1,(ZL b q).2⟩) (.inl (.inr (.inr (.inl rfl)))) λx b e nb=>.inl (.inr (.inr (.inr ⟨x,e,nb⟩)))
 have aq:∀b,fp b->MK (c.comp Ci (DG c.X N1) s.heap) b:=λb q=>by
  obtain⟨b1,b2,o2,b3⟩:=n2 b q;refine CB (ZL b q) ?_;intro b4 b5;refine⟨λz=>?_,b2,b1,λz=>?_,λz=>?_,λx e=>?_⟩
  .rcases z with z|rfl|rfl|⟨x,e,nb⟩
   .obtain ⟨_,o,eo⟩:=F.Cj b z;rw[b1]at eo;cases eo
   .exact Aa _ b4
   .exact Aa _ (Nat.lt_trans b4 fm)
   .rcases IA x b e with e'|⟨_,a2,_⟩
    .obtain ⟨_,o,eo⟩:=live x b e';rw[b1]at eo;cases eo
    .exact Aa _ (Ai (Nat.lt_trans b4 jk) a2)
  .obtain ⟨_,o,eo⟩:=F.Cj b (F.gx b z).1.1;rw[b1]at eo;cases eo
  .have z':b=C:=z;rw[z']at b4;exact Aa _ (Nat.lt_trans b4 fm)
  .rcases IA x b e with e'|⟨_,a2,_⟩
   .obtain ⟨_,o,eo⟩:=live x b e';rw[b1]at eo;cases eo
   .exact Aa _ (Ai (Nat.lt_trans b4 jk) a2)
 have sR:Draws c.w c.A g.target it fp (ds.map (·.1)) (DG (DG c.X N1) fp) h5:=NJ.mv λb o q nt e=>⟨(Bt.trans gm l5:Le h2 h5).keep _ o nt id e,λz y=>y.elim (λy=>y.elim (λy=>z (.inl y)) λy=>by
  have Dw:b<acc:=Sy▸Ag e;rcases y with rfl|rfl|⟨x,ex,nb⟩
  .exact Aa _ Dw
  .exact Aa _ (Nat.lt_trans Dw fm)
  .rcases IA x b ex with e'|⟨_,a2,_⟩
   .obtain ⟨_,o,eo⟩:=live x b e';rw[nb]at eo;cases eo
   .exact Aa _ (Ai (Nat.lt_trans Dw jk) a2)) λy=>z (.inr y)⟩
 have Jt:Off (c.comp Ci (DG c.X N1) s.heap) acc:=by
  refine⟨.inr (.inl rfl),.inr Tr,λz=>?_,d7,λx e=>?_⟩
  .obtain ⟨_,o,eo⟩:=F.Cj acc (F.gx acc z).1.1;rw[Tr]at eo;cases eo
  .rcases IA x acc e with e'|⟨_,_,_,a4,_⟩
   .obtain ⟨_,o,eo⟩:=live x acc e';rw[Tr]at eo;cases eo
   .exact a4 rfl
 have sub:Sub c (c.comp Ci (DG c.X N1) s.heap) scope:=⟨rfl,rfl,rfl,rfl,λx e=>by
  refine Bh (c2 x (.inl (lookup_mem e))) ?_;intro a ea la;exact⟨⟨a,ea,Bw jx (qo rM (big la)) (big la)⟩,by show(cs.lookup x).isSome=true;rw[ea];rfl⟩,λV V z=>z⟩
 refine Ke CT (A:=c.A) (λs' l Q E z=>ik s' (Bt.trans (Bt.trans gm l5:Le h2 h5) l) Q E z) ?_ (Nat.zero_lt_succ _);refine Sh CT T (S:=λcc=>Sub c cc scope) (λcc fp hs=>hs.plus) acc gs g 0 rfl (c.comp Ci (DG c.X N1) s.heap) sub J0 J0 h5 fp it ds FF {s with heap:=h5,toks:=t2} F5 aq rf sR []
  (T0 _ _ _ _ ((Bt.trans l4 l5:Le h3 h5).keep _ _ Rz id e3) (λz=>absurd (z▸XK) (by decide))) Jt (λz=>Aa _ (ZL acc z).1) (by simpa using sz) _ λh6 t6 l6 F6 fZ=>?_
 rw[BT]at fZ;obtain⟨_,_,m6,vF⟩:=F6.loc;have j2:JQ (λb=>Fx (c.comp Ci (DG c.X N1) s.heap) b\/b=acc\/fp b) h5 h6:=l6;have uf:Le s.heap h6:=((qW.ZY.any (W':=λb=>Fx (c.comp Ci (DG c.X N1) s.heap) b\/b=acc\/fp b) λa z=>z.elim).trans j2 |>.fresh λb q=>.inr (by
  rcases q with q|rfl|q
  .rcases q with q|⟨x,e,b',e',nb⟩
   .have z':b=C:=q;rw[z'];exact sC
   .have e2:cs.lookup x=some b:=e;have e3:cs.lookup x=some b':=e';rw[e2]at e3;cases e3;exact nb
  .exact Tr
  .exact (n2 b q).1)).b λb o z=>z.elim
 exact q acc C h6 t6 m6 Tr sC XK Zw d7 Rz OD uf vF (T.kn fZ (λo e=>e) λb o nq nt e=>⟨e,λz=>nq (z.imp_right λz=>.inr (.inl z))⟩)
noncomputable def Jj.list:Jj D where
 P:=λw X h a os=>∃vs:List Value,h.PlainList a vs.toArray/\Be X w h vs os
 kn:=λzz k kn=>by refine Bh zz ?_;clear zz;intro vs p r;exact⟨vs,p.at k,r.kn kn⟩
 live:=λzz=>by refine Bh zz ?_;clear zz;intro vs Cq V;refine B5 Cq ?_;intro n e;exact⟨_,e⟩
theorem Cb.kn{v d}(r:Cb X w h v d)(k:Kn X X' h h'):Cb X' w h' v d:=r.move k
noncomputable def dput(es:B3)(k:Str)(d:D):List (Str×D):=if es.any (λp=>decide (p.1=k))then es.map (λp=>if p.1=k then(p.1,d)else p)else es++[(k,d)]
noncomputable def DB(es:B3)(os:B3):List (Str×D):=os.foldl (λes p=>dput es p.1 p.2) es
theorem WG{kvs:Dh}(r:Cb X w h kvs es)(k:Str):kvs.any (λp=>decide (p.1=k))=es.any (λp=>decide (p.1=k)):=by
 induction es generalizing kvs with
 |nil=>cases r;rfl
 |cons p es ih=>cases r with|cons a b=>rw[List.any_cons,List.any_cons,ih b]
theorem WI{kvs:Dh}(r:Cb X w h kvs es){k:Str}(rv:B8 X w h v d) :
  Cb X w h (kvs.map λp=>if p.1=k then(p.1,v)else p) (es.map λp=>if p.1=k then(p.1,d)else p):=by
 induction es generalizing kvs with
 |nil=>cases r;exact .nil
 |cons p es ih=>
  cases r with
  |cons a b=>
   rename_i k' v' d' vs;rw[AI,AI];by_cases hk:k'=k
   .simp -iota only[hk,if_true];exact .cons rv (ih b)
   .simp -iota only[hk,if_false];exact .cons a (ih b)
theorem Tl{kvs:Dh}(r:Cb X w h kvs es){k:Str}(rv:B8 X w h v d):Cb X w h (kvs++[(k,v)]) (es++[(k,d)]):=by
 induction es generalizing kvs with
 |nil=>cases r;exact .cons rv .nil
 |cons p es ih=>cases r with|cons a b=>exact .cons a (ih b)
theorem IP{kvs:Dh}(r:Cb X w h kvs es){k:Str}(rv:B8 X w h v d):Cb X w h (stored kvs k v) (dput es k d):=by
 unfold stored dput;rw[WG r k];split
 .exact WI r rv
 .exact Tl r rv
theorem Uo(es:B3)(k:Str)(d:D):(dput es k d).length<=es.length+1:=by
 unfold dput;split<;>simp
theorem Iu:∀(os es:B3),(DB es os).length<=es.length+os.length
 |[],es=>by simp -iota[DB]
 |p::os,es=>by
  have:=Iu os (dput es p.1 p.2);have h2:=Uo es p.1 p.2;have e:DB es (p::os)=DB (dput es p.1 p.2) os:=rfl;rw[e,AZ];lia
theorem P0(es os:B3)(p:Str×D):DB es (os++[p])=dput (DB es os) p.1 p.2:=by
 unfold DB;rw[BH];rfl
noncomputable def Jj.dict:Jj (Str×D) where
 P:=λw X h a os=>∃kvs:List (Str×Value),h.DictOf (KS w) a kvs/\Cb X w h kvs (DB [] os)/\¬a=sysModules
 kn:=λzz k kn=>by refine EI zz ?_;clear zz;intro vs p r n;exact⟨vs,C1 p k,r.kn kn,n⟩
 live:=λzz=>by refine Bh zz ?_;clear zz;intro vs Du V;refine Js Du ?_;intro o V V e V;exact⟨o,e⟩
noncomputable def c9(k v:Expr)(acc:Value)(env:Env):Sem Unit:=do
 let kv <- eval k env;let vv <- holding [kv] (eval v env);match acc with
 |.ref d=>do
  standAt {k.pos with endLine:=v.pos.endLine,endCol:=v.pos.endCol}
  holding [kv,vv] (dictSet d kv vv)
 |_=>unsupported "internal:dictcomp"
theorem Hc{k v:Expr}{all:Ec}(hs:∀g∈all,g.is_async=0/\∀env x,foldedSetIterable g.iter env x=pure x):Fq (.DictComp k v all scope pos) all (c9 k v) where
 sync:=hs
 cl:=rfl
 code:=λV V V V=>⟨rfl,rfl⟩
 quiet:=λV V V V=>rfl
 under:=λV V V V V=>⟨rfl,rfl⟩
 last:=λk it acc env g hg ha hn=>by
  unfold compTurn;simp only[hg,ha,hn,bne_self_eq_false,AR,if_false];rfl
 more:=λk it acc env g g' hg ha hn hb=>by
  unfold compTurn;simp only[hg,ha,hn,hb,bne_self_eq_false,AR,if_false];rfl
theorem Ie.list{elt:Expr}(x:Ev c J elt d):Ie Jj.list (jc elt) c J d:=λa os s F off zz sz Q E q=>Bh zz λvs p r=>
 wpAny_bind (x s F _ _ λv h1 t1 l1 r1=>by
  have Eb:Le s.heap h1:=l1;have nt:a≠TP:=λz=>F.Cj.nt (z▸off.1);have p1:h1.PlainList a vs.toArray:=p.at λo e=>Eb.keep _ o nt id e;refine wpAny_bind (wpAny_list_append_plain p1 (λh2 p2 s2=>wpAny_pure ?_) (by have:=r.length;rw[AY,sizeLine_eq];exact Jc this sz rfl));refine B5 p2 ?_;clear p2;intro n2 e2;have l2:Bt (·=a) h1 h2:=Co s2 _ e2 nt (by refine B5 p1 ?_;clear p1;intro V e;exact Cd.at e (Cd.seq rfl));refine q () h2 t1 (Bt.trans Eb.to l2) ⟨vs++[v],⟨n2,?_⟩,?_⟩
  .rw [e2];simp
  .exact ((r.le Eb).append (.cons r1 .nil)).move (DQ l2 λb z=>z▸off.1))
theorem Ie.dict{k v:Expr}{kk:Str}(x:Ev c J k (.str kk))(y:Ev c J v d):Ie Jj.dict (c9 k v) c J (kk,d):=λa os s F off zz sz Q E q=>EI zz λkvs p r ns=>
 wpAny_bind (x s F _ _ λv1 h1 t1 l1 r1=>by
  have Eb:Le s.heap h1:=l1;refine wpAny_bind (wpAny_holding (y _ (F.le Eb) _ _ λv2 h2 t2 l2 r2=>?_));cases r1;have E0:Le h1 h2:=l2;have Gj:Le s.heap h2:=Bt.trans Eb E0;have nt:a≠TP:=λz=>F.Cj.nt (z▸off.1);have hl:=r.length;have Na:=Iu os [];refine wpAny_bind (wpAny_standAt (wpAny_holding (wpAny_dictSet_pairs (knd:=KS c.w) (DK _ _ _) (C1 p λo e=>Gj.keep _ o nt id e) (λh3 p3 s3=>?_) (by rw[BS]at Na;rw[sizeLine_eq];omega))));refine Js (id p3) ?_;intro o3 V V e3 V;have l3:Bt (·=a) h2 h3:=Co s3 _ e3 nt (by refine V7 p ?_;clear p;intro V V V e V d V;exact Cd.at (Gj.keep _ _ nt id e) (Cd.dict d));exact q () h3 _ (Bt.trans Gj.to l3) ⟨_,p3,by rw[P0];exact(IP (r.le Gj) r2).move (DQ l3 λb z=>z▸off.1),ns⟩)
theorem CL.cons{es:Cw}{a b:Bool}(x:CK c J e a)(y:a=true->CL c J es b):CL c J (e::es) (a&&b):=λs F Q E q=>by
 rw[List.forIn_cons];simp -iota only[if_true];refine wpAny_bind (wpAny_bind (x s F _ _ λv h1 t1 l1 e1=>wpAny_pure ?_));subst e1;cases v with
 |true=>exact y rfl _ (F.le l1) _ _ λv h2 t2 l2 e2=>q v h2 t2 (Bt.trans l1 l2) (by rw[e2];rfl)
 |false=>
  have key:∀(es:Cw) (s:Shared),Q false s->wpAny (model prog c.w) c.A (forIn es false λe r=>if r=true then do let ok <- isTrue e c.env (eval e c.env);pure (ForInStep.yield ok)else pure (ForInStep.yield r)) Q E s:=λes=>by
   induction es with
   |nil=>intro s h;rw[List.forIn_nil];exact wpAny_pure h
   |cons e es ih=>intro s h;rw[List.forIn_cons];simp -iota only[AR,if_false];exact wpAny_bind (wpAny_pure (ih s h))
  exact key es _ (q false h1 t1 l1 rfl)
theorem CL.one{a:Bool}(x:CK c J e a):CL c J [e] a:=by
 have:=CL.cons x λV=>CL.nil;rwa [Bool.and_true]at this
theorem DU{g:Comprehension}{gs:Ec}(h:g.is_async=0):firstAsync (g::gs)=false:=by
 obtain⟨a,b,i,k⟩:=g;have h':k=0:=h;subst h';rfl
theorem Dp(g:Comprehension)(gs:Ec)(env:Env):firstIter (g::gs) env=eval g.iter env:=by
 cases g;rfl
theorem Kc{Hh:Heap}{C:Addr}(l:Le h h')(sC:h.get? C=none)(OD:C≠TP)(sb:Heap.SameBut C h' Hh)(nC:∀o,h'.get? C=some o->¬Cd o):Le h Hh/\Kn (DG X (·=C)) X h' Hh:=
 ⟨JQ.b ⟨λb o nt V e=>sb.extBut b o (λz=>by rw[z,sC]at e;cases e) (l.keep b o nt id e),λtb=>(l.tab tb).keep (λo e=>sb.extBut _ _ (λz=>OD z.symm) e) λc o V e hc=>sb.extBut _ _ (λz=>nC o (by rw[<- z];exact e) hc) e,λb o e hc=>sb.extBut _ _ (λz=>nC o (by rw[<- z];exact l.code b o e hc) hc) (l.code b o e hc)⟩ λb o z=>z.elim,
  λb o n nt e=>⟨sb.extBut b o (λz=>n (.inr z)) e,λz=>n (.inl z)⟩⟩
theorem C3(e:h.get? a=some {cls:=.type "dict",data:=.dict #[]}):h.DictOf (KS w) a []:=by
 refine Js (Heap.DictOf.new (knd:=KS w) h) ?_;intro o es ep e0 rest;rw[AH _ rfl]at e0;cases e0;exact⟨_,es,ep,e,rest⟩
theorem Ev.Ow{elt:Expr}{g:Comprehension}{gs:Ec}(hs:∀g'∈g::gs,g'.is_async=0/\∀env x,foldedSetIterable g'.iter env x=pure x)(CO:C8 c J scope J0)(ds:List (D×List D))(Fj:Ba c J g.target g.iter (ds.map (·.1)))(FF:∀d∈ds,Turn (λcc=>Sub c cc scope) Jj.list (jc elt) g gs J0 d.1 d.2)(sz:(ds.flatMap (·.2)).length<=1000000) :
  Ev c J (.ListComp elt (g::gs) scope pos) (.list (ds.flatMap (·.2))):=λs F Q E q=>by
 rw[eval_ListComp];show wpAny _ _ (comprehension _ scope c.env _ (newList []) (firstAsync (g::gs)) (firstIter (g::gs) c.env) none) _ _ _;rw[DU (hs g (.head _)).1,Dp];refine Fu (newAcc:=newList []) (Hd hs) Jj.list (o0:={cls:=.type "list",data:=.seq #[]}) (λM A s Q E h=>wpAny_newObj_type h) rfl (λw X h a e V=>⟨[],⟨_,e⟩,.nil⟩) CO Fj FF sz F ?_;intro acc C h' tk m sa sC ba bC ac KI OD l ns HU;refine Bh HU ?_;intro vs p r;refine⟨m,ns,λHh sb=>?_⟩;refine CB (Kc (X:=c.X) l sC OD sb (Cd.ns ns)) ?_;intro l2 kn;exact q _ Hh tk l2 (.list (λz=>by obtain⟨_,o,eo⟩:=F.Cj acc z;rw[sa]at eo;cases eo) KI (p.at λo e=>sb.extBut _ _ ac e) (r.kn kn))
theorem Ev.Un{k v:Expr}{g:Comprehension}{gs:Ec}(hs:∀g'∈g::gs,g'.is_async=0/\∀env x,foldedSetIterable g'.iter env x=pure x)(CO:C8 c J scope J0)(ds:List (D×List (Str×D)))(Fj:Ba c J g.target g.iter (ds.map (·.1)))(FF:∀d∈ds,Turn (λcc=>Sub c cc scope) Jj.dict (c9 k v) g gs J0 d.1 d.2)(sz:(ds.flatMap (·.2)).length<=1000000) :
  Ev c J (.DictComp k v (g::gs) scope pos) (.dict (DB [] (ds.flatMap (·.2)))):=λs F Q E q=>by
 rw[arm_eval_DictComp];show wpAny _ _ (comprehension _ scope c.env _ newDict (firstAsync (g::gs)) (firstIter (g::gs) c.env) none) _ _ _;rw[DU (hs g (.head _)).1,Dp];refine Fu (newAcc:=newDict) (Hc hs) Jj.dict (o0:={cls:=.type "dict",data:=.dict #[]}) (λM A s Q E h=>wpAny_newObj_type h) rfl (λw X h a e n=>⟨[],C3 e,.nil,n⟩) CO Fj FF sz F ?_;intro acc C h' tk m sa sC ba bC ac KI OD l ns Jh;refine EI Jh ?_;intro vs p r n;refine⟨m,ns,λHh sb=>?_⟩;refine CB (Kc (X:=c.X) l sC OD sb (Cd.ns ns)) ?_;intro l2 kn;exact q _ Hh tk l2 (.dict (λz=>by obtain⟨_,o,eo⟩:=F.Cj acc z;rw[sa]at eo;cases eo) KI (by simpa using n) (C1 p λo e=>sb.extBut _ _ ac e) (r.kn kn))
def Ex(c:Cx)(J:B3)(st:Stmt)(N:Em)(R:Cs):Prop:=
 ∀s,Fr c J s.heap->∀(Q:Flow->Shared->Prop) (E:CG),(∀h' tk,N h'->Q .next {s with heap:=h',toks:=tk})->(∀v h' tk,R v h'->Q (.ret v) {s with heap:=h',toks:=tk})->
  wpAny (model prog c.w) c.A (exec st c.env) Q E s
noncomputable def Qp(c:Cx):List (List Stmt)->(Flow->Shared->Prop)->(Value->Shared->Prop)->Shared->Prop
 |[],Q,_,s=>Q .next s
 |l::ls,Q,E,s=>wpAny (model prog c.w) c.A (execs l c.env) (λf s'=>match f with|.next=>Qp c ls Q E s'|f=>Q f s') E s
def Bd(c:Cx)(J:B3)(ls:List (List Stmt))(N:Em)(R:Cs):Prop:=
 ∀s,Fr c J s.heap->∀(Q:Flow->Shared->Prop) (E:CG),(∀h' tk,N h'->Q .next {s with heap:=h',toks:=tk})->(∀v h' tk,R v h'->Q (.ret v) {s with heap:=h',toks:=tk})->Qp c ls Q E s
theorem Bd.done(q:∀h,Fr c J h->N h):Bd c J [] N R:=λs F Q E n r=>n s.heap s.toks (q _ F)
theorem Bd.nil{ls:List (List Stmt)}(x:Bd c J ls N R):Bd c J ([]::ls) N R:=λs F Q E n r=>wpAny_execs_nil (x s F Q E n r)
def M6(c c':Cx):Prop:=c'.w=c.w/\c'.A=c.A/\c'.env=c.env
theorem HP{c':Cx}(e:M6 c c'):∀(ls:List (List Stmt)){Q:Flow->Shared->Prop}{E:CG}{s:Shared},Qp c' ls Q E s->Qp c ls Q E s:=by
 intro l;induction l with
 |nil=>exact λ{V V V} h=>h
 |cons l ls ih=>
  intro Q E s h;have h':wpAny (model prog c'.w) c'.A (execs l c'.env) (λf s'=>match f with|.next=>Qp c' ls Q E s'|f=>Q f s') E s:=h;rw[e.1,e.2.1,e.2.2]at h';exact wpAny_mono h' (λf s' k=>by cases f<;>first|exact ih k|exact k) λV V k=>k
theorem Bd.cons{st:Stmt}{rest:Dx}{ls:List (List Stmt)}(x:Ex c J st N' R)(y:∀h,N' h->∃c' J',M6 c c'/\Fr c' J' h/\Bd c' J' (rest::ls) N R):Bd c J ((st::rest)::ls) N R:=λs F Q E n r=>
 Ao (x s F _ _ (λh1 t1 n1=>by
  refine Dt (y h1 n1) ?_;intro c' J' e F' z;have k:=z {s with heap:=h1,toks:=t1} F' Q E n r;exact HP e (rest::ls) k) λv h1 t1 r1=>r v h1 t1 r1)
theorem Bd.step{st:Stmt}{rest:Dx}{ls:List (List Stmt)}(x:Ex c J st (Fr c J') R)(y:Bd c J' (rest::ls) N R):Bd c J ((st::rest)::ls) N R:=
 .cons x λh F=>⟨c,J',⟨rfl,rfl,rfl⟩,F,y⟩
theorem Bd.last{st:Stmt}(x:Ex c J st N R):Bd c J [[st]] N R:=λs F Q E n r=>
 Ao (x s F _ _ (λh1 t1 n1=>wpAny_execs_nil (n h1 t1 n1)) λv h1 t1 r1=>r v h1 t1 r1)
theorem Bd.ret{st:Stmt}{rest:Dx}{ls:List (List Stmt)}(x:Ex c J st (λV=>False) R):Bd c J ((st::rest)::ls) N R:=.cons x λV k=>k.elim
theorem Bd.if{test:Expr}{body orelse:Dx}{rest:Dx}{ls:List (List Stmt)}{b:Bool}(x:CK c J test b)(t:b=true->Bd c J (body::rest::ls) N R)(f:b=false->Bd c J (orelse::rest::ls) N R) :
  Bd c J ((.If test body orelse pos::rest)::ls) N R:=λs F Q E n r=>
 Ao (wpAny_If (x s F _ _ λb1 h1 t1 l1 e1=>by
  subst e1;have Eb:Le s.heap h1:=l1;cases b1 with
  |true=>
   have k:=t rfl {s with heap:=h1,toks:=t1} (F.le Eb) Q E n r;exact wpAny_mono k (λf s' k=>by cases f<;>exact k) λV V k=>k
  |false=>
   have k:=f rfl {s with heap:=h1,toks:=t1} (F.le Eb) Q E n r;exact wpAny_mono k (λf s' k=>by cases f<;>exact k) λV V k=>k))
theorem Ex.imp{st:Stmt}(x:Ex c J st N R)(n:∀h,N h->N' h)(r:∀v h,R v h->R' v h):Ex c J st N' R':=λs F Q E n' r'=>x s F Q E (λh t k=>n' h t (n h k)) λv h t k=>r' v h t (r v h k)
theorem Bd.imp{ls:List (List Stmt)}(x:Bd c J ls N R)(n:∀h,N h->N' h)(r:∀v h,R v h->R' v h):Bd c J ls N' R':=λs F Q E n' r'=>x s F Q E (λh t k=>n' h t (n h k)) λv h t k=>r' v h t (r v h k)
def HR(c:Cx)(d:D)(v:Value)(h:Heap):Prop:=B8 c.X c.w h v d/\Bt c.M c.h0 h/\CV c.w h
theorem Ex.ret(x:Ev c J e d):Ex c J (.Return (some e) pos) N (HR c d):=λs F Q E n r=>
 wpAny_Return_some (x s F _ _ λv h1 t1 l1 r1=>r v h1 t1 ⟨r1,(F.le l1).old,(F.le l1).base⟩)
theorem Ex.EJ{xp:Pos}(y:Ev c J e d)(hx:Cm x)(k:Cf c x)(p:DF J x d J')(hs:autoParam (swapsWith e (some (.Name x xp)) pos.line c.env=pure false) Bc):Ex c J (.Assign [.Name x xp] e pos) (Fr c J') R:=λs F Q E n r=>
 wpAny_Assign_Name (y s F _ _ λv h1 t1 l1 r1=>by
  have Eb:Le s.heap h1:=l1;exact(F.le Eb).store (s:={s with heap:=h1,toks:=t1}) hx k r1 p λh2 t2 l2 F2=>n h2 t2 F2) hs
theorem Ex.oZ{t1 t2:Expr}(y:Ev c J e d)(b1:Bind c J t1 d J')(b2:Bind c J' t2 d KR)(he:autoParam ((assignEach [t1,t2] c.env).map (·.2)=[assign t1 c.env,assign t2 c.env]) Bc)(hw:autoParam (swappedStores [t1,t2] e c.env=pure none) Bc):Ex c J (.Assign [t1,t2] e pos) (Fr c KR) R:=λs F Q E n r=>
 wpAny_Assign_two (y s F _ _ λv h1 vt l1 r1=>by
  have Eb:Le s.heap h1:=l1;have F1:=F.le Eb;exact b1 v {s with heap:=h1,toks:=vt} F1 r1 _ _ λV h2 t2 l2 F2=>b2 v _ F2 (r1.move (DQ l2 λV z=>F1.fx z)) _ _ λV h3 t3 l3 F3=>n h3 t3 F3) he hw
theorem Ex.lE{xp:Pos}{a b:Int}(m:(x,.int a)∈J)(y:Ev c J e (.int b))(k:Cf c x)(p:DF J x (.int (a+b)) J'):Ex c J (.AugAssign (.Name x xp) .Add e pos) (Fr c J') R:=λs F Q E n r=>by
 refine Bh (F.names x _ m) ?_;intro v H rv;cases rv;refine wpAny_AugAssign_Name (D1 H F.kind (y s F _ _ λw h1 t1 l1 r1=>?_));have Eb:Le s.heap h1:=l1;cases r1;refine wpAny_iadd_int ?_;exact(F.le Eb).store H.1 k (.int _ _) p λh2 t2 l2 F2=>n h2 t2 F2
theorem Ex.Lh{xp:Pos}{a b:Int}(m:(x,.int a)∈J)(y:Ev c J e (.int b))(k:Cf c x)(p:DF J x (.int (a-b)) J'):Ex c J (.AugAssign (.Name x xp) .Sub e pos) (Fr c J') R:=λs F Q E n r=>by
 refine Bh (F.names x _ m) ?_;intro v H rv;cases rv;refine wpAny_AugAssign_Name (D1 H F.kind (y s F _ _ λw h1 t1 l1 r1=>?_));have Eb:Le s.heap h1:=l1;cases r1;refine P.isub_int ?_;exact(F.le Eb).store H.1 k (.int _ _) p λh2 t2 l2 F2=>n h2 t2 F2
theorem Ex.lF{xp:Pos}{a b:Str}(m:(x,.str a)∈J)(y:Ev c J e (.str b))(k:Cf c x)(p:DF J x (.str (a++b)) J')(hz:a.length+b.length<=1000000):Ex c J (.AugAssign (.Name x xp) .Add e pos) (Fr c J') R:=λs F Q E n r=>by
 refine Bh (F.names x _ m) ?_;intro v H rv;cases rv;refine wpAny_AugAssign_Name (D1 H F.kind (y s F _ _ λw h1 t1 l1 r1=>?_));have Eb:Le s.heap h1:=l1;cases r1;refine SB.iadd (λt' k'=>?_) (by rw[sizeLine_eq];exact lb hz rfl);exact(F.le Eb).store (s:={s with heap:=h1,toks:=k'}) H.1 k (.str _ _) p λh2 t2 l2 F2=>n h2 t2 F2
theorem Ex.while{test:Expr}{body:Dx}{m:Nat}(Ji:Nat->List (Str×D))(t:∀i ≤m,CK c (Ji i) test (decide (i<m)))(b:∀i<m,Bd c (Ji i) [body] (Fr c (Ji (i+1))) R) :
  Ex c (Ji 0) (.While test body [] pos) (Fr c (Ji m)) R:=λs F Q E n r=>by
 refine wpAny_While (codeAny_whileLoop (λj s'=>∃h tk,j<=m/\s'={s with heap:=h,toks:=tk}/\Fr c (Ji (m-j)) h) (λj s' hI=>?_) m ⟨s.heap,s.toks,Ad _,rfl,by rw[Nat.sub_self];exact F⟩);refine Dt hI ?_;clear hI;rintro h1 t1 hj rfl F1;refine t (m-j) (BN _ _) _ F1 _ _ λb1 h2 t2 l2 e2=>?_;have E0:Le h1 h2:=l2;subst e2;by_cases Dw:m-j<m
 .rw [decide_eq_true Dw];simp -iota only[if_true];have k:=b (m-j) Dw {s with heap:=h2,toks:=t2} (F1.le E0);exact wpAny_mono (k (λf s'=>match f with
    |.next|.cont=>∃j',j'<j/\∃h tk,j'<=m/\s'={s with heap:=h,toks:=tk}/\Fr c (Ji (m-j')) h
    |.brk=>Q .next s'
    |.ret v=>Q (.ret v) s') _ (λh3 t3 F3=>⟨j-1,(Zv hj Dw).1,h3,t3,(Zv hj Dw).2.1,rfl,by rw[(Zv hj Dw).2.2];exact F3⟩) λv h3 t3 r3=>r v h3 t3 r3)
   (λf s' k=>by cases f<;>exact k) λV V k=>k
 .rw [decide_eq_false Dw];simp -iota only[AR,if_false];rw[lA Dw]at F1;exact wpAny_execs_nil (n h2 t2 (F1.le E0))
structure B9(f:Addr)(st:Stmt)(qual:Str)(code:Addr)(dflt mod:Value):Prop where
 here:∀P,(Kx P).lookup f=some (Et st qual dflt mod (.ref code))
 code:∀P,∃o vs t,(Kx P).lookup code=some o/\o.data=.fields vs/\vs[1]? = some (.str qual t)
 kind:(BX st).kind=.function
 plain:(BX st).isCoroutine=false/\(BX st).isGenerator=false
structure FnAt(c:Cx)(w:World)(sc:Scope)(k:Nat)(X:CF)(G:Res)(h0:Heap):Prop where
 hw:c.w=w
 hs:c.env.scope=sc
 hk:c.k=k
 hX:∀b,X b->c.X b
 hG:c.G=G
 hh:c.h0=h0
 hM:c.M=G.fp
 ro:¬c.ro
 slot:∀x,sc.names.lookup x=some .cell->c.own x/\(c.env.cells.lookup x).isSome=true
theorem FnAt.kind{sc:Scope}{G:Res}{h0:Heap}(F:FnAt c w sc k X G h0){kd:NameKind}(e:sc.names.lookup x=some kd):c.env.kindOf x=some kd:=by
 unfold Env.kindOf;rw[F.hs];exact e
theorem FnAt.name{sc:Scope}{G:Res}{h0:Heap}(F:FnAt c w sc k X G h0)(e:sc.names.lookup x=some .local\/sc.names.lookup x=some .cell):Cf c x:=
 e.imp F.kind λe=>⟨F.kind e,F.slot x e⟩
theorem MM{K:Str->Option NameKind}:∀ {bs:Dh}{m:Hv}{x:Str},x∉bs.map (·.1)->bindL K bs m x=m x
 |[],_,_,_=>rfl
 |(n,v)::r,m,x,h=>by
  unfold bindL;rw[MM λz=>h (.tail _ z)];have hn:x≠n:=λz=>h (z▸.head _);split<;>simp[hn]
theorem ML{K:Str->Option NameKind}:∀ {bs:Dh}{m:Hv}{x:Str},x∉bs.map (·.1)->bindC K bs m x=m x
 |[],_,_,_=>rfl
 |(n,v)::r,m,x,h=>by
  unfold bindC;rw[ML λz=>h (.tail _ z)];have hn:x≠n:=λz=>h (z▸.head _);split<;>simp[hn]
theorem KW{K:Str->Option NameKind}:∀ {bs:Dh}{m:Hv}{x:Str}{v:Value},(x,v)∈bs->(bs.map (·.1)).Nodup->K x=some .local->bindL K bs m x=some v
 |(n,u)::r,m,x,v,h,nd,k=>by
  unfold bindL;refine CB (List.nodup_cons.mp nd) ?_;intro n1 n2;rcases AJ.mp h with e|h
  .cases e;rw[MM n1,if_pos k];simp
  .exact KW h n2 k
theorem KV{K:Str->Option NameKind}:∀ {bs:Dh}{m:Hv}{x:Str}{v:Value},(x,v)∈bs->(bs.map (·.1)).Nodup->K x≠some .local->bindC K bs m x=some v
 |(n,u)::r,m,x,v,h,nd,k=>by
  unfold bindC;refine CB (List.nodup_cons.mp nd) ?_;intro n1 n2;rcases AJ.mp h with e|h
  .cases e;rw[ML n1,if_neg k];simp
  .exact KV h n2 k
theorem DT{names:List (Str×NameKind)}:∀ {n:Nat}{acc:List (Str×Addr)}{x:Str},((x,NameKind.cell)∈names\/(acc.lookup x).isSome=true)->((cellsFrom n names acc).lookup x).isSome=true:=by
 induction names with
 |nil=>intro n acc x h;exact h.elim (λz=>by cases z) id
 |cons p r ih=>
  obtain⟨m,k⟩:=p;intro n acc x h;unfold cellsFrom;split
  .rename_i hk;refine ih ?_;rcases h with h|h
   .rcases AJ.mp h with e|h
    .cases e;right;simp
    .exact .inl h
   .right;rw[AK];cases hb:x==m<;>simp[h]
  .rename_i hk;refine ih (h.imp_left λh=>?_);rcases AJ.mp h with e|h
   .cases e;exact absurd rfl hk
   .exact h
theorem LW:∀ {names:B1}{vs:DV}{ds:Cr},Be X w h vs ds->∀ {x:Str}{d:D},(x,d)∈names.zip ds->∃v,(x,v)∈names.zip vs/\B8 X w h v d:=by
 intro names vs ds r;induction ds generalizing vs names with
 |nil=>intro x d m;rw[List.zip_nil_right]at m;cases m
 |cons d ds ih=>
  intro x d m;refine Dt (Be.Bo r) ?_;rintro V V rfl a b;cases names with
  |nil=>cases m
  |cons n ns=>
  rw[List.zip_cons_cons]at m ⊢;rcases AJ.mp m with e|m
  .cases e;exact⟨_,.head _,a⟩
  .refine Bh (ih b m) ?_;intro v m' r;exact⟨v,.tail _ m',r⟩
def FR(G:Res)(h0:Heap)(Post:Cs)(v:Value)(h:Heap):Prop:=Bt G.fp h0 h/\Post v h
structure DY(sc:Scope)(names:B1):Prop where
 nd:names.Nodup
 kinds:∀x∈names,sc.names.lookup x=some .local\/sc.names.lookup x=some .cell
 plain:∀x∈names,Cm x
noncomputable def bo(sc:Scope)(x:Str):Bool:=(sc.names.lookup x==some .local||sc.names.lookup x==some .cell)&&(!(x==("__debug__" : Str)) && !(x==("__classdict__" : Str)))
theorem DY.of{sc:Scope}{names:B1}(h:(decide names.Nodup&&names.all (bo sc))=true):DY sc names:=by
 refine CB (Bool.and_eq_true_iff.mp h) ?_;intro h1 h2;rw[Ah]at h2;refine⟨of_decide_eq_true h1,λx hx=>?_,λx hx=>?_⟩
 .exact (Bool.or_eq_true_iff.mp (Bool.and_eq_true_iff.mp (h2 x hx)).1).imp eq_of_beq eq_of_beq
 .refine CB (Bool.and_eq_true_iff.mp (Bool.and_eq_true_iff.mp (h2 x hx)).2) ?_;intro h3 h4;exact⟨by simpa using h3,by simpa using h4⟩
theorem L9(e:vs.length=1):∃a,vs=[a]:=List.length_eq_one_iff.mp e
theorem Nl{n:Nat}(e:vs.length=n+1):∃a t,vs=a::t/\t.length=n:=by
 cases vs with
 |nil=>cases e
 |cons a t=>exact⟨a,t,rfl,Nat.succ.inj e⟩
theorem Ot(e:vs.length=2):∃a b,vs=[a,b]:=by
 refine Fp (Nl e) ?_;rintro a t rfl e2;refine B5 (L9 e2) ?_;rintro b rfl;exact⟨a,b,rfl⟩
theorem Ou(e:vs.length=3):∃a b c,vs=[a,b,c]:=by
 refine Fp (Nl e) ?_;rintro a t rfl e2;refine MB (Ot e2) ?_;rintro b c rfl;exact⟨a,b,c,rfl⟩
theorem gw(e:vs.length=4):∃a b c d,vs=[a,b,c,d]:=by
 refine Fp (Nl e) ?_;rintro a t rfl e2;refine bg (Ou e2) ?_;rintro b c d rfl;exact⟨a,b,c,d,rfl⟩
theorem gz(e:vs.length=5):∃a b c d f,vs=[a,b,c,d,f]:=by
 refine Fp (Nl e) ?_;rintro a t rfl e2;refine qy (gw e2) ?_;rintro b c d f rfl;exact⟨a,b,c,d,f,rfl⟩
theorem RT{f:Addr}{st:Stmt}{qual:Str}{code:Addr}{dflt mod:Value}(fd:B9 f st qual code dflt mod)(ok:E7 (k+1) A)(B:CV w s.heap)(xk:FT X s.heap){G:Res}(g:G.P w X s.heap)(gx:∀b,G.fp b->X b){names:B1}(r:Be X w s.heap vs ds)(hb:bindArgs (EV st qual dflt mod (.ref code)) ⟨vs,[]⟩=pure (names.zip vs))(hl:names.length=vs.length)(ck:DY (BX st) names){Post:Cs}(body:∀c,FnAt c w (BX st) k X G s.heap->Bd c (names.zip ds) [Br st] (FR G s.heap Post .none) (FR G s.heap Post)):Run w A G.fp (call (.ref f) vs) s Post:=λQ E q=>by
 obtain⟨nd,kinds,plain⟩:=ck;refine wpAny_call ?_;have zn:(names.zip vs).map (·.1)=names:=by rw[List.map_fst_zip];exact BM hl
 have ho:=B.k _ _ (fd.here w.params);refine Mn (fd.code w.params) ?_;intro oc vc tc ec dc qc;refine codeAny_call_cells (o:=Et st qual dflt mod (.ref code)) (fd:=EV st qual dflt mod (.ref code)) (binds:=names.zip vs) ok.room ho rfl B.lim ⟨code,oc,vc,tc,rfl,B.k _ _ ec,dc,qc⟩ rfl hb rfl (λp hp=>?_) (λs1 I=>?_) fd.plain.1 fd.plain.2 fd.kind
 .have hm:p.1∈names:=zn▸Ab (f:=(·.1)) hp;exact(kinds _ hm).imp_right λe=>⟨e,DT (.inl (lookup_mem e))⟩
 have Oi:=I.toInCall.ns;refine MB I.toInCall.same ?_;rintro h1 t1 rfl;have keep:∀b o,s.heap.get? b=some o->h1.get? b=some o:=I.toInCall.keep;have l1:Le s.heap h1:=Le.of keep;have big:∀ {a:Addr},s.heap.objs.size<=a->s.heap.get? a=none:=λ{a} le=>by
  cases e:s.heap.get? a with
  |none=>rfl
  |some o=>exact absurd (Ag e) (Nat.not_lt.mpr le)
 have sz:=B6 B;let Ci:=callEnvC (EV st qual dflt mod (.ref code)) s.heap.objs.size f;have mi:∀x a,Ci.cells.lookup x=some a->s.heap.objs.size<a/\Ci.kindOf x=some .cell\/True:=λV V V=>.inr trivial;have cellAt:∀x a,Ci.cells.lookup x=some a->s.heap.objs.size<a/\∃v,h1.IsCell a v:=λx a e=>⟨I.above x a (mem_of_lookup e),_,I.cell x a e⟩;let N1:Addr->Prop:=λb=>b=s.heap.objs.size\/∃x,Ci.cells.lookup x=some b;let c:Cx:={w:=w,A:=A.deeper Ci,env:=Ci,k:=k,X:=DG X N1,G:=G,own:=λV=>True,h0:=s.heap,M:=G.fp,ro:=False}
 have n1:∀b,N1 b->s.heap.get? b=none/\306<=b/\∃o,h1.get? b=some o:=λb z=>by
  rcases z with z|⟨x,e⟩
  .have z':b=s.heap.objs.size:=z;refine Js Oi ?_;clear Oi;intro o V V eo V;rw[z'];exact⟨Bm _,sz,o,eo⟩
  .obtain ⟨z1,v,o,eo,_⟩:=cellAt x b e;exact⟨big (A4 z1),AD sz (A4 z1),o,eo⟩
 have F:Fr c (names.zip ds) h1:=
  {base:=B.le l1 λV z=>z.elim
   Cj:=λa z=>z.elim (λz=>(xk.le l1) a z) λz=>(n1 a z).2
   kind:=fd.kind,glob:=rfl,blt:=rfl,ok:=ok.deeper Ci
   old:=l1.to
   loc:=⟨.inr (.inl rfl),Bm _,_,Oi⟩
   Ez:=λx a e=>by
    obtain⟨z1,v,cv⟩:=cellAt x a e;have na:=big (A4 z1);refine⟨λz=>Aa _ (z▸z1),λz=>(by refine Bh B.tab ?_;intro ps e' V;rw[z]at na;rw[na]at e';cases e'),⟨v,cv⟩,λV=>⟨.inr (.inr ⟨x,e⟩),na⟩⟩
   apart:=λx y a e e'=>name_of_addr I.apart (mem_of_lookup e) (mem_of_lookup e')
   names:=λx d m=>by
    refine Bh (LW r m) ?_;intro v mv rv;have hm:x∈names:=zn▸Ab (f:=(·.1)) mv;have iE:((names.zip vs).map (·.1)).Nodup:=by rw[zn];exact nd
    refine⟨v,⟨plain x hm,?_⟩,(rv.move (ES λb z=>z.imp_right λz=>(n1 b z).1)).le l1⟩;rcases kinds x hm with kl|kc
    .exact .inl ⟨kl,λz=>by have:=B4 B.tab;exact this z,_,Oi,KW mv iE kl⟩
    .refine B5 (A6.mp (DT (n:=s.heap.objs.size+1) (acc:=[]) (.inl (lookup_mem kc)))) ?_;intro a ea;have Xg:Ci.cells.lookup x=some a:=ea;refine CB (cellAt x a Xg) ?_;intro z1 V;refine .inr ⟨a,.inl kc,Xg,λz=>(by refine Bh B.tab ?_;intro ps e' V;rw[z]at z1;rw[big (A4 z1)]at e';cases e'),?_⟩;have cc:=I.cell x a Xg;rwa [KV mv iE (λz=>by have nR:Ci.kindOf x=some .cell:=kc;rw[nR]at z;cases z)]at cc
   g:=G.mv g λb o z nt e=>⟨keep b o e,λnx z=>z.elim nx λz=>by rw[(n1 b z).1]at e;cases e⟩
   gx:=λb z=>by
    obtain⟨_,o,eo⟩:=xk b (gx b z);refine⟨⟨.inl (gx b z),.inr (.inl z)⟩,λy=>?_,λx e=>?_⟩
    .have y':b=s.heap.objs.size:=y;rw[y',Bm]at eo;cases eo
    .rw [big (A4 (cellAt x b e).1)]at eo;cases eo}
 have FA:FnAt c w (BX st) k X G s.heap:=⟨rfl,rfl,rfl,λb z=>.inl z,rfl,rfl,rfl,λz=>z,λx e=>⟨trivial,DT (.inl (lookup_mem e))⟩⟩
 exact wpAny_mono (body c FA {s with heap:=h1,toks:=t1} F (λf s'=>Q (match f with|.ret v=>v|_=>.none) s') _ (λh2 t2 z=>q _ h2 t2 z.1 z.2) λv h2 t2 z=>q v h2 t2 z.1 z.2)
  (λf s' z=>by cases f<;>exact z) λV V z=>z
def C9(w:World)(fa:Addr)(k:Nat)(ds:Cr)(d:D):Prop:=∀(A:Around) (X:CF) (s:Shared) (vs:DV),E7 k A->CV w s.heap->FT X s.heap->Be X w s.heap vs ds->
 Run w A Hu (call (.ref fa) vs) s λv h'=>B8 X w h' v d
theorem FnAt.ie{sc:Scope}{G:Res}{h0:Heap}(F:FnAt c w sc k X G h0)(r:HR c d v h):FR G h0 (λv h=>B8 X w h v d) v h:=by
 refine FO r ?_;clear r;intro r1 r2 V;rw[F.hM,F.hh]at r2;rw[F.hw]at r1;exact⟨r2,r1.move (Cc F.hX)⟩
theorem Ed{f:Addr}{st:Stmt}{qual:Str}{code:Addr}{dflt mod:Value}(fd:B9 f st qual code dflt mod){names:B1}(hb:∀vs:List Value,vs.length=names.length->bindArgs (EV st qual dflt mod (.ref code)) ⟨vs,[]⟩=pure (names.zip vs))(hl:ds.length=names.length)(ck:DY (BX st) names)(body:∀c X h0,FnAt c w (BX st) k X Res.emp h0->Bd c (names.zip ds) [Br st] (λV=>False) (HR c d)):C9 w f (k+1) ds d:=λA X s vs ok B xk r=>by
 have e:vs.length=names.length:=r.length.trans hl;exact RT fd ok B xk (G:=Res.emp) trivial (λV z=>z.elim) r (hb vs e) e.symm ck λc FA=>(body c X s.heap FA).imp (λV z=>z.elim) λv h z=>FA.ie z
theorem Ev.FV{np:Pos}{es:Cw}{fa:Addr}(f:Ev c J (.Name x np) (.obj (.ref fa)))(y:FP c J (e::es) ds)(g:C9 c.w fa k ds d)(hk:k<=c.k)(hf:∃st qual code dflt mod,B9 fa st qual code dflt mod)(he:autoParam (D8 c e es) Bc):Ev c J (.Call (.Name x np) (e::es) [] pos) d:=
 λs F Q E q=>wpAny_Call_NameR (f s F _ _ λv h1 t1 l1 r1=>by
  cases r1;refine iP hf ?_;clear hf;intro st qual code dflt mod fd;have Eb:Le s.heap h1:=l1;refine BG (o:=Et st qual dflt mod (.ref code)) (fd:=EV st qual dflt mod (.ref code)) rfl (y pos _ (F.le Eb) _ _ λvs h2 t2 l2 r2=>?_) he;have F2:=(F.le Eb).le l2;exact⟨F2.base.k _ _ (fd.here _),g c.A c.X _ vs (F.ok.CC hk) F2.base F2.Cj r2 _ _ λv h3 t3 l3 r3=>q v h3 t3 (Bt.trans (Bt.trans l1 l2) l3) r3⟩)
noncomputable def Cx.on(c:Cx)(X:CF)(G:Res):Cx:={c with X:=X,G:=G}
theorem Fr.star{T:Res}(F:Fr c J h)(t:T.P c.w c.X h)(o:∀b,T.fp b->Off c b):Fr (c.on c.X (c.G.star T)) J h:=
 {base:=F.base,Cj:=F.Cj,kind:=F.kind,glob:=F.glob,blt:=F.blt,ok:=F.ok,old:=F.old,loc:=F.loc,Ez:=F.Ez,apart:=F.apart,names:=F.names
  g:=⟨F.g,t,λb x y=>(o b y).2.2.1 x⟩
  gx:=λb z=>z.elim (F.gx b) λz=>⟨⟨(o b z).1,.inr (o b z).2.1⟩,(o b z).2.2.2⟩}
theorem Fr.Ln{G T:Res}(F:Fr (c.on X (G.star T)) J h)(nw:∀b,T.fp b->c.h0.get? b=none)(k0:∀b o,¬T.fp b\/Cd o->h.get? b=some o->h'.get? b=some o):Fr (c.on (λb=>X b/\¬T.fp b) G) J h':=
 have k:∀b o,¬T.fp b->h.get? b=some o->h'.get? b=some o:=λb o z=>k0 b o (.inl z);have big:∀b,T.fp b->306<=b:=λb z=>(F.Cj b (F.gx b (.inr z)).1.1).1;have nl:¬T.fp c.env.locals:=λz=>(F.gx _ (.inr z)).2.1 rfl;have nc:∀x a,c.env.cells.lookup x=some a->¬T.fp a:=λx a e z=>(F.gx _ (.inr z)).2.2 x e;have kt:Tab h->Tab h':=λt=>t.keep (λo e=>k _ o (λz=>absurd (big _ z) (by decide)) e) λc o V e hc=>k0 c o (.inr hc) e
 {base:=F.base.ke (λb o lt e=>k b o (λq=>absurd (big b q) (Nat.not_le.mpr lt)) e) kt
  Cj:=λa q=>⟨(F.Cj a q.1).1,by
   obtain⟨_,o,e⟩:=F.Cj a q.1;exact⟨o,k a o q.2 e⟩⟩
  kind:=F.kind,glob:=F.glob,blt:=F.blt,ok:=F.ok
  old:=⟨λb o nt n e=>k b o (λz=>by have e2:c.h0.get? b=some o:=e;rw[nw b z]at e2;cases e2) (F.old.keep b o nt n e),λb o nt w e=>by
   refine B5 (F.old.live b o nt w e) ?_;intro o' e';exact⟨o',k b o' (λz=>by have e2:c.h0.get? b=some o:=e;rw[nw b z]at e2;cases e2) e'⟩,λtb=>kt (F.old.tab tb),λb o e z=>k0 b o (.inr z) (F.old.code b o e z)⟩
  loc:=⟨⟨F.loc.1,nl⟩,F.loc.2.1,by refine B5 F.loc.2.2 ?_;intro m q;exact⟨m,Ck q λo e=>k _ o nl e⟩⟩
  Ez:=λx a e=>Ht (F.Ez x a e) λa1 a2 y a4=>⟨a1,a2,y.imp λv a3=>B0 a3 λo z=>k _ o (nc x a e) z,λq=>⟨⟨(a4 q).1,nc x a e⟩,(a4 q).2⟩⟩
  apart:=F.apart
  names:=λx d m=>by
   refine Bh (F.names x d m) ?_;intro v H r;exact⟨v,H.keep (λo V e=>k _ o nl e) (λa o V ea e=>k _ o (nc x a ea) e),r.move λb o q V e=>⟨k b o (λz=>q (F.gx b (.inr z)).1.1) e,λz=>q z.1⟩⟩
  g:=G.mv F.g.1 λb o q nt e=>⟨(Classical.em (T.fp b)).elim (λz=>k0 b o (.inr (q.elim (λq=>(F.g.2.2 b q z).elim) λq=>q.elim (λq=>absurd (F.gx b (.inr z)).1.1 q) id)) e) λz=>k b o z e,λq z=>q z.1⟩
  gx:=λb z=>by refine CB (F.gx b (.inl z)) ?_;intro Cq a3;refine CB Cq ?_;intro a1 a2;exact⟨⟨⟨a1,λy=>F.g.2.2 b z y⟩,a2⟩,a3⟩}
theorem Fr.turn{G T T':Res}(F:Fr (c.on X (G.star T)) J h)(ro:¬c.ro)(l:Bt T.fp h h')(e:T'.fp=T.fp)(t:T'.P c.w X h'):Fr (c.on X (G.star T')) J h':=
 have nl:¬T.fp c.env.locals:=λz=>(F.gx _ (.inr z)).2.1 rfl;have nc:∀x a,c.env.cells.lookup x=some a->¬T.fp a:=λx a e z=>(F.gx _ (.inr z)).2.2 x e;have tx:∀b,T.fp b->X b:=λb z=>(F.gx b (.inr z)).1.1
 {base:=F.base.le l λb z=>(F.Cj b (tx b z)).1
  Cj:=F.Cj.le l
  kind:=F.kind,glob:=F.glob,blt:=F.blt,ok:=F.ok
  old:=⟨λb o nt n e=>l.keep b o nt (λz=>((F.gx b (.inr z)).1.2).elim (λz=>ro z) λz=>z.elim n λz=>by have e2:c.h0.get? b=some o:=e;have z2:c.h0.get? b=none:=z;rw[z2]at e2;cases e2) (F.old.keep b o nt n e),λb o nt w e=>by
   refine B5 (F.old.live b o nt w e) ?_;intro o' e';exact l.alive nt e',λtb=>l.tab (F.old.tab tb),λb o e z=>l.code b o (F.old.code b o e z) z⟩
  loc:=⟨F.loc.1,F.loc.2.1,by refine B5 F.loc.2.2 ?_;intro m q;exact⟨m,Ck q λo e=>l.keep _ o F.W5 nl e⟩⟩
  Ez:=λx a e=>Ht (F.Ez x a e) λa1 a2 y a4=>⟨a1,a2,y.imp λv a3=>B0 a3 λo z=>l.keep _ o a2 (nc x a e) z,a4⟩
  apart:=F.apart
  names:=λx d m=>by
   refine Bh (F.names x d m) ?_;intro v H r;exact⟨v,H.keep (λo nt e=>l.keep _ o nt nl e) (λa o nt ea e=>l.keep _ o nt (nc x a ea) e),r.move (DQ l tx)⟩
  g:=⟨G.mv F.g.1 λb o q nt e=>⟨l.at nt e λz=>q.elim (λq=>(F.g.2.2 b q z).elim) λq=>q.elim (λq=>absurd (tx b z) q) id,id⟩,t,λb x y=>F.g.2.2 b x (e▸y)⟩
  gx:=λb z=>F.gx b (z.imp_right λz=>by rw[e]at z;exact z)}
theorem JZ{target:Expr}{it:Value}{body:Dx}{env:Env}{K:Em}{Q:PySem.Fin->Shared->Prop}(dr:∀(Q':Option Value->Shared->Prop) (E':CG),(∀h2 tk,K h2->Q' none {s with heap:=h2,toks:=tk})->wpAny (model prog w) A (pyNext it) Q' E' s)(q:∀h2 tk,K h2->wpAny (model prog w) A (again (.block [] env)) Q E {s with heap:=h2,toks:=tk}):wpAny (model prog w) A (forTurn target it body [] env) Q E s:=by
 refine wpAny_bind (wpAny_standAt (wpAny_bind (wpAny_onRaise ?_)));exact dr _ _ λh2 tk k=>q h2 tk k
theorem H9{target:Expr}{it:Value}{body:Dx}{env:Env}{P:Cs}{Q:PySem.Fin->Shared->Prop}(dr:∀(Q':CG) (E':CG),(∀v h2 tk,P v h2->Q' v {s with heap:=h2,toks:=tk})->
   wpAny (model prog w) A (pyNext it) (λr s₁=>∃v,r=some v/\wpAny (model prog w) A (letOwnedTupleGo target it v) (λV s₂=>Q' v s₂) E' s₁) E' s)(q:∀v h2 tk,P v h2->wpAny (model prog w) A (assign target env v) (λV s₃=>wpAny (model prog w) A (execs body env) (λf s₄=>match f with
   |.next|.cont=>wpAny (model prog w) A (again (.forLoop target it body [] env)) Q E s₄
   |.brk=>Q (.done .next) s₄
   |.ret v=>Q (.done (.ret v)) s₄) E s₃) E {s with heap:=h2,toks:=tk}):wpAny (model prog w) A (forTurn target it body [] env) Q E s:=by
 refine wpAny_bind (wpAny_standAt (wpAny_bind (wpAny_onRaise ?_)));refine wpAny_mono (dr (λv s₂=>wpAny (model prog w) A (assign target env v) (λV s₃=>wpAny (model prog w) A (execs body env) (λf s₄=>match f with
   |.next|.cont=>wpAny (model prog w) A (again (.forLoop target it body [] env)) Q E s₄
   |.brk=>Q (.done .next) s₄
   |.ret v=>Q (.done (.ret v)) s₄) E s₃) E s₂) E q) (λr s1 h1=>?_) λV V z=>wpAny_standAt z
 refine Bh h1 ?_;clear h1;rintro v rfl hv;refine wpAny_bind (wpAny_mono hv (λV s2 h2=>wpAny_bind (wpAny_mono h2 (λV s3 h3=>wpAny_bind (wpAny_mono h3 (λf s4 h4=>?_) λV V z=>z)) λV V z=>z)) λV V z=>z);cases f with
 |next=>exact h4
 |cont=>exact h4
 |brk=>exact wpAny_pure h4
 |ret v=>exact wpAny_pure h4
theorem Ex.aP{target iter:Expr}{body:Dx}(ro:¬c.ro)(Φ:Nat->Prop)(Φ0:Φ 0)(Gi:Nat->Res)(Ji:Nat->List (Str×D))(hG:c.G=Gi 0)(hJ:J=Ji 0)(Fj:Ba c J target iter ds)(hb:∀i d,ds[i]? = some d->Φ i->∀(X:CF) (T:Res),(∀b,c.X b->X b)->∃Jx,Bind (c.on X ((Gi i).star T)) (Ji i) target d Jx/\
   Bd (c.on X ((Gi i).star T)) Jx [body] (λh=>Φ (i+1)/\∃X',(∀b,c.X b->X' b)/\Fr (c.on X' ((Gi (i+1)).star T)) (Ji (i+1)) h) R)(hs:autoParam (∀x,foldedSetIterable iter c.env x=pure x) Gn) :
  Ex c J (.For target iter body [] pos) (λh=>Φ ds.length/\∃X',(∀b,c.X b->X' b)/\Fr (c.on X' (Gi ds.length)) (Ji ds.length) h) R:=λs F Q E n r=>by
 subst hJ;refine wpAny_For (Fj s F _ _ λit fp h1 t1 l1 n1 c6 ij=>?_) hs;have new:∀b,fp b->MK c b:=λb z=>F.new (n1 b z).1 (n1 b z).2.1;have F1:Fr (c.on (DG c.X fp) ((Gi 0).star (Gh c.A target it fp ds))) (Ji 0) h1:=by
  have:=(F.plus l1 n1).star (T:=Gh c.A target it fp ds) c6 λb z=>(new b z).off z;rw[<- hG];exact this
 refine codeAny_loop' rfl (λm s'=>∃i X h tk,m+i=ds.length/\Φ i/\s'={s with heap:=h,toks:=tk}/\(∀b,c.X b->X b)/\Fr (c.on X ((Gi i).star (Gh c.A target it fp (ds.drop i)))) (Ji i) h) (λm s' hI=>?_) ds.length
  ⟨0,DG c.X fp,h1,t1,rfl,Φ0,rfl,λb z=>Or.inl z,by rw[List.drop_zero];exact F1⟩
 refine kA hI ?_;clear hI;rintro i X h2 t2 hm hΦ rfl hX F2;refine wpAny_noted ?_;have kr:Kp fp X X h2 h2:=λb o q nt e=>⟨e,id⟩;have fx:∀b,fp b->X b:=λb z=>(F2.gx b (.inr z)).1.1;have NJ:Draws c.w c.A target it fp (ds.drop i) X h2:=F2.g.2.1;cases hd:ds.drop i with
 |nil=>
  rw[hd]at NJ;refine JZ (s:={s with heap:=h2,toks:=t2}) (NJ X {s with heap:=h2,toks:=t2} kr fx) λh3 t3 k3=>?_;have hi:i=ds.length:=Nat.le_antisymm (by omega) (BO.mp hd);subst hi;exact wpAny_pure (.inr ⟨rfl,codeAny_block (wpAny_execs_nil (n h3 t3 ⟨hΦ,_,λb z=>⟨hX b z,λy=>(new b y).1 z⟩,F2.Ln (λb z=>(new b z).2.2.1) k3⟩))⟩)
 |cons d IZ=>
  rw[hd]at NJ;have EW:ds[i]? = some d:=by rw[<- List.head?_drop,hd];rfl
  have ai:ds.drop (i+1)=IZ:=by rw[<- List.drop_drop,hd];rfl
  have Dw:=(AP.mp EW).1;refine H9 (s:={s with heap:=h2,toks:=t2}) (P:=λv h3=>Bt fp h2 h3/\B8 X c.w h3 v d/\Draws c.w c.A target it fp IZ X h3)
   (λQ' E' q'=>NJ X {s with heap:=h2,toks:=t2} kr fx F2.Cj F2.base.tab Q' E' λv h3 t3 l3 r3 Up=>q' v h3 t3 ⟨l3,r3,Up⟩) λv h3 t3 zz=>?_
  refine FO zz ?_;clear zz;intro l3 r3 Up;have F3:Fr (c.on X ((Gi i).star (Gh c.A target it fp IZ))) (Ji i) h3:=F2.turn ro l3 rfl Up;refine Bh (hb i d EW hΦ X (Gh c.A target it fp IZ) hX) ?_;intro Jx b x;refine b v {s with heap:=h3,toks:=t3} F3 r3 _ _ λV h4 t4 l4 F4=>?_;refine wpAny_mono (x {s with heap:=h4,toks:=t4} F4 (λf s'=>match f with
    |.next|.cont=>∃m',m'<m/\∃i X h tk,m'+i=ds.length/\Φ i/\s'={s with heap:=h,toks:=tk}/\(∀b,c.X b->X b)/\Fr (c.on X ((Gi i).star (Gh c.A target it fp (ds.drop i)))) (Ji i) h
    |.brk=>Q .next s'
    |.ret v=>Q (.ret v) s') _ (λh5 t5 zz=>by obtain⟨nP,X',Sx,F5⟩:=zz;exact⟨m-1,by omega,i+1,X',h5,t5,by omega,nP,rfl,Sx,ai▸F5⟩) λv h5 t5 r5=>r v h5 t5 r5) (λf s' z=>?_) λV V z=>z
  cases f with
  |next=>exact wpAny_pure (.inl ⟨rfl,z⟩)
  |cont=>exact wpAny_pure (.inl ⟨rfl,z⟩)
  |brk=>exact z
  |ret v=>exact z
theorem Ex.for{target iter:Expr}{body:Dx}(ro:¬c.ro)(Gi:Nat->Res)(Ji:Nat->List (Str×D))(hG:c.G=Gi 0)(hJ:J=Ji 0)(Fj:Ba c J target iter ds)(hb:∀i d,ds[i]? = some d->∀(X:CF) (T:Res),(∀b,c.X b->X b)->∃Jx,Bind (c.on X ((Gi i).star T)) (Ji i) target d Jx/\
   Bd (c.on X ((Gi i).star T)) Jx [body] (λh=>∃X',(∀b,c.X b->X' b)/\Fr (c.on X' ((Gi (i+1)).star T)) (Ji (i+1)) h) R)(hs:autoParam (∀x,foldedSetIterable iter c.env x=pure x) Gn) :
  Ex c J (.For target iter body [] pos) (λh=>∃X',(∀b,c.X b->X' b)/\Fr (c.on X' (Gi ds.length)) (Ji ds.length) h) R:=
 (Ex.aP ro (λV=>True) trivial Gi Ji hG hJ Fj (λi d e V X T hX=>by refine Bh (hb i d e X T hX) ?_;intro Jx b x;exact⟨Jx,b,x.imp (λh z=>⟨trivial,z⟩) λV V z=>z⟩) hs).imp (λh z=>z.2) λV V z=>z
section
variable {c:Cx}{J J' KR J0:B3}{h h':Heap}{N N':Em}{R R':Cs}{Ji:Addr->List (Str×D)}
theorem Ex.sub{st:Stmt}(s:∀p∈J',p∈J)(x:Ex c J' st N R):Ex c J st N R:=λs' F=>x s' (F.sub s)
theorem Bd.EL{G':Res}{st:Stmt}{rest:Dx}{ls:List (List Stmt)}(x:Ex c J st (Fr (c.on X' G') J') R)(y:Bd (c.on X' G') J' (rest::ls) N R):Bd c J ((st::rest)::ls) N R:=
 .cons x λh F=>⟨c.on X' G',J',⟨rfl,rfl,rfl⟩,F,y⟩
structure Upd(G T T' G':Res):Prop where
 has:∀w X h,G.P w X h->T.P w X h
 fp:∀b,T.fp b->G.fp b
 same:∀b,G'.fp b↔G.fp b
 same':∀b,T'.fp b↔T.fp b
 put:∀w X h h',G.P w X h->(∀b,G.fp b->X b)->Bt T.fp h h'->T'.P w X h'->G'.P w X h'
theorem Upd.self{T T':Res}(e:∀b,T'.fp b↔T.fp b):Upd T T T' T':=⟨λV V V z=>z,λV z=>z,e,e,λV V V V V V V z=>z⟩
theorem Upd.lf{G T T' G' S:Res}(u:Upd G T T' G'):Upd (G.star S) T T' (G'.star S) where
 has:=λw X h z=>u.has w X h z.1
 fp:=λb z=>.inl (u.fp b z)
 same:=λb=>or_congr (u.same b) Iff.rfl
 same':=u.same'
 put:=λw X h h' z gx l t=>⟨u.put w X h h' z.1 (λb y=>gx b (.inl y)) l t,S.mv z.2.1 λb o q nt e=>⟨l.at nt e λy=>q.elim (λq=>(z.2.2 b (u.fp b y) q).elim) λq=>q.elim (λq=>absurd (gx b (.inl (u.fp b y))) q) id,id⟩,λb x y=>z.2.2 b ((u.same b).mp x) y⟩
theorem Upd.rt{G T T' G' S:Res}(u:Upd G T T' G'):Upd (S.star G) T T' (S.star G') where
 has:=λw X h z=>u.has w X h z.2.1
 fp:=λb z=>.inr (u.fp b z)
 same:=λb=>or_congr Iff.rfl (u.same b)
 same':=u.same'
 put:=λw X h h' z gx l t=>⟨S.mv z.1 λb o q nt e=>⟨l.at nt e λy=>q.elim (λq=>(z.2.2 b q (u.fp b y)).elim) λq=>q.elim (λq=>absurd (gx b (.inr (u.fp b y))) q) id,id⟩,u.put w X h h' z.2.1 (λb y=>gx b (.inr y)) l t,λb x y=>z.2.2 b x ((u.same b).mp y)⟩
theorem Fr.upd{T T' G':Res}(F:Fr c J h)(ro:¬c.ro)(u:Upd c.G T T' G')(l:Bt T.fp h h')(t:T'.P c.w c.X h'):Fr (c.on c.X G') J h':=
 have nl:¬T.fp c.env.locals:=λz=>(F.gx _ (u.fp _ z)).2.1 rfl;have nc:∀x a,c.env.cells.lookup x=some a->¬T.fp a:=λx a e z=>(F.gx _ (u.fp _ z)).2.2 x e;have tx:∀b,T.fp b->c.X b:=λb z=>(F.gx b (u.fp _ z)).1.1
 {base:=F.base.le l λb z=>(F.Cj b (tx b z)).1
  Cj:=F.Cj.le l
  kind:=F.kind,glob:=F.glob,blt:=F.blt,ok:=F.ok
  old:=⟨λb o nt n e=>l.keep b o nt (λz=>((F.gx b (u.fp _ z)).1.2).elim (λz=>ro z) λz=>z.elim n λz=>by have e2:c.h0.get? b=some o:=e;rw[z]at e2;cases e2) (F.old.keep b o nt n e),λb o nt w e=>by
   refine B5 (F.old.live b o nt w e) ?_;intro o' e';exact l.alive nt e',λtb=>l.tab (F.old.tab tb),λb o e z=>l.code b o (F.old.code b o e z) z⟩
  loc:=⟨F.loc.1,F.loc.2.1,by refine B5 F.loc.2.2 ?_;intro m q;exact⟨m,Ck q λo e=>l.keep _ o F.W5 nl e⟩⟩
  Ez:=λx a e=>let⟨a1,a2,⟨v,a3⟩,a4⟩:=F.Ez x a e
   ⟨a1,a2,⟨v,B0 a3 λo z=>l.keep _ o a2 (nc x a e) z⟩,a4⟩
  apart:=F.apart
  names:=λx d m=>by
   refine Bh (F.names x d m) ?_;intro v H r;exact⟨v,H.keep (λo nt e=>l.keep _ o nt nl e) (λa o nt ea e=>l.keep _ o nt (nc x a ea) e),r.move (DQ l tx)⟩
  g:=u.put _ _ _ _ F.g (λb z=>(F.gx b z).1.1) l t
  gx:=λb z=>F.gx b ((u.same b).mp z)}
noncomputable def Dl(a:Addr)(ds:Cr):Res where
 fp:=(·=a)
 P:=λw X h=>∃vs:List Value,h.IsList a vs.toArray/\Be X w h vs ds/\a≠TP
 mv:=λ{w X X' h h'} zz k=>EI zz λvs p r nt=>⟨vs,EX p λo e=>(k a o (.inl rfl) nt e).1,r.move λb o n t e=>by refine CB (k b o (.inr (.inl n)) t e) ?_;intro x y;exact⟨x,y n⟩,nt⟩
theorem Ev.gW{value slice:Expr}{pos}{i:Int}(hG:∀X h,c.G.P c.w X h->(Dl a ds).P c.w X h)(x:Ev c J value (.obj (.ref a)))(y:Ev c J slice (.int i))(h0:0<=i)(hd:ds[i.toNat]? = some d)(hz:ds.length<=1000000)(hs:autoParam (∀o i,XC slice o i) Nc):Ev c J (.Subscript value slice pos) d:=
 .item x y (λo iv s F ra rb=>by
  cases rb;cases ra;refine EI (hG _ _ F.g) ?_;intro vs p r nt;refine Bh (r.get hd) ?_;intro v hv rv;have Dw:=(AP.mp hd).1;exact⟨⟨_,_,p.typeIs,slot_list_getitem.lookup⟩,λQ E q=>wpAny_getItem_list p h0 (by(clear h0;lia)) (by simpa using hv) (q _ s.heap s.toks (.refl _) rv)⟩) hs
theorem WK(rv:B8 X w h v d):∀ {vs:DV}{ds:Cr} (n:Nat),Be X w h vs ds->Be X w h (vs.set n v) (ds.set n d):=by
 intro vs ds n r;induction ds generalizing vs n with
 |nil=>cases Be.G9 r;exact .nil
 |cons d ds ih=>
  refine Dt (Be.Bo r) ?_;rintro V V rfl a b;cases n with
  |zero=>exact .cons rv b
  |succ n=>exact .cons a (ih n b)
theorem Ex.oh{i value:Expr}{sp:Pos}{IZ:Cr}{k:Int}{G':Res}(ro:¬c.ro)(he:ds.set k.toNat d=IZ)(u:Upd c.G (Dl a ds) (Dl a IZ) G')(z:Ev c J value d)(x:Ev c J o (.obj (.ref a)))(y:Ev c J i (.int k))(h0:0<=k)(h1:k<ds.length)(hz:ds.length<=1000000)(hs:autoParam (swapsWith value (some (.Subscript o i sp)) pos.line c.env=pure false) Bc):Ex c J (.Assign [.Subscript o i sp] value pos) (Fr (c.on c.X G') J) R:=λs F Q E n r=>by
 subst he;exact wpAny_Assign_Subscript (z s F _ _ λv VN t1 l1 r1=>x _ (F.le l1) _ _ λov h2 t2 l2 r2=>y _ ((F.le l1).le l2) _ _ λiv h3 t3 l3 r3=>by
  cases r2;cases r3;have F3:=((F.le l1).le l2).le l3;have b8:=(r1.le l2).le l3;refine EI (u.has _ _ _ F3.g) ?_;intro vs p rr nt;have hl:=rr.length;refine wpAny_setItem_list p h0 (by omega) (by rw[AY];exact lt_of_lt_of_eq h1 (congrArg Nat.cast (id (Eq.symm hl)))) λh4 p4 s4=>?_;refine Bh (id p4) ?_;intro o4 e4 V;have l4:Bt (·=a) h3 h4:=Co s4 _ e4 nt (by obtain⟨_,e,_,_,d⟩:=p;exact Cd.at e (Cd.seq d));have ax:c.X a:=(F3.gx a (u.fp a rfl)).1.1;refine n h4 t3 (F3.upd ro u l4 ⟨vs.set k.toNat v,?_,(WK b8 _ rr).move (DQ l4 λb z=>z▸ax),nt⟩);rw[List.setIfInBounds_toArray]at p4;exact p4) hs
def jQ(c:Cx)(J:B3)(e:Expr)(ds:Cr):Prop:=
 ∀s,Fr c J s.heap->Run c.w c.A Hu (eval e c.env) s λv h'=>∃a vs,v=.ref a/\s.heap.get? a=none/\306<=a/\a≠TP/\h'.PlainList a vs.toArray/\Be (DG c.X (·=a)) c.w h' vs ds
theorem Tn{a k:Int}:∀ {n:Nat}{vs:DV},(∀(i:Nat) (v:Value),vs[i]? = some v->∃t,v=.int (a+(i:Nat)*k) t)->vs.length=n->Be X w h vs (DM a k n)
 |n,vs,hv,hl=>by
  unfold DM;have key:∀(m:Nat) (us:DV),(∀(i:Nat) (v:Value),us[i]? = some v->∃t,v=.int (a+((m+i:Nat):Int)*k) t)->Be X w h us ((List.range' m us.length).map λi=>D.int (a+(i:Nat)*k)):=by
   intro m us;induction us generalizing m with
   |nil=>intro V;exact .nil
   |cons u us ih=>
    intro hu;rw[AZ,List.range'_succ,AI];refine B5 (hu 0 u rfl) ?_;intro t e;rw[e];exact .cons (.int _ _) (ih (m+1) λi v e=>by
     have:=hu (i+1) v e;rwa [show m+(i+1)=m+1+i by exact Eq.symm (Nat.succ_add_eq_add_succ m i)]at this)
  have:=key 0 vs λi v e=>by rw[Nat.zero_add];exact hv i v e
  rw[hl]at this;rwa [List.range_eq_range']
theorem jQ.TL{y:Str}{xp yp pos':Pos}{e1 e2 e3:Expr}{a b k:Int}{n:Nat}(f:Ev c J (.Name x xp) (.obj (.type "list")))(g:Ev c J (.Name y yp) (.obj (.type "range")))(y1:Ev c J e1 (.int a))(y2:Ev c J e2 (.int b))(y3:Ev c J e3 (.int k))(hk:0<k/\k<1000000)(hn:Builtin.Range.rangeSize a b k=n)(hs:Builtin.Range.small a b k=true)(hz:n<=1000000)(he:autoParam (starEach [.Call (.Name y yp) [e1,e2,e3] [] pos'] c.env=(false,eval (.Call (.Name y yp) [e1,e2,e3] [] pos') c.env)::starEach [] c.env) Bc)(ZQ:autoParam (starEach [e1,e2,e3] c.env=(false,eval e1 c.env)::starEach [e2,e3] c.env) Bc)(Jn:autoParam (D8 c e2 [e3]) Bc)(ZR:autoParam (D8 c e3 []) Bc)(hp:autoParam ((backTo pos' (starEach [e2,e3] c.env)).any (·.1)=false) Bc):jQ c J (.Call (.Name x xp) [.Call (.Name y yp) [e1,e2,e3] [] pos'] [] pos) (DM a k n):=λs F Q E q=>
 wpAny_Call_NameR (f s F _ _ λv h1 t1 l1 r1=>by
  cases r1;refine Ax (wpAny_items_cons (wpAny_Call_NameR (g _ (F.le l1) _ _ λv h2 t2 l2 r2=>?_)) he) he rfl;cases r2;refine Ax ((FP.cons y1 (.cons y2 (.cons y3 .nil ZR) Jn) ZQ) pos' _ ((F.le l1).le l2) _ _ λvs h3 t3 l3 r3=>?_) ZQ hp;refine Dt (Be.Bo r3) ?_;rintro V V rfl ra r;refine Dt (Be.Bo r) ?_;rintro V V rfl rb r;refine Dt (Be.Bo r) ?_;rintro V V rfl rc r;cases r;cases ra;cases rb;cases rc;have QT:Le s.heap h3:=Bt.trans (Bt.trans l1 l2) l3;have F3:=F.le QT;refine call_range_3 (by lia) ?_ (.inl (PyProof.noPylong_small (by(clear hn hz;omega))));refine wpAny_items_nil ?_;generalize jo:h3.push {cls:=.type "range",data:=.fields #[.int a _,.int b _,.int k _]}=h4;have gn:Le h3 h4:=jo▸Le.push _ _;have dS:Le s.heap h4:=Bt.trans QT gn;have F4:=F3.le gn;refine call_list_range (s:={s with heap:=h4,toks:=t3}) F.ok.handled (r:=h3.objs.size) (by rw[<- jo];exact AH _ rfl) hs hn (by omega) λh5 tk km c' k5 e5 it=>?_;have l5:Le h4 h5:=Le.of k5;refine q _ h5 tk (Bt.trans dS l5) ⟨h4.objs.size,km.toList,rfl,GN dS F4.base.tab,B6 F4.base,B4 F4.base.tab,⟨c',by simpa using e5⟩,?_⟩;exact Tn (λi v hv=>it.2 i v (by simpa using hv)) (by rw[Array.length_toList];exact it.1))
theorem Ex.cH{xp:Pos}(y:jQ c J e ds)(hx:Cm x)(k:Cf c x)(p:∀a,DF J x (.obj (.ref a)) (Ji a))(hs:autoParam (swapsWith e (some (.Name x xp)) pos.line c.env=pure false) Bc) :
  Ex c J (.Assign [.Name x xp] e pos) (λh=>∃a X',(∀b,c.X b->X' b)/\Fr (c.on X' (c.G.star (Dl a ds))) (Ji a) h) R:=λs F Q E n r=>
 wpAny_Assign_Name (y s F _ _ λv h1 t1 l1 zz=>V6 zz λa vs ev na ba nt pl rl=>by
  subst ev;have Eb:Le s.heap h1:=l1;refine B5 pl ?_;clear pl;intro pn pe;have F1:Fr (c.plus (·=a)) J h1:=F.plus Eb λb z=>by
   have z':b=a:=z;rw[z'];exact⟨na,ba,_,pe⟩
  have new:MK c a:=F.new na ba;have F2:Fr (c.on (DG c.X (·=a)) (c.G.star (Dl a ds))) J h1:=F1.star (T:=Dl a ds) ⟨vs,⟨_,pe,rfl,_,rfl⟩,rl,nt⟩ λb z=>by
   have z':b=a:=z;rw[z'];exact new.off (fp:=(·=a)) rfl
  exact F2.store (s:={s with heap:=h1,toks:=t1}) hx k (.obj _) (p a) λh2 t2 l2 F3=>n h2 t2 ⟨a,_,λb z=>.inl z,F3⟩) hs
end
theorem Y2(env:Env)(n1 n2:Str)(a b:Value){M:Model}{Q:ET}(h:wpAny M A (bindName env n2 b) (λV s'=>wpAny M A (bindName env n1 a) Q E s') E s):wpAny M A (assignInOrder ([n1,n2].reverse.map λn=>bindName env n) [a,b].toArray.toList.reverse) Q E s:=by
 have e:([n1,n2].reverse.map λn=>bindName env n)=[bindName env n2,bindName env n1]:=rfl;have e':[a,b].toArray.toList.reverse=[b,a]:=rfl;rw[e,e'];exact wpAny_assignInOrder_more (wpAny_mono h (λV s' z=>wpAny_assignInOrder_more (wpAny_mono z (λV V q=>wpAny_assignInOrder_none q) λV V x=>x)) λV V x=>x)
theorem Q3{t:Addr}{a b:Value}{Q:List Value->Shared->Prop}(hh:A.handled=none)(p:s.heap.IsTuple t [a,b].toArray)(q:∀h',Le s.heap h'->Q [a,b] {s with heap:=h'}):wpAny (model prog w) A (unpackItems (.ref t) 2 none) Q E s:=
 wpAny_unpackItems_tuple (items:=[a,b].toArray) hh p λh3 x3=>q h3 (Le.of λb o e=>x3 b o (λz=>Aa _ (z▸Ag e)) e)
theorem Wo(env:Env)(n1 n2:Str)(a b:Value){M:Model}{Q:ET}(h:wpAny M A (bindName env n2 b) (λV s'=>wpAny M A (bindName env n1 a) Q E s') E s):wpAny M A (assignInOrder ([n1,n2].reverse.map λn=>bindName env n) [a,b].reverse) Q E s:=Y2 env n1 n2 a b h
theorem Ex.SK{elts:Cw}{tp:Pos}{n1 n2:Str}{d1 d2:D}{J1 J2:B3}(y:Ev c J e (.tup [d1,d2]))(h1:Cm n1)(h2:Cm n2)(k1:Cf c n1)(k2:Cf c n2)(p2:DF J n2 d2 J1)(p1:DF J1 n1 d1 J2)(hw:swappedStores [.Tuple elts k tp] e c.env=pure (some [n1,n2]))(hs:autoParam (swapsWithSole [.Tuple elts k tp] e pos.line c.env=pure false) Bc):Ex c J (.Assign [.Tuple elts k tp] e pos) (Fr c J2) R:=λs F Q E n r=>
 Assign_Tuple_swapped (y s F _ _ λv VN t1 l1 r1=>by
  have Eb:Le s.heap VN:=l1;obtain⟨ad,va,vb,rfl,p,ra,rb⟩:∃ad va vb,v=.ref ad/\VN.IsTuple ad [va,vb].toArray/\B8 c.X c.w VN va d1/\B8 c.X c.w VN vb d2:=by
   refine Qe (B8.M1 r1) ?_;rintro V V rfl nx nt p rr;refine Dt (Be.Bo rr) ?_;rintro V V rfl ra rr;refine Dt (Be.Bo rr) ?_;rintro V V rfl rb rr;cases rr;exact⟨_,_,_,rfl,p,ra,rb⟩
  refine Q3 (s:={s with heap:=VN,toks:=t1}) F.ok.handled p λh3 l3=>?_;have L8:Le VN h3:=l3;have F3:=(F.le Eb).le L8;exact Wo _ _ _ _ _ (wpAny_bindName (F3.store (s:={s with heap:=h3,toks:=t1}) h2 k2 (rb.le L8) p2 λh4 t4 l4 F4=>
   wpAny_bindName (F4.store (s:={s with heap:=h4,toks:=t4}) h1 k1 ((ra.le L8).move (DQ l4 λV z=>F3.fx z)) p1 λh5 t5 l5 F5=>n h5 t5 F5)))) hs hw
theorem Ex.Lm{body orelse:Dx}{h₀:ExceptHandler}{hs:List ExceptHandler}(x:Bd c J [body] (λV=>False) R):Ex c J (.Try body (h₀::hs) orelse [] pos) N R:=λs F Q E n r=>
 wpAny_Try_except (wpAny_mono (x s F (λf s'=>match f with|.ret v=>Q (.ret v) s'|_=>False) _ (λV V z=>z.elim) λv h1 t1 z=>r v h1 t1 z) (λf s' z=>by
  cases f with
  |next=>exact(z:False).elim
  |ret v=>exact z
  |brk=>exact(z:False).elim
  |cont=>exact(z:False).elim) λV V z=>z)
noncomputable def BW(x C Z:Str):Str:=if Txt.contains x C then Txt.replace x C Z else x
theorem Ex.Kj{n:Str}{C Z:Str}{k1 k2 k3:Nat}{p1 p2 p3 p4 p5 p6 p7 p8 p9:Pos}(m:(n,.str x)∈J)(k:Cf c n)(p:DF J n (.str (BW x C Z)) J')(tQ:(C==Z)=false)(hx:x.length<=1048576)(hz:Z.length<=14)(hl:(p7.endLine==p8.line)=true) :
  Ex c J (.If (.Compare (.Constant (.str C) k1 p1) [.In] [.Name n p2] p3) [.Assign [.Name n p4] (.Call (.Attribute (.Name n p6) "replace" p7) [.Constant (.str C) k2 p5,.Constant (.str Z) k3 p9] [] p8) pos] [] pos) (Fr c J') R:=λs F Q E nn r=>by
 refine Bh (F.names n _ m) ?_;intro v H rv;cases rv;refine wpAny_If (wpAny_isTrue_Compare1 (wpAny_Constant_str (wpAny_Name (D1 H F.kind (SB.contains (wpAny_truthy_bool ?_))) H.1.1)));cases hc:Txt.contains x C with
 |false=>
  simp only[AR,if_false];refine wpAny_execs_nil (nn s.heap (s.toks+1) (F.sub λq hq=>?_));rcases p q hq with e|⟨e,_⟩
  .rw [e];unfold BW;rw[hc];exact m
  .exact e
 |true=>
  simp only[if_true];refine Ao (wpAny_Assign_Name (wpAny_Call_method_lateS rfl (by rfl) hl (wpAny_Name (D1 H F.kind ?_) H.1.1)) rfl);refine⟨"str","str.replace",PySem.F.plainAttrs_str,PySem.F.slot_str_replace,PySem.F.type_str_replace,typeIs_str _ _ _,(λV e=>nomatch e),?_⟩;refine BI (wpAny_items_cons (wpAny_Constant_str (wpAny_items_cons (wpAny_Constant_str (wpAny_items_nil ?_)))));refine SC.replaceW (Nat.succ_ne_zero _) (Nat.succ_ne_zero _) (λz=>by have:s.toks+1=s.toks+1+1:=z;(clear z;lia)) tQ hx hz λt' kk=>?_;have e:BW x C Z=Txt.replace x C Z:=by unfold BW;rw[hc];rfl
  rw[e]at p;exact F.store (s:={s with toks:=kk}) H.1 k (.str _ _) p λh2 t2 l2 F2=>wpAny_execs_nil (nn h2 t2 F2)
theorem FZ{β:Type}(p:α->Bool)(g:α->β):∀xs:List α,(xs.map λx=>if p x then[g x]else[]).flatten=(xs.filter p).map g:=by
 intro l;induction l with
 |nil=>exact  rfl
 |cons x xs ih=>
  rw[AI,List.flatten_cons,ih];cases hp:p x<;>simp[hp]
theorem Ev.OO{β:Type}{elt t1 i1 t2 i2:Expr}{ifs:Cw}(xs:List α)(Cn:α->D)(ys:α->List β)(Fv:α->β->D)(p:α->β->Bool)(g:α->β->D)(CO:C8 c J scope J0)(Fj:Ba c J t1 i1 (xs.map Cn))(Jx:α->List (Str×D))(D7:∀x,∀q∈J0,q∈Jx x)(hb:∀x∈xs,∀cc,Sub c cc scope->Bind cc J0 t1 (Cn x) (Jx x))(NZ:∀x∈xs,∀cc,Sub c cc scope->Ba cc (Jx x) t2 i2 ((ys x).map (Fv x)))(Jy:α->β->List (Str×D))(ID:∀x y,∀q∈Jx x,q∈Jy x y)(VR:∀x∈xs,∀y∈ys x,∀cc,Sub c cc scope->Bind cc (Jx x) t2 (Fv x y) (Jy x y))(hi:∀x∈xs,∀y∈ys x,∀cc,Sub c cc scope->CL cc (Jy x y) ifs (p x y))(he:∀x∈xs,∀y∈ys x,p x y=true->∀cc,Sub c cc scope->Ev cc (Jy x y) elt (g x y))(sz:(xs.flatMap λx=>((ys x).filter (p x)).map (g x)).length<=1000000)(UC:autoParam (∀e x,Q7 i1 e x) Gn)(QM:autoParam (∀e x,Q7 i2 e x) Gn) :
  Ev c J (.ListComp elt [⟨t1,i1,[],0⟩,⟨t2,i2,ifs,0⟩] scope pos) (.list (xs.flatMap λx=>((ys x).filter (p x)).map (g x))):=by
 have e:(xs.map λx=>(Cn x,((ys x).filter (p x)).map (g x))).flatMap (·.2)=xs.flatMap λx=>((ys x).filter (p x)).map (g x):=by
  rw[Ak,AB,Ak];rfl
 rw[<- e];refine Ev.Ow (J0:=J0) (λg' hg=>by
  refine Sa hg ?_ ?_
  .exact ⟨rfl,UC⟩
  .exact ⟨rfl,QM⟩) CO _ (by rw[AB];exact Fj) (λd hd=>?_) (by rw[e];exact sz)
 refine Bh (AF.mp hd) ?_;rintro x hx rfl;refine⟨Jx x,true,D7 x,hb x hx,λcc sc=>CL.nil,(λhp=>by cases hp),λV=>⟨(ys x).map λy=>(Fv x y,if p x y then[g x y]else[]),λcc sc=>by rw[AB];exact NZ x hx cc sc,?_,λd hd=>?_⟩⟩
 .rw [Ak,AB];exact(FZ (p x) (g x) (ys x)).symm
 .refine Bh (AF.mp hd) ?_;rintro y hy rfl;exact⟨Jy x y,p x y,ID x y,VR x hx y hy,hi x hx y hy,λhp=>by simp[hp],λhp=>⟨g x y,by simp[hp],λcc sc=>Ie.list (he x hx y hy hp cc sc)⟩⟩
def rW(c:Cx)(J:B3)(e:Expr)(d:D):Prop:=
 ∀s,Fr c J s.heap->∀(x:Str) (xp:Pos) (J':B3),Cm x->Cf c x->DF J x d J'->∀(Q:ET) (E:CG),(∀h' tk,Fr c J' h'->Q () {s with heap:=h',toks:=tk})->
  wpAny (model prog c.w) c.A (evalThenUse e c.env (assign (.Name x xp) c.env)) Q E s
structure CE(c:Cx)(J:B3)(e:Expr)(d:D):Prop where
 ev:Ev c J e d
 use:rW c J e d
theorem CE.eq{d':D}(x:CE c J e d)(q:d=d'):CE c J e d':=q▸x
theorem SR{C:Addr}{tk:Nat}(F:Fr c J s.heap){xp:Pos}(hx:Cm x)(k:Cf c x)(p:DF J x d J')(sC:s.heap.get? C=none)(bC:306<=C)(l:Le s.heap h')(ns:h'.Ns C m)(r:B8 (DG c.X (·=C)) c.w h' v d)(q:∀Hh tk,Fr c J' Hh->Q .none {s with heap:=Hh,toks:=tk}) :
  wpAny (model prog c.w) c.A (assign (.Name x xp) c.env v) (λV Gb=>∃m,Gb.heap.Ns C m/\∀h',Heap.SameBut C Gb.heap h'->Q .none {Gb with heap:=h'}) E {s with heap:=h',toks:=tk}:=by
 have eC:∃o,h'.get? C=some o:=by refine Js ns ?_;clear ns;intro o V V e V;exact⟨o,e⟩
 have F1:Fr (c.plus (·=C)) J h':=F.plus l λb z=>by have z':b=C:=z;rw[z'];exact⟨sC,bC,eC⟩
 have new:MK c C:=F.new sC bC;refine wpAny_assign_Name (F1.store (s:={s with heap:=h',toks:=tk}) hx k r p λh2 t2 l2 F2=>?_);have OD:C≠TP:=λz=>by have:=bC;rw[z]at this;exact absurd this (by decide)
 have iL:h2.Ns C m:=Ck ns λo e=>l2.keep _ o OD (λz=>Ho new z) e;refine⟨m,iL,λh3 sb=>q h3 t2 ?_⟩;exact Fr.drop F F2 (λb z=>by have z':b=C:=z;rw[z'];exact new) λb o n e=>(sb.2 b λq=>n.elim (λn=>n q) λn=>Cd.ns iL o (by rw[<- q];exact e) n).trans e
theorem CE.list{elt:Expr}{g:Comprehension}{gs:Ec}(hs:∀g'∈g::gs,g'.is_async=0/\∀env x,foldedSetIterable g'.iter env x=pure x)(CO:C8 c J scope J0)(ds:List (D×List D))(Fj:Ba c J g.target g.iter (ds.map (·.1)))(FF:∀d∈ds,Turn (λcc=>Sub c cc scope) Jj.list (jc elt) g gs J0 d.1 d.2)(sz:(ds.flatMap (·.2)).length<=1000000) :
  CE c J (.ListComp elt (g::gs) scope pos) (.list (ds.flatMap (·.2))):=⟨Ev.Ow hs CO ds Fj FF sz,λs F x xp J' hx k p Q E q=>by
 show wpAny _ _ (do let _ <- comprehension _ scope c.env _ (newList []) (firstAsync (g::gs)) (firstIter (g::gs) c.env) (some (assign (.Name x xp) c.env))) _ _ _;rw[DU (hs g (.head _)).1,Dp];refine wpAny_bind (Fu (newAcc:=newList []) (Hd hs) Jj.list (o0:={cls:=.type "list",data:=.seq #[]}) (λM A s Q E h=>wpAny_newObj_type h) rfl (λw X h a e V=>⟨[],⟨_,e⟩,.nil⟩) CO Fj FF sz F (Q:=λV s'=>wpAny (model prog c.w) c.A (pure ()) Q E s') ?_);intro acc C h' tk m sa sC ba bC ac KI OD l ns Cq;refine Bh Cq ?_;intro vs pl r;refine SR (E:=E) (Q:=λV s'=>wpAny (model prog c.w) c.A (pure ()) Q E s') F hx k p sC bC l ns (B8.list (λz=>?_) KI pl r) λHh t2 F2=>wpAny_pure (q Hh t2 F2);rcases z with z|z
 .obtain ⟨_,o,eo⟩:=F.Cj acc z;rw[sa]at eo;cases eo
 .exact ac z⟩
theorem CE.dict{k v:Expr}{g:Comprehension}{gs:Ec}(hs:∀g'∈g::gs,g'.is_async=0/\∀env x,foldedSetIterable g'.iter env x=pure x)(CO:C8 c J scope J0)(ds:List (D×List (Str×D)))(Fj:Ba c J g.target g.iter (ds.map (·.1)))(FF:∀d∈ds,Turn (λcc=>Sub c cc scope) Jj.dict (c9 k v) g gs J0 d.1 d.2)(sz:(ds.flatMap (·.2)).length<=1000000) :
  CE c J (.DictComp k v (g::gs) scope pos) (.dict (DB [] (ds.flatMap (·.2)))):=⟨Ev.Un hs CO ds Fj FF sz,λs F x xp J' hx kk p Q E q=>by
 show wpAny _ _ (do let _ <- comprehension _ scope c.env _ newDict (firstAsync (g::gs)) (firstIter (g::gs) c.env) (some (assign (.Name x xp) c.env))) _ _ _;rw[DU (hs g (.head _)).1,Dp];refine wpAny_bind (Fu (newAcc:=newDict) (Hc hs) Jj.dict (o0:={cls:=.type "dict",data:=.dict #[]}) (λM A s Q E h=>wpAny_newObj_type h) rfl (λw X h a e n=>⟨[],C3 e,.nil,n⟩) CO Fj FF sz F (Q:=λV s'=>wpAny (model prog c.w) c.A (pure ()) Q E s') ?_);intro acc C h' tk m sa sC ba bC ac KI OD l ns Du;refine EI Du ?_;intro vs pl r n;refine SR (E:=E) (Q:=λV s'=>wpAny (model prog c.w) c.A (pure ()) Q E s') F hx kk p sC bC l ns (B8.dict (λz=>?_) KI (by simpa using n) pl r) λHh t2 F2=>wpAny_pure (q Hh t2 F2);rcases z with z|z
 .obtain ⟨_,o,eo⟩:=F.Cj acc z;rw[sa]at eo;cases eo
 .exact ac z⟩
theorem Ex.setC{xp:Pos}(y:CE c J e d)(hx:Cm x)(k:Cf c x)(p:DF J x d J')(hs:swapsWith e (some (.Name x xp)) pos.line c.env=pure true):Ex c J (.Assign [.Name x xp] e pos) (Fr c J') R:=λs F Q E n r=>by
 rw[exec_Assign_Name_used _ _ _ _ hs];exact wpAny_bind (wpAny_standAt (wpAny_bind (y.use s F x xp J' hx k p _ _ λh' tk F'=>wpAny_pure (n h' tk F'))))
theorem CE.C0{elt target iter:Expr}{ifs:Cw}(xs:List α)(Cn:α->D)(p:α->Bool)(g:α->D)(CO:C8 c J scope J0)(Fj:Ba c J target iter (xs.map Cn))(Jx:α->List (Str×D))(D7:∀x,∀q∈J0,q∈Jx x)(hb:∀x∈xs,∀cc,Sub c cc scope->Bind cc J0 target (Cn x) (Jx x))(hi:∀x∈xs,∀cc,Sub c cc scope->CL cc (Jx x) ifs (p x))(he:∀x∈xs,p x=true->∀cc,Sub c cc scope->Ev cc (Jx x) elt (g x))(sz:xs.length<=1000000)(hs:autoParam (∀e x,Q7 iter e x) Gn) :
  CE c J (.ListComp elt [⟨target,iter,ifs,0⟩] scope pos) (.list ((xs.filter p).map g)):=by
 have e:(xs.map λx=>(Cn x,if p x then[g x]else[])).flatMap (·.2)=(xs.filter p).map g:=by
  rw[Ak,AB];exact FZ p g xs
 rw[<- e];refine CE.list (J0:=J0) (λg' hg=>by rw[AG.mp hg];exact⟨rfl,hs⟩) CO _ (by rw[AB];exact Fj) (λd hd=>?_) (by rw[e,AA];exact AD (AV _ _) sz);refine Bh (AF.mp hd) ?_;rintro x hx rfl;refine⟨Jx x,p x,D7 x,hb x hx,hi x hx,λhp=>by simp[hp],λhp=>⟨g x,by simp[hp],λcc sc=>Ie.list (he x hx hp cc sc)⟩⟩
theorem CE.Kb{k v target iter:Expr}{ifs:Cw}(xs:List α)(Cn:α->D)(p:α->Bool)(gk:α->Str)(g:α->D)(CO:C8 c J scope J0)(Fj:Ba c J target iter (xs.map Cn))(Jx:α->List (Str×D))(D7:∀x,∀q∈J0,q∈Jx x)(hb:∀x∈xs,∀cc,Sub c cc scope->Bind cc J0 target (Cn x) (Jx x))(hi:∀x∈xs,∀cc,Sub c cc scope->CL cc (Jx x) ifs (p x))(he:∀x∈xs,p x=true->∀cc,Sub c cc scope->Ev cc (Jx x) k (.str (gk x))/\Ev cc (Jx x) v (g x))(sz:xs.length<=1000000)(hs:autoParam (∀e x,Q7 iter e x) Gn) :
  CE c J (.DictComp k v [⟨target,iter,ifs,0⟩] scope pos) (.dict (DB [] ((xs.filter p).map λx=>(gk x,g x)))):=by
 have e:(xs.map λx=>(Cn x,if p x then[(gk x,g x)]else[])).flatMap (·.2)=(xs.filter p).map λx=>(gk x,g x):=by
  rw[Ak,AB];exact FZ p (λx=>(gk x,g x)) xs
 rw[<- e];refine CE.dict (J0:=J0) (λg' hg=>by rw[AG.mp hg];exact⟨rfl,hs⟩) CO _ (by rw[AB];exact Fj) (λd hd=>?_) (by rw[e,AA];exact AD (AV _ _) sz);refine Bh (AF.mp hd) ?_;rintro x hx rfl;refine⟨Jx x,p x,D7 x,hb x hx,hi x hx,λhp=>by simp[hp],λhp=>⟨(gk x,g x),by simp[hp],λcc sc=>Ie.dict (he x hx hp cc sc).1 (he x hx hp cc sc).2⟩⟩
theorem CE.OO{β:Type}{elt t1 i1 t2 i2:Expr}{ifs:Cw}(xs:List α)(Cn:α->D)(ys:α->List β)(Fv:α->β->D)(p:α->β->Bool)(g:α->β->D)(CO:C8 c J scope J0)(Fj:Ba c J t1 i1 (xs.map Cn))(Jx:α->List (Str×D))(D7:∀x,∀q∈J0,q∈Jx x)(hb:∀x∈xs,∀cc,Sub c cc scope->Bind cc J0 t1 (Cn x) (Jx x))(NZ:∀x∈xs,∀cc,Sub c cc scope->Ba cc (Jx x) t2 i2 ((ys x).map (Fv x)))(Jy:α->β->List (Str×D))(ID:∀x y,∀q∈Jx x,q∈Jy x y)(VR:∀x∈xs,∀y∈ys x,∀cc,Sub c cc scope->Bind cc (Jx x) t2 (Fv x y) (Jy x y))(hi:∀x∈xs,∀y∈ys x,∀cc,Sub c cc scope->CL cc (Jy x y) ifs (p x y))(he:∀x∈xs,∀y∈ys x,p x y=true->∀cc,Sub c cc scope->Ev cc (Jy x y) elt (g x y))(sz:(xs.flatMap λx=>((ys x).filter (p x)).map (g x)).length<=1000000)(UC:autoParam (∀e x,Q7 i1 e x) Gn)(QM:autoParam (∀e x,Q7 i2 e x) Gn) :
  CE c J (.ListComp elt [⟨t1,i1,[],0⟩,⟨t2,i2,ifs,0⟩] scope pos) (.list (xs.flatMap λx=>((ys x).filter (p x)).map (g x))):=by
 have e:(xs.map λx=>(Cn x,((ys x).filter (p x)).map (g x))).flatMap (·.2)=xs.flatMap λx=>((ys x).filter (p x)).map (g x):=by
  rw[Ak,AB,Ak];rfl
 rw[<- e];refine CE.list (J0:=J0) (λg' hg=>by
  refine Sa hg ?_ ?_
  .exact ⟨rfl,UC⟩
  .exact ⟨rfl,QM⟩) CO _ (by rw[AB];exact Fj) (λd hd=>?_) (by rw[e];exact sz)
 refine Bh (AF.mp hd) ?_;rintro x hx rfl;refine⟨Jx x,true,D7 x,hb x hx,λcc sc=>CL.nil,(λhp=>by cases hp),λV=>⟨(ys x).map λy=>(Fv x y,if p x y then[g x y]else[]),λcc sc=>by rw[AB];exact NZ x hx cc sc,?_,λd hd=>?_⟩⟩
 .rw [Ak,AB];exact(FZ (p x) (g x) (ys x)).symm
 .refine Bh (AF.mp hd) ?_;rintro y hy rfl;exact⟨Jy x y,p x y,ID x y,VR x hx y hy,hi x hx y hy,λhp=>by simp[hp],λhp=>⟨g x y,by simp[hp],λcc sc=>Ie.list (he x hx y hy hp cc sc)⟩⟩
theorem CE.aE{β:Type}{k v t1 i1 t2 i2:Expr}{ifs:Cw}(xs:List α)(Cn:α->D)(ys:α->List β)(Fv:α->β->D)(p:α->β->Bool)(gk:α->β->Str)(g:α->β->D)(CO:C8 c J scope J0)(Fj:Ba c J t1 i1 (xs.map Cn))(Jx:α->List (Str×D))(D7:∀x,∀q∈J0,q∈Jx x)(hb:∀x∈xs,∀cc,Sub c cc scope->Bind cc J0 t1 (Cn x) (Jx x))(NZ:∀x∈xs,∀cc,Sub c cc scope->Ba cc (Jx x) t2 i2 ((ys x).map (Fv x)))(Jy:α->β->List (Str×D))(ID:∀x y,∀q∈Jx x,q∈Jy x y)(VR:∀x∈xs,∀y∈ys x,∀cc,Sub c cc scope->Bind cc (Jx x) t2 (Fv x y) (Jy x y))(hi:∀x∈xs,∀y∈ys x,∀cc,Sub c cc scope->CL cc (Jy x y) ifs (p x y))(he:∀x∈xs,∀y∈ys x,p x y=true->∀cc,Sub c cc scope->Ev cc (Jy x y) k (.str (gk x y))/\Ev cc (Jy x y) v (g x y))(sz:(xs.flatMap λx=>((ys x).filter (p x)).map λy=>(gk x y,g x y)).length<=1000000)(UC:autoParam (∀e x,Q7 i1 e x) Gn)(QM:autoParam (∀e x,Q7 i2 e x) Gn) :
  CE c J (.DictComp k v [⟨t1,i1,[],0⟩,⟨t2,i2,ifs,0⟩] scope pos) (.dict (DB [] (xs.flatMap λx=>((ys x).filter (p x)).map λy=>(gk x y,g x y)))):=by
 have e:(xs.map λx=>(Cn x,((ys x).filter (p x)).map λy=>(gk x y,g x y))).flatMap (·.2)=xs.flatMap λx=>((ys x).filter (p x)).map λy=>(gk x y,g x y):=by
  rw[Ak,AB,Ak];rfl
 rw[<- e];refine CE.dict (J0:=J0) (λg' hg=>by
  refine Sa hg ?_ ?_
  .exact ⟨rfl,UC⟩
  .exact ⟨rfl,QM⟩) CO _ (by rw[AB];exact Fj) (λd hd=>?_) (by rw[e];exact sz)
 refine Bh (AF.mp hd) ?_;rintro x hx rfl;refine⟨Jx x,true,D7 x,hb x hx,λcc sc=>CL.nil,(λhp=>by cases hp),λV=>⟨(ys x).map λy=>(Fv x y,if p x y then[(gk x y,g x y)]else[]),λcc sc=>by rw[AB];exact NZ x hx cc sc,?_,λd hd=>?_⟩⟩
 .rw [Ak,AB];exact(FZ (p x) (λy=>(gk x y,g x y)) (ys x)).symm
 .refine Bh (AF.mp hd) ?_;rintro y hy rfl;exact⟨Jy x y,p x y,ID x y,VR x hx y hy,hi x hx y hy,λhp=>by simp[hp],λhp=>⟨(gk x y,g x y),by simp[hp],λcc sc=>Ie.dict (he x hx y hy hp cc sc).1 (he x hx y hy hp cc sc).2⟩⟩
theorem RQ:B9 38 (BZ 5) (Str.ofString "_substitution_cost") 37 .none (.str (Str.ofString "cpy313.traceback") 282):=
 ⟨λP=>rfl,λP=>⟨_,_,_,rfl,rfl,rfl⟩,rfl,rfl,rfl⟩
noncomputable def DD(a b:Str):Int:=if a=b then 0 else if Txt.lower a=Txt.lower b then 1 else 2
theorem DJ(a b:Str):(D.str a).eqv (.str b)=decide (a=b):=by
 show PyData.eqv (.str a) (.str b)=_;rw[PyData.eqv];cases h:a==b<;>simp_all
theorem aY(w:World)(k:Nat)(a b:Str)(ha:PyData.strOk a=true)(hb:PyData.strOk b=true)(la:a.length<=100)(lb:b.length<=100)(fa:PyData.strOk (Txt.lower a)=true)(fb:PyData.strOk (Txt.lower b)=true) :
  C9 w 38 (k+1) [.str a,.str b] (.int (DD a b)):=by
 refine Ed RQ (names:=[Str.ofString "ch_a",Str.ofString "ch_b"]) (λvs e=>?_) rfl (.of (by decide +kernel)) λc X h0 F=>?_
 .refine MB (Ot e) ?_;rintro v1 v2 rfl;rfl
 .have w0:=F.hw;refine Bd.if (CK.cmp ((Bg.UA Ev.n Ev.n (Gl.str (n:=0) ha) (Gl.str (n:=0) hb)).eq (DJ a b))) (λh=>?_) (λh=>?_)
  .refine Bd.ret (Ex.ret (Ev.cInt.eq ?_));rw[DD,if_pos (of_decide_eq_true h)]
  .refine Bd.nil (Bd.if (CK.cmp ((Bg.UA (Ev.lower Ev.n (by omega)) (Ev.lower Ev.n (by omega)) (Gl.str (n:=0) fa) (Gl.str (n:=0) fb)).eq (DJ _ _))) (λh'=>?_) (λh'=>?_))
   .refine Bd.ret (Ex.ret (Ev.glob (v:=.int 1 288) (d:=.int (DD a b)) (by decide) (F.kind rfl) (λV=>?_)));rw[DD,if_neg (of_decide_eq_false h),if_pos (of_decide_eq_true h')];exact .int _ _
   .refine Bd.nil (Bd.ret (Ex.ret (Ev.glob (v:=.int 2 286) (d:=.int (DD a b)) (by decide) (F.kind rfl) (λV=>?_))));rw[DD,if_neg (of_decide_eq_false h),if_neg (of_decide_eq_false h')];exact .int _ _
noncomputable def Hq(J:B3)(x:Str)(d:D):List (Str×D):=(x,d)::J.filter λp=>!(p.1==x)
theorem DF.of(e:Hq J x d=J'):DF J x d J':=e▸λp hp=>by
 rcases AJ.mp hp with e|hp
 .exact .inl e
 .refine CB (Az.mp hp) ?_;intro a b;exact .inr ⟨a,λz=>by rw[z]at b;simp at b⟩
structure UO where
 Cn:List Str->D
 ok:List Str->Prop
 sub:∀xs ys,ok xs->(∀y∈ys,y∈xs)->ok ys
 str:∀xs,ok xs->∀x∈xs,PyData.strOk x=true
 slice:∀ {c:Cx}{J:B3}{value:Expr}{lo hi:Option Expr}{p pos:Pos}{xs:B1}{kl ku:Option Int},ok xs->Ev c J value (Cn xs)->Part c J lo kl->Part c J hi ku->xs.length<=1000->
  Ev c J (.Subscript value (.Slice lo hi none p) pos) (Cn (cut xs kl ku))
 item:∀ {c:Cx}{J:B3}{value i:Expr}{pos:Pos}{xs:B1}{k:Int}{x:Str},ok xs->Ev c J value (Cn xs)->Ev c J i (.int k)->xs.length<=1000->-(xs.length:Int)<=k->xs[(if k<0 then k+xs.length else k).toNat]? = some x->
  (∀o i',subscripted i false o i'=operate [o,i'] (getItem o i'))->Ev c J (.Subscript value i pos) (.str x)
 len:∀ {c:Cx}{J:B3}{x:Str}{np pos:Pos}{e:Expr}{xs:B1},ok xs->Ev c J (.Name x np) (.obj (.builtin "len"))->Ev c J e (Cn xs)->xs.length<=1000->(starEach [e] c.env=(false,eval e c.env)::starEach [] c.env)->
  Ev c J (.Call (.Name x np) [e] [] pos) (.int xs.length)
 eq:∀ {c:Cx}{J:B3}{l r:Expr}{xs ys:B1},ok xs->ok ys->Ev c J l (Cn xs)->Ev c J r (Cn ys)->behindInMarks .Eq r=false->Bg c J l .Eq r (decide (xs=ys))
 Ll:∀xs,ok xs->xs.length<=1000->(Cn xs).Ll=!xs.isEmpty/\(Cn xs).small
theorem Sn(xs ys:B1):(D.list (xs.map .str)).eqv (.list (ys.map .str))=decide (xs=ys):=by
 show PyData.eqv (.list (D.KJ (xs.map .str))) (.list (D.KJ (ys.map .str)))=_;rw[PyData.eqv,D.GZ,D.GZ,AB,AB];have e:∀zs:List Str,zs.map (D.py∘D.str)=zs.map PyData.str:=λzs=>by
  apply AW;intro z V;show D.py (.str z)=_;rw[Ql]
 rw[e,e];induction xs generalizing ys with
 |nil=>cases ys with
  |nil=>rw[List.map_nil,PyData.eqvAll];rfl
  |cons y ys=>
   rw[List.map_nil,AI,PyData.eqvAll]
   .rfl
   all_goals simp
 |cons x xs ih=>cases ys with
  |nil=>
   rw[List.map_nil,AI,PyData.eqvAll]
   .rfl
   all_goals simp
  |cons y ys=>
   rw[AI,AI,PyData.eqvAll,ih,PyData.eqv];by_cases h1:x=y<;>by_cases h2:xs=ys<;>simp[h1,h2]
noncomputable def om:UO where
 Cn:=λxs=>.list (xs.map .str)
 ok:=λxs=>∀x∈xs,PyData.strOk x=true
 sub:=λxs ys h s y hy=>h y (s y hy)
 str:=λxs h=>h
 slice:=λh x y1 y2 hz=>by
  rw[<- NH];exact Ev.EH x y1 y2 (by rw[AA];exact lb hz rfl)
 item:=λ{c J value i pos xs k x} h v y hz h1 hx hs=>by
  split at hx
  .rename_i hk;exact Ev.Vb v y hk (by rw[AA];exact h1) (by rw[AA,AL,hx];rfl) (by rw[AA];exact lb hz rfl) hs
  .rename_i hk;exact Ev.FG v y (by exact(λ{a b}=>Int.not_lt.mp) hk) (by rw[AL,hx];rfl) (by rw[AA];exact lb hz rfl) hs
 len:=λh f y hz he=>(Ev.g9 f y (by rw[AA];exact lb hz rfl) he).eq (by rw[AA])
 eq:=λh1 h2 x y hm=>(Bg.UA (n:=1) (m:=1) x y (.list λd hd=>by refine Bh (AF.mp hd) ?_;rintro z hz rfl;exact .str (h1 z hz)) (.list λd hd=>by refine Bh (AF.mp hd) ?_;rintro z hz rfl;exact .str (h2 z hz)) (by decide) hm).eq (Sn _ _)
 Ll:=λxs h hz=>⟨by show(!(xs.map D.str).isEmpty)=_;cases xs<;>rfl,by show(xs.map D.str).length<=1000000;rw[AA];exact lb hz rfl⟩
noncomputable def HW(x:Str):Nat:=x.cps.toList.headD 0
def UL(xs:B1):Prop:=∀x∈xs,x=⟨#[HW x]⟩/\PyData.strOk x=true
noncomputable def cat(xs:B1):Str:=⟨(xs.map HW).toArray⟩
theorem HJ(xs:B1):(cat xs).length=xs.length:=by
 show(xs.map HW).toArray.size=_;simp
theorem XO{xs ys:B1}(h1:UL xs)(h2:UL ys)(e:cat xs=cat ys):xs=ys:=by
 have e':xs.map HW=ys.map HW:=by
  have:=congrArg (λs:Str=>s.cps.toList) e;simpa[cat]using this
 clear e;induction xs generalizing ys with
 |nil=>cases ys with|nil=>rfl|cons y ys=>cases e'
 |cons x xs ih=>
  cases ys with
  |nil=>cases e'
  |cons y ys=>
   rw[AI,AI]at e';injection e' with a b
   rw[(h1 x (.head _)).1,(h2 y (.head _)).1,a,ih (λz hz=>h1 z (.tail _ hz)) (λz hz=>h2 z (.tail _ hz)) b]
theorem Mw{xs:B1}(h:UL xs):PyData.strOk (cat xs)=true:=by
 unfold PyData.strOk cat;rw[List.all_toArray,Ah];intro n hn;refine Bh (AF.mp hn) ?_;rintro x hx rfl;refine CB (h x hx) ?_;intro e s;rw[e]at s;simpa[PyData.strOk]using s
noncomputable def kK:UO where
 Cn:=λxs=>.str (cat xs)
 ok:=UL
 sub:=λxs ys h s y hy=>h y (s y hy)
 str:=λxs h x hx=>(h x hx).2
 slice:=λ{c J value lo hi p pos xs kl ku} h x y1 y2 hz=>by
  refine(Ev.cM x y1 y2 (by rw[HJ];exact lb hz rfl)).eq ?_;show D.str _=D.str _;unfold cat;rw[<- NH]
 item:=λ{c J value i pos xs k x} h v y hz h1 hx hs=>by
  have Dw:=(AP.mp hx).1;have hc:Txt.charAt (cat xs) k=some (HW x):=by
   unfold Txt.charAt seqIndex?;rw[HJ];have key:∀n:Nat,xs[n]? = some x->(cat xs).cps[n]? = some (HW x):=λn e=>by
    show(xs.map HW).toArray[n]? = _;rw[BK,AL,e];rfl
   split at hx
   .rename_i hk;rw[if_pos hk]at Dw;simp only[hk,if_true];rw[if_pos (by simp only[Bool.and_eq_true,decide_eq_true_eq];lia)];exact key _ hx
   .rename_i hk;rw[if_neg hk]at Dw;simp only[hk,if_false];rw[if_pos (by simp only[Bool.and_eq_true,decide_eq_true_eq];(clear h1;lia))];exact key _ hx
  refine(Ev.gX v y (by rw[hc];rfl) (by
   unfold fitsSsize;simp only[Bool.not_eq_true',Bool.or_eq_false_iff,decide_eq_false_iff_not];split at Dw<;>lia) hs).eq ?_
  have hm:x∈xs:=AQ hx;show D.str (Txt.item _ _)=D.str x;unfold Txt.item;rw[hc,Option.getD_some,<- (h x hm).1]
 len:=λh f y hz he=>(Ev.Nl f y (by rw[HJ];exact lb hz rfl) he).eq (by rw[HJ])
 eq:=λh1 h2 x y hm=>(Bg.UA (n:=0) (m:=0) x y (.str (Mw h1)) (.str (Mw h2)) (by decide) hm).eq (by
  rw[DJ];exact decide_eq_decide.mpr ⟨λe=>XO h1 h2 e,λe=>by rw[e]⟩)
 Ll:=λxs h hz=>⟨by
  show((((cat xs).length:Nat):Int) != 0)=_;rw[HJ];cases xs with
  |nil=>rfl
  |cons a b=>simp;exact(λ{x y}=>bi_ine.mp) rfl,by show(cat xs).length<=1000000;rw[HJ];exact lb hz rfl⟩
noncomputable def Bz:List Str->List Str->Nat
 |x::xs,y::ys=>if x=y then Bz xs ys+1 else 0
 |_,_=>0
theorem Hp{y:Str}{xs ys:B1}:Bz (x::xs) (y::ys)=if x=y then Bz xs ys+1 else 0:=rfl
theorem HN:∀a b,Bz a b<=a.length/\Bz a b<=b.length
 |[],_=>⟨Al _,Al _⟩
 |_::_,[]=>⟨Al _,Al _⟩
 |x::xs,y::ys=>by
  rw[Hp];by_cases e:x=y
  .rw [if_pos e];exact(HN xs ys).imp Nat.succ_le_succ Nat.succ_le_succ
  .rw [if_neg e];exact⟨Al _,Al _⟩
theorem Nw:∀a b i,i<Bz a b->∃x,a[i]? = some x/\b[i]? = some x
 |[],_,i,h=>absurd h (Nat.not_lt_zero i)
 |_::_,[],i,h=>absurd h (Nat.not_lt_zero i)
 |x::xs,y::ys,i,h=>by
  rw[Hp]at h;by_cases e:x=y
  .rw [if_pos e]at h;cases i with
   |zero=>exact⟨x,rfl,by rw[e];rfl⟩
   |succ i=>exact Nw xs ys i (Nat.lt_of_succ_lt_succ h)
  .rw [if_neg e]at h;exact absurd h (Nat.not_lt_zero i)
theorem LU:∀a b,a[Bz a b]? = none\/b[Bz a b]? = none\/∃x y,a[Bz a b]? = some x/\b[Bz a b]? = some y/\x≠y
 |[],_=>.inl rfl
 |_::_,[]=>.inr (.inl rfl)
 |x::xs,y::ys=>by
  rw[Hp];by_cases e:x=y
  .rw [if_pos e];exact LU xs ys
  .rw [if_neg e];exact .inr (.inr ⟨x,y,rfl,rfl,e⟩)
theorem Di(L:List α)(i:Nat):cut L (some (i:Int)) none=L.drop i:=by
 unfold cut;show(L.drop (clipAt L.length i)).take (L.length-clipAt L.length i)=_;rw[clipAt_nat];by_cases hi:i<=L.length
 .rw [Nat.min_eq_left hi,List.take_of_length_le (by rw[AM];exact Ad (L.length-i))]
 .rw [Nat.min_eq_right (by exact Nat.le_of_not_ge hi),Nat.sub_self,List.take_zero,List.drop_eq_nil_of_le (by exact Nat.le_of_not_ge hi)]
noncomputable def R8(j:Nat):Option Int:=if j=0 then none else some (-(j:Int))
theorem Hz(L:List α)(j:Nat):cut L none (R8 j)=L.take (L.length-j):=by
 unfold cut R8;by_cases hj:j=0
 .subst hj;simp
 .rw [if_neg hj];show(L.drop 0).take (clipAt L.length (-(j:Int))-0)=_;rw[clipAt_neg _ _ (Nat.pos_of_ne_zero hj)];rfl
theorem Part.post{p p' vN:Pos}{j:Nat}(y:Ev c J (.Name x p) (.int (-(j:Int)))):Part c J (some (.BoolOp .Or [.Name x p,.Constant .none k p'] vN)) (R8 j):=by
 unfold R8;by_cases hj:j=0
 .subst hj;rw[if_pos rfl];exact Part.nul ((Ev.W9 y trivial λV=>Ev.OL).eq rfl)
 .rw [if_neg hj];refine Part.int ((Ev.W9 y trivial λV=>Ev.OL).eq ?_);have:(D.int (-(j:Int))).Ll=true:=by
   show(-(j:Int) != 0)=true;simp;exact Ne.intro hj
  rw[this];rfl
noncomputable abbrev nA:Str:=Str.ofString "a"
noncomputable abbrev nB:Str:=Str.ofString "b"
noncomputable abbrev nM:Str:=Str.ofString "max_cost"
noncomputable abbrev Jr:Str:=Str.ofString "pre"
noncomputable abbrev Mi:Str:=Str.ofString "post"
theorem Km:B9 45 (BZ 6) (Str.ofString "_levenshtein_distance") 44 .none (.str (Str.ofString "cpy313.traceback") 282):=
 ⟨λP=>rfl,λP=>⟨_,_,_,rfl,rfl,rfl⟩,rfl,rfl,rfl⟩
theorem bK(S:UO){G:Res}{h0:Heap}(F:FnAt c w (BX (BZ 6)) k X G h0){a b:B1}{m:Int}(ha:S.ok a)(hb:S.ok b)(la:a.length<=1000)(lb:b.length<=1000) :
  Ex c [(Jr,.int (0:Nat)),(nA,S.Cn a),(nB,S.Cn b),(nM,.int m)] ((Br (BZ 6))[2]?.getD default) (Fr c [(Jr,.int (Bz a b)),(nA,S.Cn a),(nB,S.Cn b),(nM,.int m)]) R:=by
 have nV:=HN a b;have oL:∀i,S.ok (a.drop i):=λi=>S.sub _ _ ha λy hy=>Aj hy;have oM:∀i,S.ok (b.drop i):=λi=>S.sub _ _ hb λy hy=>Aj hy;refine Ex.while (m:=Bz a b) (λi=>[(Jr,.int (i:Nat)),(nA,S.Cn a),(nB,S.Cn b),(nM,.int m)]) (λi hi=>?_) λi hi=>?_
 .have ta:=S.Ll (a.drop i) (oL i) (by rw[AM];exact dU la rfl);have tb:=S.Ll (b.drop i) (oM i) (by rw[AM];exact dU lb rfl);refine(CK.boolOp (.FU (a:=!(a.drop i).isEmpty) (b:=(!(b.drop i).isEmpty)&&(decide (a[i]? = b[i]?)&&true)) ?_ λh1=>.FU ?_ λh2=>.FU ?_ λV=>.Pp)).eq ?_
  .exact (CK.val ((S.slice ha Ev.n (Part.int Ev.n) Part.no la).eq (by rw[Di])) ta.2).eq ta.1
  .exact (CK.val ((S.slice hb Ev.n (Part.int Ev.n) Part.no lb).eq (by rw[Di])) tb.2).eq tb.1
  .have l1:i<a.length:=by
    have:(a.drop i)≠[]:=by simpa using h1
    have:=List.length_pos_iff.mpr this;rw[AM]at this;exact Nat.sub_pos_iff_lt.mp this
   have l2:i<b.length:=by
    have:(b.drop i)≠[]:=by simpa using h2
    have:=List.length_pos_iff.mpr this;rw[AM]at this;exact Nat.sub_pos_iff_lt.mp this
   have ga:a[i]? = some a[i]:=AU l1;have gb:b[i]? = some b[i]:=AU l2;refine CK.eq (CK.cmp (Bg.UA (n:=0) (m:=0) (S.item ha Ev.n Ev.n la (k:=(i:Nat)) (x:=a[i]) (by exact Int.neg_natCast_le_natCast a.length i) (by rw[if_neg (by exact Int.not_ofNat_neg i)];simpa using ga) λV V=>by with_unfolding_all rfl)
    (S.item hb Ev.n Ev.n lb (k:=(i:Nat)) (x:=b[i]) (by exact Int.neg_natCast_le_natCast b.length i) (by rw[if_neg (by exact Int.not_ofNat_neg i)];simpa using gb) λV V=>by with_unfolding_all rfl)
    (.str (S.str a ha _ (List.getElem_mem l1))) (.str (S.str b hb _ (List.getElem_mem l2))))) ?_
   rw[DJ,ga,gb];simp
  .by_cases Dw:i<Bz a b
   .refine Bh (Nw a b i Dw) ?_;intro x ga gb;have l1:=(AP.mp ga).1;have l2:=(AP.mp gb).1;have e1:(a.drop i).isEmpty=false:=by rw[List.isEmpty_eq_false_iff];intro z;rw[BO]at z;exact absurd l1 (Nat.not_lt_of_le z)
    have e2:(b.drop i).isEmpty=false:=by rw[List.isEmpty_eq_false_iff];intro z;rw[BO]at z;exact absurd l2 (Nat.not_lt_of_le z)
    rw[e1,e2,ga,gb,decide_eq_true Dw];simp
   .have VY:i=Bz a b:=Nat.le_antisymm hi (Nat.le_of_not_lt Dw);rw[decide_eq_false Dw];rcases LU a b with e|e|⟨x,y,ga,gb,ne⟩
    .rw [<- VY]at e;have:a.drop i=[]:=by rw[BO];exact List.getElem?_eq_none_iff.mp e
     rw[this];rfl
    .rw [<- VY]at e;have:b.drop i=[]:=by rw[BO];exact List.getElem?_eq_none_iff.mp e
     rw[this];simp
    .rw [VY,ga,gb];simp[ne]
 .exact Bd.last (Ex.lE (a:=(i:Nat)) (b:=1) (.head _) Ev.cInt (F.name (.inl rfl)) (DF.of (by rfl)))
theorem WM{a:B1}{j:Nat}(h:j<a.length):a.reverse[j]? = a[((-(j:Int)-1)+a.length).toNat]?:=by
 rw[List.getElem?_reverse h];congr 1;exact lC
theorem YM(S:UO){G:Res}{h0:Heap}(F:FnAt c w (BX (BZ 6)) k X G h0){a b:B1}{m p:Int}(ha:S.ok a)(hb:S.ok b)(la:a.length<=1000)(lb:b.length<=1000) :
  Ex c [(Mi,.int (-((0:Nat):Int))),(nB,S.Cn b),(nA,S.Cn a),(Jr,.int p),(nM,.int m)] ((Br (BZ 6))[6]?.getD default)
   (Fr c [(Mi,.int (-(Bz a.reverse b.reverse:Int))),(nB,S.Cn b),(nA,S.Cn a),(Jr,.int p),(nM,.int m)]) R:=by
 have nV:=HN a.reverse b.reverse;rw[Au,Au]at nV;have oL:∀i,S.ok (a.take i):=λi=>S.sub _ _ ha λy hy=>Ay hy;have oM:∀i,S.ok (b.take i):=λi=>S.sub _ _ hb λy hy=>Ay hy;refine Ex.while (m:=Bz a.reverse b.reverse) (λj=>[(Mi,.int (-(j:Int))),(nB,S.Cn b),(nA,S.Cn a),(Jr,.int p),(nM,.int m)]) (λi hi=>?_) λi hi=>?_
 .have ta:=S.Ll (a.take (a.length-i)) (oL _) (by rw[Ae];exact AD (A9 _ _) la);have tb:=S.Ll (b.take (b.length-i)) (oM _) (by rw[Ae];exact AD (A9 _ _) lb);refine(CK.boolOp (.FU (a:=!(a.take (a.length-i)).isEmpty) (b:=(!(b.take (b.length-i)).isEmpty)&&(decide (a.reverse[i]? = b.reverse[i]?)&&true)) ?_ λh1=>.FU ?_ λh2=>.FU ?_ λV=>.Pp)).eq ?_
  .exact (CK.val ((S.slice ha Ev.n Part.no (Part.post (j:=i) Ev.n) la).eq (by rw[Hz])) ta.2).eq ta.1
  .exact (CK.val ((S.slice hb Ev.n Part.no (Part.post (j:=i) Ev.n) lb).eq (by rw[Hz])) tb.2).eq tb.1
  .have l1:i<a.length:=by
    have:(a.take (a.length-i))≠[]:=by simpa using h1
    have:=List.length_pos_iff.mpr this;rw[Ae]at this;exact eM this
   have l2:i<b.length:=by
    have:(b.take (b.length-i))≠[]:=by simpa using h2
    have:=List.length_pos_iff.mpr this;rw[Ae]at this;exact eM this
   obtain⟨x,ga⟩:∃x,a.reverse[i]? = some x:=⟨_,AU (by rw[Au];exact l1)⟩
   obtain⟨y,gb⟩:∃x,b.reverse[i]? = some x:=⟨_,AU (by rw[Au];exact l2)⟩
   have mL:=ga;have mN:=gb;rw[WM l1]at mL;rw[WM l2]at mN;refine CK.eq (CK.cmp (Bg.UA (n:=0) (m:=0) (S.item ha Ev.n (Ev.Lh Ev.n Ev.cInt) la (k:=-(i:Int)-1) (x:=x) (eH l1) (by rw[if_pos eI];exact mL) λV V=>by with_unfolding_all rfl)
    (S.item hb Ev.n (Ev.Lh Ev.n Ev.cInt) lb (k:=-(i:Int)-1) (x:=y) (eH l2) (by rw[if_pos eI];exact mN) λV V=>by with_unfolding_all rfl)
    (.str (S.str a ha _ (AQ mL))) (.str (S.str b hb _ (AQ mN))))) ?_
   rw[DJ,ga,gb];simp
  .by_cases Dw:i<Bz a.reverse b.reverse
   .refine Bh (Nw a.reverse b.reverse i Dw) ?_;intro x ga gb;have l1:=(AP.mp ga).1;have l2:=(AP.mp gb).1;rw[Au]at l1 l2;have e1:(a.take (a.length-i)).isEmpty=false:=eK l1;have e2:(b.take (b.length-i)).isEmpty=false:=eK l2;rw[e1,e2,ga,gb,decide_eq_true Dw];simp
   .have VY:i=Bz a.reverse b.reverse:=Nat.le_antisymm hi (Nat.le_of_not_lt Dw);rw[decide_eq_false Dw];rcases LU a.reverse b.reverse with e|e|⟨x,y,ga,gb,ne⟩
    .rw [<- VY,List.getElem?_eq_none_iff,Au]at e;have:a.length-i=0:=Nat.sub_eq_zero_of_le e;rw[this];rfl
    .rw [<- VY,List.getElem?_eq_none_iff,Au]at e;have:b.length-i=0:=Nat.sub_eq_zero_of_le e;rw[this];simp
    .rw [VY,ga,gb];simp[ne]
 .refine Bd.last ((Ex.Lh (a:=-(i:Int)) (b:=1) (.head _) Ev.cInt (F.name (.inl rfl)) (DF.of (by rfl))).imp (λh z=>?_) λV V z=>z);have e : -(i:Int)-1=-((i+1:Nat):Int):=(Int.neg_add (a:=(i:Int)) (b:=1)).symm;rw[<- e];exact z
structure Bi(c:Cx)(w:World)(sc:Scope)(k:Nat):Prop where
 hw:c.w=w
 hs:c.env.scope=sc
 hk:c.k=k
 ro:¬c.ro
 slot:∀x,sc.names.lookup x=some .cell->c.own x/\(c.env.cells.lookup x).isSome=true
theorem FnAt.env{sc:Scope}{G:Res}{h0:Heap}(F:FnAt c w sc k X G h0):Bi c w sc k:=⟨F.hw,F.hs,F.hk,F.ro,F.slot⟩
theorem Bi.on{sc:Scope}{G:Res}(F:Bi c w sc k):Bi (c.on X G) w sc k:=⟨F.hw,F.hs,F.hk,F.ro,F.slot⟩
theorem Bi.kind{sc:Scope}(F:Bi c w sc k){kd:NameKind}(e:sc.names.lookup x=some kd):c.env.kindOf x=some kd:=by
 unfold Env.kindOf;rw[F.hs];exact e
theorem Bi.name{sc:Scope}(F:Bi c w sc k)(e:sc.names.lookup x=some .local\/sc.names.lookup x=some .cell):Cf c x:=
 e.imp F.kind λe=>⟨F.kind e,F.slot x e⟩
theorem HR.on{G:Res}(hX:∀b,c.X b->X b)(r:HR (c.on X G) d v h):HR c d v h:=⟨r.1.move (Cc hX),r.2.1,r.2.2⟩
structure LS where
 dist:Int
 res:Int
 mn:Int
 row:List Int
noncomputable def inner(bc:Str)(a:B1)(st:LS)(i:Nat):LS:=
 let sub:=st.dist+DD bc (a.getD i ⟨#[]⟩);let d:=st.row.getD i 0;let r:=min (min st.res d+2) sub;⟨d,r,if r<st.mn then r else st.mn,st.row.set i r⟩
noncomputable def C4(bc:Str)(a:B1)(st:LS):Nat->LS
 |0=>st
 |n+1=>inner bc a (C4 bc a st n) n
theorem Hk(bc:Str)(a:B1)(st:LS):∀n,(C4 bc a st n).row.length=st.row.length
 |0=>rfl
 |n+1=>by
  show((C4 bc a st n).row.set n _).length=_;rw[List.length_set,Hk bc a st n]
noncomputable abbrev Nq:Str:=Str.ofString "row"
noncomputable abbrev O1:Str:=Str.ofString "result"
noncomputable abbrev O0:Str:=Str.ofString "bindex"
noncomputable abbrev Qc:Str:=Str.ofString "bchar"
noncomputable abbrev Mh:Str:=Str.ofString "distance"
noncomputable abbrev YS:Str:=Str.ofString "minimum"
noncomputable abbrev bS:Str:=Str.ofString "index"
noncomputable abbrev iC:Str:=Str.ofString "substitute"
noncomputable abbrev iB:Str:=Str.ofString "insert_delete"
noncomputable def Vn:Stmt:=(Br (BZ 6))[15]?.getD default
noncomputable def QW:List Stmt:=match Vn with
 |.For _ _ b _ _=>b
 |_=>[]
def FD(x:Str):Prop:=PyData.strOk x=true/\PyData.strOk (Txt.lower x)=true/\x.length<=100
noncomputable abbrev dj(S:UO)(st:LS)(bc:Str)(j:Nat)(r:Addr)(a b:B1)(m:Int):List (Str×D):=
 [(YS,.int st.mn),(Mh,.int st.dist),(O1,.int st.res),(Qc,.str bc),(O0,.int (j:Nat)),(Nq,.obj (.ref r)),(nB,S.Cn b),(nA,S.Cn a),(nM,.int m)]
theorem Vo(S:UO)(F:Bi c w (BX (BZ 6)) (k+1)){a b:B1}{m:Int}{bc:Str}{j:Nat}{r:Addr}(ha:S.ok a)(la:a.length<=1000)(ga:∀x∈a,FD x)(gb:FD bc){st:LS}(gM:st.row.length=a.length){Gf:List D->Res}(up:∀ds IZ,Upd (Gf ds) (Dl r ds) (Dl r IZ) (Gf IZ))(hG:c.G=Gf (st.row.map .int)) :
  Ex c (dj S st bc j r a b m) (QW[3]?.getD default)
   (λh=>∃X',(∀b,c.X b->X' b)/\Fr (c.on X' (Gf ((C4 bc a st a.length).row.map .int))) (dj S (C4 bc a st a.length) bc j r a b m) h) R:=by
 have ln:=Hk bc a st;have hw:=F.hw;refine(Ex.for (ds:=DM 0 1 a.length) F.ro (λi=>Gf ((C4 bc a st i).row.map .int)) (λi=>dj S (C4 bc a st i) bc j r a b m) hG rfl
  (Ba.Qm (Ev.Gm (by decide) rfl (F.kind rfl)) (S.len ha (Ev.Gm (by decide) rfl (F.kind rfl)) Ev.n la rfl) (lb la rfl)) (λi d hd X T hX=>?_)).imp (λh z=>?_) λV V z=>z
 .obtain ⟨hi,rfl⟩:i<a.length/\d=.int (i:Nat):=by
   simp only[DM,AL,AS]at hd;refine Bh hd ?_;clear hd;intro j' e1 e2;refine B5 (AP.mp e1) ?_;intro hl e3;rw[List.getElem_range]at e3;rw[List.length_range]at hl;exact⟨hl,by rw[<- e2,<- e3];simp⟩
  have gi:a[i]? = some a[i]:=AU hi;have hl:=ln i;generalize bD:C4 bc a st i=si at *;have Mb:C4 bc a st (i+1)=inner bc a si i:=by rw[<- bD];rfl
  have ri:si.row[i]? = some (si.row.getD i 0):=by
   rw[AN];rw[AU (by(clear la;lia))];rfl
  have pV:a.getD i ⟨#[]⟩=a[i]:=by rw[AN,gi];rfl
  have gx:=ga a[i] (List.getElem_mem hi);have F':Bi (c.on X ((Gf (si.row.map .int)).star T)) w (BX (BZ 6)) (k+1):=F.on;refine⟨(bS,.int (i:Nat))::dj S si bc j r a b m,Bind.name ⟨by decide,by decide⟩ (F'.name (.inl rfl)) (DF.of (by rfl)),?_⟩;refine Bd.step (Ex.EJ (d:=.int (si.dist+DD bc a[i])) (Ev.Ij Ev.n (Ev.FV (fa:=38) (k:=k+1) (Ev.glob (v:=.ref 38) (d:=.obj (.ref 38)) (by decide) (F'.kind rfl) λV=>.obj _)
   (FP.cons Ev.n (FP.cons (S.item ha (Ev.n) Ev.n la (k:=(i:Nat)) (x:=a[i]) (by exact Int.neg_natCast_le_natCast a.length i) (by rw[if_neg (by exact Int.not_ofNat_neg i)];simpa using gi) λV V=>by with_unfolding_all rfl) .nil))
   (hw▸aY w k bc a[i] gb.1 gx.1 gb.2.2 gx.2.2 gb.2.1 gx.2.1) (by rw[F'.hk];exact Ad _) ⟨_,_,_,_,_,RQ⟩)) ⟨by decide,by decide⟩ (F'.name (.inl rfl)) (DF.of (by rfl))) ?_
  refine Bd.step (Ex.EJ (d:=.int (si.row.getD i 0)) (Ev.gW (a:=r) (ds:=si.row.map .int) (i:=(i:Nat)) (λX h z=>(up _ (si.row.map .int)).has _ _ _ z.1) Ev.n Ev.n (by exact BD i) (by
   rw[AL];show Option.map _ (si.row[((i:Nat):Int).toNat]?)=_;rw[Int.toNat_natCast,ri];rfl) (by rw[AA];omega)) ⟨by decide,by decide⟩ (F'.name (.inl rfl)) (DF.of (by rfl))) ?_
  refine Bd.step (Ex.EJ (d:=.int (min si.res (si.row.getD i 0)+2)) (Ev.Ij (Ev.min2 (Ev.Gm (by decide) rfl (F'.kind rfl)) Ev.n Ev.n)
   (Ev.glob (v:=.int 2 286) (d:=.int 2) (by decide) (F'.kind rfl) λV=>.int _ _)) ⟨by decide,by decide⟩ (F'.name (.inl rfl)) (DF.of (by rfl))) ?_
  refine Bd.step (Ex.EJ (d:=.int (min (min si.res (si.row.getD i 0)+2) (si.dist+DD bc a[i]))) (Ev.min2 (Ev.Gm (by decide) rfl (F'.kind rfl)) Ev.n Ev.n)
   ⟨by decide,by decide⟩ (F'.name (.inl rfl)) (DF.of (by rfl))) ?_
  have L6:(si.row.map D.int).set ((i:Nat):Int).toNat (.int (min (min si.res (si.row.getD i 0)+2) (si.dist+DD bc a[i])))=(inner bc a si i).row.map D.int:=by
   rw[Int.toNat_natCast];show _=(si.row.set i _).map D.int;rw[List.map_set,pV]
  refine Bd.EL (X':=X) (G':=(Gf ((inner bc a si i).row.map .int)).star T) (Ex.oh (a:=r) (ds:=si.row.map .int) (k:=(i:Nat)) F'.ro L6 (Upd.lf (up _ _)) Ev.n Ev.n
   Ev.n (by exact BD i) (by rw[AA];lia) (by rw[AA];omega)) ?_
  have nF:(inner bc a si i).res=min (min si.res (si.row.getD i 0)+2) (si.dist+DD bc a[i]):=by rw[<- pV];rfl
  have f7:(inner bc a si i).mn=if(inner bc a si i).res<si.mn then(inner bc a si i).res else si.mn:=rfl
  have qC:(inner bc a si i).dist=si.row.getD i 0:=rfl;rw[<- nF];refine Bd.if (CK.cmp (Bg.ltI Ev.n Ev.n)) (λDw=>?_) λDw=>?_
  .refine Bd.step (Ex.EJ (d:=.int (inner bc a si i).res) Ev.n ⟨by decide,by decide⟩ (F'.name (.inl rfl)) (DF.of (by rfl))) (Bd.nil (Bd.nil (Bd.done λh Fh=>⟨X,hX,?_⟩)));rw[Mb];have e:(inner bc a si i).mn=(inner bc a si i).res:=by rw[f7,if_pos (of_decide_eq_true Dw)]
   have dq:Fr (c.on X ((Gf ((inner bc a si i).row.map .int)).star T)) [(YS,.int (inner bc a si i).mn),(O1,.int (inner bc a si i).res),(iB,.int (min si.res (si.row.getD i 0)+2)),(Mh,.int (si.row.getD i 0)),(iC,.int (si.dist+DD bc a[i])),(bS,.int (i:Nat)),
    (Qc,.str bc),(O0,.int (j:Nat)),(Nq,.obj (.ref r)),(nB,S.Cn b),(nA,S.Cn a),(nM,.int m)] h:=by rw[e];exact Fh
   exact dq.sub (Fn [0,3,1,6,7,8,9,10,11] rfl)
  .refine Bd.nil (Bd.nil (Bd.done λh Fh=>⟨X,hX,?_⟩));rw[Mb];have e:(inner bc a si i).mn=si.mn:=by rw[f7,if_neg (of_decide_eq_false Dw)]
   have dq:Fr (c.on X ((Gf ((inner bc a si i).row.map .int)).star T)) [(O1,.int (inner bc a si i).res),(iB,.int (min si.res (si.row.getD i 0)+2)),(Mh,.int (si.row.getD i 0)),(iC,.int (si.dist+DD bc a[i])),(bS,.int (i:Nat)),(YS,.int (inner bc a si i).mn),
    (Qc,.str bc),(O0,.int (j:Nat)),(Nq,.obj (.ref r)),(nB,S.Cn b),(nA,S.Cn a),(nM,.int m)] h:=by rw[e];exact Fh
   exact dq.sub (Fn [5,2,0,6,7,8,9,10,11] rfl)
 .have e:(DM 0 1 a.length).length=a.length:=by simp[DM]
  rw[e]at z;exact z
theorem Ev.tp{es:Cw}{k pos}(x:FP c J es ds)(hn:autoParam (Nat.ble ds.length 1000=true) Bc):Ev c J (.Tuple es k pos) (.tup ds):=Ev.tuple x (AE hn)
theorem Ev.ls{es:Cw}{pos}(x:FP c J es ds)(hn:autoParam (Nat.ble ds.length 1000=true) Bc):Ev c J (.List es pos) (.list ds):=Ev.list x (AE hn)
def Kd(c:Cx)(x:Str)(k:NameKind):Prop:=c.env.kindOf x=some k
theorem Bi.kd{sc:Scope}{n:Nat}(F:Bi c w sc n){k:NameKind}(e:sc.names.lookup x=some k):Kd c x k:=F.kind e
theorem Sub.kd(s:Sub c cc scope){k:NameKind}(e:scope.names.lookup x=some k)(nf:autoParam (k≠.free) Fi):Kd cc x k:=s.kind e nf
noncomputable def gD:Value->D
 |.int i _=>.int i
 |.str s _=>.str s
 |.bool b=>.bool b
 |v=>.obj v
theorem aS(v:Value):B8 X w h v (gD v):=by
 cases v<;>first|exact .int _ _|exact .str _ _|exact .bool _|exact .obj _
def gc:Lean.Syntax:=Lean.Unhygienic.run `(Lean.Parser.Tactic.tacticSeq| first|exact Bi.kd ‹_› rfl|exact Sub.kd ‹_› rfl)
theorem Ev.g(hk:autoParam (Kd c x .globalImplicit) gc)(m:autoParam (W3.lookup x=some (some v)) Bc)(e:autoParam (gD v=d) Bc)(hd:autoParam (UM x) Bc):Ev c J (.Name x pos) d:=
 e▸Ev.glob (lookup_mem m) hk (λV=>aS v) hd
theorem Ev.b(hk:autoParam (Kd c x .globalImplicit) gc)(m:autoParam (W3.lookup x=some none) Bc)(hb:autoParam (bootBuiltins x=some v) Bc)(hn:autoParam (x≠Str.ofString "__name__") Fi)(hd:autoParam (UM x) Bc):Ev c J (.Name x pos) (.obj v):=
 Ev.Gm (lookup_mem m) hb hk hn hd
theorem Sub.name(s:Sub c cc scope)(e:scope.names.lookup x=some .local\/scope.names.lookup x=some .cell):Cf cc x:=
 e.imp (λe=>s.kind e) λe=>⟨s.kind e,s.own x e⟩
theorem Sub.gZ(s:Sub c cc scope)(e:scope.names.lookup x=some .cell\/scope.names.lookup x=some .free):cc.env.kindOf x=some .cell\/cc.env.kindOf x=some .free:=by
 rcases e with e|e
 .exact .inl (s.kind e)
 .unfold Env.kindOf;rw[s.sc];exact IM e
noncomputable def S4(sc:Scope)(x:Str):Bool:=sc.names.lookup x==some .cell||sc.names.lookup x==some .free
theorem Rj{sc:Scope}(e:S4 sc x=true):sc.names.lookup x=some .cell\/sc.names.lookup x=some .free:=(Bool.or_eq_true_iff.mp e).imp eq_of_beq eq_of_beq
noncomputable def isFree(sc:Scope)(x:Str):Bool:=sc.names.lookup x==some .free
theorem S5{sc:Scope}(e:isFree sc x=true):sc.names.lookup x=some .free:=eq_of_beq e
noncomputable def NF(sc scope:Scope)(keys:B1):Bool:=
 scope.names.all λp=>scope.names.lookup p.1==some p.2&&(p.2 != .free||(keys.contains p.1&&S4 sc p.1))
theorem ZB{sc:Scope}(hs:∀x,S4 sc x=true->c.env.kindOf x=some .cell\/c.env.kindOf x=some .free)(hk:scope.kind=.function)(hc:NF sc scope (J.map (·.1))=true)(hn:(J.filter λp=>isFree scope p.1)=J0):C8 c J scope J0:=by
 have key:∀p∈scope.names,scope.names.lookup p.1=some p.2/\(p.2=.free->p.1∈J.map (·.1)/\S4 sc p.1=true):=λp hp=>by
  have:=Ah.mp hc p hp;simp only[Bool.and_eq_true,Bool.or_eq_true,beq_iff_eq]at this;refine⟨this.1,λe=>?_⟩;rcases this.2 with z|z
  .rw [e]at z;simp at z
  .exact ⟨by simpa using z.1,z.2⟩
 refine⟨hk,λp hp=>(key p hp).1,λp hp e=>?_,λp hp=>?_⟩
 .refine CB ((key p hp).2 e) ?_;intro a b;refine Bh (AF.mp a) ?_;intro q hq e2;exact⟨⟨q.2,by rw[<- e2];exact hq⟩,hs _ b⟩
 .rw [<- hn]at hp;refine CB (Az.mp hp) ?_;intro a b;exact⟨a,S5 b⟩
theorem Bi.cf{sc:Scope}{n:Nat}(F:Bi c w sc n):∀x,S4 sc x=true->c.env.kindOf x=some .cell\/c.env.kindOf x=some .free:=λx e=>(Rj e).imp F.kind F.kind
theorem Sub.cf{sc:Scope}(F:Sub cc c sc):∀x,S4 sc x=true->c.env.kindOf x=some .cell\/c.env.kindOf x=some .free:=λx e=>F.gZ (Rj e)
theorem Bi.co{sc:Scope}{n:Nat}(F:Bi c w sc n)(hk:autoParam (scope.kind=.function) Bc)(hc:autoParam (NF sc scope (J.map (·.1))=true) Bc)(hn:autoParam ((J.filter λp=>isFree scope p.1)=J0) Bc):C8 c J scope J0:=ZB F.cf hk hc hn
theorem Sub.co{sc:Scope}(F:Sub cc c sc)(hk:autoParam (scope.kind=.function) Bc)(hc:autoParam (NF sc scope (J.map (·.1))=true) Bc)(hn:autoParam ((J.filter λp=>isFree scope p.1)=J0) Bc):C8 c J scope J0:=ZB F.cf hk hc hn
theorem DF.new(h:(J.map (·.1)).contains x=false):DF J x d ((x,d)::J):=λp hp=>by
 rcases AJ.mp hp with e|hp
 .exact .inl e
 .refine .inr ⟨hp,λe=>?_⟩;have:x∈J.map (·.1):=e▸Ab (f:=(·.1)) hp;rw[<- List.contains_iff_mem]at this;rw[h]at this;cases this
structure Nm(c:Cx)(x:Str):Prop where
 plain:Cm x
 slot:Cf c x
theorem Bi.nm{sc:Scope}{n:Nat}(F:Bi c w sc n)(e:sc.names.lookup x=some .local\/sc.names.lookup x=some .cell)(p:autoParam (UM x) Bc)(p':autoParam (Zr x) Bc):Nm c x:=⟨⟨p,p'⟩,F.name e⟩
theorem Sub.nm{sc:Scope}(F:Sub c cc sc)(e:sc.names.lookup x=some .local\/sc.names.lookup x=some .cell)(p:autoParam (UM x) Bc)(p':autoParam (Zr x) Bc):Nm cc x:=⟨⟨p,p'⟩,F.name e⟩
def qq:Lean.Syntax:=Lean.Unhygienic.run `(Lean.Parser.Tactic.tacticSeq| first|exact Bi.nm ‹_› (.inl rfl)|exact Bi.nm ‹_› (.inr rfl)|exact Sub.nm ‹_› (.inl rfl)|exact Sub.nm ‹_› (.inr rfl))
theorem Bind.n(k:autoParam (Nm c x) qq)(h:autoParam ((J.map (·.1)).contains x=false) Bc):Bind c J (.Name x pos) d ((x,d)::J):=
 Bind.name k.plain k.slot (DF.new h)
theorem Ex.sn{xp:Pos}(y:Ev c J e d)(k:autoParam (Nm c x) qq)(h:autoParam (Hq J x d=J') Bc)(hs:autoParam (swapsWith e (some (.Name x xp)) pos.line c.env=pure false) Bc):Ex c J (.Assign [.Name x xp] e pos) (Fr c J') R:=
 Ex.EJ y k.plain k.slot (DF.of h) hs
theorem Bi.fn{sc:Scope}{n:Nat}(F:Bi c w sc n)(hk:sc.kind=.function)(hx:sc.names.lookup x=some .local):(c.env.blockKind==.function&&c.env.kindOf x==some .local)=true:=by
 rw[F.kind hx];unfold Env.blockKind;rw[F.hs,hk];rfl
theorem cQ{elt:Expr}{gens:Ec}{xp:Pos}{l:Nat}(hb:(c.env.blockKind==.function&&c.env.kindOf x==some .local)=true)(hl:(xp.line==pos.line && !(scope.names.any λp=>p.1==x&&(p.2==.local||p.2==.cell)))=true) :
  swapsWith (.ListComp elt gens scope pos) (some (.Name x xp)) l c.env=pure true:=by
 show(pure (c.env.blockKind==.function&&c.env.kindOf x==some .local&&xp.line==pos.line && !(scope.names.any λp=>p.1==x&&(p.2==.local||p.2==.cell))):Sem Bool)=_;rw[hb];simp only[Bool.true_and];rw[hl]
theorem Wg{k v:Expr}{gens:Ec}{xp:Pos}{l:Nat}(hb:(c.env.blockKind==.function&&c.env.kindOf x==some .local)=true)(hl:(xp.line==pos.line && !(scope.names.any λp=>p.1==x&&(p.2==.local||p.2==.cell)))=true) :
  swapsWith (.DictComp k v gens scope pos) (some (.Name x xp)) l c.env=pure true:=by
 show(pure (c.env.blockKind==.function&&c.env.kindOf x==some .local&&xp.line==pos.line && !(scope.names.any λp=>p.1==x&&(p.2==.local||p.2==.cell))):Sem Bool)=_;rw[hb];simp only[Bool.true_and];rw[hl]
theorem Ex.cL{xp lp:Pos}{elt:Expr}{gens:Ec}{sc:Scope}{n:Nat}(F:Bi c w sc n)(y:CE c J (.ListComp elt gens scope lp) d)(hk:autoParam (sc.kind=.function) Bc)(hx:autoParam (sc.names.lookup x=some .local) Bc)(hl:autoParam ((xp.line==lp.line && !(scope.names.any λp=>p.1==x&&(p.2==.local||p.2==.cell)))=true) Bc)(h:autoParam (Hq J x d=J') Bc)(p:autoParam (UM x) Bc)(p':autoParam (Zr x) Bc) :
  Ex c J (.Assign [.Name x xp] (.ListComp elt gens scope lp) pos) (Fr c J') R:=Ex.setC y ⟨p,p'⟩ (F.name (.inl hx)) (DF.of h) (cQ (F.fn hk hx) hl)
theorem Ex.cD{xp lp:Pos}{k v:Expr}{gens:Ec}{sc:Scope}{n:Nat}(F:Bi c w sc n)(y:CE c J (.DictComp k v gens scope lp) d)(hk:autoParam (sc.kind=.function) Bc)(hx:autoParam (sc.names.lookup x=some .local) Bc)(hl:autoParam ((xp.line==lp.line && !(scope.names.any λp=>p.1==x&&(p.2==.local||p.2==.cell)))=true) Bc)(h:autoParam (Hq J x d=J') Bc)(p:autoParam (UM x) Bc)(p':autoParam (Zr x) Bc) :
  Ex c J (.Assign [.Name x xp] (.DictComp k v gens scope lp) pos) (Fr c J') R:=Ex.setC y ⟨p,p'⟩ (F.name (.inl hx)) (DF.of h) (Wg (F.fn hk hx) hl)
theorem YV{xp:Pos}{l:Nat}{k:NameKind}(hk:c.env.kindOf x=some k)(hn:k≠.local):swapsWith e (some (.Name x xp)) l c.env=pure false:=by
 have hb:(c.env.blockKind==.function&&c.env.kindOf x==some .local)=false:=by
  rw[hk];have:(some k==some NameKind.local)=false:=by
   cases k<;>first|rfl|exact absurd rfl hn
  rw[this,Bool.and_false]
 unfold swapsWith;split
 .dsimp only;rw[hb];rfl
 .rfl
theorem Ex.sc{x:Str}{xp pos:Pos}{e:Expr}{d:D}{w:World}{sc:Scope}{n:Nat}(F:Bi c w sc n)(y:Ev c J e d)(hx:autoParam (sc.names.lookup x=some .cell) Bc)(h:autoParam (Hq J x d=J') Bc)(p:autoParam (UM x) Bc)(p':autoParam (Zr x) Bc) :
  Ex c J (.Assign [.Name x xp] e pos) (Fr c J') R:=Ex.EJ y ⟨p,p'⟩ (F.name (.inr hx)) (DF.of h) (YV (F.kind hx) (by decide))
section
variable {c cc:Cx}{J J' KR J0:B3}{h h':Heap}{N N':Em}{R R':Cs}{Ji:Addr->List (Str×D)}
noncomputable def D.flat:D->Bool
 |.list _|.tup _|.dict _=>false
 |_=>true
theorem B8.flat(f:d.flat=true)(r:B8 X w h v d):B8 X' w h' v d:=by
 cases r with
 |none=>exact .none
 |bool=>exact .bool _
 |int=>exact .int _ _
 |str=>exact .str _ _
 |obj=>exact .obj _
 |list=>cases f
 |tup=>cases f
 |dict=>cases f
theorem Cb.flat(f:∀p∈es,p.2.flat=true):∀ {kvs:Dh},Cb X w h kvs es->Cb X' w h' kvs es:=by
 induction es with
 |nil=>intro kvs r;cases r;exact .nil
 |cons p es ih=>intro kvs r;cases r with|cons a b=>exact .cons (a.flat (f _ (.head _))) (ih (λq hq=>f q (.tail _ hq)) b)
theorem Be.flat{es:Cr}(f:∀p∈es,p.flat=true):∀ {kvs:DV},Be X w h kvs es->Be X' w h' kvs es:=by
 induction es with
 |nil=>intro kvs r;cases r;exact .nil
 |cons p es ih=>intro kvs r;cases r with|cons a b=>exact .cons (a.flat (f _ (.head _))) (ih (λq hq=>f q (.tail _ hq)) b)
noncomputable def Bv(a:Addr)(es:B3):Res where
 fp:=(·=a)
 P:=λw X h=>∃kvs:List (Str×Value),h.DictOf (KS w) a kvs/\Cb X w h kvs es/\a≠TP/\(a==sysModules)=false
 mv:=λ{w X X' h h'} zz k=>UG zz λvs p r nt ns=>⟨vs,C1 p λo e=>(k a o (.inl rfl) nt e).1,r.move λb o n t e=>by refine CB (k b o (.inr (.inl n)) t e) ?_;intro x y;exact⟨x,y n⟩,nt,ns⟩
theorem Ev.G5{value slice:Expr}{pos}{k:Str}(hG:∀X h,c.G.P c.w X h->(Bv a es).P c.w X h)(x:Ev c J value (.obj (.ref a)))(y:Ev c J slice (.str k))(hd:es.lookup k=some d)(hs:autoParam (∀o i,XC slice o i) Nc):Ev c J (.Subscript value slice pos) d:=
 .item x y (λo iv s F ra rb=>by
  cases rb;cases ra;refine EI (hG _ _ F.g) ?_;intro kvs p r nt;refine Bh (LV r hd) ?_;intro v hv rv;exact⟨⟨_,_,Ea p,PySem.slot_dict_getitem.lookup⟩,λQ E q=>wpAny_getItem_of (knd:=KS c.w) (DK _ _ _) p.mapOf hv (q _ s.heap _ (.refl _) rv)⟩) hs
theorem Ex.ir{i value:Expr}{sp:Pos}{es':B3}{k:Str}{G':Res}(ro:¬c.ro)(he:dput es k d=es')(u:Upd c.G (Bv a es) (Bv a es') G')(z:Ev c J value d)(x:Ev c J o (.obj (.ref a)))(y:Ev c J i (.str k))(hz:es.length<=1000000)(hs:autoParam (swapsWith value (some (.Subscript o i sp)) pos.line c.env=pure false) Bc):Ex c J (.Assign [.Subscript o i sp] value pos) (Fr (c.on c.X G') J) R:=λs F Q E n r=>by
 subst he;exact wpAny_Assign_Subscript (z s F _ _ λv VN t1 l1 r1=>x _ (F.le l1) _ _ λov h2 t2 l2 r2=>y _ ((F.le l1).le l2) _ _ λiv h3 t3 l3 r3=>by
  cases r2;cases r3;have F3:=((F.le l1).le l2).le l3;have b8:=(r1.le l2).le l3;refine UG (u.has _ _ _ F3.g) ?_;intro kvs p rr nt ns;have hl:=rr.length;refine wpAny_setItem_pairs (knd:=KS c.w) (DK _ _ _) p (λh4 p4 s4=>?_) (by rw[sizeLine_eq];exact Jc hl hz rfl);refine Js (id p4) ?_;intro o4 V V e4 V;have l4:Bt (·=a) h3 h4:=Co s4 _ e4 nt (by refine V7 p ?_;clear p;intro V V V e V d V;exact Cd.at e (Cd.dict d));have ax:c.X a:=(F3.gx a (u.fp a rfl)).1.1;exact n h4 _ (F3.upd ro u l4 ⟨_,p4,(IP rr b8).move (DQ l4 λb z=>z▸ax),nt,ns⟩)) hs
structure Gg(c:Cx)(a:Addr)(X':CF):Prop where
 sub:∀b,c.X b->X' b
 old:c.h0.get? a=none
 out:¬c.X a
theorem Ex.sF{xp lp:Pos}{k v:Expr}{g:Comprehension}{gs:Ec}{sc:Scope}{n:Nat}(F:Bi c w sc n)(jt:∀g'∈g::gs,g'.is_async=0/\∀env x,foldedSetIterable g'.iter env x=pure x)(CO:C8 c J scope J0)(ds:List (D×List (Str×D)))(Fj:Ba c J g.target g.iter (ds.map (·.1)))(FF:∀d∈ds,Turn (λcc=>Sub c cc scope) Jj.dict (c9 k v) g gs J0 d.1 d.2)(sz:(ds.flatMap (·.2)).length<=1000000)(he:DB [] (ds.flatMap (·.2))=es)(fl:∀p∈es,p.2.flat=true)(h:∀a,Hq J x (.obj (.ref a))=Ji a)(hk:autoParam (sc.kind=.function) Bc)(hx:autoParam (sc.names.lookup x=some .local) Bc)(hl:autoParam ((xp.line==lp.line && !(scope.names.any λp=>p.1==x&&(p.2==.local||p.2==.cell)))=true) Bc)(p:autoParam (UM x) Bc)(p':autoParam (Zr x) Bc) :
  Ex c J (.Assign [.Name x xp] (.DictComp k v (g::gs) scope lp) pos) (λh=>∃a X',Gg c a X'/\Fr (c.on X' (c.G.star (Bv a es))) (Ji a) h) R:=λs Fs Q E n r=>by
 rw[exec_Assign_Name_used _ _ _ _ (Wg (F.fn hk hx) hl)];refine wpAny_bind (wpAny_standAt (wpAny_bind ?_));show wpAny _ _ (do let _ <- comprehension _ scope c.env _ newDict (firstAsync (g::gs)) (firstIter (g::gs) c.env) (some (assign (.Name x xp) c.env))) _ _ _;rw[DU (jt g (.head _)).1,Dp];refine wpAny_bind (Fu (Q:=λV s'=>wpAny (model prog c.w) c.A (pure ()) (λV s'=>wpAny (model prog c.w) c.A (pure .next) Q E s') E s') (newAcc:=newDict) (Hc jt) Jj.dict (o0:={cls:=.type "dict",data:=.dict #[]}) (λM A s Q E h=>wpAny_newObj_type h) rfl (λw X h a e n=>⟨[],C3 e,.nil,n⟩) CO Fj FF sz Fs ?_);intro acc C h' tk m sa sC ba bC ac KI OD l ns Cq;refine EI Cq ?_;intro vs pl r qt;rw[he]at r;have eA:∃o,h'.get? acc=some o:=by refine Js pl ?_;clear pl;intro o V V e V;exact⟨o,e⟩
 have eC:∃o,h'.get? C=some o:=by refine Js ns ?_;clear ns;intro o V V e V;exact⟨o,e⟩
 have F1:Fr (c.plus λb=>b=acc\/b=C) J h':=Fs.plus l λb z=>by
  rcases z with z|z
  .rw [z];exact⟨sa,ba,eA⟩
  .rw [z];exact⟨sC,bC,eC⟩
 have YU:MK c acc:=Fs.new sa ba;have Qd:MK c C:=Fs.new sC bC;have kU:Fr ((c.plus (·=acc)).plus (·=C)) J h':=by
  have e:((c.plus (·=acc)).plus (·=C))=c.plus λb=>b=acc\/b=C:=by
   show({c with X:=_}:Cx)={c with X:=_};congr 1;funext b;show((c.X b\/b=acc)\/b=C)=(c.X b\/b=acc\/b=C);rw[or_assoc]
  rw[e];exact F1
 have F2:Fr (((c.plus (·=acc)).plus (·=C)).on ((c.plus (·=acc)).plus (·=C)).X (c.G.star (Bv acc es))) J h':=kU.star (T:=Bv acc es) ⟨vs,pl,r.flat fl,KI,by simpa using qt⟩ λb z=>by
  have z':b=acc:=z;rw[z'];exact(YU.off (fp:=(·=acc)) rfl).plus
 refine wpAny_assign_Name (F2.store (s:={s with heap:=h',toks:=tk}) ⟨p,p'⟩ (F.name (.inl hx)) (.obj (.ref acc)) (DF.of (h acc)) λh2 t2 l2 F3=>?_);have iL:h2.Ns C m:=Ck ns λo e=>l2.keep _ o OD (λz=>Ho Qd z) e;refine⟨m,iL,λh3 sb=>wpAny_pure (wpAny_pure (n h3 t2 ⟨acc,DG c.X (·=acc),⟨λb z=>.inl z,YU.2.2.1,YU.1⟩,?_⟩))⟩;have Fb:Fr (c.on (DG c.X (·=acc)) (c.G.star (Bv acc es))) J h':=by
  have l':Fr (c.plus (·=acc)) J h':=Fs.plus l λb z=>by have z':b=acc:=z;rw[z'];exact⟨sa,ba,eA⟩
  exact l'.star (T:=Bv acc es) ⟨vs,pl,r.flat fl,KI,by simpa using qt⟩ λb z=>by
   have z':b=acc:=z;rw[z'];exact YU.off (fp:=(·=acc)) rfl
 refine Fr.drop Fb F3 (λb z=>?_) λb o n e=>(sb.2 b λq=>n.elim (λn=>n q) λn=>Cd.ns iL o (by rw[<- q];exact e) n).trans e;have z':b=C:=z;rw[z'];exact⟨λq=>q.elim Qd.1 λq=>ac q.symm,Qd.2.1,Qd.2.2.1,λq=>q.elim Qd.2.2.2.1 λq=>ac (Eq.symm q),Qd.2.2.2.2.1,Qd.2.2.2.2.2⟩
theorem Fr.Xs{G:Res}(F:Fr (c.on X' (G.star (Bv a es))) J h)(nw:c.h0.get? a=none)(hJ:∀p∈J',p∈J\/(p.2=.dict es/\(p.1,D.obj (.ref a))∈J)):Fr (c.on (λb=>X' b/\¬b=a) G) J' h:=by
 have F':Fr (c.on (λb=>X' b/\¬(Bv a es).fp b) G) J h:=F.Ln (λb z=>by have z':b=a:=z;rw[z'];exact nw) λb o V e=>e;have Y6:Fr (c.on (λb=>X' b/\¬b=a) G) J h:=F';refine{Y6 with names:=λx d m=>?_};rcases hJ _ m with m|⟨e,m⟩
 .exact Y6.names x d m
 .refine Bh (Y6.names _ _ m) ?_;intro v H r;have e':d=.dict es:=e;refine UG F.g.2.1 ?_;intro vs p rr nt ns;cases r;refine⟨_,H,?_⟩;rw[e'];refine B8.dict (λz=>z.2 rfl) nt ns p ?_;exact rr.move (Cc λb z=>z.1)
theorem CE.eV{β γ:Type}{elt t1 i1 t2 i2 t3 i3:Expr}(xs:List α)(Cn:α->D)(ys:List β)(Fv:β->D)(zs:List γ)(Xh:γ->D)(g:α->β->γ->D)(CO:C8 c J scope J0)(Fj:Ba c J t1 i1 (xs.map Cn))(Jx:α->List (Str×D))(D7:∀x,∀q∈J0,q∈Jx x)(hb:∀x∈xs,∀cc,Sub c cc scope->Bind cc J0 t1 (Cn x) (Jx x))(NZ:∀x∈xs,∀cc,Sub c cc scope->Ba cc (Jx x) t2 i2 (ys.map Fv))(Jy:α->β->List (Str×D))(ID:∀x y,∀q∈Jx x,q∈Jy x y)(VR:∀x∈xs,∀y∈ys,∀cc,Sub c cc scope->Bind cc (Jx x) t2 (Fv y) (Jy x y))(mr:∀x∈xs,∀y∈ys,∀cc,Sub c cc scope->Ba cc (Jy x y) t3 i3 (zs.map Xh))(Jz:α->β->γ->List (Str×D))(gO:∀x y z,∀q∈Jy x y,q∈Jz x y z)(tV:∀x∈xs,∀y∈ys,∀z∈zs,∀cc,Sub c cc scope->Bind cc (Jy x y) t3 (Xh z) (Jz x y z))(he:∀x∈xs,∀y∈ys,∀z∈zs,∀cc,Sub c cc scope->Ev cc (Jz x y z) elt (g x y z))(sz:(xs.flatMap λx=>ys.flatMap λy=>zs.map (g x y)).length<=1000000)(UC:autoParam (∀e x,Q7 i1 e x) Gn)(QM:autoParam (∀e x,Q7 i2 e x) Gn)(nH:autoParam (∀e x,Q7 i3 e x) Gn) :
  CE c J (.ListComp elt [⟨t1,i1,[],0⟩,⟨t2,i2,[],0⟩,⟨t3,i3,[],0⟩] scope pos) (.list (xs.flatMap λx=>ys.flatMap λy=>zs.map (g x y))):=by
 have e3:∀x y,(zs.map λz=>(Xh z,[g x y z])).flatMap (·.2)=zs.map (g x y):=λx y=>by
  rw[Ak,AB];exact(FZ (λV=>true) (g x y) zs).trans (by rw[show zs.filter (λV=>true)=zs by induction zs<;>simp_all])
 have e2:∀x,(ys.map λy=>(Fv y,zs.map (g x y))).flatMap (·.2)=ys.flatMap λy=>zs.map (g x y):=λx=>by
  rw[Ak,AB,Ak];rfl
 have e:(xs.map λx=>(Cn x,ys.flatMap λy=>zs.map (g x y))).flatMap (·.2)=xs.flatMap λx=>ys.flatMap λy=>zs.map (g x y):=by
  rw[Ak,AB,Ak];rfl
 rw[<- e];refine CE.list (J0:=J0) (λg' hg=>by
  refine kq hg ?_ ?_ ?_
  .exact ⟨rfl,UC⟩
  .exact ⟨rfl,QM⟩
  .exact ⟨rfl,nH⟩) CO _ (by rw[AB];exact Fj) (λd hd=>?_) (by rw[e];exact sz)
 refine Bh (AF.mp hd) ?_;rintro x hx rfl;refine⟨Jx x,true,D7 x,hb x hx,λcc sc=>CL.nil,(λhp=>by cases hp),λV=>⟨ys.map λy=>(Fv y,zs.map (g x y)),λcc sc=>by rw[AB];exact NZ x hx cc sc,(e2 x).symm,λd hd=>?_⟩⟩;refine Bh (AF.mp hd) ?_;rintro y hy rfl;refine⟨Jy x y,true,ID x y,VR x hx y hy,λcc sc=>CL.nil,(λhp=>by cases hp),λV=>⟨zs.map λz=>(Xh z,[g x y z]),λcc sc=>by rw[AB];exact mr x hx y hy cc sc,(e3 x y).symm,λd hd=>?_⟩⟩;refine Bh (AF.mp hd) ?_;rintro z hz rfl;exact⟨Jz x y z,true,gO x y z,tV x hx y hy z hz,λcc sc=>CL.nil,(λhp=>by cases hp),λV=>⟨g x y z,rfl,λcc sc=>Ie.list (he x hx y hy z hz cc sc)⟩⟩
def JP(c:Cx)(J:B3)(k v:Expr)(g:Comprehension)(gs:Ec)(scope:Scope)(os:B3):Prop:=
 ∃(J0:B3) (ds:List (D×List (Str×D))),(∀g'∈g::gs,g'.is_async=0/\∀env x,foldedSetIterable g'.iter env x=pure x)/\C8 c J scope J0/\Ba c J g.target g.iter (ds.map (·.1))/\
  (∀d∈ds,Turn (λcc=>Sub c cc scope) Jj.dict (c9 k v) g gs J0 d.1 d.2)/\os.length<=1000000/\ds.flatMap (·.2)=os
theorem JP.eq{k v:Expr}{g:Comprehension}{gs:Ec}{os q9:B3}(x:JP c J k v g gs scope os)(q:os=q9):JP c J k v g gs scope q9:=q▸x
theorem JP.two{β:Type}{k v t1 i1 t2 i2:Expr}{ifs:Cw}(xs:List α)(Cn:α->D)(ys:α->List β)(Fv:α->β->D)(p:α->β->Bool)(gk:α->β->Str)(g:α->β->D)(CO:C8 c J scope J0)(Fj:Ba c J t1 i1 (xs.map Cn))(Jx:α->List (Str×D))(D7:∀x,∀q∈J0,q∈Jx x)(hb:∀x∈xs,∀cc,Sub c cc scope->Bind cc J0 t1 (Cn x) (Jx x))(NZ:∀x∈xs,∀cc,Sub c cc scope->Ba cc (Jx x) t2 i2 ((ys x).map (Fv x)))(Jy:α->β->List (Str×D))(ID:∀x y,∀q∈Jx x,q∈Jy x y)(VR:∀x∈xs,∀y∈ys x,∀cc,Sub c cc scope->Bind cc (Jx x) t2 (Fv x y) (Jy x y))(hi:∀x∈xs,∀y∈ys x,∀cc,Sub c cc scope->CL cc (Jy x y) ifs (p x y))(he:∀x∈xs,∀y∈ys x,p x y=true->∀cc,Sub c cc scope->Ev cc (Jy x y) k (.str (gk x y))/\Ev cc (Jy x y) v (g x y))(sz:(xs.flatMap λx=>((ys x).filter (p x)).map λy=>(gk x y,g x y)).length<=1000000)(UC:autoParam (∀e x,Q7 i1 e x) Gn)(QM:autoParam (∀e x,Q7 i2 e x) Gn) :
  JP c J k v ⟨t1,i1,[],0⟩ [⟨t2,i2,ifs,0⟩] scope (xs.flatMap λx=>((ys x).filter (p x)).map λy=>(gk x y,g x y)):=by
 have e:(xs.map λx=>(Cn x,((ys x).filter (p x)).map λy=>(gk x y,g x y))).flatMap (·.2)=xs.flatMap λx=>((ys x).filter (p x)).map λy=>(gk x y,g x y):=by
  rw[Ak,AB,Ak];rfl
 refine⟨J0,_,(λg' hg=>by
  refine Sa hg ?_ ?_
  .exact ⟨rfl,UC⟩
  .exact ⟨rfl,QM⟩),CO,?_,?_,sz,e⟩
 .rw [AB];exact Fj
 intro d hd;refine Bh (AF.mp hd) ?_;rintro x hx rfl;refine⟨Jx x,true,D7 x,hb x hx,λcc sc=>CL.nil,(λhp=>by cases hp),λV=>⟨(ys x).map λy=>(Fv x y,if p x y then[(gk x y,g x y)]else[]),λcc sc=>by rw[AB];exact NZ x hx cc sc,?_,λd hd=>?_⟩⟩
 .rw [Ak,AB];exact(FZ (p x) (λy=>(gk x y,g x y)) (ys x)).symm
 .refine Bh (AF.mp hd) ?_;rintro y hy rfl;exact⟨Jy x y,p x y,ID x y,VR x hx y hy,hi x hx y hy,λhp=>by simp[hp],λhp=>⟨(gk x y,g x y),by simp[hp],λcc sc=>Ie.dict (he x hx y hy hp cc sc).1 (he x hx y hy hp cc sc).2⟩⟩
theorem Ex.lI{xp lp:Pos}{k v:Expr}{g:Comprehension}{gs:Ec}{sc:Scope}{n:Nat}(F:Bi c w sc n){os:B3}(cd:JP c J k v g gs scope os)(he:DB [] os=es)(fl:∀p∈es,p.2.flat=true)(h:∀a,Hq J x (.obj (.ref a))=Ji a)(hk:autoParam (sc.kind=.function) Bc)(hx:autoParam (sc.names.lookup x=some .local) Bc)(hl:autoParam ((xp.line==lp.line && !(scope.names.any λp=>p.1==x&&(p.2==.local||p.2==.cell)))=true) Bc)(p:autoParam (UM x) Bc)(p':autoParam (Zr x) Bc) :
  Ex c J (.Assign [.Name x xp] (.DictComp k v (g::gs) scope lp) pos) (λh=>∃a X',Gg c a X'/\Fr (c.on X' (c.G.star (Bv a es))) (Ji a) h) R:=by
 refine V6 cd ?_;clear cd;intro J0 ds jt CO Fj ht sz e;exact Ex.sF F jt CO ds Fj ht (e▸sz) (e▸he) fl h hk hx hl p p'
end
section
open Sem (wp)
open Builtin Builtin.ObjectAttr
variable {w:World}{A:Around}{E:CG}{h:Heap}{g:Array GenState}{d:Drawn}{t:Nat}{os:OsState}{f:Addr}{m:Hv}{name:Str}{v:Value}
theorem U8:typeLookup (.type "function") "__getattribute__"=pure (some (.builtin "object.__getattribute__")):=by rw[Ap,builtinLookup_eq_fast];kernel_rfl
theorem fH:typeLookup (.type "function") "__getattr__"=pure none:=by rw[Ap,builtinLookup_eq_fast];kernel_rfl
theorem I0:typeLookup (.type "function") "attrib"=pure none:=by rw[Ap,builtinLookup_eq_fast];kernel_rfl
theorem RS:typeLookup (.type "function") "tail"=pure none:=by rw[Ap,builtinLookup_eq_fast];kernel_rfl
theorem ZK:typeLookup (.type "function") "makeelement"=pure none:=by rw[Ap,builtinLookup_eq_fast];kernel_rfl
theorem U7:typeLookup (.type "function") "append"=pure none:=by rw[Ap,builtinLookup_eq_fast];kernel_rfl
theorem ZJ:typeLookup (.type "function") "itertext"=pure none:=by rw[Ap,builtinLookup_eq_fast];kernel_rfl
def kZ(h:Heap)(f:Addr)(m:Hv):Prop:=
 ∃o,h.get? f=some o/\o.cls=.type "function"/\(∃fd,o.data=.func fd)/\((o.dict=none/\∀n,m n=none)\/∃d,o.dict=some d/\d≠f/\h.Ns1 d m)
theorem VC{tk:Tok}{Q:PySem.Fin->Shared->Prop}(hB:typeLookup (.type "function") name=pure none)(I:kZ h f m)(hv:m name=some v)(hq:Q (.done (.ret v)) ⟨h,g,d,t,os⟩) :
  wpAny (model prog w) A (Builtin.«object.__getattribute__» ⟨[.ref f,.str name tk],[]⟩) Q E ⟨h,g,d,t,os⟩:=by
 refine UG I ?_;clear I;intro o hx hc ao hd;rcases hd with⟨_,uK⟩|⟨dx,tm,Hj,Oi⟩
 .rw [uK name]at hv;cases hv
 repeat(first|(with_reducible refine wpAny_loadPart_at hx ?_;rw[hc])|wp_step)
 split
 .rename_i c ag;refine B5 ao ?_;clear ao;intro fd dG;rw[dG]at ag;cases ag
 repeat(first|(with_reducible refine wpAny_loadPart_at hx ?_;rw[hc])|wp_step)
 rw[tm];repeat(first|(with_reducible refine wpAny_nsGet Oi.ns ?_;rw[hv])|wp_step)
 exact hq
theorem PS:Slot "function" "__getattribute__" "object.__getattribute__":=
 .of (owner:="object") (n:="__getattribute__") U8 (by decide +kernel) (by decide +kernel) (by decide +kernel) (by first|exact .inl (by decide +kernel)|exact .inr (by decide +kernel)) (by rw[isSubtype_type];kernel_rfl)
theorem PT:Slot "function" "__setattr__" "object.__setattr__":=
 .of (owner:="object") (n:="__setattr__") (by rw[Ap,builtinLookup_eq_fast];kernel_rfl) (by decide +kernel) (by decide +kernel) (by decide +kernel) (by first|exact .inl (by decide +kernel)|exact .inr (by decide +kernel)) (by rw[isSubtype_type];kernel_rfl)
theorem GK{expr:Bool}(hB:typeLookup (.type "function") name=pure none)(I:kZ h f m)(hv:m name=some v)(hh:handedOut v=pure v)(hq:Q v ⟨h,g,d,t+1,os⟩) :
  wpAny (model prog w) A (getAttr (.ref f) name expr) Q E ⟨h,g,d,t,os⟩:=by
 refine EI (id I) ?_;intro o hx hc V;have lk:=U8;have hT:∀tk,(⟨h,g,d,tk,os⟩:Shared).TypeIs (.ref f) "function":=λV=>⟨o,hx,hc⟩;repeat(first|(with_reducible refine wpAny_loadPart_at hx ?_;rw[hc])|wp_step)
 have tY:(if(expr&&onTheHeap (.builtin "object.__getattribute__"))=true then runValue (.builtin "lifetime.attribute" ⟨[.ref f,.str name t,.builtin "object.__getattribute__"],[]⟩)else boundAndCalled (.builtin "object.__getattribute__") (.ref f) (.str name t))=boundAndCalled (.builtin "object.__getattribute__") (.ref f) (.str name t):=by
  rw[if_neg];rw[show onTheHeap (.builtin "object.__getattribute__")=false from rfl,Bool.and_false];exact Bool.false_ne_true
 rw[tY];refine wpAny_bind (wpAny_of_eq (PS.bind (.ref f)) ?_);refine wpAny_call_entry PS (hT _) F.entry_object_getattribute (VC hB I hv ⟨_,rfl,?_⟩) (F.args_object_getattribute_2 _ _);show wpAny _ _ (handedOut v) _ _ _;rw[hh];exact wpAny_pure hq
theorem Ju:classOwn (.type "function") "__setattr__"=pure none:=by
 rw[builtinOwn_eq_fast];kernel_rfl
theorem Td(self:Value):refuseLoop self "__setattr__" [.type "function",.type "object"]=pure ():=by
 unfold refuseLoop;simp -iota only[List.forIn_cons];rw[Ju,F.own_object_setattr];rfl
theorem bQ:mroOf (.type "function")=pure [.type "function",.type "object"]:=by rw[mroOf_type];kernel_rfl
def Gp(h:Heap)(f:Addr)(dd:Option Addr)(m:Hv):Prop:=
 ∃o,h.get? f=some o/\o.cls=.type "function"/\(∃fd,o.data=.func fd)/\o.dict=dd/\match dd with
  |none=>∀n,m n=none
  |some d=>d≠f/\h.Ns1 d m
theorem Gp.kM{dd:Option Addr}(I:Gp h f dd m):kZ h f m:=by
 refine W8 I ?_;clear I;intro o h1 h2 h3 h4 h5;refine⟨o,h1,h2,h3,?_⟩;cases dd with
 |none=>exact .inl ⟨h4,h5⟩
 |some d=>exact .inr ⟨d,h4,h5⟩
theorem VD{tk:Tok}{dd:Option Addr}{Q:PySem.Fin->Shared->Prop}{ns:B1}(hB:typeLookup (.type "function") name=pure none)(I:Gp h f dd m)(hw:Within m ns)(L7:ns.length<=1000)(hq:∀h' Wh d',Gp h' f (some d') (λy=>if y=name then some v else m y)->(dd=some d'\/(dd=none/\d'=h.objs.size))->(∀b o,(b≠f\/dd≠none)->b≠d'->h.get? b=some o->h'.get? b=some o)->Q (.done (.ret .none)) ⟨h',g,d,Wh,os⟩) :
  wpAny (model prog w) A (Builtin.«object.__setattr__» ⟨[.ref f,.str name tk,v],[]⟩) Q E ⟨h,g,d,t,os⟩:=by
 refine W8 I ?_;clear I;intro o hx hc ao fy hd;have uO:∀c,o.data≠.cls c:=λc z=>by refine B5 ao ?_;clear ao;intro fd dG;rw[dG]at z;cases z
 have uM:=bQ;have gE:=Td (.ref f);repeat(first|rw[refuse_eq]at ⊢ | rw[gE]at ⊢ | (with_reducible refine wpAny_loadPart_at hx ?_;rw[hc]at ⊢)|wp_step)
 have wJ:(!true || !typeHasDict (.type "function"))=false:=by decide +kernel
 cases dd with
 |none=>
  rw[fy,wJ];simp only[AR,if_false]
  .have qO:(h.push {cls:=.type "dict",data:=.dict #[]}).get? f=some o:=AO _ hx;have nL:f≠h.objs.size:=Nat.ne_of_lt (Ag hx);refine wpAny_bind (wpAny_alloc' ?_);refine wpAny_bind (wpAny_update' qO ?_);have uA:((h.push {cls:=.type "dict",data:=.dict #[]}).update f λo=>{cls:=o.cls,dict:=some h.objs.size,data:=o.data,slots:=o.slots}).get? h.objs.size
     = some {cls:=.type "dict",data:=.dict #[]}:=
    (Heap.get?_update_ne _ _ _ _ nL.symm).trans (Heap.get?_push_at rfl rfl)
   have js:((h.push {cls:=.type "dict",data:=.dict #[]}).update f λo=>{cls:=o.cls,dict:=some h.objs.size,data:=o.data,slots:=o.slots}).Ns h.objs.size (λV=>none):=
    ⟨_,#[],_,uA,rfl,λe he=>absurd he (by simp),λV=>rfl⟩
   have so:dictMade (.type "function") f h.objs.size=pure (some h.objs.size):=by
    unfold dictMade;have e:finalisedInACycleAlone "function"=false:=by decide +kernel
    simp -iota only[e,AR,if_false];try rfl
   refine wpAny_of_eq so ?_;refine wpAny_bind (wpAny_pure (wpAny_bind (wpAny_nsSet1 (Heap.Ns1.of_empty js) λh' ZT hs=>?_)));refine Mn (ZT.count (Within.cons name v Within.nil)) ?_;intro oD pR pP gB fw fu;refine wpAny_bind (wpAny_lookBehind gB (by rw[fw];exact pastItsLine_dict (AD fu (by rw[AZ,BS,sizeLine_eq];exact A1 (0+1) 16777216))) ?_);wp_walk;have QN:h'.get? f=some {cls:=o.cls,dict:=some h.objs.size,data:=o.data,slots:=o.slots}:=by
    refine(hs.2 f nL).trans (BJ _ qO ?_);have qG:=(Heap.get?_some_iff.mp hx).2;obtain⟨oc,od,vL,vM⟩:=o;cases vL<;>first|rfl|exact qG
   refine hq h' _ h.objs.size ⟨_,QN,hc,ao,rfl,nL.symm,?_⟩ (.inr ⟨rfl,rfl⟩) λb ob tW mZ hb=>?_
   .refine qx ZT ?_;intro o' es ep e1 e2 e3 eu e4;exact⟨o',es,ep,e1,e2,e3,eu,λy=>by rw[e4 y];by_cases hy:y=name<;>simp -iota[hy,hd y]⟩
   .have ma:b≠f:=tW.resolve_right λz=>z rfl;exact(hs.2 b mZ).trans ((Heap.get?_update_ne _ _ _ _ ma).trans (AO _ hb))
 |some dx=>
  rw[fy];refine wpAny_pure ?_;refine wpAny_bind (wpAny_pure (wpAny_bind (wpAny_nsSet1 hd.2 λh' ZT hs=>?_)));refine Mn (ZT.count (Within.cons name v hw)) ?_;intro oD pR pP gB fw fu;refine wpAny_bind (wpAny_lookBehind gB (by rw[fw];exact pastItsLine_dict (AD fu (by rw[AZ,sizeLine_eq];omega))) ?_);wp_walk;exact hq h' _ dx ⟨o,(hs.2 f hd.1.symm).trans hx,hc,ao,fy,hd.1,ZT⟩ (.inl rfl) λb ob V mZ hb=>(hs.2 b mZ).trans hb
theorem Kr{dd:Option Addr}{Q:ET}{ns:B1}(hB:typeLookup (.type "function") name=pure none)(I:Gp h f dd m)(hw:Within m ns)(L7:ns.length<=1000)(hq:∀h' Wh d',Gp h' f (some d') (λy=>if y=name then some v else m y)->(dd=some d'\/(dd=none/\d'=h.objs.size))->(∀b o,(b≠f\/dd≠none)->b≠d'->h.get? b=some o->h'.get? b=some o)->Q () ⟨h',g,d,Wh,os⟩) :
  wpAny (model prog w) A (setAttr (.ref f) name v) Q E ⟨h,g,d,t,os⟩:=by
 refine EI (id I) ?_;intro o hx hc V;have hT:∀tk,(⟨h,g,d,tk,os⟩:Shared).TypeIs (.ref f) "function":=λV=>⟨o,hx,hc⟩;refine wpAny_bind (wpAny_mkText ?_);refine wpAny_bind (wpAny_callSpecial?_slot (name:=Str.ofString "__setattr__") (hT _) PT (wpAny_call_entry PT (hT _) F.entry_object_setattr (VD hB I hw L7 λh' Wh d' I' e k=>⟨_,rfl,?_⟩) (F.args_object_setattr_3 _ _ _)));exact wpAny_pure (hq h' Wh d' I' e k)
end
theorem IK(x:h.Ns1 a m)(k:∀o,h.get? a=some o->h'.get? a=some o):h'.Ns1 a m:=x.at k
theorem Gp.keep{f:Addr}{dd:Option Addr}(x:Gp h f dd m)(k:∀o,h.get? f=some o->h'.get? f=some o)(k2:∀d,dd=some d->∀o,h.get? d=some o->h'.get? d=some o):Gp h' f dd m:=by
 refine W8 x ?_;clear x;intro o h1 h2 h3 h4 h5;refine⟨o,k o h1,h2,h3,h4,?_⟩;cases dd with
 |none=>exact h5
 |some d=>exact⟨h5.1,IK h5.2 (k2 d rfl)⟩
def OG(w:World)(X:CF)(h:Heap)(v:Value)(es:B3):Prop:=
 ∃f dd m ad,v=.ref f/\(¬X f/\f≠TP)/\(¬X dd/\dd≠TP)/\Gp h f (some dd) m/\m (Str.ofString "attrib")=some (.ref ad)/\B8 X w h (.ref ad) (.dict es)
theorem OG.mv(x:OG w X h v es)(k:∀b o,¬X b->b≠TP->h.get? b=some o->h'.get? b=some o/\¬X' b):OG w X' h' v es:=by
 refine qz x ?_;clear x;rintro f dd m ad rfl Cq Du I e r;refine CB Cq ?_;intro n1 t1;refine CB Du ?_;intro n2 t2;have h1:∃o,h.get? f=some o:=by refine Bh I ?_;clear I;intro o e V;exact⟨o,e⟩
 have h2:∃o,h.get? dd=some o:=by
  obtain⟨_,_,_,_,_,_,o,_,_,e,_⟩:=I;exact⟨o,e⟩
 refine⟨f,dd,m,ad,rfl,⟨(by refine B5 h1 ?_;clear h1;intro o e;exact(k f o n1 t1 e).2),t1⟩,⟨(by refine B5 h2 ?_;clear h2;intro o e;exact(k dd o n2 t2 e).2),t2⟩,I.keep (λo e=>(k f o n1 t1 e).1) (λd q o e=>?_),e,r.move k⟩;cases q;exact(k _ o n2 t2 e).1
noncomputable def wI(L:List (Value×List (Str×D))):Res where
 fp:=λV=>False
 P:=λw X h=>∀p∈L,OG w X h p.1 p.2
 mv:=λx k p hp=>(x p hp).mv λb o n t e=>by refine CB (k b o (.inr (.inl n)) t e) ?_;intro a z;exact⟨a,z n⟩
theorem Kw(a:Addr):handedOut (.ref a)=pure (.ref a):=rfl
theorem Ev.Ps(hG:∀X h,c.G.P c.w X h->OG c.w X h v es)(x:Ev c J o (.obj v))(he:autoParam (eval (.Attribute o (Str.ofString "attrib") pos) c.env=(do
   let o' <- eval o c.env;standAt pos.atName;let r <- holding [o'] (getAttr o' (Str.ofString "attrib") true);letTemporaryGo o o' r;pure r)) Dy):Ev c J (.Attribute o (Str.ofString "attrib") pos) (.dict es):=λs F Q E q=>
 BQ (x s F _ _ λv' h1 t1 l1 r1=>by
  cases r1;have F1:=F.le l1;refine qz (hG _ _ F1.g) ?_;rintro f dd m ad rfl V V I e r;exact GK I0 I.kM e (Kw _) (q _ h1 _ l1 r)) he
def CS(w:World)(fa:Addr)(k:Nat)(G:Res)(ds:Cr)(d:D)(G':Res):Prop:=
 ∀(A:Around) (X:CF) (s:Shared) (vs:DV),E7 k A->CV w s.heap->FT X s.heap->Be X w s.heap vs ds->G.P w X s.heap->(∀b,G.fp b->X b)->
 Run w A G.fp (call (.ref fa) vs) s λv h'=>B8 X w h' v d/\G'.P w X h'
def M5(c:Cx)(d:D)(G':Res)(v:Value)(h:Heap):Prop:=B8 c.X c.w h v d/\Bt c.M c.h0 h/\CV c.w h/\G'.P c.w c.X h
theorem FnAt.N2{sc:Scope}{G G':Res}{h0:Heap}(F:FnAt c w sc k X G h0)(mv:∀ {X X':CF}{h:Heap},G'.P w X h->(∀b,X' b->X b)->G'.P w X' h)(r:M5 c d G' v h):FR G h0 (λv h=>B8 X w h v d/\G'.P w X h) v h:=by
 refine Ht r ?_;clear r;intro r1 r2 V r4;rw[F.hM,F.hh]at r2;rw[F.hw]at r1 r4;exact⟨r2,r1.move (Cc F.hX),mv r4 F.hX⟩
theorem Res.CC{G:Res}(g:G.P w X h)(s:∀b,X' b->X b):G.P w X' h:=G.mv g λb o V V e=>⟨e,λn z=>n (s b z)⟩
theorem Kt{f:Addr}{st:Stmt}{qual:Str}{code:Addr}{dflt mod:Value}(fd:B9 f st qual code dflt mod){G G':Res}{names:B1}(hb:∀vs:List Value,vs.length=names.length->bindArgs (EV st qual dflt mod (.ref code)) ⟨vs,[]⟩=pure (names.zip vs))(hl:ds.length=names.length)(ck:DY (BX st) names)(body:∀c X h0,FnAt c w (BX st) k X G h0->Bd c (names.zip ds) [Br st] (λV=>False) (M5 c d G')):CS w f (k+1) G ds d G':=λA X s vs ok B xk r g gx=>by
 have e:vs.length=names.length:=r.length.trans hl;exact RT fd ok B xk (G:=G) g gx r (hb vs e) e.symm ck λc FA=>(body c X s.heap FA).imp (λV z=>z.elim) λv h z=>FA.N2 (λg s=>Res.CC g s) z
theorem Ev.eQ{np:Pos}{es:Cw}{fa:Addr}{G:Res}(f:Ev c J (.Name x np) (.obj (.ref fa)))(y:FP c J (e::es) ds)(g:CS c.w fa k G ds d G)(hk:k<=c.k)(hG:∀X h,c.G.P c.w X h->G.P c.w X h)(qF:∀b,¬G.fp b)(hf:∃st qual code dflt mod,B9 fa st qual code dflt mod)(he:autoParam (D8 c e es) Bc):Ev c J (.Call (.Name x np) (e::es) [] pos) d:=
 λs F Q E q=>wpAny_Call_NameR (f s F _ _ λv h1 t1 l1 r1=>by
  cases r1;refine iP hf ?_;clear hf;intro st qual code dflt mod fd;have Eb:Le s.heap h1:=l1;refine BG (o:=Et st qual dflt mod (.ref code)) (fd:=EV st qual dflt mod (.ref code)) rfl (y pos _ (F.le Eb) _ _ λvs h2 t2 l2 r2=>?_) he;have F2:=(F.le Eb).le l2;exact⟨F2.base.k _ _ (fd.here _),g c.A c.X _ vs (F.ok.CC hk) F2.base F2.Cj r2 (hG _ _ F2.g) (λb z=>absurd z (qF b)) _ _ λv h3 t3 l3 r3=>q v h3 t3 (Bt.trans (Bt.trans l1 l2) (l3.any λb z=>absurd z (qF b))) r3.1⟩)
noncomputable def DO(j:Nat)(row:List Int):LS:=⟨(j:Nat)*2,(j:Nat)*2,9223372036854775807,row⟩
noncomputable def Jv(n:Nat):List Int:=(List.range n).map λi=>2+(i:Nat)*2
noncomputable def CY(a b:B1):Nat->List Int×Int
 |0=>(Jv a.length,0)
 |j+1=>let st:=C4 (b.getD j ⟨#[]⟩) a (DO j (CY a b j).1) a.length;(st.row,st.res)
noncomputable def Qb(a b:B1)(j:Nat):Int:=(C4 (b.getD j ⟨#[]⟩) a (DO j (CY a b j).1) a.length).mn
noncomputable def Fc(a b:B1)(m:Int):Int:=if(List.range b.length).any (λj=>decide (m<Qb a b j))then m+1 else(CY a b b.length).2
theorem LQ(a b:B1):∀j,(CY a b j).1.length=a.length
 |0=>by show(Jv a.length).length=_;unfold Jv;rw[AA,List.length_range]
 |j+1=>by
  show(C4 _ a (DO j (CY a b j).1) a.length).row.length=_;rw[Hk];exact LQ a b j
noncomputable abbrev WE(S:UO)(res:Int)(r:Addr)(a b:B1)(m:Int):List (Str×D):=[(O1,.int res),(Nq,.obj (.ref r)),(nB,S.Cn b),(nA,S.Cn a),(nM,.int m)]
theorem Vp(S:UO)(F:Bi c w (BX (BZ 6)) (k+1)){a b:B1}{m:Int}{r:Addr}(ha:S.ok a)(hb:S.ok b)(la:a.length<=1000)(lb:b.length<=1000)(ga:∀x∈a,FD x)(gb:∀x∈b,FD x){Gf:List D->Res}(up:∀ds IZ,Upd (Gf ds) (Dl r ds) (Dl r IZ) (Gf IZ))(hG:c.G=Gf ((Jv a.length).map .int)) :
  Ex c (WE S 0 r a b m) Vn (λh=>(∀j<b.length,¬m<Qb a b j)/\∃X',(∀b,c.X b->X' b)/\Fr (c.on X' (Gf ((CY a b b.length).1.map .int))) (WE S (CY a b b.length).2 r a b m) h) (HR c (.int (Fc a b m))):=by
 refine(Ex.aP (ds:=DM 0 1 b.length) F.ro (λj=>∀i<j,¬m<Qb a b i) (λi h=>absurd h (Nat.not_lt_zero _)) (λj=>Gf ((CY a b j).1.map .int)) (λj=>WE S (CY a b j).2 r a b m) hG rfl
  (Ba.Qm (Ev.Gm (by decide) rfl (F.kind rfl)) (S.len hb (Ev.Gm (by decide) rfl (F.kind rfl)) Ev.n lb rfl) (by omega)) (λj d hd hΦ X T hX=>?_)).imp (λh z=>?_) λV V z=>z
 .obtain ⟨hj,rfl⟩:j<b.length/\d=.int (j:Nat):=by
   simp only[DM,AL,AS]at hd;refine Bh hd ?_;clear hd;intro j' e1 e2;refine B5 (AP.mp e1) ?_;intro hl e3;rw[List.getElem_range]at e3;rw[List.length_range]at hl;exact⟨hl,by rw[<- e2,<- e3];simp⟩
  have gj:b[j]? = some b[j]:=AU hj;have tI:b.getD j ⟨#[]⟩=b[j]:=by rw[AN,gj];rfl
  have hl:=LQ a b j;have F':Bi (c.on X ((Gf ((CY a b j).1.map .int)).star T)) w (BX (BZ 6)) (k+1):=F.on;refine⟨(O0,.int (j:Nat))::WE S (CY a b j).2 r a b m,Bind.name ⟨by decide,by decide⟩ (F'.name (.inl rfl)) (DF.of (by rfl)),?_⟩;refine Bd.step (J':=[(Qc,.str b[j]),(O0,.int (j:Nat)),(O1,.int (CY a b j).2),(Nq,.obj (.ref r)),(nB,S.Cn b),(nA,S.Cn a),(nM,.int m)]) (Ex.EJ (d:=.str b[j]) (S.item hb Ev.n Ev.n lb (k:=(j:Nat)) (x:=b[j]) (by exact Int.neg_natCast_le_natCast b.length j)
   (by rw[if_neg (by exact Int.not_ofNat_neg j)];simpa using gj) λV V=>by with_unfolding_all rfl) ⟨by decide,by decide⟩ (F'.name (.inl rfl)) (DF.of (by rfl))) ?_
  refine Bd.step (J':=[(O1,.int ((j:Nat)*2)),(Mh,.int ((j:Nat)*2)),(Qc,.str b[j]),(O0,.int (j:Nat)),(Nq,.obj (.ref r)),(nB,S.Cn b),(nA,S.Cn a),(nM,.int m)])
   (Ex.oZ (d:=.int ((j:Nat)*2)) (J':=[(Mh,.int ((j:Nat)*2)),(Qc,.str b[j]),(O0,.int (j:Nat)),(O1,.int (CY a b j).2),(Nq,.obj (.ref r)),(nB,S.Cn b),(nA,S.Cn a),(nM,.int m)])
    (Ev.TS Ev.n (Ev.glob (v:=.int 2 286) (d:=.int 2) (by decide) (F'.kind rfl) λV=>.int _ _) (by omega))
    (Bind.name ⟨by decide,by decide⟩ (F'.name (.inl rfl)) (DF.of (by rfl))) (Bind.name ⟨by decide,by decide⟩ (F'.name (.inl rfl)) (DF.of (by rfl)))) ?_
  refine Bd.step (J':=[(YS,.int 9223372036854775807),(O1,.int ((j:Nat)*2)),(Mh,.int ((j:Nat)*2)),(Qc,.str b[j]),(O0,.int (j:Nat)),(Nq,.obj (.ref r)),(nB,S.Cn b),(nA,S.Cn a),(nM,.int m)])
   (Ex.EJ (d:=.int 9223372036854775807) Ev.cInt ⟨by decide,by decide⟩ (F'.name (.inl rfl)) (DF.of (by rfl))) ?_
  refine Bd.cons (Ex.sub (J':=dj S (DO j (CY a b j).1) b[j] j r a b m) (Fn [0,2,1,3,4,5,6,7,8] rfl) (Vo S (c:=c.on X ((Gf ((CY a b j).1.map .int)).star T)) F' (st:=DO j (CY a b j).1) (bc:=b[j]) (j:=j) (b:=b) (m:=m) (r:=r) ha la ga (gb _ (List.getElem_mem hj)) hl (Gf:=λds=>(Gf ds).star T) (λds IZ=>Upd.lf (up ds IZ)) rfl))
   λh zz=>Bh zz λX' Sx Fh=>⟨_,_,?_,Fh,?_⟩
  .exact ⟨rfl,rfl,rfl⟩
  have bD:C4 (b.getD j ⟨#[]⟩) a (DO j (CY a b j).1) a.length=C4 b[j] a (DO j (CY a b j).1) a.length:=by rw[tI]
  have f7:Qb a b j=(C4 b[j] a (DO j (CY a b j).1) a.length).mn:=by rw[<- bD];rfl
  have Mb:CY a b (j+1)=((C4 b[j] a (DO j (CY a b j).1) a.length).row,(C4 b[j] a (DO j (CY a b j).1) a.length).res):=by rw[<- bD];rfl
  generalize C4 b[j] a (DO j (CY a b j).1) a.length=st at *;have Y6:Bi (c.on X' ((Gf (st.row.map .int)).star T)) w (BX (BZ 6)) (k+1):=F.on;refine Bd.if (CK.cmp (Bg.jg Ev.n Ev.n)) (λDw=>?_) λDw=>?_
  .refine Bd.ret ((Ex.ret (Ev.Ij Ev.n Ev.cInt)).imp (λV z=>z) λv h z=>?_);have al:m<st.mn:=of_decide_eq_true Dw;have e:Fc a b m=m+1:=by
    unfold Fc;rw[if_pos];rw[Aq];exact⟨j,BB.mpr hj,decide_eq_true (f7▸al)⟩
   rw[e];exact HR.on (X:=X') (G:=(Gf (st.row.map .int)).star T) (λb y=>Sx b (hX b y)) z
  .have al:¬m<st.mn:=of_decide_eq_false Dw;refine Bd.nil (Bd.nil (Bd.done λh Fh=>⟨λi hi=>?_,X',λb y=>Sx b (hX b y),?_⟩))
   .by_cases e:i=j
    .rw [e,f7];exact al
    .exact hΦ i (by lia)
   .rw [Mb];have dq:Fr (c.on X' ((Gf (st.row.map .int)).star T)) (dj S st b[j] j r a b m) h:=Fh;exact dq.sub (Fn [2,5,6,7,8] rfl)
 .have e:(DM 0 1 b.length).length=b.length:=by simp[DM]
  rw[e]at z;exact z
noncomputable def mid(a b:B1):List Str:=(a.drop (Bz a b)).take ((a.drop (Bz a b)).length-Bz (a.drop (Bz a b)).reverse (b.drop (Bz a b)).reverse)
noncomputable def Jq(a b:B1):List Str:=(b.drop (Bz a b)).take ((b.drop (Bz a b)).length-Bz (a.drop (Bz a b)).reverse (b.drop (Bz a b)).reverse)
noncomputable def ER(a b:B1)(m:Int):Int:=if m<((b.length:Int)-a.length)*2 then m+1 else Fc a b m
noncomputable def Eg(a b:B1)(m:Int):Int:=
 if a=[]\/b=[]then 2*((a.length:Int)+b.length)
 else if 40<a.length\/40<b.length then m+1
 else if b.length<a.length then ER b a m else ER a b m
noncomputable def Go(a b:B1)(m:Int):Int:=if a=b then 0 else Eg (mid a b) (Jq a b) m
theorem PU{n:Nat}(h:n<=1000):Builtin.Range.small 2 (2*((n:Int)+1)) 2=true:=by
 have L7:Builtin.Range.rangeSize 2 (2*((n:Int)+1)) 2=(n:Nat):=by
  unfold Builtin.Range.rangeSize;rw[if_pos (by decide)];split<;>lia
 unfold Builtin.Range.small;rw[L7,if_pos (by decide)];have fits:∀x:Int,-5000<x->x<5000->Builtin.Range.rangeFitsLong x=true:=λx h1 h2=>by
  unfold Builtin.Range.rangeFitsLong;simp only[Bool.and_eq_true,decide_eq_true_eq];lia
 rw[fits 2 (by decide) (by decide),fits _ (by exact(λ{a b}=>Rat.intCast_lt_intCast.mp) rfl) (by lia),fits (n:Nat) (by exact(λ{a b}=>Rat.intCast_lt_intCast.mp) rfl) (by lia),fits (2*((n:Int)+1)+(2-1)) (by exact(λ{a b}=>Rat.intCast_lt_intCast.mp) rfl) (by lia)];simp
theorem Vm(S:UO){h0:Heap}(F:FnAt c w (BX (BZ 6)) (k+1) X Res.emp h0){a b:B1}{m:Int}(ha:S.ok a)(hb:S.ok b)(la:a.length<=1000)(lb:b.length<=1000)(ga:∀x∈a,FD x)(gb:∀x∈b,FD x)(hm : -1000000<m/\m<1000000) :
  Bd c [(nB,S.Cn b),(nA,S.Cn a),(nM,.int m)] [(Br (BZ 6)).drop 12] (λV=>False) (HR c (.int (ER a b m))):=by
 have E:=F.env;have um:∀J:List (Str×D),(nA,S.Cn a)∈J->True:=λV V=>trivial;refine Bd.if (CK.cmp (Bg.jg (Ev.TS (Ev.Lh (S.len hb (Ev.Gm (by decide) rfl (E.kind rfl)) Ev.n lb rfl) (S.len ha (Ev.Gm (by decide) rfl (E.kind rfl)) Ev.n la rfl)) (Ev.glob (v:=.int 2 286) (d:=.int 2) (by decide) (E.kind rfl) λV=>.int _ _) (by lia))
  Ev.n)) (λh=>?_) λh=>?_
 .refine Bd.ret ((Ex.ret (Ev.Ij Ev.n Ev.cInt)).imp (λV z=>z) λv h' z=>?_);unfold ER;rw[if_pos (of_decide_eq_true h)];exact z
 .refine Bd.nil ?_;have L7:Builtin.Range.rangeSize 2 (2*((a.length:Int)+1)) 2=(a.length:Nat):=by
   unfold Builtin.Range.rangeSize;rw[if_pos (by decide)];split<;>lia
  refine Bd.cons (Ex.cH (Ji:=λr=>[(Nq,.obj (.ref r)),(nB,S.Cn b),(nA,S.Cn a),(nM,.int m)]) (jQ.TL (Ev.Gm (by decide) rfl (E.kind rfl)) (Ev.Gm (by decide) rfl (E.kind rfl)) (Ev.glob (v:=.int 2 286) (d:=.int 2) (by decide) (E.kind rfl) λV=>.int _ _)
   (Ev.TS (a:=2) (b:=(a.length:Int)+1) (Ev.glob (v:=.int 2 286) (d:=.int 2) (by decide) (E.kind rfl) λV=>.int _ _) (Ev.Ij (S.len ha (Ev.Gm (by decide) rfl (E.kind rfl)) Ev.n la rfl) Ev.cInt) (by lia))
   (Ev.glob (v:=.int 2 286) (d:=.int 2) (by decide) (E.kind rfl) λV=>.int _ _) (by decide) L7 (PU la) (by omega)) ⟨by decide,by decide⟩ (E.name (.inl rfl)) (λr=>DF.of (by rfl))) λh' zz=>Fp zz λr X' Sx Fh=>⟨c.on X' (c.G.star (Dl r (DM 2 2 a.length))),_,⟨rfl,rfl,rfl⟩,Fh,?_⟩
  have hr:DM 2 2 a.length=(Jv a.length).map .int:=by
   unfold DM Jv;rw[AB];rfl
  rw[hr,F.hG];have e2:Fc a b m=ER a b m:=by unfold ER;rw[if_neg (of_decide_eq_false h)]
  have E':Bi (c.on X' (Res.emp.star (Dl r ((Jv a.length).map .int)))) w (BX (BZ 6)) (k+1):=E.on;refine Bd.step (J':=WE S 0 r a b m) (Ex.EJ (d:=.int 0) Ev.cInt ⟨by decide,by decide⟩ (E'.name (.inl rfl)) (DF.of (by rfl))) ?_;refine Bd.cons ((Vp S E' (a:=a) (b:=b) (m:=m) (r:=r) ha hb la lb ga gb (Gf:=λds=>Res.emp.star (Dl r ds)) (λds IZ=>Upd.rt (Upd.self (T:=Dl r ds) (T':=Dl r IZ) λV=>Iff.rfl)) rfl).imp (λV z=>z) λv h2 z=>e2▸HR.on Sx z)
   λh2 ⟨hΦ,X2,Hi,F2⟩=>⟨c.on X2 (Res.emp.star (Dl r ((CY a b b.length).1.map .int))),_,⟨rfl,rfl,rfl⟩,F2,?_⟩
  refine Bd.ret ((Ex.ret Ev.n).imp (λV z=>z) λv h3 z=>?_);have e3:Fc a b m=(CY a b b.length).2:=by
   unfold Fc;rw[if_neg];rw[Aq];intro Cq;refine Bh Cq ?_;intro j hj hd;exact hΦ j (BB.mp hj) (of_decide_eq_true hd)
  rw[<- e2,e3];exact HR.on (X:=X2) (G:=Res.emp.star (Dl r ((CY a b b.length).1.map .int))) (λb y=>Hi b (Sx b y)) z
theorem Bd.sub{ls:List (List Stmt)}(x:Bd c J' ls N R)(s:∀p∈J',p∈J):Bd c J ls N R:=λs' F=>x s' (F.sub s)
theorem TG(S:UO){h0:Heap}(F:FnAt c w (BX (BZ 6)) (k+1) X Res.emp h0){a b:B1}{m:Int}(ha:S.ok a)(hb:S.ok b)(la:a.length<=1000)(lb:b.length<=1000)(ga:∀x∈a,FD x)(gb:∀x∈b,FD x)(hm : -1000000<m/\m<1000000) :
  Bd c [(nB,S.Cn b),(nA,S.Cn a),(nM,.int m)] [(Br (BZ 6)).drop 9] (λV=>False) (HR c (.int (Eg a b m))):=by
 have E:=F.env;have ta:=S.Ll a ha la;have tb:=S.Ll b hb lb;refine Bd.if (b:=decide (a=[]\/b=[])) (CK.eq (CK.W9 (CK.not (CK.val Ev.n ta.2)) λV=>CK.not (CK.val Ev.n tb.2)) ?_) (λh=>?_) λh=>?_
 .rw [ta.1,tb.1];cases a<;>cases b<;>simp
 .refine Bd.ret ((Ex.ret (Ev.TS (Ev.glob (v:=.int 2 286) (d:=.int 2) (by decide) (E.kind rfl) λV=>.int _ _) (Ev.Ij (S.len ha (Ev.Gm (by decide) rfl (E.kind rfl)) Ev.n la rfl) (S.len hb (Ev.Gm (by decide) rfl (E.kind rfl)) Ev.n lb rfl)) (by lia))).imp (λV z=>z) λv h' z=>?_);unfold Eg;rw[if_pos (of_decide_eq_true h)];exact z
 .refine Bd.nil (Bd.if (b:=decide (40<a.length\/40<b.length)) (CK.eq (CK.W9 (CK.cmp (Bg.jg (S.len ha (Ev.Gm (by decide) rfl (E.kind rfl)) Ev.n la rfl) (Ev.glob (v:=.int 40 284) (d:=.int 40) (by decide) (E.kind rfl) λV=>.int _ _)))
   λV=>CK.cmp (Bg.jg (S.len hb (Ev.Gm (by decide) rfl (E.kind rfl)) Ev.n lb rfl) (Ev.glob (v:=.int 40 284) (d:=.int 40) (by decide) (E.kind rfl) λV=>.int _ _))) ?_) (λh2=>?_) λh2=>?_)
  .rw [<- Bool.decide_or];exact decide_eq_decide.mpr (or_congr (by(clear la lb hm;omega)) (by(clear la lb hm;omega)))
  .refine Bd.ret ((Ex.ret (Ev.Ij Ev.n Ev.cInt)).imp (λV z=>z) λv h' z=>?_);unfold Eg;rw[if_neg (of_decide_eq_false h),if_pos (of_decide_eq_true h2)];exact z
  .refine Bd.nil (Bd.if (CK.cmp (Bg.ltI (S.len hb (Ev.Gm (by decide) rfl (E.kind rfl)) Ev.n lb rfl) (S.len ha (Ev.Gm (by decide) rfl (E.kind rfl)) Ev.n la rfl))) (λh3=>?_) λh3=>?_)
   .have mQ:b.length<a.length:=by have:=of_decide_eq_true h3;exact(λ{n m}=>Int.ofNat_lt.mp) this
    have e:Eg a b m=ER b a m:=by unfold Eg;rw[if_neg (of_decide_eq_false h),if_neg (of_decide_eq_false h2),if_pos mQ]
    rw[e];refine Bd.step (J':=[(nA,S.Cn b),(nB,S.Cn a),(nM,.int m)]) (Ex.SK (n1:=nA) (n2:=nB) (Ev.tuple (.cons Ev.n (.cons Ev.n .nil)) (by simp)) ⟨by decide,by decide⟩ ⟨by decide,by decide⟩ (E.name (.inl rfl)) (E.name (.inl rfl))
     (J1:=[(nB,S.Cn a),(nA,S.Cn a),(nM,.int m)]) (DF.of (by rfl)) (DF.of (by rfl)) (by unfold swappedStores Env.blockKind Env.kindOf;rw[E.hs];rfl)) (Bd.nil ?_)
    exact(Vm S F hb ha lb la gb ga hm).sub (Fn [1,0,2] rfl)
   .have mQ:¬b.length<a.length:=by have:=of_decide_eq_false h3;(clear la h3;lia)
    have e:Eg a b m=ER a b m:=by unfold Eg;rw[if_neg (of_decide_eq_false h),if_neg (of_decide_eq_false h2),if_neg mQ]
    rw[e];exact Bd.nil (Vm S F ha hb la lb ga gb hm)
theorem aW(S:UO)(w:World)(k:Nat){a b:B1}{m:Int}(ha:S.ok a)(hb:S.ok b)(la:a.length<=1000)(lb:b.length<=1000)(ga:∀x∈a,FD x)(gb:∀x∈b,FD x)(hm : -1000000<m/\m<1000000) :
  C9 w 45 (k+2) [S.Cn a,S.Cn b,.int m] (.int (Go a b m)):=by
 refine Ed Km (names:=[nA,nB,nM]) (λvs e=>?_) rfl (.of (by decide +kernel)) λc X h0 F=>?_
 .refine bg (Ou e) ?_;rintro v1 v2 v3 rfl;rfl
 .have E:=F.env;have nV:=HN a b;have q8:S.ok (a.drop (Bz a b)):=S.sub _ _ ha λy hy=>Aj hy;have iS:S.ok (b.drop (Bz a b)):=S.sub _ _ hb λy hy=>Aj hy;refine Bd.if (CK.cmp (S.eq ha hb Ev.n Ev.n rfl)) (λh=>?_) λh=>?_
  .refine Bd.ret (Ex.ret (Ev.cInt.eq ?_));rw[Go,if_pos (of_decide_eq_true h)]
  .refine Bd.nil (Bd.step (J':=[(Jr,.int (0:Nat)),(nA,S.Cn a),(nB,S.Cn b),(nM,.int m)]) (Ex.EJ (d:=.int (0:Nat)) Ev.cInt ⟨by decide,by decide⟩ (E.name (.inl rfl)) (DF.of (by rfl))) (Bd.step (bK S F ha hb la lb) ?_));refine Bd.step (J':=[(nA,S.Cn (a.drop (Bz a b))),(Jr,.int (Bz a b)),(nB,S.Cn b),(nM,.int m)]) (Ex.EJ (d:=S.Cn (a.drop (Bz a b))) ((S.slice ha Ev.n (Part.int Ev.n) Part.no la).eq (by rw[Di])) ⟨by decide,by decide⟩ (E.name (.inl rfl)) (DF.of (by rfl))) ?_;refine Bd.step (J':=[(nB,S.Cn (b.drop (Bz a b))),(nA,S.Cn (a.drop (Bz a b))),(Jr,.int (Bz a b)),(nM,.int m)]) (Ex.EJ (d:=S.Cn (b.drop (Bz a b))) ((S.slice hb Ev.n (Part.int Ev.n) Part.no lb).eq (by rw[Di])) ⟨by decide,by decide⟩ (E.name (.inl rfl)) (DF.of (by rfl))) ?_;refine Bd.step (J':=[(Mi,.int (-((0:Nat):Int))),(nB,S.Cn (b.drop (Bz a b))),(nA,S.Cn (a.drop (Bz a b))),(Jr,.int (Bz a b)),(nM,.int m)]) (Ex.EJ (d:=.int (-((0:Nat):Int))) (Ev.cInt.eq rfl) ⟨by decide,by decide⟩ (E.name (.inl rfl)) (DF.of (by rfl))) ?_;refine Bd.step (YM S F q8 iS (by rw[AM];exact dU la rfl) (by rw[AM];exact dU lb rfl)) ?_;refine Bd.step (J':=[(nA,S.Cn (mid a b)),(Mi,.int (-(Bz (a.drop (Bz a b)).reverse (b.drop (Bz a b)).reverse:Int))),(nB,S.Cn (b.drop (Bz a b))),(Jr,.int (Bz a b)),(nM,.int m)]) (Ex.EJ (d:=S.Cn (mid a b)) ((S.slice q8 Ev.n Part.no (Part.post Ev.n) (by rw[AM];exact dU la rfl)).eq (by rw[Hz];rfl)) ⟨by decide,by decide⟩ (E.name (.inl rfl)) (DF.of (by rfl))) ?_;refine Bd.step (J':=[(nB,S.Cn (Jq a b)),(nA,S.Cn (mid a b)),(Mi,.int (-(Bz (a.drop (Bz a b)).reverse (b.drop (Bz a b)).reverse:Int))),(Jr,.int (Bz a b)),(nM,.int m)]) (Ex.EJ (d:=S.Cn (Jq a b)) ((S.slice iS Ev.n Part.no (Part.post Ev.n) (by rw[AM];exact dU lb rfl)).eq (by rw[Hz];rfl)) ⟨by decide,by decide⟩ (E.name (.inl rfl)) (DF.of (by rfl))) ?_;have s1:∀x∈mid a b,x∈a:=λx hx=>Aj (Ay hx);have s2:∀x∈Jq a b,x∈b:=λx hx=>Aj (Ay hx);have e:Go a b m=Eg (mid a b) (Jq a b) m:=by rw[Go,if_neg (of_decide_eq_false h)]
   rw[e];refine Bd.sub (TG S F (S.sub _ _ ha s1) (S.sub _ _ hb s2) (by unfold mid;rw[Ae,AM];exact pA la) (by unfold Jq;rw[Ae,AM];exact pA lb) (λx hx=>ga x (s1 x hx)) (λx hx=>gb x (s2 x hx)) hm) (Fn [0,1,4] rfl)
noncomputable abbrev C5:Str:=Str.ofString "text"
noncomputable abbrev ch(s:String):Str:=Str.ofString s
noncomputable abbrev Lq:Value:=.str (Str.ofString "cpy313.xml.etree.ElementTree") 582
theorem Uv:B9 223 (BZ 17) (Str.ofString "_escape_cdata") 222 .none Lq:=⟨λP=>rfl,λP=>⟨_,_,_,rfl,rfl,rfl⟩,rfl,rfl,rfl⟩
noncomputable def aL(x:Str):Str:=BW (BW (BW x (ch "&") (ch "&amp;")) (ch "<") (ch "&lt;")) (ch ">") (ch "&gt;")
theorem fO(w:World)(k:Nat)(x:Str)(h0:x.length<=1000)(h1:(BW x (ch "&") (ch "&amp;")).length<=1000)(h2:(BW (BW x (ch "&") (ch "&amp;")) (ch "<") (ch "&lt;")).length<=1000):C9 w 223 (k+1) [.str x] (.str (aL x)):=by
 refine Ed Uv (names:=[C5]) (λvs e=>?_) rfl (.of (by decide +kernel)) λc X hh F=>?_
 .refine B5 (L9 e) ?_;rintro v1 rfl;rfl
 .have E:=F.env;refine Bd.ret (Ex.Lm ?_);refine Bd.step (J':=[(C5,.str (BW x (ch "&") (ch "&amp;")))]) (Ex.Kj (k1:=0) (p1:=⟨165,11,165,14⟩) (.head _) (E.name (.inl rfl)) (DF.of (by rfl)) (by decide) (lb h0 rfl) (by decide) rfl) ?_;refine Bd.step (J':=[(C5,.str (BW (BW x (ch "&") (ch "&amp;")) (ch "<") (ch "&lt;")))]) (Ex.Kj (k1:=0) (p1:=⟨167,11,167,14⟩) (.head _) (E.name (.inl rfl)) (DF.of (by rfl)) (by decide) (lb h1 rfl) (by decide) rfl) ?_;refine Bd.step (J':=[(C5,.str (aL x))]) (Ex.Kj (k1:=0) (p1:=⟨169,11,169,14⟩) (.head _) (E.name (.inl rfl)) (DF.of (by rfl)) (by decide) (lb h2 rfl) (by decide) rfl) ?_;exact Bd.ret (Ex.ret (Ev.name (.head _)))
theorem Uw:B9 230 (BZ 18) (Str.ofString "_escape_attrib") 229 .none Lq:=⟨λP=>rfl,λP=>⟨_,_,_,rfl,rfl,rfl⟩,rfl,rfl,rfl⟩
noncomputable def e9(x:Str):Str:=(BW (BW (BW (BW (BW (BW (BW x (ch "&") (ch "&amp;")) (ch "<") (ch "&lt;")) (ch ">") (ch "&gt;")) (ch "\"") (ch "&quot;")) (ch "\r") (ch "&#13;")) (ch "\n") (ch "&#10;")) (ch "\t") (ch "&#09;"))
theorem fP(w:World)(k:Nat)(x:Str)(h0:x.length<=1000)(h1:(BW x (ch "&") (ch "&amp;")).length<=1000)(h2:(BW (BW x (ch "&") (ch "&amp;")) (ch "<") (ch "&lt;")).length<=1000)(h3:(BW (BW (BW x (ch "&") (ch "&amp;")) (ch "<") (ch "&lt;")) (ch ">") (ch "&gt;")).length<=1000)(h4:(BW (BW (BW (BW x (ch "&") (ch "&amp;")) (ch "<") (ch "&lt;")) (ch ">") (ch "&gt;")) (ch "\"") (ch "&quot;")).length<=1000)(h5:(BW (BW (BW (BW (BW x (ch "&") (ch "&amp;")) (ch "<") (ch "&lt;")) (ch ">") (ch "&gt;")) (ch "\"") (ch "&quot;")) (ch "\r") (ch "&#13;")).length<=1000)(h6:(BW (BW (BW (BW (BW (BW x (ch "&") (ch "&amp;")) (ch "<") (ch "&lt;")) (ch ">") (ch "&gt;")) (ch "\"") (ch "&quot;")) (ch "\r") (ch "&#13;")) (ch "\n") (ch "&#10;")).length<=1000):C9 w 230 (k+1) [.str x] (.str (e9 x)):=by
 refine Ed Uw (names:=[C5]) (λvs e=>?_) rfl (.of (by decide +kernel)) λc X hh F=>?_
 .refine B5 (L9 e) ?_;rintro v1 rfl;rfl
 .have E:=F.env;refine Bd.ret (Ex.Lm ?_);refine Bd.step (J':=[(C5,.str (BW x (ch "&") (ch "&amp;")))]) (Ex.Kj (k1:=0) (p1:=⟨176,11,176,14⟩) (.head _) (E.name (.inl rfl)) (DF.of (by rfl)) (by decide) (lb h0 rfl) (by decide) rfl) ?_;refine Bd.step (J':=[(C5,.str (BW (BW x (ch "&") (ch "&amp;")) (ch "<") (ch "&lt;")))]) (Ex.Kj (k1:=0) (p1:=⟨178,11,178,14⟩) (.head _) (E.name (.inl rfl)) (DF.of (by rfl)) (by decide) (lb h1 rfl) (by decide) rfl) ?_;refine Bd.step (J':=[(C5,.str (BW (BW (BW x (ch "&") (ch "&amp;")) (ch "<") (ch "&lt;")) (ch ">") (ch "&gt;")))]) (Ex.Kj (k1:=0) (p1:=⟨180,11,180,14⟩) (.head _) (E.name (.inl rfl)) (DF.of (by rfl)) (by decide) (lb h2 rfl) (by decide) rfl) ?_;refine Bd.step (J':=[(C5,.str (BW (BW (BW (BW x (ch "&") (ch "&amp;")) (ch "<") (ch "&lt;")) (ch ">") (ch "&gt;")) (ch "\"") (ch "&quot;")))]) (Ex.Kj (k1:=0) (p1:=⟨182,11,182,14⟩) (.head _) (E.name (.inl rfl)) (DF.of (by rfl)) (by decide) (lb h3 rfl) (by decide) rfl) ?_;refine Bd.step (J':=[(C5,.str (BW (BW (BW (BW (BW x (ch "&") (ch "&amp;")) (ch "<") (ch "&lt;")) (ch ">") (ch "&gt;")) (ch "\"") (ch "&quot;")) (ch "\r") (ch "&#13;")))]) (Ex.Kj (k1:=0) (p1:=⟨184,11,184,15⟩) (.head _) (E.name (.inl rfl)) (DF.of (by rfl)) (by decide) (lb h4 rfl) (by decide) rfl) ?_;refine Bd.step (J':=[(C5,.str (BW (BW (BW (BW (BW (BW x (ch "&") (ch "&amp;")) (ch "<") (ch "&lt;")) (ch ">") (ch "&gt;")) (ch "\"") (ch "&quot;")) (ch "\r") (ch "&#13;")) (ch "\n") (ch "&#10;")))]) (Ex.Kj (k1:=0) (p1:=⟨186,11,186,15⟩) (.head _) (E.name (.inl rfl)) (DF.of (by rfl)) (by decide) (lb h5 rfl) (by decide) rfl) ?_;refine Bd.step (J':=[(C5,.str (BW (BW (BW (BW (BW (BW (BW x (ch "&") (ch "&amp;")) (ch "<") (ch "&lt;")) (ch ">") (ch "&gt;")) (ch "\"") (ch "&quot;")) (ch "\r") (ch "&#13;")) (ch "\n") (ch "&#10;")) (ch "\t") (ch "&#09;")))]) (Ex.Kj (k1:=0) (p1:=⟨188,11,188,15⟩) (.head _) (E.name (.inl rfl)) (DF.of (by rfl)) (by decide) (lb h6 rfl) (by decide) rfl) ?_;exact Bd.ret (Ex.ret (Ev.name (.head _)))
theorem Ux:B9 237 (BZ 19) (Str.ofString "_escape_attrib_html") 236 .none Lq:=⟨λP=>rfl,λP=>⟨_,_,_,rfl,rfl,rfl⟩,rfl,rfl,rfl⟩
noncomputable def fA(x:Str):Str:=(BW (BW (BW x (ch "&") (ch "&amp;")) (ch ">") (ch "&gt;")) (ch "\"") (ch "&quot;"))
theorem fQ(w:World)(k:Nat)(x:Str)(h0:x.length<=1000)(h1:(BW x (ch "&") (ch "&amp;")).length<=1000)(h2:(BW (BW x (ch "&") (ch "&amp;")) (ch ">") (ch "&gt;")).length<=1000):C9 w 237 (k+1) [.str x] (.str (fA x)):=by
 refine Ed Ux (names:=[C5]) (λvs e=>?_) rfl (.of (by decide +kernel)) λc X hh F=>?_
 .refine B5 (L9 e) ?_;rintro v1 rfl;rfl
 .have E:=F.env;refine Bd.ret (Ex.Lm ?_);refine Bd.step (J':=[(C5,.str (BW x (ch "&") (ch "&amp;")))]) (Ex.Kj (k1:=0) (p1:=⟨195,11,195,14⟩) (.head _) (E.name (.inl rfl)) (DF.of (by rfl)) (by decide) (lb h0 rfl) (by decide) rfl) ?_;refine Bd.step (J':=[(C5,.str (BW (BW x (ch "&") (ch "&amp;")) (ch ">") (ch "&gt;")))]) (Ex.Kj (k1:=0) (p1:=⟨197,11,197,14⟩) (.head _) (E.name (.inl rfl)) (DF.of (by rfl)) (by decide) (lb h1 rfl) (by decide) rfl) ?_;refine Bd.step (J':=[(C5,.str (BW (BW (BW x (ch "&") (ch "&amp;")) (ch ">") (ch "&gt;")) (ch "\"") (ch "&quot;")))]) (Ex.Kj (k1:=0) (p1:=⟨199,11,199,14⟩) (.head _) (E.name (.inl rfl)) (DF.of (by rfl)) (by decide) (lb h2 rfl) (by decide) rfl) ?_;exact Bd.ret (Ex.ret (Ev.name (.head _)))
theorem Uy:B9 244 (BZ 20) (Str.ofString "_escape_cdata_c14n") 243 .none Lq:=⟨λP=>rfl,λP=>⟨_,_,_,rfl,rfl,rfl⟩,rfl,rfl,rfl⟩
noncomputable def fB(x:Str):Str:=(BW (BW (BW (BW x (ch "&") (ch "&amp;")) (ch "<") (ch "&lt;")) (ch ">") (ch "&gt;")) (ch "\r") (ch "&#xD;"))
theorem fR(w:World)(k:Nat)(x:Str)(h0:x.length<=1000)(h1:(BW x (ch "&") (ch "&amp;")).length<=1000)(h2:(BW (BW x (ch "&") (ch "&amp;")) (ch "<") (ch "&lt;")).length<=1000)(h3:(BW (BW (BW x (ch "&") (ch "&amp;")) (ch "<") (ch "&lt;")) (ch ">") (ch "&gt;")).length<=1000):C9 w 244 (k+1) [.str x] (.str (fB x)):=by
 refine Ed Uy (names:=[C5]) (λvs e=>?_) rfl (.of (by decide +kernel)) λc X hh F=>?_
 .refine B5 (L9 e) ?_;rintro v1 rfl;rfl
 .have E:=F.env;refine Bd.ret (Ex.Lm ?_);refine Bd.step (J':=[(C5,.str (BW x (ch "&") (ch "&amp;")))]) (Ex.Kj (k1:=0) (p1:=⟨206,11,206,14⟩) (.head _) (E.name (.inl rfl)) (DF.of (by rfl)) (by decide) (lb h0 rfl) (by decide) rfl) ?_;refine Bd.step (J':=[(C5,.str (BW (BW x (ch "&") (ch "&amp;")) (ch "<") (ch "&lt;")))]) (Ex.Kj (k1:=0) (p1:=⟨208,11,208,14⟩) (.head _) (E.name (.inl rfl)) (DF.of (by rfl)) (by decide) (lb h1 rfl) (by decide) rfl) ?_;refine Bd.step (J':=[(C5,.str (BW (BW (BW x (ch "&") (ch "&amp;")) (ch "<") (ch "&lt;")) (ch ">") (ch "&gt;")))]) (Ex.Kj (k1:=0) (p1:=⟨210,11,210,14⟩) (.head _) (E.name (.inl rfl)) (DF.of (by rfl)) (by decide) (lb h2 rfl) (by decide) rfl) ?_;refine Bd.step (J':=[(C5,.str (BW (BW (BW (BW x (ch "&") (ch "&amp;")) (ch "<") (ch "&lt;")) (ch ">") (ch "&gt;")) (ch "\r") (ch "&#xD;")))]) (Ex.Kj (k1:=0) (p1:=⟨212,11,212,15⟩) (.head _) (E.name (.inl rfl)) (DF.of (by rfl)) (by decide) (lb h3 rfl) (by decide) rfl) ?_;exact Bd.ret (Ex.ret (Ev.name (.head _)))
theorem Uz:B9 251 (BZ 21) (Str.ofString "_escape_attrib_c14n") 250 .none Lq:=⟨λP=>rfl,λP=>⟨_,_,_,rfl,rfl,rfl⟩,rfl,rfl,rfl⟩
noncomputable def fC(x:Str):Str:=(BW (BW (BW (BW (BW (BW x (ch "&") (ch "&amp;")) (ch "<") (ch "&lt;")) (ch "\"") (ch "&quot;")) (ch "\t") (ch "&#x9;")) (ch "\n") (ch "&#xA;")) (ch "\r") (ch "&#xD;"))
theorem fS(w:World)(k:Nat)(x:Str)(h0:x.length<=1000)(h1:(BW x (ch "&") (ch "&amp;")).length<=1000)(h2:(BW (BW x (ch "&") (ch "&amp;")) (ch "<") (ch "&lt;")).length<=1000)(h3:(BW (BW (BW x (ch "&") (ch "&amp;")) (ch "<") (ch "&lt;")) (ch "\"") (ch "&quot;")).length<=1000)(h4:(BW (BW (BW (BW x (ch "&") (ch "&amp;")) (ch "<") (ch "&lt;")) (ch "\"") (ch "&quot;")) (ch "\t") (ch "&#x9;")).length<=1000)(h5:(BW (BW (BW (BW (BW x (ch "&") (ch "&amp;")) (ch "<") (ch "&lt;")) (ch "\"") (ch "&quot;")) (ch "\t") (ch "&#x9;")) (ch "\n") (ch "&#xA;")).length<=1000):C9 w 251 (k+1) [.str x] (.str (fC x)):=by
 refine Ed Uz (names:=[C5]) (λvs e=>?_) rfl (.of (by decide +kernel)) λc X hh F=>?_
 .refine B5 (L9 e) ?_;rintro v1 rfl;rfl
 .have E:=F.env;refine Bd.ret (Ex.Lm ?_);refine Bd.step (J':=[(C5,.str (BW x (ch "&") (ch "&amp;")))]) (Ex.Kj (k1:=0) (p1:=⟨219,11,219,14⟩) (.head _) (E.name (.inl rfl)) (DF.of (by rfl)) (by decide) (lb h0 rfl) (by decide) rfl) ?_;refine Bd.step (J':=[(C5,.str (BW (BW x (ch "&") (ch "&amp;")) (ch "<") (ch "&lt;")))]) (Ex.Kj (k1:=0) (p1:=⟨221,11,221,14⟩) (.head _) (E.name (.inl rfl)) (DF.of (by rfl)) (by decide) (lb h1 rfl) (by decide) rfl) ?_;refine Bd.step (J':=[(C5,.str (BW (BW (BW x (ch "&") (ch "&amp;")) (ch "<") (ch "&lt;")) (ch "\"") (ch "&quot;")))]) (Ex.Kj (k1:=0) (p1:=⟨223,11,223,14⟩) (.head _) (E.name (.inl rfl)) (DF.of (by rfl)) (by decide) (lb h2 rfl) (by decide) rfl) ?_;refine Bd.step (J':=[(C5,.str (BW (BW (BW (BW x (ch "&") (ch "&amp;")) (ch "<") (ch "&lt;")) (ch "\"") (ch "&quot;")) (ch "\t") (ch "&#x9;")))]) (Ex.Kj (k1:=0) (p1:=⟨225,11,225,15⟩) (.head _) (E.name (.inl rfl)) (DF.of (by rfl)) (by decide) (lb h3 rfl) (by decide) rfl) ?_;refine Bd.step (J':=[(C5,.str (BW (BW (BW (BW (BW x (ch "&") (ch "&amp;")) (ch "<") (ch "&lt;")) (ch "\"") (ch "&quot;")) (ch "\t") (ch "&#x9;")) (ch "\n") (ch "&#xA;")))]) (Ex.Kj (k1:=0) (p1:=⟨227,11,227,15⟩) (.head _) (E.name (.inl rfl)) (DF.of (by rfl)) (by decide) (lb h4 rfl) (by decide) rfl) ?_;refine Bd.step (J':=[(C5,.str (BW (BW (BW (BW (BW (BW x (ch "&") (ch "&amp;")) (ch "<") (ch "&lt;")) (ch "\"") (ch "&quot;")) (ch "\t") (ch "&#x9;")) (ch "\n") (ch "&#xA;")) (ch "\r") (ch "&#xD;")))]) (Ex.Kj (k1:=0) (p1:=⟨229,11,229,15⟩) (.head _) (E.name (.inl rfl)) (DF.of (by rfl)) (by decide) (lb h5 rfl) (by decide) rfl) ?_;exact Bd.ret (Ex.ret (Ev.name (.head _)))
noncomputable def sg(a:Nat):Str:=⟨#[a]⟩
noncomputable def tx(cs:BY):Str:=⟨cs.toArray⟩
theorem DX(cs:BY):(tx cs).length=cs.length:=by show cs.toArray.size=_;simp
theorem Ka(cs:BY):Str.chars (tx cs)=cs.map sg:=by show cs.toArray.toList.map _=_;simp;intro a V;rfl
theorem Wr{a b:BY}(h:tx a=tx b):a=b:=by
 have:=congrArg (λs:Str=>s.cps.toList) h;simpa[tx]using this
theorem iw(a:Nat):sg a=tx [a]:=rfl
theorem Wq(a b:BY):tx a++tx b=tx (a++b):=by
 show(⟨a.toArray++b.toArray⟩:Str)=⟨(a++b).toArray⟩;rw[List.append_toArray]
theorem Eh{a b:Nat}(h:sg a=sg b):a=b:=by have:=Wr (a:=[a]) (b:=[b]) h;simpa using this
theorem Zi(a b:Nat):(sg a=sg b)↔a=b:=⟨Eh,λh=>h▸rfl⟩
theorem Wb(h:∀a∈cs,a<128):PyData.strOk (tx cs)=true:=by
 unfold PyData.strOk tx;rw[List.all_toArray,Ah];intro n hn;have:=h n hn;simp;exact j4 this rfl
theorem DS{a:Nat}(h:a<128):PyData.strOk (sg a)=true:=Wb (cs:=[a]) (by simpa using h)
theorem RK(a b:Int):(D.int a).eqv (.int b)=decide (a=b):=by
 show PyData.eqv (.int a) (.int b)=_;rw[PyData.eqv];cases h:a==b<;>simp_all
theorem Ba.eq{t:Expr}{IZ:Cr}(x:Ba c J t e ds)(q:ds=IZ):Ba c J t e IZ:=q▸x
theorem Ba.rg{n:Str}{xp np:Pos}(f:Ev c J (.Name x xp) (.obj (.type "range")))(y:Ev c J e (.int (k:Nat)))(hz:k<=1000000)(he:autoParam (D8 c e []) Bc):Ba c J (.Name n np) (.Call (.Name x xp) [e] [] pos) ((List.range k).map λi=>.int (i:Nat)):=
 Ba.eq (Ba.Qm f y hz he) (by apply AW;intro i V;simp)
theorem Ba.vX{n:Str}{xp np:Pos}{e1 e2:Expr}(f:Ev c J (.Name x xp) (.obj (.type "range")))(y1:Ev c J e1 (.int 1))(y:Ev c J e2 (.int (k:Nat)))(hz:k<=1000000)(he:autoParam (D8 c e1 [e2]) Bc)(Jn:autoParam (D8 c e2 []) Bc)(hp:autoParam ((backTo pos (starEach [e2] c.env)).any (·.1)=false) Bc):Ba c J (.Name n np) (.Call (.Name x xp) [e1,e2] [] pos) ((List.range (k-1)).map λi=>.int ((i+1:Nat):Int)):=
 Ba.eq (Ba.b9 f y1 y (by lia) he Jn hp) (by
  rw[Int.toNat_sub k 1];apply AW;intro i V;congr 1;lia)
theorem Ev.oS{pos}{a:Int}{n:Nat}(x:Ev c J l (.int a))(y:Ev c J r (.int (n:Nat)))(h:n<=100)(ha:0<=a/\a<=1000):Ev c J (.BinOp l .Pow r pos) (.int (a^n)):=
 Ev.eq (Ev.iW x y (by lia) ha) (by rw[Int.toNat_natCast])
theorem Bx(l:List α):l.filter (λV=>true)=l:=by induction l<;>simp_all
theorem Fw(f:α->D)(xs:List α):(JW (xs.map f)).map D.tup=xs.zipIdx.map λp=>D.tup [D.int (p.2:Nat),f p.1]:=by
 unfold JW;rw[List.zipIdx_map,AB,AB];apply AW;intro p V;rfl
theorem getD_some{l:List α}{i:Nat}(d:α)(h:i<l.length):l[i]? = some (l.getD i d):=by
 rw[AN,AU h];rfl
theorem mem_zipIdx{l:List α}{p:α×Nat}(h:p∈l.zipIdx):p.2<l.length/\p.1∈l/\l[p.2]? = some p.1:=by
 have:=List.mem_zipIdx_iff_getElem?.mp h;refine B5 (AP.mp this) ?_;intro hl e;exact⟨hl,e▸List.getElem_mem hl,this⟩
theorem Bg.dA{a b:Int}(x:Ev c J l (.int a))(y:Ev c J r (.int b))(hm:autoParam (behindInMarks .Eq r=false) Dy):Bg c J l .Eq r (decide (a=b)):=
 (Bg.UA (n:=0) (m:=0) x y .int .int (by decide) hm).eq (RK a b)
theorem Bg.lq{a b:Str}(x:Ev c J l (.str a))(y:Ev c J r (.str b))(ha:PyData.strOk a=true)(hb:PyData.strOk b=true)(hm:autoParam (behindInMarks .Eq r=false) Dy):Bg c J l .Eq r (decide (a=b)):=
 (Bg.UA (n:=0) (m:=0) x y (.str ha) (.str hb) (by decide) hm).eq (DJ a b)
theorem Bg.lh{a b:Nat}(x:Ev c J l (.str (sg a)))(y:Ev c J r (.str (sg b)))(ha:a<128)(hb:b<128)(hm:autoParam (behindInMarks .Eq r=false) Dy):Bg c J l .Eq r (decide (a=b)):=
 (Bg.lq x y (DS ha) (DS hb) hm).eq (by simp[Zi])
theorem Ba.tx{n:Str}{np:Pos}(x:Ev c J e (.str (tx cs))):Ba c J (.Name n np) e (cs.map λa=>.str (sg a)):=by
 have:=Ba.str (n:=n) (np:=np) x;rwa [Ka,AB]at this
theorem Nu(h:∀a∈cs,a<128):UL (cs.map sg):=λx hx=>by
 refine Bh (AF.mp hx) ?_;rintro a ha rfl;exact⟨rfl,DS (h a ha)⟩
theorem UW(cs:BY):cat (cs.map sg)=tx cs:=by
 show(⟨((cs.map sg).map HW).toArray⟩:Str)=_;rw[AB,show HW∘sg=id from rfl,List.map_id];rfl
theorem Ev.Ol{value slice:Expr}{pos}{i:Nat}{a:Nat}(x:Ev c J value (.str (tx cs)))(y:Ev c J slice (.int (i:Nat)))(h:cs[i]? = some a)(hl:cs.length<=1000)(Nb:∀a∈cs,a<128)(hs:autoParam (∀o i,XC slice o i) Nc):Ev c J (.Subscript value slice pos) (.str (sg a)):=by
 have x':Ev c J value (kK.Cn (cs.map sg)):=x.eq (by show _=D.str (cat _);rw[UW]);exact kK.item (Nu Nb) x' y (by rw[AA];exact hl) (by exact Int.neg_natCast_le_natCast (List.map sg cs).length i) (by rw[if_neg (by exact Int.not_ofNat_neg i),Int.toNat_natCast,AL,h];rfl) hs
noncomputable abbrev CX:Value:=.str (Str.ofString "law_ta0106_01") 646
theorem U2:B9 256 (BZ 23) (Str.ofString "_law_ties") 255 .none CX:=⟨λP=>rfl,λP=>⟨_,_,_,rfl,rfl,rfl⟩,rfl,rfl,rfl⟩
noncomputable def EG(n:Nat):List (Nat×Nat):=(List.range (n-1)).flatMap λj=>(List.range (j+1)).map λi=>(i,j+1)
noncomputable def cU(j:Nat):Int:=[1,1,2,6].getD (j-1) 1
noncomputable def FQ(first more:Int)(p:(Nat×Nat)×Nat):Bool:=decide ((p.1.1:Int)=first/cU p.1.2%p.1.2)||decide (more/2^p.2%2=1)
noncomputable def SP(n:Nat)(first more:Int):List (Nat×Nat):=((EG n).zipIdx.filter (FQ first more)).map (·.1)
theorem D2{n:Nat}{p:Nat×Nat}(h:p∈EG n):p.1<p.2/\1<=p.2/\p.2<n:=by
 refine Bh (Am.mp h) ?_;intro j hj h;refine Bh (AF.mp h) ?_;rintro i hi rfl;rw[BB]at hi hj;exact⟨hi,A1 1 j,Nat.add_lt_of_lt_sub hj⟩
theorem Qj:∀n ≤5,(EG n).length<=10:=by decide
noncomputable def jC(cs:BY)(p:Nat×Nat):D:=.tup [.str (sg (cs.getD p.1 0)),.str (sg (cs.getD p.2 0))]
theorem fW(w:World)(k:Nat)(cs:BY)(first more:Int)(h1:1<=cs.length)(h5:cs.length<=5)(Nb:∀a∈cs,a<128):C9 w 256 (k+1) [.str (tx cs),.int first,.int more] (.list ((SP cs.length first more).map (jC cs))):=by
 refine Ed U2 (names:=[S "names",S "first",S "more"]) (λvs e=>?_) rfl (.of (by decide +kernel)) λc X h0 F=>?_
 .refine bg (Ou e) ?_;rintro v1 v2 v3 rfl;rfl
 .have E:=F.env;have lr:∀x∈EG cs.length,x.2<5:=λp hp=>Ai (D2 hp).2.2 h5;have len:(EG cs.length).length<=10:=Qj _ h5;have ZZ:∀p∈(EG cs.length).zipIdx,p.2<10:=λp hp=>by
   have:=(mem_zipIdx hp).1;exact Ai this len
  refine Bd.step (J':=[(S "pairs",.list ((EG cs.length).map λp=>.tup [.int p.1,.int p.2])),(S "names",.str (tx cs)),(S "first",.int first),(S "more",.int more)]) (Ex.cL E (d:=.list ((EG cs.length).map λp=>.tup [.int p.1,.int p.2]))
   (CE.eq (CE.OO (List.range (cs.length-1)) (λj=>.int ((j+1:Nat):Int)) (λj=>List.range (j+1)) (λV i=>.int (i:Nat)) (λV V=>true) (λj i=>.tup [.int (i:Nat),.int ((j+1:Nat):Int)]) (J0:=[]) E.co
    (Ba.vX Ev.b Ev.cInt (Ev.eq (Ev.Nl Ev.b Ev.n (by rw[DX];exact lb h5 rfl)) (by rw[DX])) (lb h5 rfl)) (λj=>[(S "j",.int ((j+1:Nat):Int))]) (λV V h=>by cases h) (λV V V sc=>Bind.n)
    (λj hj cc sc=>Ba.rg Ev.b Ev.n (lb (AD (BB.mp hj) (AD (BN _ _) h5)) rfl)) (λj i=>[(S "i",.int (i:Nat)),(S "j",.int ((j+1:Nat):Int))])
    (λV V V h=>.tail _ h) (λV V V V V sc=>Bind.n) (λV V V V V V=>CL.nil) (λj hj i hi V cc sc=>Ev.tp (.cons Ev.n (.cons Ev.n .nil))) ?_) ?_)) ?_
  .generalize cs.length=n at h5 ⊢;revert n;decide
  .unfold EG;simp only[Bx,BP,AB];rfl
  .refine Bd.ret (Ex.ret (CE.ev (CE.eq (CE.C0 (EG cs.length).zipIdx (λp=>.tup [.int (p.2:Nat),.tup [.int p.1.1,.int p.1.2]]) (FQ first more) (λp=>jC cs p.1) (J0:=[(S "names",.str (tx cs)),(S "first",.int first),(S "more",.int more)]) E.co
    (Ba.eq (Ba.enum Ev.b Ev.n) ?_) (λp=>[(S "j",.int p.1.2),(S "i",.int p.1.1),(S "k",.int (p.2:Nat)),(S "names",.str (tx cs)),(S "first",.int first),(S "more",.int more)]) (λV V h=>.tail _ (.tail _ (.tail _ h)))
    (λV V V sc=>Bind.tup (.cons Bind.n (.cons (Bind.tup (.cons Bind.n (.cons Bind.n .nil))) .nil))) (λp hp cc sc=>CL.one (CK.W9 (CK.cmp (Bg.dA Ev.n (Ev.MA (Ev.Sl Ev.n (Ev.FG (i:=((p.1.2-1:Nat):Int)) (Ev.ls (.cons Ev.cInt (.cons Ev.cInt (.cons Ev.cInt (.cons Ev.cInt .nil))))) (Ev.eq (Ev.Lh Ev.n Ev.cInt) ?_) (by exact BD (p.fst.snd-1)) ?_) ?_) Ev.n ?_)))
     (λV=>CK.cmp (Bg.dA (Ev.MA (Ev.Sl Ev.n (Ev.oS Ev.cInt Ev.n ?_ (by decide)) ?_) Ev.cInt (by decide)) Ev.cInt)))) (λp hp V cc sc=>Ev.tp (.cons (Ev.Ol Ev.n Ev.n ?_ (lb h5 rfl) Nb) (.cons (Ev.Ol Ev.n Ev.n ?_ (lb h5 rfl) Nb) .nil))) ?_) ?_)))
   .exact Fw _ _
   .refine FO (mem_zipIdx hp) ?_;intro V hm V;have:=D2 hm;congr 1;exact(Int.ofNat_sub this.2.1).symm
   .refine FO (mem_zipIdx hp) ?_;intro V hm V;have:=D2 hm;have h4:=lr _ hm;rw[Int.toNat_natCast];unfold cU;generalize hj:p.1.2-1=j;have z:j<4:=hj▸Nat.lt_succ_of_le (Nat.sub_le_sub_right (Nat.le_of_lt_succ h4) 1);refine cu (show j∈[0,1,2,3]from(BB.mpr z:j∈List.range 4)) ?_ ?_ ?_ ?_<;>rfl
   .refine FO (mem_zipIdx hp) ?_;intro V hm V;have:=D2 hm;have h4:=lr _ hm;unfold cU;generalize hj:p.1.2-1=j;have z:j<4:=hj▸Nat.lt_succ_of_le (Nat.sub_le_sub_right (Nat.le_of_lt_succ h4) 1);refine cu (show j∈[0,1,2,3]from(BB.mpr z:j∈List.range 4)) ?_ ?_ ?_ ?_<;>decide
   .refine FO (mem_zipIdx hp) ?_;intro V hm V;have:=D2 hm;exact Int.natCast_pos.mpr this.2.1
   .have:=ZZ p hp;exact Nat.le_of_lt_succ (j4 this rfl)
   .have:=ZZ p hp;generalize p.2=z at this ⊢;revert z;decide
   .refine FO (mem_zipIdx hp) ?_;intro V hm V;have:=D2 hm;exact getD_some _ (Nat.lt_trans this.1 this.2.2)
   .refine FO (mem_zipIdx hp) ?_;intro V hm V;have:=D2 hm;exact getD_some _ this.2.2
   .rw [List.length_zipIdx];exact lb len rfl
   .unfold SP;rw[AB];rfl
section
open PySem.Sre
noncomputable def CH:Array Nat:=#[14,10,4,1,1,22,0,31,16,127,0,13,7,22,0,31,16,127,0,1]
noncomputable def De(c:Nat):Bool:=decide (c<=31)||c==127
theorem Ul(c:Nat)(a b d:Sre.Seen):∃s',(if(decide (0<=c)&&decide (c<=31))=true then Except.ok (true,a)else if(c==127)=true then Except.ok (true,b)else Except.ok (false,d):Except String (Bool×Sre.Seen))=.ok (De c,s'):=by
 unfold De;rw[show decide (0<=c)=true from decide_eq_true (Al c),Bool.true_and];cases decide (c<=31)with
 |true=>exact⟨a,rfl⟩
 |false=>cases c==127 with
  |true=>exact⟨b,rfl⟩
  |false=>exact⟨d,rfl⟩
theorem bF(c:Nat)(seen:Sre.Seen):∃s',inSet CH c CH.size 5 true seen=.ok (De c,s'):=Ul c _ _ _
theorem YC(c:Nat)(seen:Sre.Seen):∃s',inSet CH c CH.size 13 true seen=.ok (De c,s'):=Ul c _ _ _
theorem Lz(m:M)(hc:m.code=CH):∀(fuel s:Nat) (seen:Sre.Seen),m.lim+1-s<=fuel->s<=m.lim->∃r s',m.admitted fuel s seen=.ok (r,s')/\
  (match r with|none=>∀i,s<=i->i<m.lim->De (m.text.getD i 0)=false|some i=>s<=i/\i<m.lim/\De (m.text.getD i 0)=true):=by
 intro l;induction l with
 |zero=>exact λs seen hf hs=>by omega
 |succ fuel ih=>
  intro s seen hf hs;by_cases h:s≥m.lim
  .exact ⟨none,seen,if_pos h,λi h1 h2=>absurd (AD h h1) (Nat.not_le_of_lt h2)⟩
  .refine B5 (bF (m.text.getD s 0) seen) ?_;intro s1 e;rw[<- hc]at e;cases hb:De (m.text.getD s 0)with
   |true=>
    rw[hb]at e;exact⟨some s,s1,(if_neg h).trans (by rw[e]),Ad _,Nat.lt_of_not_le h,hb⟩
   |false=>
    rw[hb]at e;refine Fp (ih (s+1) s1 (by lia) (Nat.lt_of_not_le h)) ?_;intro r s' e2 p;refine⟨r,s',(if_neg h).trans (by rw[e];exact e2),?_⟩;cases r with
    |none=>exact λi h1 h2=>(Nat.eq_or_lt_of_le h1).elim (λq=>q▸hb) λq=>p i q h2
    |some i=>exact⟨A5 p.1,p.2⟩
noncomputable def m1(text:Array Nat):M:={code:=CH,text:=text,lim:=text.size,start:=0,lastStart:=text.size,pc:=11,pos:=0,handed:=0,marks:=#[],mustAdvance:=false,seen:=({}:Sre.Seen).add 14}
theorem NS(text:Array Nat)(h0:1<=text.size):forSearch CH text 0 0 text.size false=(m1 text).attemptFrom 0 true:=by
 unfold forSearch;have hh:header CH=(1,11):=by decide +kernel
 simp only[hh];refine(if_neg ?_).trans ?_
 .simp only[Bool.or_eq_true,decide_eq_true_eq];lia
 .rfl
theorem PJ{m:M}(n:Nat)(h:m.outcome.isSome=true):m.runFor n=m:=by
 cases n with
 |zero=>rfl
 |succ n=>exact if_pos h
theorem GC{m m':M}{n:Nat}(h:m.outcome=none)(e:m.step=m'):m.runFor (n+1)=m'.runFor n:=by
 subst e;exact if_neg (by rw[h];exact Bool.false_ne_true)
theorem PK(text:Array Nat)(h0:1<=text.size):∃m',(forSearch CH text 0 0 text.size false).runFor 4=m'/\(m'.outcome=some .failed/\(∀i<text.size,De (text.getD i 0)=false)\/m'.outcome=some .matched/\∃i<text.size,De (text.getD i 0)=true):=by
 rw[NS text h0];unfold M.attemptFrom;have hf:(!(m1 text).hasFirstSet)=false:=by
  show(!((match Sre.ops[CH.getD 0 0]? with|some .INFO=>true|_=>false)&&CH.getD 2 0==4))=false;decide +kernel
 rw[hf,if_neg Bool.false_ne_true];refine Fp (Lz (m1 text) rfl ((m1 text).lim+1-0) 0 (m1 text).seen (Ad _) (Al _)) ?_;intro r s' e p;rw[e];cases r with
 |none=>
  refine⟨_,rfl,.inl ⟨?_,λi hi=>p i (Al _) hi⟩⟩;rw[GC (m':={ {m1 text with seen:=s'}.say false with outcome:=some .failed}) rfl rfl,PJ _ rfl]
 |some i=>
  refine FO p ?_;clear p;intro V hi hc;refine⟨_,rfl,.inr ⟨?_,i,hi,hc⟩⟩;have VY:i<text.size:=hi;have tX:De (text.getD i 0)=true:=hc;let f:Sre.Frame:={wait:=.nextStart,pc:=11,pos:=i,outermost:=true}
  let a0:M:={m1 text with mustAdvance:=false,seen:=s',start:=i,pos:=i,frames:=[f],weight:=1,handed:=i}
  have e0:{m1 text with mustAdvance:=false,seen:=s'}.attemptAt i true=a0:=rfl;show(({m1 text with mustAdvance:=false,seen:=s'}.attemptAt i true).runFor 4).outcome=_;rw[e0];refine B5 (YC (text.getD i 0) (s'.add 13)) ?_;intro s2 e2;rw[tX]at e2;let a1:M:={a0 with seen:=s2,pc:=19,pos:=i+1}
  have Zk:a0.step=a1:=by
   show a0.exec=a1;show(if(i≥text.size)then({a0 with seen:=s'.add 13}).say false else
    match Sre.accepts CH 11 (text.getD i 0) (s'.add 13)with
    |.error why=>({a0 with seen:=s'.add 13}).stick why
    |.ok (false,seen)=>({a0 with seen:=seen}).say false
    |.ok (true,seen)=>{a0 with seen:=seen,pc:=11+itemWidth CH 11,pos:=i+1})=a1
   rw[if_neg (by exact Nat.not_le_of_lt hi)];have ea:Sre.accepts CH 11 (text.getD i 0) (s'.add 13)=inSet CH (text.getD i 0) CH.size 13 true (s'.add 13):=rfl;rw[ea,e2];rfl
  rw[GC rfl Zk];let a2:M:={a1 with seen:=s2.add 1,handed:=i+1,answer:=some true}
  have iz:a1.step=a2:=rfl;rw[GC rfl iz];let a3:M:={a2 with frames:=[],weight:=0,pc:=11,pos:=i,answer:=some true}
  have kL:a2.step=a3:=rfl;rw[GC rfl kL];let a4:M:={a3 with outcome:=some .matched}
  have vp:a3.step=a4:=rfl;rw[GC rfl vp];rfl
end
section
open PySem.Builtin PySem.Builtin.Re
theorem N0{m:PySem.Sre.M}(h:(m.runFor 4).outcome.isSome=true):reDrive (2^64) m=pure (m.runFor 4):=by
 rw[show(2^64:Nat)=18446744073709551615+1 from rfl,reDrive];show(if(m.runFor 4).outcome.isSome=true then pure (m.runFor 4)else _)=_;rw[if_pos h]
section
variable {w:World}{A:Around}{E:CG}{s:Shared}
theorem OZ{M:Model}{f:Nat->PUnit->Sem (ForInStep PUnit)}(hf:∀(i:Nat) (Q:ForInStep PUnit->Shared->Prop) (E:CG) (s:Shared),Q (.yield ⟨⟩) s->wpAny M A (f i ⟨⟩) Q E s) :
  ∀(l:BY){Q:PUnit->Shared->Prop},Q ⟨⟩ s->wpAny M A (forIn l ⟨⟩ f) Q E s:=by
 intro l;induction l with
 |nil=>intro Q h;rw[List.forIn_nil];exact wpAny_pure h
 |cons i l ih=>
  intro Q h;rw[List.forIn_cons];exact wpAny_bind (hf i _ _ _ (ih h))
theorem Jd{m:PySem.Sre.M}{Q:Option PySem.Sre.M->Shared->Prop}(h:(m.runFor 4).outcome=some .failed/\Q none s\/(m.runFor 4).outcome=some .matched/\Q (some (m.runFor 4)) s):wpAny (model prog w) A (reRunToEnd m) Q E s:=by
 have hs:(m.runFor 4).outcome.isSome=true:=by rcases h with⟨h,_⟩|⟨h,_⟩<;>rw[h]<;>rfl
 refine wpAny_bind (wpAny_of_eq (N0 hs) ?_);refine wpAny_bind (OZ (λi Q E s q=>?_) _ ?_)
 .split
  .exact wpAny_bind (wpAny_rule (wpAny_pure q))
  .exact wpAny_pure q
 .rcases h with⟨h,q⟩|⟨h,q⟩<;>rw[h]<;>exact wpAny_pure q
theorem PY{t:Tok}{ot:Obj}{Q:ReTarget->Shared->Prop}(h1:s.heap.get? 55=some {cls:=.type "re.Pattern",data:=.fields #[(.str (Str.ofString "[\\x00-\\x1F\\x7F]") 355:Value),(.int 32 378:Value),(.int 0 0:Value),(.none:Value),(.none:Value),(.ref 54:Value),(.int 0 0:Value)]})(h2:s.heap.get? 54=some ot)(h3:ot.data=.seq (CH.map λn:Nat=>Value.int n 0) 0)(hz:x.length<=1000000)(q:Q {pattern:=.ref 55,string:=.str x t,code:=CH,text:=x.cps,kind:=0,groups:=0,pos:=0,lim:=x.cps.size} s) :
  wpAny (model prog w) A (reTarget "re.Pattern.search" "search" ⟨[.ref 55,.str x t],[]⟩) Q E s:=by
 obtain⟨h,g,d,tk,os⟩:=s;have hn:reNamed "re.Pattern.search" "search" ["string","pos","endpos"] 1 [.str x t] []=pure [some (.str x t),none,none]:=by kernel_rfl
 rw[hn];wp_walk;rw[h3];refine wpAny_pure (wpAny_pure (wpAny_pure ?_));have e1:((((some (CH.map λn:Nat=>Value.int n 0)).getD #[]).map reRawOf).map λi:Int=>i.toNat)=CH:=by decide +kernel
 have e2:min (Int.toNat (2^63-1)) x.cps.size=x.cps.size:=Nat.min_eq_right (by have:x.cps.size<=1000000:=hz;omega);have e3:min (Int.toNat 0) x.cps.size=0:=Nat.zero_min _;dsimp only;rw[e1,e2,e3];exact q
theorem O3{t:ReTarget}{m:PySem.Sre.M}(hg:t.groups=0)(h:∀h' a,(∀b o,s.heap.get? b=some o->h'.get? b=some o)->(∃vs,h'.get? a=some {cls:=.type "re.Match",data:=.fields vs})->Q (.ref a) {s with heap:=h'}) :
  wpAny (model prog w) A (reNewMatch t.pattern t.string t.groups t.pos t.lim m) Q E s:=by
 obtain⟨hp,g,d,tk,os⟩:=s;unfold reNewMatch;rw[hg];simp -iota only[List.range_zero,List.flatMap_nil,List.any_nil,AR,if_false];wp_walk;exact h _ _ (λb o e=>AO _ (AO _ e)) ⟨_,AH _ rfl⟩
noncomputable def Dj(x:Str):Bool:=x.cps.any De
theorem Oe(h:∀i<x.cps.size,De (x.cps.getD i 0)=false):Dj x=false:=by
 unfold Dj;rw[Array.any_eq_false];intro i hi;have:=h i hi;rw[Array.getD_eq_getD_getElem?,BV hi]at this;simpa using this
theorem Of(h:∃i<x.cps.size,De (x.cps.getD i 0)=true):Dj x=true:=by
 refine Bh h ?_;clear h;intro i hi e;unfold Dj;rw[Array.any_eq_true];refine⟨i,hi,?_⟩;rw[Array.getD_eq_getD_getElem?,BV hi]at e;simpa using e
theorem HB{t:Tok}{ot:Obj}(h1:s.heap.get? 55=some {cls:=.type "re.Pattern",data:=.fields #[(.str (Str.ofString "[\\x00-\\x1F\\x7F]") 355:Value),(.int 32 378:Value),(.int 0 0:Value),(.none:Value),(.none:Value),(.ref 54:Value),(.int 0 0:Value)]})(h2:s.heap.get? 54=some ot)(h3:ot.data=.seq (CH.map λn:Nat=>Value.int n 0) 0)(hz:x.length<=1000000)(hx:1<=x.length)(q0:Dj x=false->Q .none s)(q1:Dj x=true->∀h' a,(∀b o,s.heap.get? b=some o->h'.get? b=some o)->(∃vs,h'.get? a=some {cls:=.type "re.Match",data:=.fields vs})->Q (.ref a) {s with heap:=h'}) :
  wpAny (model prog w) A (Builtin.«re.Pattern.search» ⟨[.ref 55,.str x t],[]⟩) (λfin s'=>∃v,fin=.done (.ret v)/\Q v s') E s:=by
 refine wpAny_bind (PY h1 h2 h3 hz ?_);refine Bh (PK x.cps hx) ?_;intro m' e h;refine wpAny_bind (Jd ?_);rw[e];rcases h with⟨ho,h⟩|⟨ho,h⟩
 .exact .inl ⟨ho,wpAny_pure ⟨_,rfl,q0 (Oe h)⟩⟩
 .exact .inr ⟨ho,wpAny_bind (O3 (t:={pattern:=.ref 55,string:=.str x t,code:=CH,text:=x.cps,kind:=0,groups:=0,pos:=0,lim:=x.cps.size}) rfl λh' a k z=>wpAny_pure ⟨_,rfl,q1 (Of h) h' a k z⟩)⟩
end
end
noncomputable def VA(fx:FuncData)(sc:Scope)(bd:Dx):FuncData:={fx with scope:=sc,globals:=3,closure:=[],builtins:=0,body:=.stmts bd}
theorem RV{f:Addr}{sc:Scope}{bd:Dx}(fx:FuncData)(kd:sc.kind=.function)(ok:E7 (k+1) A)(B:CV w s.heap)(xk:FT X s.heap){G:Res}(g:G.P w X s.heap)(gx:∀b,G.fp b->X b){names:B1}(r:Be X w s.heap vs ds)(hl:names.length=vs.length)(ck:DY sc names)(body:∀c h1 t1,FnAt c w sc k X G s.heap->c.A=A.deeper c.env->c.env.frame=some c.env.locals/\(∀x,c.own x)->(c.env.code=fx.code/\c.env.qual=fx.qualname++".<locals>.")->Fr c (names.zip ds) h1->wpAny (model prog c.w) c.A (execs bd c.env) (λf s'=>Q (match f with|.ret v=>v|_=>.none) s')
   (λe s'=>wpAny (model prog c.w) c.A (leaving c.env e) (λV Gb=>E e Gb) (λe' Gb=>E e' Gb) s') {s with heap:=h1,toks:=t1}) :
  wpAny (model prog w) A.in1 (newFunctionEnv (VA fx sc bd).scope (VA fx sc bd).globals (VA fx sc bd).closure (names.zip vs) ((VA fx sc bd).qualname++".<locals>.") (some f) (VA fx sc bd).code none (VA fx sc bd).builtins)
   (λenv s₂=>s₂.heap.NoLimit/\codeAny (model prog w) A (.func bd env) (λr s'=>match r with|.ok (.ret v)=>Q v s'|.ok _=>False|.error e=>E e s') s₂) (λe s'=>E e s') s:=by
 obtain⟨nd,kinds,plain⟩:=ck;have zn:(names.zip vs).map (·.1)=names:=by rw[List.map_fst_zip];exact BM hl
 refine wpAny_newFunctionEnv_cells kd (λp hp=>?_) λenv he s1 I=>?_
 .have hm:p.1∈names:=zn▸Ab (f:=(·.1)) hp;exact(kinds _ hm).imp_right λe=>⟨e,DT (.inl (lookup_mem e))⟩
 subst he;replace I:InCallC s (callEnvC (VA fx sc bd) s.heap.objs.size f).locals (bindL (callEnvC (VA fx sc bd) s.heap.objs.size f).kindOf (names.zip vs) λV=>none) (callEnvC (VA fx sc bd) s.heap.objs.size f).cells (bindC (callEnvC (VA fx sc bd) s.heap.objs.size f).kindOf (names.zip vs) λV=>none) s1:=I;refine⟨B.lim.keeps I.toInCall.keep,codeAny_func ?_⟩;have Oi:=I.toInCall.ns;refine MB I.toInCall.same ?_;rintro h1 t1 rfl;have keep:∀b o,s.heap.get? b=some o->h1.get? b=some o:=I.toInCall.keep;have l1:Le s.heap h1:=Le.of keep;have big:∀ {a:Addr},s.heap.objs.size<=a->s.heap.get? a=none:=λ{a} le=>by
  cases e:s.heap.get? a with
  |none=>rfl
  |some o=>exact absurd (Ag e) (Nat.not_lt.mpr le)
 have sz:=B6 B;let Ci:=callEnvC (VA fx sc bd) s.heap.objs.size f;have cellAt:∀x a,Ci.cells.lookup x=some a->s.heap.objs.size<a/\∃v,h1.IsCell a v:=λx a e=>⟨I.above x a (mem_of_lookup e),_,I.cell x a e⟩;let N1:Addr->Prop:=λb=>b=s.heap.objs.size\/∃x,Ci.cells.lookup x=some b;let c:Cx:={w:=w,A:=A.deeper Ci,env:=Ci,k:=k,X:=DG X N1,G:=G,own:=λV=>True,h0:=s.heap,M:=G.fp,ro:=False}
 have n1:∀b,N1 b->s.heap.get? b=none/\306<=b/\∃o,h1.get? b=some o:=λb z=>by
  rcases z with z|⟨x,e⟩
  .have z':b=s.heap.objs.size:=z;refine Js Oi ?_;clear Oi;intro o V V eo V;rw[z'];exact⟨Bm _,sz,o,eo⟩
  .obtain ⟨z1,v,o,eo,_⟩:=cellAt x b e;exact⟨big (A4 z1),AD sz (A4 z1),o,eo⟩
 have F:Fr c (names.zip ds) h1:=
  {base:=B.le l1 λV z=>z.elim
   Cj:=λa z=>z.elim (λz=>(xk.le l1) a z) λz=>(n1 a z).2
   kind:=kd,glob:=rfl,blt:=rfl,ok:=ok.deeper Ci
   old:=l1.to
   loc:=⟨.inr (.inl rfl),Bm _,_,Oi⟩
   Ez:=λx a e=>by
    obtain⟨z1,v,cv⟩:=cellAt x a e;have na:=big (A4 z1);refine⟨λz=>Aa _ (z▸z1),λz=>(by refine Bh B.tab ?_;intro ps e' V;rw[z]at na;rw[na]at e';cases e'),⟨v,cv⟩,λV=>⟨.inr (.inr ⟨x,e⟩),na⟩⟩
   apart:=λx y a e e'=>name_of_addr I.apart (mem_of_lookup e) (mem_of_lookup e')
   names:=λx d m=>by
    refine Bh (LW r m) ?_;intro v mv rv;have hm:x∈names:=zn▸Ab (f:=(·.1)) mv;have iE:((names.zip vs).map (·.1)).Nodup:=by rw[zn];exact nd
    refine⟨v,⟨plain x hm,?_⟩,(rv.move (ES λb z=>z.imp_right λz=>(n1 b z).1)).le l1⟩;rcases kinds x hm with kl|kc
    .exact .inl ⟨kl,λz=>by have:=B4 B.tab;exact this z,_,Oi,KW mv iE kl⟩
    .refine B5 (A6.mp (DT (n:=s.heap.objs.size+1) (acc:=[]) (.inl (lookup_mem kc)))) ?_;intro a ea;have Xg:Ci.cells.lookup x=some a:=ea;refine CB (cellAt x a Xg) ?_;intro z1 V;refine .inr ⟨a,.inl kc,Xg,λz=>(by refine Bh B.tab ?_;intro ps e' V;rw[z]at z1;rw[big (A4 z1)]at e';cases e'),?_⟩;have cc:=I.cell x a Xg;rwa [KV mv iE (λz=>by have nR:Ci.kindOf x=some .cell:=kc;rw[nR]at z;cases z)]at cc
   g:=G.mv g λb o z nt e=>⟨keep b o e,λnx z=>z.elim nx λz=>by rw[(n1 b z).1]at e;cases e⟩
   gx:=λb z=>by
    obtain⟨_,o,eo⟩:=xk b (gx b z);refine⟨⟨.inl (gx b z),.inr (.inl z)⟩,λy=>?_,λx e=>?_⟩
    .have y':b=s.heap.objs.size:=y;rw[y',Bm]at eo;cases eo
    .rw [big (A4 (cellAt x b e).1)]at eo;cases eo}
 have FA:FnAt c w sc k X G s.heap:=⟨rfl,rfl,rfl,λb z=>.inl z,rfl,rfl,rfl,λz=>z,λx e=>⟨trivial,DT (.inl (lookup_mem e))⟩⟩
 have e0:=body c h1 t1 FA rfl ⟨rfl,λV=>trivial⟩ ⟨rfl,rfl⟩ F;exact wpAny_mono e0 (λf s' z=>by cases f<;>exact z) λV V z=>z
theorem HL{f:Addr}{st:Stmt}{qual:Str}{code:Addr}{dflt mod:Value}(fd:B9 f st qual code dflt mod)(ok:E7 (k+1) A)(B:CV w s.heap)(xk:FT X s.heap){G:Res}(g:G.P w X s.heap)(gx:∀b,G.fp b->X b){names:B1}(r:Be X w s.heap vs ds)(hl:names.length=vs.length)(ck:DY (BX st) names)(body:∀c h1 t1,FnAt c w (BX st) k X G s.heap->c.A=A.deeper c.env->c.env.frame=some c.env.locals/\(∀x,c.own x)->(c.env.code=.ref code/\c.env.qual=qual++".<locals>.")->Fr c (names.zip ds) h1->wpAny (model prog c.w) c.A (execs (Br st) c.env) (λf s'=>Q (match f with|.ret v=>v|_=>.none) s')
   (λe s'=>wpAny (model prog c.w) c.A (leaving c.env e) (λV Gb=>E e Gb) (λe' Gb=>E e' Gb) s') {s with heap:=h1,toks:=t1}) :
  wpAny (model prog w) A.in1 (newFunctionEnv (EV st qual dflt mod (.ref code)).scope (EV st qual dflt mod (.ref code)).globals (EV st qual dflt mod (.ref code)).closure (names.zip vs) ((EV st qual dflt mod (.ref code)).qualname++".<locals>.") (some f) (EV st qual dflt mod (.ref code)).code none (EV st qual dflt mod (.ref code)).builtins)
   (λenv s₂=>s₂.heap.NoLimit/\codeAny (model prog w) A (.func (Br st) env) (λr s'=>match r with|.ok (.ret v)=>Q v s'|.ok _=>False|.error e=>E e s') s₂) (λe s'=>E e s') s:=
 RV (bd:=Br st) (EV st qual dflt mod (.ref code)) fd.kind ok B xk g gx r hl ck body
theorem NQ{f:Addr}{st:Stmt}{qual:Str}{code:Addr}{dflt mod:Value}(fd:B9 f st qual code dflt mod)(ok:E7 (k+1) A)(B:CV w s.heap)(xk:FT X s.heap){G:Res}(g:G.P w X s.heap)(gx:∀b,G.fp b->X b){names:B1}(r:Be X w s.heap vs ds)(hl:names.length=vs.length)(ck:DY (BX st) names){Post:Cs}(body:∀c,FnAt c w (BX st) k X G s.heap->Bd c (names.zip ds) [Br st] (FR G s.heap Post .none) (FR G s.heap Post))(q:∀a h' tk,Bt G.fp s.heap h'->Post a h'->Q a {s with heap:=h',toks:=tk}) :
  wpAny (model prog w) A.in1 (newFunctionEnv (EV st qual dflt mod (.ref code)).scope (EV st qual dflt mod (.ref code)).globals (EV st qual dflt mod (.ref code)).closure (names.zip vs) ((EV st qual dflt mod (.ref code)).qualname++".<locals>.") (some f) (EV st qual dflt mod (.ref code)).code none (EV st qual dflt mod (.ref code)).builtins)
   (λenv s₂=>s₂.heap.NoLimit/\codeAny (model prog w) A (.func (Br st) env) (λr s'=>match r with|.ok (.ret v)=>Q v s'|.ok _=>False|.error e=>E e s') s₂) (λe s'=>E e s') s:=
 HL fd ok B xk g gx r hl ck λc h1 t1 FA V V V F=>
  wpAny_mono (body c FA {s with heap:=h1,toks:=t1} F (λf s'=>Q (match f with|.ret v=>v|_=>.none) s') _ (λh2 t2 z=>q _ h2 t2 z.1 z.2) λv h2 t2 z=>q v h2 t2 z.1 z.2)
   (λf s' z=>by cases f<;>exact z) λV V z=>z
theorem VB{f:Addr}{st:Stmt}{qual:Str}{code:Addr}{dflt mod:Value}(fd:B9 f st qual code dflt mod)(ok:E7 (k+1) A)(B:CV w s.heap)(xk:FT X s.heap){G:Res}(g:G.P w X s.heap)(gx:∀b,G.fp b->X b){names:B1}{Wu:DV}{kw:Dh}(r:Be X w s.heap vs ds)(hb:bindArgs (EV st qual dflt mod (.ref code)) ⟨Wu,kw⟩=pure (names.zip vs))(hl:names.length=vs.length)(ck:DY (BX st) names){Post:Cs}(body:∀c,FnAt c w (BX st) k X G s.heap->Bd c (names.zip ds) [Br st] (FR G s.heap Post .none) (FR G s.heap Post)):Run w A G.fp (call (.ref f) Wu kw) s Post:=λQ E q=>by
 refine wpAny_call ?_;refine Mn (fd.code w.params) ?_;intro oc vc tc ec dc qc;refine A7 (o:=Et st qual dflt mod (.ref code)) (fd:=EV st qual dflt mod (.ref code)) ok.room (B.k _ _ (fd.here w.params)) rfl fd.plain.1 fd.plain.2 rfl ⟨code,oc,vc,tc,rfl,B.k _ _ ec,dc,qc⟩ ?_;rw[hb];exact wpAny_pure (NQ fd ok B xk (G:=G) g gx r hl ck body q)
theorem OX{f:Addr}{st:Stmt}{qual:Str}{code:Addr}{dflt mod:Value}(fd:B9 f st qual code dflt mod)(ok:E7 (k+1) A)(B:CV w s.heap)(xk:FT X s.heap){G:Res}(g:G.P w X s.heap)(gx:∀b,G.fp b->X b){names:B1}{Wu:DV}{kw:Dh}(hb:∀(Q:List (Str×Value)->Shared->Prop) (E:CG),(∀h1 tk vs,Le s.heap h1->Be X w h1 vs ds->names.length=vs.length->Q (names.zip vs) {s with heap:=h1,toks:=tk})->wpAny (model prog w) A.in1 (bindArgs (EV st qual dflt mod (.ref code)) ⟨Wu,kw⟩) Q E s)(ck:DY (BX st) names){Post:Cs}(body:∀c h0,FnAt c w (BX st) k X G h0->Bd c (names.zip ds) [Br st] (FR G h0 Post .none) (FR G h0 Post)):Run w A G.fp (call (.ref f) Wu kw) s Post:=λQ E q=>by
 refine wpAny_call ?_;have ho:=B.k _ _ (fd.here w.params);refine Mn (fd.code w.params) ?_;intro oc vc tc ec dc qc;refine A7 (o:=Et st qual dflt mod (.ref code)) (fd:=EV st qual dflt mod (.ref code)) ok.room ho rfl fd.plain.1 fd.plain.2 rfl ⟨code,oc,vc,tc,rfl,B.k _ _ ec,dc,qc⟩ ?_;refine hb _ _ λh1 tk vs l1 r1 hl=>?_;exact NQ (s:={s with heap:=h1,toks:=tk}) fd ok (B.le l1 λV z=>z.elim) (xk.le l1) (G:=G) (G.mv g λb o z nt e=>⟨l1.keep b o nt id e,id⟩) gx r1 hl ck (λc F=>body c h1 F) λa h' t l p=>q a h' t (Bt.trans l1.to l) p
section
open PySem.Builtin PySem.Builtin.Str
noncomputable def Fd(s sub:Str)(hi limit:Nat)(r:Array Nat×Nat)(i:Nat):Array Nat×Nat:=
 if(decide (r.1.size<limit)&&decide (r.2<=i)&&decide (i+sub.length<=hi)&&subAt s sub i)=true then(r.1.push i,i+sub.length)else r
theorem V8(s sub:Str)(lo hi limit:Nat):occurrences s sub lo hi limit=((List.range' lo (hi+1-lo)).foldl (Fd s sub hi limit) (#[],lo)).1.toList:=by
 have key:∀(l:BY) (r:Array Nat×Nat),(forIn l r λi (q:Array Nat×Nat)=>
   (if(decide (q.1.size<limit)&&decide (q.2<=i)&&decide (i+sub.length<=hi)&&subAt s sub i)=true then(pure (ForInStep.yield (q.1.push i,i+sub.length)):Id (ForInStep (Array Nat×Nat)))else pure (ForInStep.yield (q.1,q.2))))=l.foldl (Fd s sub hi limit) r:=λl=>by
  induction l with
  |nil=>intro r;rfl
  |cons i l ih=>
   intro r;rw[List.forIn_cons,As];unfold Fd;split
   .exact ih (r.1.push i,i+sub.length)
   .exact ih r
 have:=key (List.range' lo (hi+1-lo)) (#[],lo);have sz:([lo:hi+1]:Std.Legacy.Range).size=hi+1-lo:=by simp[Std.Legacy.Range.size]
 have e2:(forIn ([lo:hi+1]:Std.Legacy.Range) ((#[],lo):Array Nat×Nat) λi (q:Array Nat×Nat)=>
   (if(decide (q.1.size<limit)&&decide (q.2<=i)&&decide (i+sub.length<=hi)&&subAt s sub i)=true then(pure (ForInStep.yield (q.1.push i,i+sub.length)):Id (ForInStep (Array Nat×Nat)))else pure (ForInStep.yield (q.1,q.2))))=(List.range' lo (hi+1-lo)).foldl (Fd s sub hi limit) (#[],lo):=by
  rw[Std.Legacy.Range.forIn_eq_forIn_range',sz];exact this
 exact congrArg (λq:Array Nat×Nat=>q.1.toList) e2
theorem Wc(x:BY)(a i:Nat)(hi:i<x.length):subAt (tx x) (sg a) i=(x[i]? == some a):=by
 unfold subAt;show(x.toArray.extract i (i+1) == #[a])=_;have e:x.toArray.extract i (i+1)=#[x[i]]:=by
  apply Array.ext';rw[Array.toList_extract];simp only[List.extract_eq_take_drop];rw[show i+1-i=1 by exact Nat.add_sub_self_left i 1];rw[List.drop_eq_getElem_cons hi];rfl
 rw[e,AU hi];by_cases h:x[i]=a
 .simp [h]
 .rw [show(some x[i]==some a)=false by simpa using h];simp[h]
theorem Ya(x:BY)(a limit:Nat):occurrences (tx x) (sg a) 0 (tx x).length limit=((List.range x.length).filter λi=>x[i]? == some a).take limit:=by
 rw[V8,DX];have key:∀n ≤x.length,∃fr,(List.range' 0 n).foldl (Fd (tx x) (sg a) x.length limit) (#[],0)=((((List.range' 0 n).filter λi=>x[i]? == some a).take limit).toArray,fr)/\fr<=n:=λn=>by
  induction n with
  |zero=>intro V;exact⟨0,by simp,Ad _⟩
  |succ n ih=>
   intro hn;refine Bh (ih (by exact A5 hn)) ?_;intro fr e hf;rw[List.range'_concat,BH,e];simp only[Nat.zero_add,Nat.one_mul,As,List.foldl_nil,List.filter_append];unfold Fd;rw[Wc x a n (by exact Nat.lt_of_succ_le hn),show(sg a).length=1 from rfl];dsimp only;rw[AY];have Oh:decide (fr<=n)=true:=decide_eq_true hf;have Jm:decide (n+1<=x.length)=true:=decide_eq_true hn;rw[Oh,Jm,Bool.and_true,Bool.and_true];generalize((List.range' 0 n).filter λi=>x[i]? == some a)=L;cases hx:(x[n]? == some a)with
   |false=>
    simp only[Bool.and_false,AR,if_false];refine⟨fr,?_,by exact Aw hf⟩;simp[hx]
   |true=>
    simp only[Bool.and_true];rw[List.filter_cons_of_pos (by simpa using hx),List.filter_nil];rw[Ae];by_cases hl:L.length<limit
    .rw [if_pos (by simp;(clear ih;lia))];refine⟨n+1,?_,Ad _⟩;rw[List.take_of_length_le (by exact A5 hl),List.take_of_length_le (by simp;exact Nat.succ_le_of_lt hl)];simp
    .rw [if_neg (by simp;lia)];refine⟨fr,?_,by exact Aw hf⟩;rw[List.take_append_of_le_length (by exact Nat.le_of_not_lt hl)]
 refine Bh (key x.length (Ad _)) ?_;intro fr e hf;have last:(List.range' 0 (x.length+1-0)).foldl (Fd (tx x) (sg a) x.length limit) (#[],0)=((((List.range' 0 x.length).filter λi=>x[i]? == some a).take limit).toArray,fr):=by
  rw[Nat.sub_zero,List.range'_concat,BH,e];simp only[As,List.foldl_nil];unfold Fd;rw[if_neg];have:decide (0+1*x.length+(sg a).length<=x.length)=false:=decide_eq_false (by rw[show(sg a).length=1 from rfl];lia);rw[this];simp
 rw[last,List.range_eq_range']
theorem JV(x:BY)(a:Nat):Txt.contains (tx x) (sg a)=x.contains a:=by
 unfold Txt.contains;rw[Ya];cases h:x.contains a with
 |true=>
  obtain⟨i,hi,e⟩:=List.getElem_of_mem (by simpa using h:a∈x);have m:i∈(List.range x.length).filter λi=>x[i]? == some a:=Az.mpr ⟨BB.mpr hi,by rw[AU hi,e];simp⟩;cases hl:((List.range x.length).filter λi=>x[i]? == some a)with
  |nil=>rw[hl]at m;cases m
  |cons b l=>rfl
 |false=>
  have e:((List.range x.length).filter λi=>x[i]? == some a)=[]:=by
   rw[List.filter_eq_nil_iff];intro i hi z;have VY:=BB.mp hi;rw[AU VY]at z;have z':x[i]=a:=by simpa using z
   have:x.contains a=true:=by simpa using z'▸List.getElem_mem VY
   rw[h]at this;cases this
  rw[e];rfl
end
structure ZA(z TI TO i1 i2:Addr):Prop where
 a1:TI≠z
 a2:TO≠z
 a3:i1≠z
 a4:i2≠z
 a5:TI≠TO
 a6:TI≠i1
 a7:TI≠i2
 a8:TO≠i1
 a9:TO≠i2
 a10:i1≠i2
abbrev Zo(h:Heap)(i:Addr)(x:Str)(t:Tok)(k:Nat):Prop:=h.IsStrIter i "str_ascii_iterator" x t k
structure ZS(z TI TO i1 i2:Addr)(x y:Str)(t u:Tok)(f:Value)(k:Nat)(h:Heap):Prop where
 z:IsZip h z TI TO f
 i:IsPair h TI (.ref i1) (.ref i2)
 o:∃a b,IsPair h TO a b
 p:Zo h i1 x t k
 q:Zo h i2 y u k
section
variable {w:World}{A:Around}{E:CG}{s:Shared}{z TI TO i1 i2:Addr}{x y:Str}{t u:Tok}{k:Nat}
theorem Y5{a b:Nat}(D:ZA z TI TO i1 i2)(S:ZS z TI TO i1 i2 x y t u .none k s.heap)(hx:x.cps[k]? = some a)(hy:y.cps[k]? = some b)(hQ:∀h' tk ta tb,ZS z TI TO i1 i2 x y t u (rawInt s.heap.objs.size) (k+1) h'->IsPair h' s.heap.objs.size (.str ⟨#[a]⟩ ta) (.str ⟨#[b]⟩ tb)->
   (∀c o,c≠z->c≠TO->c≠i1->c≠i2->s.heap.get? c=some o->h'.get? c=some o)->Q (.ref s.heap.objs.size) {s with heap:=h',toks:=tk}) :
  wpAny (model prog w) A (Builtin.«zip.__next__» ⟨[.ref z],[]⟩) (λfin s'=>∃v,fin=.done (.ret v)/\Q v s') E s:=by
 obtain⟨hz,ZM,⟨o1,o2,dE⟩,h1,h2⟩:=S;show wpAny _ _ (field (.ref z) 2 >>= _) _ _ _;refine wpAny_bind (wpAny_field hz rfl (x:=.bool false) rfl ?_);refine wpAny_bind (wpAny_field hz rfl (x:=.ref TI) rfl ?_);refine wpAny_bind (wpAny_seqItems ZM rfl ?_);refine wpAny_bind ?_;refine wpAny_bind (wpAny_field hz rfl (x:=.none) rfl (wpAny_pure ?_));simp -iota only[if_true];refine wpAny_bind (wpAny_rule ?_);refine wpAny_bind (wpAny_field hz rfl (x:=.ref TO) rfl ?_);refine wpAny_bind (wpAny_setField_rec hz (by simp) λg1 z1 s1=>?_);replace z1:IsZip g1 z TI TO .ellipsis:=z1;refine wpAny_bind ?_;simp -iota only[List.zipIdx_cons,List.zipIdx_nil,List.forIn_cons,List.forIn_nil];refine wpAny_bind (wpAny_bind (wpAny_onRaise ?_));have p1:Zo g1 i1 x t k:=by refine Bh h1 ?_;clear h1;intro o e r;exact⟨o,s1.extBut _ _ D.a3 e,r⟩
 refine wpAny_bind (wpAny_nextOf_ascii_item p1 hx λg2 p2 s2=>wpAny_pure ?_);have t2:IsPair g2 TO o1 o2:=s2.extBut _ _ D.a8 (s1.extBut _ _ D.a2 dE);refine wpAny_bind (wpAny_seqItems t2 rfl ?_);refine wpAny_bind (wpAny_updateSeq_pair t2 λg3 t3 s3=>?_);replace t3:IsPair g3 TO (.str ⟨#[a]⟩ s.toks) o2:=t3;refine wpAny_bind (wpAny_letGo (wpAny_pure ?_));refine wpAny_bind (wpAny_bind (wpAny_onRaise ?_));have q3:Zo g3 i2 y u k:=by refine Bh h2 ?_;clear h2;intro o e r;exact⟨o,s3.extBut _ _ D.a9.symm (s2.extBut _ _ D.a10.symm (s1.extBut _ _ D.a4 e)),r⟩
 refine wpAny_bind (wpAny_nextOf_ascii_item q3 hy λg4 q4 s4=>wpAny_pure ?_);have t4:IsPair g4 TO (.str ⟨#[a]⟩ s.toks) o2:=s4.extBut _ _ D.a9 t3;refine wpAny_bind (wpAny_seqItems t4 rfl ?_);refine wpAny_bind (wpAny_updateSeq_pair t4 λg5 t5 s5=>?_);replace t5:IsPair g5 TO (.str ⟨#[a]⟩ s.toks) (.str ⟨#[b]⟩ (s.toks+1)):=t5;refine wpAny_bind (wpAny_letGo (wpAny_pure (wpAny_pure ?_)));refine wpAny_bind (wpAny_seqItems t5 rfl ?_);refine wpAny_bind (wpAny_newTuple ?_);have L7:g5.objs.size=s.heap.objs.size:=by rw[s5.1,s4.1,s3.1,s2.1,s1.1]
 have z5:IsZip g5 z TI TO .ellipsis:=s5.extBut _ _ D.a2.symm (s4.extBut _ _ D.a4.symm (s3.extBut _ _ D.a2.symm (s2.extBut _ _ D.a3.symm z1)));have k5:∀c o,c≠z->c≠TO->c≠i1->c≠i2->s.heap.get? c=some o->g5.get? c=some o:=λc o c1 c2 c3 c4 e=>
  s5.extBut _ _ c2 (s4.extBut _ _ c4 (s3.extBut _ _ c2 (s2.extBut _ _ c3 (s1.extBut _ _ c1 e))))
 have p5:Zo g5 i1 x t (k+1):=by refine Bh p2 ?_;clear p2;intro o e r;exact⟨o,s5.extBut _ _ D.a8.symm (s4.extBut _ _ D.a10 (s3.extBut _ _ D.a8.symm e)),r⟩
 have q5:Zo g5 i2 y u (k+1):=by refine Bh q4 ?_;clear q4;intro o e r;exact⟨o,s5.extBut _ _ D.a9.symm e,r⟩
 have lz:z<g5.objs.size:=Ag z5;refine wpAny_bind ?_;have z6:IsZip (g5.push {cls:=.type "tuple",data:=.seq #[.str ⟨#[a]⟩ s.toks,.str ⟨#[b]⟩ (s.toks+1)]}) z TI TO .ellipsis:=AO _ z5;refine wpAny_bind (wpAny_setField_rec z6 (by simp) λg7 z7 s7=>?_);replace z7:IsZip g7 z TI TO (rawInt g5.objs.size):=z7;refine wpAny_setField_rec z7 (by simp) λg8 z8 s8=>?_;have up:∀c o,c≠z->g5.get? c=some o->g8.get? c=some o:=λc o c1 e=>s8.extBut _ _ c1 (s7.extBut _ _ c1 (AO _ e));have r8:IsPair g8 g5.objs.size (.str ⟨#[a]⟩ s.toks) (.str ⟨#[b]⟩ (s.toks+1)):=s8.extBut _ _ (Nat.ne_of_gt lz) (s7.extBut _ _ (Nat.ne_of_gt lz) (AH _ rfl));rw[L7]at z8 r8;refine wpAny_pure ⟨_,rfl,?_⟩;rw[L7];refine hQ g8 _ _ _ ⟨z8,up _ _ D.a1 ?_,⟨_,_,up _ _ D.a2 t5⟩,?_,?_⟩ r8 λc o c1 c2 c3 c4 e=>up c o c1 (k5 c o c1 c2 c3 c4 e)
 .exact k5 _ _ D.a1 D.a5 D.a6 D.a7 ZM
 .refine Bh p5 ?_;clear p5;intro o e r;exact⟨o,up _ _ D.a3 e,r⟩
 .refine Bh q5 ?_;clear q5;intro o e r;exact⟨o,up _ _ D.a4 e,r⟩
theorem cm{Q:Fin->Shared->Prop}(hh:A.handled=none)(D:ZA z TI TO i1 i2)(S:ZS z TI TO i1 i2 x y t u .none k s.heap)(hx:x.cps[k]? = none)(hE:∀h' e,(∀c o,c≠z->c≠TO->c≠i1->c≠i2->s.heap.get? c=some o->h'.get? c=some o)->(∃o,h'.get? e=some o/\o.cls=.type "StopIteration")->E (.ref e) {s with heap:=h'}) :
  wpAny (model prog w) A (Builtin.«zip.__next__» ⟨[.ref z],[]⟩) Q E s:=by
 obtain⟨hz,ZM,⟨o1,o2,dE⟩,h1,h2⟩:=S;show wpAny _ _ (field (.ref z) 2 >>= _) _ _ _;refine wpAny_bind (wpAny_field hz rfl (x:=.bool false) rfl ?_);refine wpAny_bind (wpAny_field hz rfl (x:=.ref TI) rfl ?_);refine wpAny_bind (wpAny_seqItems ZM rfl ?_);refine wpAny_bind ?_;refine wpAny_bind (wpAny_field hz rfl (x:=.none) rfl (wpAny_pure ?_));simp -iota only[if_true];refine wpAny_bind (wpAny_rule ?_);refine wpAny_bind (wpAny_field hz rfl (x:=.ref TO) rfl ?_);refine wpAny_bind (wpAny_setField_rec hz (by simp) λg1 z1 s1=>?_);replace z1:IsZip g1 z TI TO .ellipsis:=z1;refine wpAny_bind ?_;simp -iota only[List.zipIdx_cons,List.zipIdx_nil,List.forIn_cons,List.forIn_nil];refine wpAny_bind (wpAny_bind (wpAny_onRaise ?_));have p1:Zo g1 i1 x t k:=by refine Bh h1 ?_;clear h1;intro o e r;exact⟨o,s1.extBut _ _ D.a3 e,r⟩
 refine wpAny_bind (wpAny_nextOf_ascii_end hh p1 hx λg2 e s2 he=>?_);refine Bh he ?_;clear he;intro oe m8 qB;have z2:IsZip g2 z TI TO .ellipsis:=s2 _ _ D.a3.symm z1;have tw:e≠z:=λq=>by subst q;rw[z2]at m8;cases m8;simp at qB
 exact wpAny_setField_rec z2 (by simp) λg3 V s3=>hE g3 e (λc o c1 V c3 V q=>s3.extBut _ _ c1 (s2 _ _ c3 (s1.extBut _ _ c1 q))) ⟨oe,s3.extBut _ _ tw m8,qB⟩
theorem ZS.keep{f:Value}(S:ZS z TI TO i1 i2 x y t u f k h)(hk:∀b∈[z,TI,TO,i1,i2],∀o,h.get? b=some o->h'.get? b=some o):ZS z TI TO i1 i2 x y t u f k h':=by
 obtain⟨hz,ZM,⟨o1,o2,dE⟩,⟨p,pe,pr⟩,⟨q,qe,qr⟩⟩:=S;exact⟨hk _ (hZ 0 rfl) _ hz,hk _ (hZ 1 rfl) _ ZM,⟨o1,o2,hk _ (hZ 2 rfl) _ dE⟩,⟨p,hk _ (hZ 3 rfl) _ pe,pr⟩,⟨q,hk _ (hZ 4 rfl) _ qe,qr⟩⟩
theorem Y4(hh:A.handled=none)(D:ZA z TI TO i1 i2)(hl:x.cps.size=y.cps.size) :
  WalksT prog w A z [z,TI,TO,i1,i2] [z,TO,i1,i2] x.cps.size (λi vals=>∃a b ta tb,x.cps[i]? = some a/\y.cps[i]? = some b/\vals=#[.str ⟨#[a]⟩ ta,.str ⟨#[b]⟩ tb])
   (λi h=>ZS z TI TO i1 i2 x y t u .none i h) (λi T h=>ZS z TI TO i1 i2 x y t u (rawInt T) (i+1) h/\T≠z/\T≠TO/\T≠i1/\T≠i2) where
 sub:=Fn [0,2,3,4] rfl
 frame:=λi h h' st hk=>st.keep hk
 item:=λi s Q E hi st hQ=>by
  have hy:i<y.cps.size:=hl▸hi;have lt:∀ {c o},s.heap.get? c=some o->s.heap.objs.size≠c:=λe=>Nat.ne_of_gt (Ag e);have n1:=lt st.z;have n2:s.heap.objs.size≠TO:=by refine MB st.o ?_;intro V V e;exact lt e
  have n3:s.heap.objs.size≠i1:=by refine Bh st.p ?_;intro V e V;exact lt e
  have n4:s.heap.objs.size≠i2:=by refine Bh st.q ?_;intro V e V;exact lt e
  have hT:s.TypeIs (.ref z) "zip":=⟨_,st.z,rfl⟩
  refine wpAny_bind (wpAny_attempt (wpAny_callSpecial?_slot (name:=Str.ofString "__next__") hT F.slot_zip_next
   (wpAny_call_entry F.slot_zip_next hT F.entry_zip_next
    (Y5 D st (BV hi) (BV hy) λh' tk ta tb S' pr k'=>wpAny_pure ?_) (F.args_zip_next_1 _))))
  exact hQ _ _ h' tk ⟨_,_,ta,tb,BV hi,BV hy,rfl⟩ (Ad _) ⟨_,pr,rfl,_,rfl⟩ ⟨S',n1,n2,n3,n4⟩
   λb o hb e=>k' b o (λq=>hb (by simp -iota[q])) (λq=>hb (by simp -iota[q])) (λq=>hb (by simp -iota[q])) (λq=>hb (by simp -iota[q])) e
 go:=λelts kk pos i T s Q E hm hQ=>by
  refine CB hm ?_;clear hm;intro S V;refine wpAny_letOwnedTupleGo_zip S.z λh' nO ZV=>hQ h' ?_ λc o hc e=>ZV.extBut _ _ (λq=>hc (by simp -iota[q])) e;obtain⟨hz,ZM,⟨o1,o2,dE⟩,⟨p,pe,pr⟩,⟨q,qe,qr⟩⟩:=S;exact⟨nO,ZV.extBut _ _ D.a1 ZM,⟨o1,o2,ZV.extBut _ _ D.a2 dE⟩,⟨p,ZV.extBut _ _ D.a3 pe,pr⟩,⟨q,ZV.extBut _ _ D.a4 qe,qr⟩⟩
 apart:=λi T h hm hT=>by
  refine oB hm ?_;clear hm;intro V t1 t2 t3 t4;simp at hT;rcases hT with rfl|rfl|rfl|rfl
  .exact t1 rfl
  .exact t2 rfl
  .exact t3 rfl
  .exact t4 rfl
 done:=λs Q E st hQ=>by
  have hT:s.TypeIs (.ref z) "zip":=⟨_,st.z,rfl⟩
  refine wpAny_bind (wpAny_attempt (wpAny_callSpecial?_slot (name:=Str.ofString "__next__") hT F.slot_zip_next
   (wpAny_call_entry F.slot_zip_next hT F.entry_zip_next (cm hh D st (Array.getElem?_eq_none (Ad _)) λh' e hk he=>?_) (F.args_zip_next_1 _))))
  refine Bh he ?_;clear he;intro o ho hc;refine wpAny_bind (wpAny_isInstance (T:="StopIteration") (b:=true) ⟨o,ho,hc⟩ isSubtype_stop ?_);exact wpAny_pure (hQ h' s.toks λc o hc e=>hk c o (λq=>hc (by simp -iota[q])) (λq=>hc (by simp -iota[q])) (λq=>hc (by simp -iota[q])) (λq=>hc (by simp -iota[q])) e)
 self:=λi s Q E st hQ=>wpAny_pyIter_zip st.z hQ
noncomputable abbrev qT(x:Str)(t:Tok):Obj:={cls:=.type (strIterType x),data:=.fields #[.str x t,.int 0 0]}
noncomputable abbrev kO(h:Heap)(x:Str)(t:Tok):Heap:=h.push (qT x t)
noncomputable abbrev kQ(h:Heap)(x y:Str)(t u:Tok):Heap:=(kO h x t).push (qT y u)
noncomputable abbrev kR(h:Heap)(x y:Str)(t u:Tok):Heap:=(kQ h x y t u).push {cls:=.type "tuple",data:=.seq #[.ref h.objs.size,.ref (kO h x t).objs.size]}
noncomputable abbrev kS(h:Heap)(x y:Str)(t u:Tok):Heap:=(kR h x y t u).push {cls:=.type "tuple",data:=.seq #[.none,.none]}
noncomputable abbrev cg(h:Heap)(x y:Str)(t u:Tok):Heap:=(kS h x y t u).push {cls:=.type "zip",data:=.fields #[.none,.bool false,.bool false,.ref (kQ h x y t u).objs.size,.ref (kR h x y t u).objs.size]}
theorem Qa(x y:Str)(t u:Tok) :
  Meets (Builtin.«zip.__new__» ⟨[.type "zip",.str x t,.str y u],[]⟩) (λV R s=>R (.ok (.ret (.ref (kS s.heap x y t u).objs.size))) {s with heap:=cg s.heap x y t u}):=
 .of_wp λprog w A R s h=>by
  obtain⟨hp,g,d,tk,os⟩:=s;have D7:=sub_zip;wp_walk using wpAny_pyIter_strU;exact⟨_,rfl,h⟩
end
theorem OJ(h:∀a∈cs,a<128):strIterType (tx cs)="str_ascii_iterator":=by
 unfold strIterType;rw[if_pos];rw[List.all_toArray,Ah];intro a ha;simpa using h a ha
section
variable {w:World}{A:Around}{E:CG}{s:Shared}
theorem Sf{y:Str}{t u:Tok}(hx:strIterType x="str_ascii_iterator")(hy:strIterType y="str_ascii_iterator")(h:∀h',ZS (s.heap.objs.size+4) (s.heap.objs.size+2) (s.heap.objs.size+3) s.heap.objs.size (s.heap.objs.size+1) x y t u .none 0 h'->(∀c o,s.heap.get? c=some o->h'.get? c=some o)->h'.objs.size=s.heap.objs.size+5->Q (.ref (s.heap.objs.size+4)) {s with heap:=h'}) :
  wpAny (model prog w) A (call (.type "zip") [.str x t,.str y u]) Q E s:=by
 refine callType_new F.called_zip (by decide) (F.typeCall_zip_2 _ _) (F.newCall_zip_2 _ _) (λobj=>F.args_object_init_3 obj _ _) F.entry_zip_new (Qa x y t u) ?_;have z1:(kO s.heap x t).objs.size=s.heap.objs.size+1:=Heap.size_push ..;have z2:(kQ s.heap x y t u).objs.size=s.heap.objs.size+2:=by rw[Heap.size_push,z1]
 have z3:(kR s.heap x y t u).objs.size=s.heap.objs.size+3:=by rw[Heap.size_push,z2]
 have z4:(kS s.heap x y t u).objs.size=s.heap.objs.size+4:=by rw[Heap.size_push,z3]
 have z5:(cg s.heap x y t u).objs.size=s.heap.objs.size+5:=by rw[Heap.size_push,z4]
 have g5:(cg s.heap x y t u).get? (kS s.heap x y t u).objs.size=some _:=AH _ rfl;have g4:(cg s.heap x y t u).get? (kR s.heap x y t u).objs.size=some _:=AO _ (AH _ rfl);have g3:(cg s.heap x y t u).get? (kQ s.heap x y t u).objs.size=some _:=AO _ (AO _ (AH _ rfl));have g2:(cg s.heap x y t u).get? (kO s.heap x t).objs.size=some _:=AO _ (AO _ (AO _ (AH _ rfl)));have g1:(cg s.heap x y t u).get? s.heap.objs.size=some _:=AO _ (AO _ (AO _ (AO _ (AH _ rfl))));rw[z2,z3,z4]at g5;rw[z1,z2]at g3;rw[z3]at g4;rw[z1]at g2;rw[z4];exact⟨⟨_,g5,rfl⟩,h _ ⟨g5,g3,⟨_,_,g4⟩,⟨_,g1,congrArg Value.type hx,rfl⟩,⟨_,g2,congrArg Value.type hy,rfl⟩⟩ (λc o q=>
  AO _ (AO _ (AO _ (AO _ (AO _ q))))) z5⟩
end
theorem Gv(le:h.objs.size<=a):h.get? a=none:=by
 cases e:h.get? a with
 |none=>rfl
 |some o=>exact absurd (Ag e) (Nat.not_lt.mpr le)
theorem LN(t:Tab h)(e:h.get? a=none):a≠TP:=λq=>by refine Bh t ?_;clear t;intro ps e' V;rw[q]at e;rw[e]at e';cases e'
theorem Mj{a b:Nat}(h:a<b):(a:Addr)≠b:=Nat.ne_of_lt h
theorem O5{a b:Nat}(h:b<a):(a:Addr)≠b:=Nat.ne_of_gt h
theorem jM(n:Nat):ZA (n+4) (n+2) (n+3) n (n+1):=
 ⟨Mj (dT rfl),Mj (by exact Nat.lt_add_one (n+3)),Mj (by lia),Mj (dT rfl),Mj (by exact Nat.lt_add_one (n+2)),O5 (by lia),O5 (by exact Nat.lt_add_one (n+1)),O5 (by lia),O5 (dT rfl),Mj (by exact Nat.lt_add_one n)⟩
noncomputable def Q5(cs es:BY):List (List D):=List.zipWith (λa b=>[.str (sg a),.str (sg b)]) cs es
theorem Ba.jN{xp tp:Pos}{tk:Nat}{elts:Cw}{e1 e2:Expr}{es:BY}(f:Ev c J (.Name x xp) (.obj (.type "zip")))(y1:Ev c J e1 (.str (Mine.tx cs)))(y2:Ev c J e2 (.str (Mine.tx es)))(h1:∀a∈cs,a<128)(h2:∀a∈es,a<128)(hl:cs.length=es.length)(he:autoParam (D8 c e1 [e2]) Bc)(Jn:autoParam (D8 c e2 []) Bc)(hp:autoParam ((backTo pos (starEach [e2] c.env)).any (·.1)=false) Bc):Ba c J (.Tuple elts tk tp) (.Call (.Name x xp) [e1,e2] [] pos) ((Q5 cs es).map .tup):=λs F Q E q=>
 wpAny_Call_NameR (f s F _ _ λv VN t1 l1 r1=>by
  cases r1;refine Ax ((FP.cons y1 (.cons y2 .nil Jn) he) pos _ (F.le l1) _ _ λvs OB t2 l2 r2=>?_) he hp;refine Dt (Be.Bo r2) ?_;rintro V V rfl ra r;refine Dt (Be.Bo r) ?_;rintro V V rfl rb r;cases r;cases ra;cases rb;have Gj:Le s.heap OB:=Bt.trans l1 l2;have F2:=F.le Gj;refine Sf (OJ h1) (OJ h2) λh3 S k3 z3=>?_;dsimp only at S k3 z3 ⊢;have l3:Le OB h3:=Le.of k3;have QT:=Bt.trans Gj l3;refine wpAny_pyIter_zip S.z ?_;generalize hn:OB.objs.size=n at *;have SO:Tab OB:=F2.base.tab;have no:∀k,OB.get? (n+k)=none:=λk=>Gv (by exact Nat.le.intro (congrFun (congrArg HAdd.hAdd hn) k));have nj:OB.get? n=none:=Gv (by exact BM hn);have sz:306<=n:=hn▸B6 F2.base;have N:∀b∈[n+4,n+2,n+3,n,n+1],OB.get? b=none/\306<=b:=λb hb=>by
   refine eE hb ?_ ?_ ?_ ?_ ?_
   .exact ⟨no 4,by exact Aw sz⟩
   .exact ⟨no 2,by exact Aw sz⟩
   .exact ⟨no 3,by exact Aw sz⟩
   .exact ⟨nj,sz⟩
   .exact ⟨no 1,by exact Aw sz⟩
  have lv:∀b∈[n+4,n+2,n+3,n,n+1],∃o,h3.get? b=some o:=λb hb=>by
   refine eE hb ?_ ?_ ?_ ?_ ?_
   .exact ⟨_,S.z⟩
   .exact ⟨_,S.i⟩
   .refine MB S.o ?_;intro V V e;exact⟨_,e⟩
   .refine Bh S.p ?_;intro V e V;exact⟨_,e⟩
   .refine Bh S.q ?_;intro V e V;exact⟨_,e⟩
  have sub:∀b∈[n+4,n+3,n,n+1],b∈[n+4,n+2,n+3,n,n+1]:=Fn [0,2,3,4] rfl;have ZA:ZA (n+4) (n+2) (n+3) n (n+1):=jM n;have alive:∀ {t u:Tok}{f:Value}{k:Nat}{h:Heap},ZS (n+4) (n+2) (n+3) n (n+1) (Mine.tx cs) (Mine.tx es) t u f k h->∀b∈[n+4,n+3,n,n+1],OF h b:=λ{t u f k h} S b hb=>by
   refine cu hb ?_ ?_ ?_ ?_
   .exact ⟨_,S.z,Cd.fd rfl (by intro t h;simp[rawInt]at h)⟩
   .refine MB S.o ?_;intro V V e;exact⟨_,e,Cd.seq rfl⟩
   .refine EI S.p ?_;intro V e V ed;exact⟨_,e,Cd.fd ed (by intro t h;simp at h)⟩
   .refine EI S.q ?_;intro V e V ed;exact⟨_,e,Cd.fd ed (by intro t h;simp at h)⟩
  have nz:TP∉[n+4,n+3,n,n+1]:=λhb=>by
   refine CB (N _ (sub _ hb)) ?_;intro V b;exact absurd b (by decide)
  have zl:(Q5 cs es).length=(Mine.tx cs).cps.size:=by
   show(List.zipWith _ cs es).length=cs.toArray.size;rw[List.length_zipWith];simp;lia
  refine q (.ref (n+4)) (·∈[n+4,n+3,n,n+1]) h3 t2 QT (λb hb=>?_) ?_ ?_
  .refine CB (N _ (sub _ hb)) ?_;intro a1 a2;exact⟨Bw Gj (LN SO a1) a1,a2,lv _ (sub _ hb)⟩
  .refine P6 (Rp:=λV V=>True) (Y4 F.ok.handled ZA (by show cs.toArray.size=es.toArray.size;simpa using hl)) (λi h st b hb=>alive st b hb) (λi T h mid b hb=>alive mid.1 b hb) (Q5 cs es) zl (λV V V V V V=>trivial) (λX h j vs ds V pv hd=>?_) nz (Q5 cs es) 0 _ _ (Al _) rfl S trivial λb hb=>?_
   .refine iO pv ?_;clear pv;rintro a b ta tb ea eb rfl;have Xg:cs[j]? = some a:=by
     have:cs.toArray[j]? = some a:=ea;rwa [BK]at this
    have ZD:es[j]? = some b:=by
     have:es.toArray[j]? = some b:=eb;rwa [BK]at this
    unfold Q5 at hd;rw[List.getElem?_zipWith,Xg,ZD]at hd;cases hd;exact .cons (.str _ _) (.cons (.str _ _) .nil)
   .refine CB (N _ hb) ?_;intro a1 a2;refine B5 (lv _ hb) ?_;intro o e;refine⟨?_,LN SO a1,o,e⟩;by_cases hw:b∈[n+4,n+3,n,n+1]
    .exact .inl hw
    .refine .inr λz=>z.elim (λz=>?_) hw;obtain⟨_,o',e'⟩:=F2.Cj b z;rw[a1]at e';cases e'
  .refine λs' l Q E h=>wpAny_pyIter_zip (f0:=.none) (TI:=n+2) (TO:=n+3) (l.keep _ _ ?_ id S.z) h;exact LN SO (no 4))
theorem cZ(n l1 l2:Nat)(h1:l1<n)(h2:l2<n):ZipApart (n+4) (n+2) (n+3) n (n+1) l1 l2:=
 ⟨Mj (dT rfl),Mj (by exact Nat.lt_add_one (n+3)),Mj (by lia),Mj (dT rfl),Mj (by exact Nat.lt_add_one (n+2)),O5 (by lia),O5 (by exact Nat.lt_add_one (n+1)),O5 (by lia),O5 (dT rfl),Mj (by exact Nat.lt_add_one n),
  Mj (by exact Nat.lt_add_right 4 h1),Mj (by exact Nat.lt_add_right 3 h1),Mj (by exact Nat.lt_of_succ_le h1),Mj (by exact Nat.lt_add_right 1 h1),Mj (by exact Nat.lt_add_right 4 h2),Mj (by exact Nat.lt_add_right 3 h2),Mj (by exact Nat.lt_of_succ_le h2),Mj (by exact Nat.lt_add_right 1 h2)⟩
noncomputable def T9(ds es:Cr):List (List D):=List.zipWith (λa b=>[a,b]) ds es
theorem Ba.oy{xp tp:Pos}{tk:Nat}{elts:Cw}{e1 e2:Expr}{es:Cr}(f:Ev c J (.Name x xp) (.obj (.type "zip")))(y1:Ev c J e1 (.list ds))(y2:Ev c J e2 (.list es))(he:autoParam (D8 c e1 [e2]) Bc)(Jn:autoParam (D8 c e2 []) Bc)(hp:autoParam ((backTo pos (starEach [e2] c.env)).any (·.1)=false) Bc):Ba c J (.Tuple elts tk tp) (.Call (.Name x xp) [e1,e2] [] pos) ((T9 ds es).map .tup):=λs F Q E q=>
 wpAny_Call_NameR (f s F _ _ λv VN t1 l1 r1=>by
  cases r1;refine Ax ((FP.cons y1 (.cons y2 .nil Jn) he) pos _ (F.le l1) _ _ λvs OB t2 l2 r2=>?_) he hp;refine Dt (Be.Bo r2) ?_;rintro V V rfl ra r;cases r with|cons rb r=>
  cases r;cases ra with|list nx nt p ra=>
  cases rb with|list nx' vH p' rb=>
  rename_i a rN b T8;have Gj:Le s.heap OB:=Bt.trans l1 l2;have F2:=F.le Gj;refine call_zip_2 p.isList p'.isList λh3 hz hi ho jw dK z3 k3=>?_;dsimp only at hz hi ho jw dK k3 z3 ⊢;have l3:Le OB h3:=Le.of k3;have QT:=Bt.trans Gj l3;refine wpAny_pyIter_zip hz ?_;have la:a<OB.objs.size:=by refine B5 p ?_;clear p;intro V e;exact Ag e
  have lb:b<OB.objs.size:=by refine B5 p' ?_;clear p';intro V e;exact Ag e
  generalize hn:OB.objs.size=n at *;have SO:Tab OB:=F2.base.tab;have no:∀k,OB.get? (n+k)=none:=λk=>Gv (by exact Nat.le.intro (congrFun (congrArg HAdd.hAdd hn) k));have nj:OB.get? n=none:=Gv (by exact BM hn);have sz:306<=n:=hn▸B6 F2.base;have N:∀b∈[n+4,n+2,n+3,n,n+1],OB.get? b=none/\306<=b:=λb hb=>by
   refine eE hb ?_ ?_ ?_ ?_ ?_
   .exact ⟨no 4,by exact Aw sz⟩
   .exact ⟨no 2,by exact Aw sz⟩
   .exact ⟨no 3,by exact Aw sz⟩
   .exact ⟨nj,sz⟩
   .exact ⟨no 1,by exact Aw sz⟩
  have lv:∀b∈[n+4,n+2,n+3,n,n+1],∃o,h3.get? b=some o:=λb hb=>by
   refine eE hb ?_ ?_ ?_ ?_ ?_
   .exact ⟨_,hz⟩
   .exact ⟨_,hi⟩
   .exact ⟨_,ho⟩
   .refine Bh jw ?_;clear jw;intro V e V;exact⟨_,e⟩
   .refine Bh dK ?_;clear dK;intro V e V;exact⟨_,e⟩
  have sub:∀b∈[n+4,n+3,n,n+1],b∈[n+4,n+2,n+3,n,n+1]:=Fn [0,2,3,4] rfl;have nz:TP∉[n+4,n+3,n,n+1]:=λhb=>by
   refine CB (N _ (sub _ hb)) ?_;intro V b;exact absurd b (by decide)
  have wg:=ra.length;have wh:=rb.length;refine q (.ref (n+4)) (·∈[n+4,n+3,n,n+1]) h3 t2 QT (λb hb=>?_) ?_ ?_
  .refine CB (N _ (sub _ hb)) ?_;intro a1 a2;exact⟨Bw Gj (LN SO a1) a1,a2,lv _ (sub _ hb)⟩
  .refine P6 (Rp:=λX h=>Be X c.w h rN ds/\Be X c.w h T8 es) (WalksT.zip2 F.ok.handled (n+4) (n+2) (n+3) n (n+1) a b (cZ n a b la lb) rN.toArray T8.toArray) (λi h st b hb=>?_) (λi T h mid b hb=>?_) (T9 ds es)
    (by unfold T9;rw[List.length_zipWith];simp;lia) (λV V V V r k=>⟨r.1.kn k,r.2.kn k⟩) (λX h j vs e rp pv hd=>?_) nz (T9 ds es) 0 _ _ (Al _) rfl
    ⟨hz,hi,⟨_,_,ho⟩,jw,dK,EX p.isList λo e=>k3 _ o e,EX p'.isList λo e=>k3 _ o e⟩ ?_ λb' hb=>?_
   .refine oC st ?_;clear st;intro s1 s2 Cq Du HU V;refine MB Cq ?_;intro V V s3;refine EI Du ?_;intro V s4 V d4;refine EI HU ?_;intro V s5 V d5;refine cu hb ?_ ?_ ?_ ?_
    .exact ⟨_,s1,Cd.fd rfl (by intro t h;simp[rawInt]at h)⟩
    .exact ⟨_,s3,Cd.seq rfl⟩
    .exact ⟨_,s4,Cd.fd d4 (by intro t h;simp at h)⟩
    .exact ⟨_,s5,Cd.fd d5 (by intro t h;simp at h)⟩
   .refine oC mid ?_;clear mid;intro s1 s2 Jh Wz jL V;refine MB Jh ?_;intro V V s3;refine EI Wz ?_;intro V s4 V d4;refine EI jL ?_;intro V s5 V d5;refine cu hb ?_ ?_ ?_ ?_
    .exact ⟨_,s1,Cd.fd rfl (by intro t h;simp[rawInt]at h)⟩
    .exact ⟨_,s3,Cd.seq rfl⟩
    .exact ⟨_,s4,Cd.fd d4 (by intro t h;simp at h)⟩
    .exact ⟨_,s5,Cd.fd d5 (by intro t h;simp at h)⟩
   .refine Dt pv ?_;clear pv;rintro x' y' e1 e2 rfl;rw[BK]at e1 e2;unfold T9 at hd;rw[List.getElem?_zipWith]at hd;cases Oh:ds[j]? with
    |none=>rw[Oh]at hd;cases hd
    |some d1=>
     cases Jm:es[j]? with
     |none=>rw[Oh,Jm]at hd;cases hd
     |some d2=>
      rw[Oh,Jm]at hd;cases hd;refine Bh (rp.1.get Oh) ?_;intro u1 q1 r1;refine Bh (rp.2.get Jm) ?_;intro u2 q2 r2;rw[e1]at q1;cases q1;rw[e2]at q2;cases q2;exact .cons r1 (.cons r2 .nil)
   .have mv:∀ {vs:DV}{ds:Cr},Be c.X c.w OB vs ds->Be (DG c.X λb=>b∈[n+4,n+3,n,n+1]) c.w h3 vs ds:=λr=>
     Be.le (r.move (ES λb z=>z.imp_right λz=>(N _ (sub _ z)).1)) l3
    exact⟨mv ra,mv rb⟩
   .by_cases Ph:b'∈[n+4,n+2,n+3,n,n+1]
    .refine CB (N _ Ph) ?_;intro a1 a2;refine B5 (lv _ Ph) ?_;intro o e;refine⟨?_,LN SO a1,o,e⟩;by_cases hw:b'∈[n+4,n+3,n,n+1]
     .exact .inl hw
     .refine .inr λz=>z.elim (λz=>?_) hw;obtain⟨_,o',e'⟩:=F2.Cj _ z;rw[a1]at e';cases e'
    .have VR:b'=a\/b'=b:=by
      simp only[AJ,An,or_false]at hb Ph;rcases hb with e|e|e|e|e|e|e
      .exact absurd (.inl e) Ph
      .exact absurd (.inr (.inl e)) Ph
      .exact absurd (.inr (.inr (.inl e))) Ph
      .exact absurd (.inr (.inr (.inr (.inl e)))) Ph
      .exact absurd (.inr (.inr (.inr (.inr e)))) Ph
      .exact .inl e
      .exact .inr e
     have hw:∀b',b'<n->b'∉[n+4,n+3,n,n+1]:=λb' Dw z=>by
      simp only[AJ,An,or_false]at z;rcases z with e|e|e|e
      .exact absurd (e▸Dw) (by(clear Dw;lia))
      .exact absurd (e▸Dw) (by(clear Dw;lia))
      .exact absurd (e▸Dw) (by exact Aa n)
      .exact absurd (e▸Dw) (by exact Nat.not_succ_lt_self)
     rcases VR with rfl|rfl
     .refine B5 p ?_;clear p;intro V e;exact⟨.inr λz=>z.elim nx (hw _ la),nt,_,k3 _ _ e⟩
     .refine B5 p' ?_;clear p';intro V e;exact⟨.inr λz=>z.elim nx' (hw _ lb),vH,_,k3 _ _ e⟩
  .refine λs' l Q E h=>wpAny_pyIter_zip (f0:=.none) (TI:=n+2) (TO:=n+3) (l.keep _ _ ?_ id hz) h;exact LN SO (no 4))
theorem Ki(a b x y:D):(D.tup [a,b]).eqv (.tup [x,y])=(a.eqv x&&b.eqv y):=by
 show PyData.eqv (.tuple (D.KJ [a,b])) (.tuple (D.KJ [x,y]))=_;rw[PyData.eqv,D.GZ,D.GZ];simp only[AI,List.map_nil];rw[PyData.eqvAll,PyData.eqvAll,PyData.eqvAll,Bool.and_true];rfl
noncomputable def B7(p:Nat×Nat):D:=.tup [.str (sg p.1),.str (sg p.2)]
theorem Hf(a b:Nat):(D.str (sg a)).eqv (.str (sg b))=decide (a=b):=by
 rw[DJ];simp only[Zi]
theorem OS(p q:Nat×Nat):(B7 p).eqv (B7 q)=decide (p=q):=by
 unfold B7;rw[Ki,Hf,Hf];obtain⟨a,b⟩:=p;obtain⟨x,y⟩:=q;by_cases h1:a=x<;>by_cases h2:b=y<;>simp[h1,h2]
theorem OI(l:List (Nat×Nat))(p:Nat×Nat):D.L0 (l.map B7) (B7 p)=l.contains p:=by
 unfold D.L0;rw[List.any_map];induction l with
 |nil=>rfl
 |cons q l ih=>
  rw[List.any_cons,ih,List.contains_cons];show((B7 q).eqv (B7 p)||_)=_;rw[OS];congr 1;by_cases h:q=p
  .simp [h]
  .rw [decide_eq_false h];symm;simpa using λe:p=q=>h e.symm
theorem NP{p:Nat×Nat}(h1:p.1<128)(h2:p.2<128):Gl 1 (B7 p):=.tup λd hd=>by
 refine Sa hd ?_ ?_
 .exact .str (DS h1)
 .exact .str (DS h2)
theorem H6{l:List (Nat×Nat)}(h:∀p∈l,p.1<128/\p.2<128):Gl 2 (.list (l.map B7)):=.list λd hd=>by
 refine Bh (AF.mp hd) ?_;rintro p hp rfl;exact NP (h p hp).1 (h p hp).2
noncomputable abbrev A2:=List ((Nat×Nat)×Int)
noncomputable def k2(p:Nat×Nat):Str:=tx [p.1,p.2]
theorem Ev.Ly{pos}{a b:Nat}(x:Ev c J l (.str (sg a)))(y:Ev c J r (.str (sg b))):Ev c J (.BinOp l .Add r pos) (.str (k2 (a,b))):=Ev.d9 x y (by show 1+1<=1000000;decide)
theorem Nh{p q:Nat×Nat}(h:k2 p=k2 q):p=q:=by
 have:=Wr h;obtain⟨a,b⟩:=p;obtain⟨x,y⟩:=q;simp only[List.cons.injEq,and_true]at this;rw[this.1,this.2]
noncomputable def dI(A:A2):List (Str×D):=A.map λp=>(k2 p.1,.int p.2)
noncomputable def DW(A:A2)(k:Nat×Nat):Int:=(A.lookup k).getD 0
noncomputable def GH(A:A2)(k:Nat×Nat)(v:Int):A2:=if A.any (λp=>decide (p.1=k))then A.map (λp=>if p.1=k then(p.1,v)else p)else A++[(k,v)]
def EC(A:A2)(k:Nat×Nat):Prop:=k∈A.map (·.1)
theorem FH{β:Type}[BEq α][LawfulBEq α]{γ:Type}[BEq γ][LawfulBEq γ]{δ:Type}(f:α->γ)(hf:∀a b,f a=f b->a=b)(g:β->δ)(k:α):∀l:List (α×β),(l.map λp=>(f p.1,g p.2)).lookup (f k)=(l.lookup k).map g:=by
 intro l;induction l with
 |nil=>exact  rfl
 |cons p0 l ih=>
  obtain⟨a,b⟩:=p0;rw[AI,AK,AK,ih];by_cases h:k=a
  .rw [h,beq_self_eq_true,beq_self_eq_true];rfl
  .rw [show(k==a)=false by simpa using h,show(f k==f a)=false by simpa using λe=>h (hf _ _ e)]
theorem LD{β:Type}{k:Nat×Nat}:∀ {l:List ((Nat×Nat)×β)},k∈l.map (·.1)->∃v,l.lookup k=some v
 |(a,b)::l,h=>by
  rw[AK];by_cases e:k=a
  .rw [e,beq_self_eq_true];exact⟨b,rfl⟩
  .rw [show(k==a)=false by simpa using e];rcases AJ.mp h with h|h
   .exact absurd h e
   .exact LD h
theorem He{A:A2}{k:Nat×Nat}(h:EC A k):(dI A).lookup (k2 k)=some (.int (DW A k)):=by
 unfold dI;rw[FH k2 (λV V=>Nh) D.int k A];refine B5 (LD h) ?_;intro v e;rw[DW,e];rfl
theorem Um(A:A2)(k:Nat×Nat)(v:Int):dput (dI A) (k2 k) (.int v)=dI (GH A k v):=by
 unfold dput dI GH;have e:(A.map λp=>(k2 p.1,D.int p.2)).any (λp=>decide (p.1=k2 k))=A.any λp=>decide (p.1=k):=by
  rw[List.any_map];congr 1;funext p;show decide (k2 p.1=k2 k)=_;congr 1;exact propext ⟨Nh,λh=>h▸rfl⟩
 rw[e];split
 .rw [AB,AB];apply AW;intro p V;show(if k2 p.1=k2 k then(k2 p.1,D.int v)else(k2 p.1,D.int p.2))=(λp=>(k2 p.1,D.int p.2)) (if p.1=k then(p.1,v)else p);by_cases h:p.1=k
  .rw [if_pos (h▸rfl),if_pos h]
  .rw [if_neg (λe=>h (Nh e)),if_neg h]
 .rw [Af];rfl
theorem KU(A:A2)(k k':Nat×Nat)(v:Int)(h:EC A k'):EC (GH A k v) k':=by
 unfold GH EC at *;split
 .rw [AB];have e:((λp:(Nat×Nat)×Int=>p.1)∘λp=>if p.1=k then(p.1,v)else p)=λp=>p.1:=by
   funext p;show(if p.1=k then(p.1,v)else p).1=p.1;split<;>rfl
  rw[e];exact h
 .rw [Af];exact List.mem_append_left _ h
theorem UR(A:A2)(k:Nat×Nat)(v:Int)(h:EC A k):(GH A k v).length=A.length:=by
 unfold GH;rw[if_pos,AA];refine Bh (AF.mp h) ?_;intro p hp e;exact Aq.mpr ⟨p,hp,by simpa using e⟩
theorem MR:∀(os es:B3),(es.map (·.1)++os.map (·.1)).Nodup->DB es os=es++os:=by
 intro l;induction l with
 |nil=>exact λes V=>by simp[DB]
 |cons p os ih=>
  intro es h;show DB (dput es p.1 p.2) os=_;have hn:¬p.1∈es.map (·.1):=λm=>by
   rw[AI]at h;exact(List.nodup_append.mp h).2.2 _ m _ (.head _) rfl
  have e:dput es p.1 p.2=es++[p]:=by
   unfold dput;rw[if_neg];intro z;refine Bh (Aq.mp z) ?_;intro q hq e;exact hn (by simp at e;exact e▸Ab (f:=(·.1)) hq)
  rw[e,ih (es++[p]) (by simpa using h)];simp
theorem RP:B9 261 (BZ 24) (S "_law_steps") 260 .none CX:=⟨λP=>rfl,λP=>⟨_,_,_,rfl,rfl,rfl⟩,rfl,rfl,rfl⟩
noncomputable def HA(cs:BY):List (Nat×Nat):=cs.flatMap λx=>cs.map λy=>(x,y)
noncomputable def EM(cs:BY):List (Nat×Nat×Nat):=cs.flatMap λm=>cs.flatMap λx=>cs.map λy=>(m,x,y)
noncomputable def Lg(cs:BY)(ts:List (Nat×Nat))(p:Nat×Nat):Int:=if p.1=p.2 then 0 else if(ts.contains (p.1,p.2)||ts.contains (p.2,p.1))=true then 1 else cs.length
noncomputable def D4(cs:BY)(ts:List (Nat×Nat)):A2:=(HA cs).map λp=>(p,Lg cs ts p)
noncomputable def HF(A:A2)(t:Nat×Nat×Nat):A2:=GH A (t.2.1,t.2.2) (min (DW A (t.2.1,t.2.2)) (DW A (t.2.1,t.1)+DW A (t.1,t.2.2)))
noncomputable def Ce(cs:BY)(ts:List (Nat×Nat)):A2:=(EM cs).foldl HF (D4 cs ts)
theorem LR{x y:Nat}:(x,y)∈HA cs↔x∈cs/\y∈cs:=by
 unfold HA;rw[Am];constructor
 .intro Cq;refine Bh Cq ?_;intro a ha h;refine Bh (AF.mp h) ?_;intro b hb e;cases e;exact⟨ha,hb⟩
 .intro Du;refine CB Du ?_;intro h1 h2;exact⟨x,h1,AF.mpr ⟨y,h2,rfl⟩⟩
theorem Qf(cs:BY):(HA cs).length=cs.length*cs.length:=by
 unfold HA;rw[BR];simp[List.map_const']
theorem Nv(h:cs.Nodup):(HA cs).Nodup:=by
 unfold HA List.Nodup;rw[List.pairwise_flatMap];refine⟨λx V=>?_,h.imp λ{a b} hab p h1 q h2 e=>?_⟩
 .rw [List.pairwise_map];exact h.imp λ{a b} hab e=>hab (Prod.mk.inj e).2
 .refine Bh (AF.mp h1) ?_;rintro V V rfl;refine Bh (AF.mp h2) ?_;rintro V V rfl;exact hab (Prod.mk.inj e).1
def GG(cs:BY)(A:A2):Prop:=A.length=cs.length*cs.length/\∀x∈cs,∀y∈cs,EC A (x,y)
theorem Mt(cs:BY)(ts:List (Nat×Nat)):GG cs (D4 cs ts):=by
 refine⟨by unfold D4;rw[AA,Qf],λx hx y hy=>?_⟩;unfold EC D4;rw[AB];exact AF.mpr ⟨(x,y),LR.mpr ⟨hx,hy⟩,rfl⟩
theorem PV{A:A2}(h:GG cs A){t:Nat×Nat×Nat}(h1:t.2.1∈cs)(h2:t.2.2∈cs):GG cs (HF A t):=
 ⟨by unfold HF;rw[UR _ _ _ (h.2 _ h1 _ h2),h.1],λx hx y hy=>KU _ _ _ _ (h.2 x hx y hy)⟩
theorem HQ{t:Nat×Nat×Nat}(h:t∈EM cs):t.1∈cs/\t.2.1∈cs/\t.2.2∈cs:=by
 refine Bh (Am.mp h) ?_;intro m hm h;refine Bh (Am.mp h) ?_;intro x hx h;refine Bh (AF.mp h) ?_;rintro y hy rfl;exact⟨hm,hx,hy⟩
theorem IU(cs:BY)(ts:List (Nat×Nat)):∀(l:List (Nat×Nat×Nat)) (A:A2),(∀t∈l,t∈EM cs)->GG cs A->GG cs (l.foldl HF A)
 |[],A,_,h=>h
 |t::l,A,hl,h=>IU cs ts l (HF A t) (λq hq=>hl q (.tail _ hq)) (PV h (HQ (hl t (.head _))).2.1 (HQ (hl t (.head _))).2.2)
theorem XZ(A:A2):∀p∈dI A,p.2.flat=true:=λp hp=>by refine Bh (AF.mp hp) ?_;rintro q V rfl;rfl
theorem aG(A:A2):(dI A).length=A.length:=AA _
theorem aX(w:World)(k:Nat)(cs:BY)(ts:List (Nat×Nat))(h5:cs.length<=10)(Nb:∀a∈cs,a<128)(nd:cs.Nodup)(qM:∀p∈ts,p.1<128/\p.2<128) :
  C9 w 261 (k+1) [.str (tx cs),.list (ts.map B7)] (.dict (dI (Ce cs ts))):=by
 refine Ed RP (names:=[S "names",S "ties"]) (λvs e=>?_) rfl (.of (by decide +kernel)) λc X h0 F=>?_
 .refine MB (Ot e) ?_;rintro v1 v2 rfl;rfl
 .have E:=F.env;have sq:cs.length*cs.length<=100:=Nat.mul_le_mul h5 h5;refine Bd.cons (Ex.lI (x:=S "steps") (Ji:=λa=>[(S "steps",.obj (.ref a)),(S "names",.str (tx cs)),(S "ties",.list (ts.map B7))]) E (os:=dI (D4 cs ts)) (es:=dI (D4 cs ts)) ?_ ?_ (XZ _) (λa=>by rfl)) ?_
  .refine JP.eq (JP.two (J0:=[(S "names",.str (tx cs)),(S "ties",.list (ts.map B7))]) cs (λx=>.str (sg x)) (λV=>cs) (λV y=>.str (sg y)) (λV V=>true) (λx y=>k2 (x,y)) (λx y=>.int (Lg cs ts (x,y))) E.co (Ba.tx Ev.n)
    (λx=>[(S "x",.str (sg x)),(S "names",.str (tx cs)),(S "ties",.list (ts.map B7))]) (λV V h=>.tail _ h) (λV V V sc=>Bind.n) (λV V V sc=>Ba.tx Ev.n) (λx y=>[(S "y",.str (sg y)),(S "x",.str (sg x)),(S "names",.str (tx cs)),(S "ties",.list (ts.map B7))]) (λV V V h=>.tail _ h)
    (λV V V V V sc=>Bind.n) (λV V V V V V=>CL.nil) (λx hx y hy V cc sc=>⟨Ev.Ly Ev.n Ev.n,?_⟩) ?_) ?_
   .have QN:=Nb x hx;have YA:=Nb y hy;refine Ev.eq (Ev.Gz (CK.cmp (Bg.lh Ev.n Ev.n QN YA)) (λV=>Ev.cInt) λV=>Ev.Gz (CK.W9 (CK.cmp (Bg.eq (Bg.qQ (n:=1) (Ev.tp (.cons Ev.n (.cons Ev.n .nil))) Ev.n (NP (p:=(x,y)) QN YA) (H6 qM)) (OI ts (x,y))))
     λV=>CK.cmp (Bg.eq (Bg.qQ (n:=1) (Ev.tp (.cons Ev.n (.cons Ev.n .nil))) Ev.n (NP (p:=(y,x)) YA QN) (H6 qM)) (OI ts (y,x)))) (λV=>Ev.cInt) λV=>Ev.Nl Ev.b Ev.n (by rw[DX];exact lb h5 rfl)) ?_
    unfold Lg;dsimp only;rw[DX];by_cases h:x=y
    .simp [h]
    .simp only[h,decide_false,AR,if_false];split<;>rfl
   .simp only[Bx,BR,AA,List.map_const',List.sum_replicate_nat];exact lb sq rfl
   .unfold dI D4 HA;simp only[Bx,AB,BP];rfl
  .refine (MR _ _ ?_).trans (BT _);rw[List.map_nil,BT];unfold dI D4;rw[AB,AB];have e:(((λx:Str×D=>x.1)∘(λp:(Nat×Nat)×Int=>(k2 p.1,D.int p.2)))∘λp=>(p,Lg cs ts p))=k2:=rfl;rw[e];unfold List.Nodup;rw[List.pairwise_map];exact(Nv nd).imp λ{a b} hab e=>hab (Nh e)
  .intro h HU;refine Fp HU ?_;intro a X1 nw F1;have E1:Bi (c.on X1 (c.G.star (Bv a (dI (D4 cs ts))))) w (BX (BZ 24)) k:=E.on;refine⟨c.on X1 (c.G.star (Bv a (dI (D4 cs ts)))),_,⟨rfl,rfl,rfl⟩,F1,?_⟩;let At:Nat->A2:=λi=>((EM cs).take i).foldl HF (D4 cs ts);have At_ok:∀i,GG cs (At i):=λi=>IU cs ts _ _ (λt ht=>Ay ht) (Mt cs ts);have tl:(EM cs).length<=1000:=by
    unfold EM;rw[BR];simp only[BR,AA,List.map_const',List.sum_replicate_nat];calc cs.length*(cs.length*cs.length)<=10*100:=Nat.mul_le_mul h5 sq
     _=1000:=rfl
   refine Bd.cons (Ex.for (ds:=(EM cs).map λt=>.tup [.str (sg t.1),.str (sg t.2.1),.str (sg t.2.2)]) E1.ro (λi=>c.G.star (Bv a (dI (At i)))) (λV=>[(S "steps",.obj (.ref a)),(S "names",.str (tx cs)),(S "ties",.list (ts.map B7))]) rfl rfl
    (Ba.list (CE.ev (CE.eq (CE.eV cs (λx=>.str (sg x)) cs (λx=>.str (sg x)) cs (λx=>.str (sg x)) (λm x y=>.tup [.str (sg m),.str (sg x),.str (sg y)]) (J0:=[(S "names",.str (tx cs))]) E1.co (Ba.tx Ev.n)
     (λm=>[(S "m",.str (sg m)),(S "names",.str (tx cs))]) (λV V h=>.tail _ h) (λV V V sc=>Bind.n) (λV V V sc=>Ba.tx Ev.n)
     (λm x=>[(S "x",.str (sg x)),(S "m",.str (sg m)),(S "names",.str (tx cs))]) (λV V V h=>.tail _ h) (λV V V V V sc=>Bind.n) (λV V V V V sc=>Ba.tx Ev.n)
     (λm x y=>[(S "y",.str (sg y)),(S "x",.str (sg x)),(S "m",.str (sg m)),(S "names",.str (tx cs))]) (λV V V V h=>.tail _ h) (λV V V V V V V sc=>Bind.n)
     (λm V x V y V cc sc=>Ev.tp (.cons Ev.n (.cons Ev.n (.cons Ev.n .nil)))) ?_) ?_)))
    (λi d hd X T hX=>?_)) ?_
   .have e:(cs.flatMap λx=>cs.flatMap λy=>cs.map λz=>D.tup [D.str (sg x),D.str (sg y),D.str (sg z)]).length=(EM cs).length:=by
     unfold EM;simp only[BR,AA]
    rw[e];exact lb tl rfl
   .unfold EM;simp only[BP,AB];rfl
   .have E2:Bi ((c.on X1 (c.G.star (Bv a (dI (D4 cs ts))))).on X ((c.G.star (Bv a (dI (At i)))).star T)) w (BX (BZ 24)) k:=E.on;rw[AL,AS]at hd;refine Bh hd ?_;clear hd;rintro Jh ht rfl;obtain⟨m,x,y⟩:=Jh;have hm:=AQ ht;refine FO (HQ hm) ?_;intro mz nK nN;dsimp only at mz nK nN;have ok:=At_ok i;have hA:At (i+1)=GH (At i) (x,y) (min (DW (At i) (x,y)) (DW (At i) (x,m)+DW (At i) (m,y))):=by
     show((EM cs).take (i+1)).foldl HF _=_;rw[A3,ht,BH];rfl
    refine⟨[(S "y",.str (sg y)),(S "x",.str (sg x)),(S "m",.str (sg m)),(S "steps",.obj (.ref a)),(S "names",.str (tx cs)),(S "ties",.list (ts.map B7))],Bind.tup (.cons Bind.n (.cons Bind.n (.cons Bind.n .nil))),?_⟩;have hG:∀X' h,((c.on X1 (c.G.star (Bv a (dI (D4 cs ts))))).on X ((c.G.star (Bv a (dI (At i)))).star T)).G.P c.w X' h->(Bv a (dI (At i))).P c.w X' h:=λX' h z=>z.1.2.1;refine Bd.EL (X':=X) (G':=(c.G.star (Bv a (dI (At (i+1))))).star T) (Ex.ir (a:=a) (es:=dI (At i)) (es':=dI (At (i+1))) (k:=k2 (x,y)) E2.ro (by rw[hA,<- Um]) (Upd.lf (Upd.rt (Upd.self λb=>Iff.rfl)))
     (Ev.min2 Ev.b (Ev.G5 hG Ev.n (Ev.Ly Ev.n Ev.n) (He (ok.2 x nK y nN))) (Ev.Ij (Ev.G5 hG Ev.n (Ev.Ly Ev.n Ev.n) (He (ok.2 x nK m mz))) (Ev.G5 hG Ev.n (Ev.Ly Ev.n Ev.n) (He (ok.2 m mz y nN))))) Ev.n (Ev.Ly Ev.n Ev.n)
     (by rw[aG,ok.1];exact lb sq rfl)) ?_
    refine Bd.nil (Bd.done λh3 F3=>⟨X,hX,?_⟩);exact F3.sub λp hp=>.tail _ (.tail _ (.tail _ hp))
   .intro h2 Wz;refine Bh Wz ?_;intro X2 Hi F2;have hA:At ((EM cs).map λt=>D.tup [.str (sg t.1),.str (sg t.2.1),.str (sg t.2.2)]).length=Ce cs ts:=by
     show((EM cs).take _).foldl HF _=_;rw[AA,BF];rfl
    rw[hA]at F2;have F3:Fr (c.on (λb=>X2 b/\¬b=a) c.G) [(S "steps",.dict (dI (Ce cs ts)))] h2:=Fr.Xs (c:=c) F2 nw.old λp hp=>by
     rw[AG.mp hp];exact .inr ⟨rfl,.head _⟩
    refine⟨c.on (λb=>X2 b/\¬b=a) c.G,_,⟨rfl,rfl,rfl⟩,F3,Bd.imp (Bd.ret (Ex.ret Ev.n)) (λV z=>z) λv h z=>HR.on (λb z=>⟨Hi b (nw.sub b z),λe=>nw.out (e▸z)⟩) z⟩
noncomputable def Bp:List Nat:=[98,99,100,101,102,66,67,68,69,70]
noncomputable def G7:List Nat:=[38,60,62,34,13,10,9]
noncomputable def By:List Nat:=Bp++G7
noncomputable def HY:List (List Str):=[
 [S "&amp;",S "&lt;",S "&gt;",S "&quot;",S "&#13;",S "&#10;",S "&#09;"],[S "&amp;",S "<",S "&gt;",S "&quot;",S "\r",S "\n",S "\t"],[S "&amp;",S "&lt;",S "&gt;",S "\"",S "\r",S "\n",S "\t"],
 [S "&amp;",S "&lt;",S "&gt;",S "\"",S "&#xD;",S "\n",S "\t"],[S "&amp;",S "&lt;",S ">",S "&quot;",S "&#xD;",S "&#xA;",S "&#x9;"]]
noncomputable def JG(a:Nat):Nat:=G7.findIdx (· == a)
noncomputable def CN(num a:Nat):Str:=if G7.contains a then(HY.getD num []).getD (JG a) ⟨#[]⟩else sg a
theorem Vx:∀a∈By,Txt.contains (S "&<>\"\r\n\t") (sg a)=G7.contains a:=by decide +kernel
theorem Vw:∀a∈By,G7.contains a=true->Txt.find (S "&<>\"\r\n\t") (sg a)=(JG a:Int):=by decide +kernel
theorem Dn:∀a∈By,a<128:=by decide
theorem TQ{a:Nat}(h:G7.contains a=true):JG a<7:=by
 have:JG a<G7.length:=by
  unfold JG;rw[List.findIdx_lt_length];exact⟨a,by simpa using h,by simp⟩
 exact this
noncomputable def litS:Expr->Option Str
 |.Constant (.str x) _ _=>some x
 |_=>none
noncomputable def Vt:List Expr->Option (List Str)
 |[]=>some []
 |e::es=>(litS e).bind λx=>(Vt es).map (x::·)
noncomputable def bL(f:List Expr->Option α):Expr->Option α
 |.List es _=>f es
 |_=>none
noncomputable abbrev nW:Expr->Option (List Str):=bL Vt
noncomputable def Vs:List Expr->Option (List (List Str))
 |[]=>some []
 |e::es=>(nW e).bind λx=>(Vs es).map (x::·)
theorem TM(h:litS e=some x):∃t p,e=.Constant (.str x) t p:=by
 cases e with
 |Constant k t p=>cases k with
  |str y=>exact⟨t,p,by rw[Option.some.inj h]⟩
  |_=>exact absurd h (by intro z;cases z)
 |_=>exact absurd h (by intro z;cases z)
theorem FP.lits:∀ {es:Cw}{xs:B1},Vt es=some xs->FP c J es (xs.map .str)
 |[],xs,h=>by cases h;exact .nil
 |e::es,xs,h=>by
  refine Bh (Option.bind_eq_some_iff.mp h) ?_;intro x h1 h2;refine Bh (AS.mp h2) ?_;rintro ys h3 rfl;refine MB (TM h1) ?_;rintro t p rfl;exact .cons Ev.cStr (FP.lits h3) rfl
theorem Mf{f:List Expr->Option α}{xs:α}(h:bL f e=some xs):∃es pos,e=.List es pos/\f es=some xs:=by
 cases e with
 |List es pos=>exact⟨_,_,rfl,h⟩
 |_=>exact absurd h (by intro z;cases z)
theorem FP.Za:∀ {es:Cw}{xs:List (List Str)},Vs es=some xs->(∀x∈xs,x.length<=1000)->FP c J es (xs.map λr=>.list (r.map .str))
 |[],xs,h,_=>by cases h;exact .nil
 |e::es,xs,h,hl=>by
  refine Bh (Option.bind_eq_some_iff.mp h) ?_;intro x h1 h2;refine Bh (AS.mp h2) ?_;rintro ys h3 rfl;refine Fp (Mf h1) ?_;rintro es' pos rfl h4;exact .cons (Ev.list (FP.lits h4) (by rw[AA];exact hl x (.head _))) (FP.Za h3 λy hy=>hl y (.tail _ hy)) rfl
noncomputable abbrev Ro:Expr->Option (List (List Str)):=bL Vs
theorem Ev.Ro{e:Expr}{xs:List (List Str)}(h:Ro e=some xs)(hl:(xs.length<=1000/\∀x∈xs,x.length<=1000)):Ev c J e (.list (xs.map λr=>.list (r.map .str))):=by
 refine Fp (Mf h) ?_;rintro es' pos rfl h4;exact Ev.list (FP.Za h4 hl.2) (by rw[AA];exact hl.1)
noncomputable def Ld:Expr:=(match((Br (BZ 27))[1]?.getD default)with|.Assign _ e _=>e|_=>default)
theorem Qx:Ro Ld=some HY:=by decide +kernel
theorem Qo:HY.length<=1000/\∀x∈HY,x.length<=1000:=by decide
noncomputable def PH:D:=.list (HY.map λr=>.list (r.map .str))
theorem Tv:Ev c J Ld PH:=@Ev.Ro c J Ld HY Qx Qo
noncomputable def WV:Stmt:=(Br (BZ 27))[1]?.getD default
noncomputable def iJ:Expr->Pos
 |.Name _ p=>p
 |_=>default
noncomputable def WU:Pos:=iJ (match WV with|.Assign ts _ _=>ts.headD default|_=>default)
noncomputable def Zj:Pos:=match WV with|.Assign _ _ p=>p|_=>default
theorem Zg:∀n<5,(HY.getD n []).length=7:=by decide +kernel
theorem MV:B9 278 (BZ 27) (S "_law_spelled") 277 .none CX:=⟨λP=>rfl,λP=>⟨_,_,_,rfl,rfl,rfl⟩,rfl,rfl,rfl⟩
theorem VJ(w:World)(k:Nat)(ss:BY)(num:Nat)(hn:num<5)(hs:∀a∈ss,a∈By)(hl:ss.length<=1000):C9 w 278 (k+1) [.str (tx ss),.int (num:Nat)] (.list (ss.map λa=>.str (CN num a))):=by
 refine Ed MV (names:=[S "signs",S "number"]) (λvs e=>?_) rfl (.of (by decide +kernel)) λc X h0 F=>?_
 .refine MB (Ot e) ?_;rintro v1 v2 rfl;rfl
 .have E:=F.env;refine Bd.step (J':=[(S "marks",.str (S "&<>\"\r\n\t")),(S "signs",.str (tx ss)),(S "number",.int (num:Nat))]) (Ex.sc E (d:=.str (S "&<>\"\r\n\t")) (Ev.eq Ev.cStr (by rfl))) ?_;have gM:Ex c [(S "marks",.str (S "&<>\"\r\n\t")),(S "signs",.str (tx ss)),(S "number",.int (num:Nat))] (.Assign [.Name (S "rows") WU] Ld Zj) (Fr c [(S "rows",PH),(S "marks",.str (S "&<>\"\r\n\t")),(S "signs",.str (tx ss)),(S "number",.int (num:Nat))]) (HR c (.list (ss.map λa=>.str (CN num a)))):=
   @Ex.sc c _ _ _ (S "rows") WU Zj Ld PH w _ k E (@Tv c _) rfl rfl rfl rfl
  refine @Bd.step c _ _ _ _ _ _ _ (@gM) ?_;refine Bd.ret (Ex.ret (CE.ev (CE.eq (CE.C0 ss (λa=>.str (sg a)) (λV=>true) (λa=>.str (CN num a)) (J0:=[(S "rows",PH),(S "marks",.str (S "&<>\"\r\n\t")),(S "number",.int (num:Nat))]) E.co (Ba.tx Ev.n)
   (λa=>[(S "sign",.str (sg a)),(S "rows",PH),(S "marks",.str (S "&<>\"\r\n\t")),(S "number",.int (num:Nat))]) (λV V h=>.tail _ h) (λV V V sc=>Bind.n) (λV V V V=>CL.nil)
   (λa ha V cc sc=>?_) (lb hl rfl)) (by rw[Bx]))))
  have h1:=Vx a (hs a ha);refine Ev.eq (Ev.Gz (d:=.str (CN num a)) (CK.cmp (Bg.eq (Bg.nQ Ev.n Ev.n) h1)) (λh=>Ev.FG (i:=(JG a:Nat)) (ds:=(HY.getD num []).map .str) (Ev.FG (i:=(num:Nat)) Ev.n Ev.n (BD _) ?_ ?_) (Ev.eq (Ev.index Ev.n Ev.n (h1.trans h)) ?_) (BD _) ?_ ?_) λh=>Ev.n) ?_
  .rw [Int.toNat_natCast,AL];have hr:HY[num]? = some (HY.getD num []):=getD_some _ hn;rw[hr];rfl
  .show 5<=1000000;decide
  .exact congrArg D.int (Vw a (hs a ha) h)
  .rw [Int.toNat_natCast,AL];have uG:=Zg num hn;have hm:=TQ h;rw[getD_some (⟨#[]⟩:Str) (by rw[uG];exact hm)];unfold CN;rw[if_pos h];rfl
  .rw [AA,Zg num hn];decide
  .cases hc:G7.contains a
   .unfold CN;rw[hc];rfl
   .rfl
noncomputable def Qt(is:List Int):Str:=(D.list (is.map .int)).py.shown
theorem PN:∀i<30,(PyData.shown (.int (i:Nat))).length<=2:=by decide +kernel
theorem PD(is:List Int):D.KJ (is.map .int)=is.map PyData.int:=by
 rw[D.GZ,AB];apply AW;intro i V;show D.py (.int i)=_;rw[Qk]
theorem N6(l:List PyData):PyData.shownAll l=l.map PyData.shown:=by
 induction l with
 |nil=>rw[PyData.shownAll];rfl
 |cons x l ih=>rw[PyData.shownAll,ih];rfl
theorem MH{is:List Int}(h:∀i∈is,0<=i/\i<30):(D.list (is.map .int)).py.showable=true:=by
 rw[Fe,PyData.showable,PD];induction is with
 |nil=>rw[List.map_nil,PyData.showableAll]
 |cons i is ih=>
  rw[AI,PyData.showableAll,ih λj hj=>h j (.tail _ hj),Bool.and_true,PyData.showable];refine CB (h i (.head _)) ?_;intro h1 h2;rw[decide_eq_true_eq];have:i.natAbs<30:=by lia
  refine BA (Nat.log2_le_self _) (j4 this rfl)
theorem Qu{is:List Int}(h:∀i∈is,0<=i/\i<30)(hl:is.length<=1000):(D.list (is.map .int)).py.shown.length<=100000:=by
 rw[Fe,PyData.shown,PD,N6];refine AD (listText_len_le _) ?_;rw[AA,AA,AB,AB];have key:∀l:List Int,(∀i∈l,0<=i/\i<30)->(l.map (((λx:Str=>x.length)∘PyData.shown)∘PyData.int)).sum<=2*l.length:=λl=>by
  induction l with
  |nil=>intro V;simp
  |cons i l ih=>
   intro h;have h1:=ih λj hj=>h j (.tail _ hj);refine CB (h i (.head _)) ?_;intro h2 h3;have h4:=PN i.toNat ((Int.toNat_lt h2).mpr h3);rw[Int.toNat_of_nonneg h2]at h4;rw[AI,BC,AZ];exact qi h4 h1
 have:=key is h;omega
theorem Ev.Yr{np:Pos}{is:List Int}(f:Ev c J (.Name x np) (.obj (.type "str")))(y:Ev c J e (.list (is.map .int)))(h:∀i∈is,0<=i/\i<30)(hl:is.length<=1000)(he:autoParam (D8 c e []) Bc) :
  Ev c J (.Call (.Name x np) [e] [] pos) (.str (Qt is)):=
 Ev.strOf (n:=1) f y (.list λd hd=>by refine Bh (AF.mp hd) ?_;rintro i V rfl;exact .int) (by decide) (MH h) (Qu h hl) he
theorem Bg.V2{t:Str}(x:Ev c J l (.str t))(y:Ev c J r (.str t))(hm:autoParam (behindInMarks .NotEq r=false) Dy):Bg c J l .NotEq r false:=
 Bg.of x y (λV V s F ra rb Q E q=>by
  cases ra;cases rb;refine PySem.P.ne_str ?_;have e:(t.cps.toList != t.cps.toList)=false:=by simp
  rw[e];exact q _ s.heap s.toks (.refl _) (.bool _)) hm
theorem Ev.YK{np:Pos}{xs:List α}{g:α->D}(f:Ev c J (.Name x np) (.obj (.builtin "len")))(y:Ev c J e (.list (xs.map g)))(hz:xs.length<=1000000)(he:autoParam (D8 c e []) Bc):Ev c J (.Call (.Name x np) [e] [] pos) (.int (xs.length:Nat)):=Ev.eq (Ev.g9 f y (by rw[AA];exact hz) he) (by rw[AA])
theorem Bg.vA{a b:Nat}(x:Ev c J l (.str (sg a)))(y:Ev c J r (.str (sg b)))(hm:autoParam (behindInMarks .NotEq r=false) Dy):Bg c J l .NotEq r (a != b):=
 Bg.of x y (λV V s F ra rb Q E q=>by
  cases ra;cases rb;refine PySem.P.ne_str ?_;have e:((sg a).cps.toList != (sg b).cps.toList)=(a != b):=by
   show([a] != [b])=(a != b);by_cases h:a=b<;>simp[h,bne]
  rw[e];exact q _ s.heap s.toks (.refl _) (.bool _)) hm
theorem Ku:∀a∈By,PyData.strOk (sg a)=true/\PyData.strOk (Txt.lower (sg a))=true/\(sg a).length<=100:=by decide +kernel
noncomputable def Jp(a b:BY)(m:Int):Int:=Go (a.map sg) (b.map sg) m
theorem RY(w:World)(k:Nat){a b:BY}{m:Int}(ha:∀x∈a,x∈By)(hb:∀x∈b,x∈By)(la:a.length<=1000)(lb:b.length<=1000)(hm : -1000000<m/\m<1000000):C9 w 45 (k+2) [.str (tx a),.str (tx b),.int m] (.int (Jp a b m)):=by
 have:=aW kK w k (a:=a.map sg) (b:=b.map sg) (m:=m) (Nu λx hx=>Dn x (ha x hx)) (Nu λx hx=>Dn x (hb x hx)) (by rw[AA];exact la) (by rw[AA];exact lb)
  (λx hx=>by refine Bh (AF.mp hx) ?_;rintro y hy rfl;exact Ku y (ha y hy)) (λx hx=>by refine Bh (AF.mp hx) ?_;rintro y hy rfl;exact Ku y (hb y hy)) hm
 have e:∀l:List Nat,kK.Cn (l.map sg)=.str (tx l):=λl=>by show D.str (cat _)=_;rw[UW]
 rw[e,e]at this;exact this
theorem RO:B9 283 (BZ 28) (S "_law_lacks") 282 .none CX:=⟨λP=>rfl,λP=>⟨_,_,_,rfl,rfl,rfl⟩,rfl,rfl,rfl⟩
noncomputable def CJ(ls:BY):List (Nat×Nat):=ls.zipIdx.flatMap λp=>(ls.drop p.2).map λy=>(p.1,y)
noncomputable abbrev W2:=List (Nat×List Nat)
noncomputable def dW(W:W2):List (Str×D):=W.map λp=>(sg p.1,.str (tx p.2))
noncomputable def Bn(W:W2)(x:Nat):List Nat:=(W.lookup x).getD []
noncomputable def Es(W:W2)(n:Nat)(p:Nat×Nat):Int:=Jp (Bn W p.1) (Bn W p.2) (2*n)
noncomputable def unlike(a b:BY):Nat:=((List.zip a b).filter λp=>p.1 != p.2).length
noncomputable def Ni(ls:BY)(W:W2)(A:A2):A2:=(CJ ls).flatMap λp=>[((p.1,p.2),Es W ls.length p-DW A (p.1,p.2)),((p.2,p.1),Es W ls.length p-DW A (p.2,p.1))]
noncomputable def RB(A os:A2):A2:=os.foldl (λA p=>GH A p.1 p.2) A
noncomputable def Ef(ls:BY)(W:W2)(A:A2):A2:=RB [] (Ni ls W A)
theorem RI:∀(os A:A2),DB (dI A) (os.map λp=>(k2 p.1,D.int p.2))=dI (RB A os)
 |[],A=>rfl
 |p::os,A=>by
  show DB (dput (dI A) (k2 p.1) (.int p.2)) _=_;rw[Um,RI os];rfl
theorem CM{W:W2}{x:Nat}(h:x∈W.map (·.1)):(dW W).lookup (sg x)=some (.str (tx (Bn W x))):=by
 unfold dW;rw[FH sg (λV V=>Eh) (λw=>D.str (tx w)) x W];have:∃v,W.lookup x=some v:=by
  induction W with
  |nil=>cases h
  |cons p W ih=>
   obtain⟨a,b⟩:=p;rw[AK];by_cases e:x=a
   .rw [e,beq_self_eq_true];exact⟨b,rfl⟩
   .rw [show(x==a)=false by simpa using e];rcases AJ.mp h with h|h
    .exact absurd h e
    .exact ih h
 refine B5 this ?_;clear this;intro v e;rw[Bn,e];rfl
theorem Ct{ls:BY}{p:Nat×Nat}(h:p∈CJ ls):p.1∈ls/\p.2∈ls:=by
 refine Bh (Am.mp h) ?_;intro q hq h;refine Bh (AF.mp h) ?_;rintro y hy rfl;exact⟨(mem_zipIdx hq).2.1,Aj hy⟩
theorem Qi{ls:BY}(h:ls.length<=10):(CJ ls).length<=100:=by
 unfold CJ;rw[BR];have key:∀l:List (Nat×Nat),(l.map λp=>((ls.drop p.2).map λy=>(p.1,y)).length).sum<=10*l.length:=λl=>by
  induction l with
  |nil=>simp
  |cons p l ih=>rw[AI,BC,AA,AM,AZ];exact qi (AD (BN _ _) h) ih
 have:=key ls.zipIdx;rw[List.length_zipIdx]at this;exact AD this (Nat.mul_le_mul_left 10 h)
theorem aV(w:World)(k:Nat)(ls:BY)(W:W2)(A:A2)(h5:ls.length<=10)(Nb:∀a∈ls,a<128)(hW:∀x∈ls,x∈W.map (·.1))(hA:∀x∈ls,∀y∈ls,EC A (x,y))(ZW:∀x∈ls,(Bn W x).length<=100/\∀a∈Bn W x,a∈By)(gQ:∀x∈ls,∀y∈ls,(Bn W x).length=(Bn W y).length)(f3:∀p∈CJ ls,Es W ls.length p=(unlike (Bn W p.1) (Bn W p.2):Int))(nI:∀p∈CJ ls,unlike (Bn W p.1) (Bn W p.2)<30) :
  C9 w 283 (k+3) [.list (ls.map λa=>.str (sg a)),.dict (dW W),.dict (dI A)] (.dict (dI (Ef ls W A))):=by
 refine Ed RO (names:=[S "line",S "words",S "steps"]) (λvs e=>?_) rfl (.of (by decide +kernel)) λc X h0 F=>?_
 .refine bg (Ou e) ?_;rintro v1 v2 v3 rfl;rfl
 .have E:=F.env;have hw:=F.hw;have gH:=Qi h5;let J1:List (Str×D):=[(S "line",.list (ls.map λa=>.str (sg a))),(S "words",.dict (dW W)),(S "steps",.dict (dI A))]
  refine Bd.step (J':=[(S "pairs",.list ((CJ ls).map B7)),(S "line",.list (ls.map λa=>.str (sg a))),(S "words",.dict (dW W)),(S "steps",.dict (dI A))]) (Ex.cL E (d:=.list ((CJ ls).map B7))
   (CE.eq (CE.OO ls.zipIdx (λp=>.tup [.int (p.2:Nat),.str (sg p.1)]) (λp=>ls.drop p.2) (λV y=>.str (sg y)) (λV V=>true) (λp y=>B7 (p.1,y)) (J0:=[(S "line",.list (ls.map λa=>.str (sg a)))]) E.co
    (Ba.eq (Ba.enum Ev.b Ev.n) (Fw _ _)) (λp=>[(S "x",.str (sg p.1)),(S "k",.int (p.2:Nat)),(S "line",.list (ls.map λa=>.str (sg a)))]) (λV V h=>.tail _ (.tail _ h)) (λV V V sc=>Bind.tup (.cons Bind.n (.cons Bind.n .nil)))
    (λp hp cc sc=>Ba.list (Ev.eq (Ev.EH Ev.n (Part.int Ev.n) Part.no ?_) ?_)) (λp y=>[(S "y",.str (sg y)),(S "x",.str (sg p.1)),(S "k",.int (p.2:Nat)),(S "line",.list (ls.map λa=>.str (sg a)))]) (λV V V h=>.tail _ h)
    (λV V V V V sc=>Bind.n) (λV V V V V V=>CL.nil) (λp hp y hy V cc sc=>Ev.tp (.cons Ev.n (.cons Ev.n .nil))) ?_) ?_)) ?_
  .rw [AA];exact lb h5 rfl
  .rw [Di,List.map_drop]
  .simp only[Bx];have:=gH;unfold CJ at this;rw[BR]at this ⊢;simp only[AA]at this ⊢;exact lb this rfl
  .simp only[Bx];unfold CJ;rw[BP];simp only[AB];rfl
  .refine Bd.step (J':=[(S "told",.list (((CJ ls).map (Es W ls.length)).map .int)),(S "pairs",.list ((CJ ls).map B7)),(S "line",.list (ls.map λa=>.str (sg a))),(S "words",.dict (dW W)),(S "steps",.dict (dI A))]) (Ex.cL E (d:=.list (((CJ ls).map (Es W ls.length)).map .int))
    (CE.eq (CE.C0 (CJ ls) B7 (λV=>true) (λp=>.int (Es W ls.length p)) (J0:=[(S "line",.list (ls.map λa=>.str (sg a))),(S "words",.dict (dW W))]) E.co (Ba.list Ev.n)
     (λp=>[(S "y",.str (sg p.2)),(S "x",.str (sg p.1)),(S "line",.list (ls.map λa=>.str (sg a))),(S "words",.dict (dW W))]) (λV V h=>.tail _ (.tail _ h)) (λV V V sc=>Bind.tup (.cons Bind.n (.cons Bind.n .nil))) (λV V V V=>CL.nil)
     (λp hp V cc sc=>Ev.FV (fa:=45) (k:=k+2) (ds:=[.str (tx (Bn W p.1)),.str (tx (Bn W p.2)),.int (2*(ls.length:Int))]) Ev.g (.cons (Ev.CQ Ev.n Ev.n ?_) (.cons (Ev.CQ Ev.n Ev.n ?_) (.cons (Ev.TS Ev.cInt (Ev.YK Ev.b Ev.n (lb h5 rfl)) (by decide)) .nil))) ?_ ?_ ⟨_,_,_,_,_,Km⟩) ?_) ?_)) ?_
   .exact CM (hW _ (Ct hp).1)
   .exact CM (hW _ (Ct hp).2)
   .have m1:=(Ct hp).1;have m2:=(Ct hp).2;rw[sc.w,hw];exact RY w k (λa ha=>(ZW _ m1).2 a ha) (λa ha=>(ZW _ m2).2 a ha) (by have:=(ZW _ m1).1;exact lb this rfl) (by have:=(ZW _ m2).1;exact lb this rfl) (by omega)
   .rw [sc.k,E.hk];exact Ad _
   .exact lb gH rfl
   .rw [Bx,AB];rfl
   .have fr:∀p∈CJ ls,p.1∈ls/\p.2∈ls:=λp hp=>Ct hp;have cnt:(CJ ls).map (Es W ls.length)=(CJ ls).map λp=>(unlike (Bn W p.1) (Bn W p.2):Int):=AW f3;have small:∀i∈(CJ ls).map (Es W ls.length),0<=i/\i<30:=λi hi=>by
     refine Bh (AF.mp hi) ?_;rintro p hp rfl;rw[f3 p hp];exact⟨BD _,Int.ofNat_lt.mpr (nI p hp)⟩
    refine Bd.if (CK.cmp (Bg.V2 (t:=Qt ((CJ ls).map (Es W ls.length))) (Ev.Yr (is:=(CJ ls).map (Es W ls.length)) Ev.b Ev.n small (by rw[AA];exact lb gH rfl)) (Ev.Yr (is:=(CJ ls).map (Es W ls.length)) Ev.b ?_ small (by rw[AA];exact lb gH rfl)))) (λh=>by cases h) λV=>?_
    .refine CE.ev (CE.eq (CE.C0 (CJ ls) B7 (λV=>true) (λp=>.int (unlike (Bn W p.1) (Bn W p.2):Nat)) (J0:=[(S "words",.dict (dW W))]) E.co (Ba.list Ev.n)
      (λp=>[(S "y",.str (sg p.2)),(S "x",.str (sg p.1)),(S "words",.dict (dW W))]) (λV V h=>.tail _ (.tail _ h)) (λV V V sc=>Bind.tup (.cons Bind.n (.cons Bind.n .nil))) (λV V V V=>CL.nil)
      (λp hp V cc sc=>?_) (lb gH rfl)) ?_)
     .have m1:=(Ct hp).1;have m2:=(Ct hp).2;refine Ev.eq (Ev.YK Ev.b (CE.ev (CE.C0 (List.zip (Bn W p.1) (Bn W p.2)) B7 (λq=>q.1 != q.2) (λq=>.str (sg q.1)) (J0:=[]) (Sub.co sc) (Ba.eq (Ba.jN Ev.b (Ev.CQ Ev.n Ev.n (CM (hW _ m1))) (Ev.CQ Ev.n Ev.n (CM (hW _ m2))) (λa ha=>Dn a ((ZW _ m1).2 a ha)) (λa ha=>Dn a ((ZW _ m2).2 a ha)) (gQ _ m1 _ m2)) ?_)
       (λq=>[(S "b",.str (sg q.2)),(S "a",.str (sg q.1))]) (λV V h=>by cases h) (λV V V ig=>Bind.tup (.cons Bind.n (.cons Bind.n .nil))) (λV V V ig=>CL.one (CK.cmp (Bg.vA Ev.n Ev.n))) (λV V V V ig=>Ev.n) ?_)) ?_) ?_
      .unfold Q5;rw[List.map_zipWith,List.zip_eq_zipWith,List.map_zipWith];rfl
      .have:=(ZW _ m1).1;rw[List.length_zip];exact qg this rfl
      .have:=(ZW _ m1).1;refine AD (AV _ _) ?_;rw[List.length_zip];exact qg this rfl
      .rfl
     .rw [Bx,cnt,AB];rfl
    .refine Bd.nil (Bd.ret (Ex.ret (CE.ev (CE.eq (CE.aE (CJ ls) (λp=>.tup [B7 p,.int (Es W ls.length p)]) (λp=>[(p.1,p.2),(p.2,p.1)]) (λV q=>.str (k2 q)) (λV V=>true) (λV q=>k2 q) (λp q=>.int (Es W ls.length p-DW A q)) (J0:=[(S "steps",.dict (dI A))]) E.co
      (Ba.eq (Ba.oy Ev.b Ev.n Ev.n) ?_) (λp=>[(S "far",.int (Es W ls.length p)),(S "y",.str (sg p.2)),(S "x",.str (sg p.1)),(S "steps",.dict (dI A))]) (λV V h=>.tail _ (.tail _ (.tail _ h)))
      (λp hp cc sc=>Bind.tup (.cons (Bind.tup (.cons Bind.n (.cons Bind.n .nil))) (.cons Bind.n .nil))) (λp hp cc sc=>Ba.tup (Ev.tp (.cons (Ev.Ly Ev.n Ev.n) (.cons (Ev.Ly Ev.n Ev.n) .nil))))
      (λp q=>[(S "one",.str (k2 q)),(S "far",.int (Es W ls.length p)),(S "y",.str (sg p.2)),(S "x",.str (sg p.1)),(S "steps",.dict (dI A))]) (λV V V h=>.tail _ h) (λV V V V V sc=>Bind.n) (λV V V V V V=>CL.nil)
      (λp hp q hq V cc sc=>⟨Ev.n,Ev.Lh Ev.n (Ev.CQ Ev.n Ev.n (He ?_))⟩) ?_) ?_))))
     .unfold T9;rw[AB,List.map_zipWith,List.zipWith_map,List.zipWith_self];rfl
     .refine CB (Ct hp) ?_;intro m1 m2;refine Sa hq ?_ ?_
      .exact hA _ m1 _ m2
      .exact hA _ m2 _ m1
     .simp only[Bx];rw[BR];have key:∀l:List (Nat×Nat),(l.map λp:Nat×Nat=>([(p.1,p.2),(p.2,p.1)].map λq=>(k2 q,D.int (Es W ls.length p-DW A q))).length).sum<=2*l.length:=λl=>by
       induction l with
       |nil=>simp
       |cons p l ih=>rw[AI,BC,AZ];simp only[AA,AZ,BS]at ih ⊢;lia
      have:=key (CJ ls);omega
     .have e:((CJ ls).flatMap λx=>([(x.1,x.2),(x.2,x.1)].filter λV=>true).map λy=>(k2 y,D.int (Es W ls.length x-DW A y)))=(Ni ls W A).map λp=>(k2 p.1,D.int p.2):=by
       simp only[Bx];unfold Ni;rw[BP];rfl
      rw[e];exact congrArg D.dict (RI (Ni ls W A) [])
noncomputable abbrev TT:=List (Nat×Value×List Nat×Option Nat)
noncomputable def Lk(L:TT):List (Str×D):=L.map λt=>(sg t.1,D.obj t.2.1)
noncomputable def Ia(way:BY)(ab:Option Nat):List (Str×D):=(S "way",.str (tx way))::(ab.toList.map λa=>(S "above",.str (sg a)))
noncomputable def HG(L:TT):Res:=wI (L.map λt=>(t.2.1,Ia t.2.2.1 t.2.2.2))
noncomputable def El(a:Nat):Nat:=a-32
noncomputable def DE:List Nat:=[9,10,13,38,60,62,34]
noncomputable def kN(A:A2)(x:Nat)(ab:Nat->Nat)(y:Nat):Int:=DW A (x,y)-DW A (x,ab y)
noncomputable def Je(A:A2)(x:Nat)(os:BY)(ab:Nat->Nat)(p:Nat×Nat):Bool:=
 decide (kN A x ab p.1=2)||(decide (kN A x ab p.1=1)&&(decide (DW A (x,p.1)%2=0) == !(os.drop p.2).contains x))
noncomputable def Il(A:A2)(x:Nat)(os:BY)(wx:BY)(ab:Nat->Nat)(t:Nat)(p:Nat×Nat):Nat:=
 if wx.contains p.1 then El p.1 else if Je A x os ab p then DE.getD ((p.2+t)%7) 0 else p.1
noncomputable def EB(A:A2)(x:Nat)(os:BY)(wx:BY)(ab:Nat->Nat)(t:Nat):List Nat:=os.zipIdx.map (Il A x os wx ab t)
theorem XE(l:BY)(x:Nat):D.L0 (l.map λa=>D.str (sg a)) (.str (sg x))=l.contains x:=by
 unfold D.L0;rw[List.any_map];induction l with
 |nil=>rfl
 |cons a l ih=>
  rw[List.any_cons,ih,List.contains_cons];show((D.str (sg a)).eqv (.str (sg x))||_)=_;rw[Hf];congr 1;by_cases h:a=x
  .simp [h]
  .rw [decide_eq_false h];symm;simpa using λe:x=a=>h e.symm
theorem KB{l:BY}(h:∀a∈l,a<128):Gl 1 (.list (l.map λa=>D.str (sg a))):=.list λd hd=>by
 refine Bh (AF.mp hd) ?_;rintro a ha rfl;exact .str (DS (h a ha))
theorem Bg.V5{x:Nat}{os:BY}(a:Ev c J l (.str (sg x)))(b:Ev c J r (.list (os.map λa=>.str (sg a))))(hx:x<128)(ho:∀a∈os,a<128)(hm:autoParam (behindInMarks .NotIn r=false) Dy):Bg c J l .NotIn r (!os.contains x):=
 (Bg.bY (n:=0) a b (.str (DS hx)) (KB ho) (by decide) hm).eq (by rw[XE])
theorem Kh(a b:Bool):(D.bool a).eqv (.bool b)=(a==b):=by
 show PyData.eqv (.bool a) (.bool b)=_;rw[PyData.eqv]
theorem Bg.tA{a b:Bool}(x:Ev c J l (.bool a))(y:Ev c J r (.bool b))(hm:autoParam (behindInMarks .Eq r=false) Dy):Bg c J l .Eq r (a==b):=
 (Bg.UA (n:=0) (m:=0) x y .bool .bool (by decide) hm).eq (Kh a b)
theorem Bg.qR{a:Nat}(x:Ev c J l (.str (sg a)))(y:Ev c J r (.str (tx cs)))(hm:autoParam (behindInMarks .In r=false) Dy):Bg c J l .In r (cs.contains a):=
 (Bg.nQ x y hm).eq (JV cs a)
theorem Pb:∀a∈[98,99,100,101,102],Txt.upper (sg a)=sg (El a):=by decide +kernel
theorem MT:B9 290 (BZ 29) (S "_law_address") 289 .none CX:=⟨λP=>rfl,λP=>⟨_,_,_,rfl,rfl,rfl⟩,rfl,rfl,rfl⟩
theorem N8{L:TT}{y:Nat}{wy:BY}{a:Option Nat}(h:L.lookup y=some (v,wy,a)):(Lk L).lookup (sg y)=some (.obj v):=by
 unfold Lk;rw[FH sg (λV V=>Eh) (λt:Value×List Nat×Option Nat=>D.obj t.1) y L,h];rfl
theorem PZ{hp:Heap}{L:TT}{y:Nat}{wy:BY}{a:Option Nat}(h:L.lookup y=some (v,wy,a))(g:(HG L).P w X hp):OG w X hp v (Ia wy a):=
 g _ (AF.mpr ⟨_,lookup_mem h,rfl⟩)
theorem VG(w:World)(k:Nat)(x:Nat)(os:BY)(L:TT)(A:A2)(t:Nat)(wx:BY)(ab:Nat->Nat)(ax:Option Nat)(vx:Value)(h5:os.length<=10)(hx:x<128)(Nb:∀a∈os,a∈[98,99,100,101,102])(pk:L.lookup x=some (vx,wx,ax))(hL:∀y∈os,∃v wy,L.lookup y=some (v,wy,some (ab y)))(hA:∀y∈os,EC A (x,y)/\EC A (x,ab y))(ht:t<7) :
  CS w 290 (k+1) (HG L) [.str (sg x),.list (os.map λa=>.str (sg a)),.dict (Lk L),.dict (dI A),.int (t:Nat)] (.str (tx (EB A x os wx ab t))) (HG L):=by
 refine Kt MT (names:=[S "x",S "order",S "things",S "lacks",S "turn"]) (λvs e=>?_) rfl (.of (by decide +kernel)) λc X h0 F=>?_
 .refine iP (gz e) ?_;rintro v1 v2 v3 v4 v5 rfl;rfl
 .have E:=F.env;have oE:∀a∈os,a<128:=λa ha=>by
   have:=Nb a ha;simp only[AJ,An,or_false]at this;lia
  let base:List (Str×D):=[(S "x",.str (sg x)),(S "order",.list (os.map λa=>.str (sg a))),(S "things",.dict (Lk L)),(S "lacks",.dict (dI A)),(S "turn",.int (t:Nat))]
  refine Bd.step (J':=[(S "signs",.str (tx [])),(S "x",.str (sg x)),(S "order",.list (os.map λa=>.str (sg a))),(S "things",.dict (Lk L)),(S "lacks",.dict (dI A)),(S "turn",.int (t:Nat))]) (Ex.sn (d:=.str (tx [])) (Ev.eq Ev.cStr (congrArg D.str (by decide +kernel)))) ?_;refine Bd.cons (Ex.for (ds:=(os.zipIdx).map λp=>.tup [.int (p.2:Nat),.str (sg p.1)]) E.ro (λV=>c.G) (λi=>[(S "signs",.str (tx ((EB A x os wx ab t).take i))),(S "x",.str (sg x)),(S "order",.list (os.map λa=>.str (sg a))),(S "things",.dict (Lk L)),(S "lacks",.dict (dI A)),(S "turn",.int (t:Nat))]) rfl rfl
   (Ba.eq (Ba.enum Ev.b Ev.n) (Fw _ _)) (λi d hd X1 T hX=>?_)) ?_
  .rw [AL,AS]at hd;refine Bh hd ?_;clear hd;rintro Cq hz rfl;obtain⟨y,kk⟩:=Cq;refine FO (mem_zipIdx (AQ hz)) ?_;intro m1 m2 m3;have hk:kk=i:=by
    rw[List.getElem?_zipIdx]at hz;cases hc:os[i]? with
    |none=>rw[hc]at hz;cases hz
    |some q=>rw[hc]at hz;simp at hz;(clear m1;lia)
   subst hk;dsimp only at m1 m2 m3;refine MB (hL y m2) ?_;intro v wy pq;have E1:Bi (c.on X1 (c.G.star T)) w (BX (BZ 29)) k:=E.on;have fq:∀ {v wy a y},L.lookup y=some (v,wy,a)->∀X' h',(c.on X1 (c.G.star T)).G.P (c.on X1 (c.G.star T)).w X' h'->OG (c.on X1 (c.G.star T)).w X' h' v (Ia wy a):=λhl X' h' z=>by
    have z1:c.G.P c.w X' h':=z.1;rw[F.hG]at z1;exact PZ hl z1
   let up:=kN A x ab y;let st:=Je A x os ab (y,kk);let R0:List (Str×D):=[(S "signs",.str (tx ((EB A x os wx ab t).take kk))),(S "x",.str (sg x)),(S "order",.list (os.map λa=>.str (sg a))),(S "things",.dict (Lk L)),(S "lacks",.dict (dI A)),(S "turn",.int (t:Nat))]
   refine⟨(S "y",.str (sg y))::(S "k",.int (kk:Nat))::R0,Bind.tup (.cons Bind.n (.cons Bind.n .nil)),?_⟩;refine Bd.step (J':=(S "lack",.int (DW A (x,y)))::(S "y",.str (sg y))::(S "k",.int (kk:Nat))::R0) (Ex.sn (d:=.int (DW A (x,y))) (Ev.CQ Ev.n (Ev.Ly Ev.n Ev.n) (He (hA y m2).1))) ?_;refine Bd.step (J':=(S "up",.int up)::(S "lack",.int (DW A (x,y)))::(S "y",.str (sg y))::(S "k",.int (kk:Nat))::R0) (Ex.sn (d:=.int up) (Ev.Lh Ev.n (Ev.CQ Ev.n (Ev.Ly Ev.n (Ev.CQ (es:=Ia wy (some (ab y))) (Ev.Ps (fq pq) (Ev.CQ Ev.n Ev.n (N8 pq))) Ev.cStr (by rfl))) (He (hA y m2).2)))) ?_;refine Bd.step (J':=(S "star",.bool st)::(S "up",.int up)::(S "lack",.int (DW A (x,y)))::(S "y",.str (sg y))::(S "k",.int (kk:Nat))::R0) (Ex.sn (d:=.bool st) (Ev.oP (Ev.cmp (Bg.dA Ev.n Ev.cInt)) λV=>Ev.Y8 (Ev.cmp (Bg.dA Ev.n Ev.cInt)) λV=>Ev.cmp (Bg.tA (Ev.cmp (Bg.dA (Ev.MA Ev.n Ev.cInt (by decide)) Ev.cInt)) (Ev.cmp (Bg.V5 Ev.n (Ev.eq (Ev.EH Ev.n (Part.int Ev.n) Part.no ?_) ?_) hx λa ha=>oE a (Aj ha)))))) ?_
   .rw [AA];exact lb h5 rfl
   .rw [Di,List.map_drop]
   .have Mb:(EB A x os wx ab t).take (kk+1)=(EB A x os wx ab t).take kk++[Il A x os wx ab t (y,kk)]:=by
     rw[A3];congr 1;unfold EB;rw[AL,hz];rfl
    refine Bd.step (J':=(S "signs",.str (tx ((EB A x os wx ab t).take (kk+1))))::(S "star",.bool st)::(S "up",.int up)::(S "lack",.int (DW A (x,y)))::(S "y",.str (sg y))::(S "k",.int (kk:Nat))::R0.drop 1) (Ex.lF (a:=tx ((EB A x os wx ab t).take kk)) (b:=sg (Il A x os wx ab t (y,kk))) (lookup_mem (by rfl)) ?_ (E1.name (.inl rfl)) (DF.of ?_) ?_) ?_
    .refine Ev.eq (Ev.Gz (d:=.str (sg (El y))) (CK.cmp (Bg.qR (cs:=wx) Ev.n (Ev.CQ (es:=Ia wx ax) (Ev.Ps (fq pk) (Ev.CQ Ev.n Ev.n (N8 pk))) Ev.cStr (by rfl)))) (λV=>Ev.eq (Ev.upper Ev.n (AE rfl)) ?_) λV=>Ev.Gz (d:=.str (sg (DE.getD ((kk+t)%7) 0))) (CK.val (d:=.bool st) Ev.n trivial) (λV=>Ev.Ol (cs:=DE) (i:=(kk+t)%7) (Ev.eq Ev.cStr (congrArg D.str (by decide +kernel))) (Ev.eq (Ev.MA (Ev.Ij Ev.n Ev.n) Ev.cInt (by decide)) ?_) ?_ (by decide) (by decide)) λV=>Ev.n) ?_
     .exact congrArg D.str (Pb y (Nb y m2))
     .congr 1
     .have hm:(kk+t)%7<DE.length:=Nat.mod_lt _ (by decide);exact getD_some _ hm
     .unfold Il;dsimp only;have e1:(D.bool st).Ll=Je A x os ab (y,kk):=rfl;rw[e1];cases wx.contains y
      .cases Je A x os ab (y,kk)<;>rfl
      .rfl
    .have e2:tx ((EB A x os wx ab t).take kk)++sg (Il A x os wx ab t (y,kk))=tx ((EB A x os wx ab t).take (kk+1)):=by
      rw[Mb,iw,Wq]
     rw[e2];rfl
    .rw [DX];have:=List.length_take_le kk (EB A x os wx ab t);show _+1<=_;omega
    .refine Bd.nil (Bd.done λh Fh=>⟨X1,hX,?_⟩);exact Fh.sub (Fn [0,6,7,8,9,10] rfl)
  .intro h2 Du;refine Bh Du ?_;intro X2 Hi F2;have hl:((os.zipIdx).map λp=>D.tup [.int (p.2:Nat),.str (sg p.1)]).length=(EB A x os wx ab t).length:=by unfold EB;rw[AA,AA]
   rw[hl,BF]at F2;refine⟨c.on X2 c.G,_,⟨rfl,rfl,rfl⟩,F2,?_⟩;refine Bd.ret (λs' F' Q E' n r=>wpAny_Return_some ((Ev.n (d:=.str (tx (EB A x os wx ab t)))) s' F' _ _ λv h3 t3 l3 r3=>r v h3 t3 ?_));have F3:=F'.le l3;exact⟨r3.move (Cc Hi),F3.old,F3.base,by have:=F3.g;rw[show(c.on X2 c.G).G=HG L from F.hG]at this;exact Res.CC this Hi⟩
theorem NI(L:List α)(i:Nat):cut L none (some (i:Int))=L.take i:=by
 unfold cut;show(L.drop 0).take (clipAt L.length i-0)=_;rw[clipAt_nat,List.drop_zero,Nat.sub_zero];by_cases hi:i<=L.length
 .rw [Nat.min_eq_left hi]
 .rw [Nat.min_eq_right (by exact Nat.le_of_not_ge hi),BF,List.take_of_length_le (by exact Nat.le_of_not_ge hi)]
noncomputable def Df(cs:BY):List Nat:=(List.replicate 20 cs).flatten
theorem Vz(cs:BY):Txt.mul (tx cs) 20=tx (Df cs):=by
 unfold Txt.mul;rw[if_neg (by decide)];have key:∀(n:Nat) (acc:Array Nat),((List.replicate n cs.toArray).foldl (·++·) acc)=acc++(List.replicate n cs).flatten.toArray:=λn=>by
  induction n with
  |zero=>intro acc;simp
  |succ n ih=>intro acc;rw[List.replicate_succ,As,ih,List.replicate_succ,List.flatten_cons];simp[Array.append_assoc]
 by_cases h:cs=[]
 .subst h;rw[if_pos (by decide)];show tx []=tx (Df []);congr 1
 .rw [if_neg (by rw[DX];simpa using h)];show(⟨(List.replicate 20 cs.toArray).foldl (·++·) #[]⟩:Str)=_;rw[key];unfold tx Df;simp
theorem Te(cs:BY):(Df cs).length=20*cs.length:=by
 unfold Df;generalize 20=n;induction n with
 |zero=>simp
 |succ n ih=>rw[List.replicate_succ,List.flatten_cons,Ac,ih,Nat.succ_mul,Nat.add_comm]
theorem Tf{a:Nat}(ha:a∈Df cs):a∈cs:=by
 unfold Df at ha;refine Bh (List.mem_flatten.mp ha) ?_;intro l hl ha;rw[List.eq_of_mem_replicate hl]at ha;exact ha
noncomputable def GP(a:Nat):Bool:=Txt.isalpha (sg a)
noncomputable def bP(a b:BY):Nat:=((List.zip a b).filter λq=>GP q.1 != GP q.2).length
noncomputable abbrev P2:=List (Nat×List Str)
noncomputable def dP(P:P2):List (Str×D):=P.map λp=>(sg p.1,.list (p.2.map .str))
noncomputable def Cy(P:P2)(x:Nat):List Str:=(P.lookup x).getD []
theorem GU{β:Type}{W:List (Nat×β)}{x:Nat}(h:x∈W.map (·.1)):∃v,W.lookup x=some v:=by
 induction W with
 |nil=>cases h
 |cons p W ih=>
  obtain⟨a,b⟩:=p;rw[AK];by_cases e:x=a
  .rw [e,beq_self_eq_true];exact⟨b,rfl⟩
  .rw [show(x==a)=false by simpa using e];rcases AJ.mp h with h|h
   .exact absurd h e
   .exact ih h
theorem EO{P:P2}{x:Nat}(h:x∈P.map (·.1)):(dP P).lookup (sg x)=some (.list ((Cy P x).map .str)):=by
 unfold dP;rw[FH sg (λV V=>Eh) (λw:List Str=>D.list (w.map .str)) x P];refine B5 (GU h) ?_;intro v e;rw[Cy,e];rfl
noncomputable def EP(A:A2)(G:W2)(x y:Nat):Int:=DW A (x,y)+2*(bP (Bn G x) (Bn G y):Nat)
noncomputable def Dm(P:P2)(x:Nat)(k:Nat):List Str:=(Cy P x).take (k-1)++(Cy P x).drop k
noncomputable def Ds(A:A2)(G:W2)(x y:Nat)(k:Nat):Int:=if GP ((Bn G x).getD (k-1) 0)=true then EP A G x y+1 else EP A G x y
theorem Bg.vB{a b:Int}(x:Ev c J l (.int a))(y:Ev c J r (.int b))(hm:autoParam (behindInMarks .NotEq r=false) Dy):Bg c J l .NotEq r (!decide (a=b)):=
 (Bg.W7 (n:=0) (m:=0) x y .int .int (by decide) hm).eq (by rw[RK])
theorem Bg.u9{a b:Bool}(x:Ev c J l (.bool a))(y:Ev c J r (.bool b))(hm:autoParam (behindInMarks .NotEq r=false) Dy):Bg c J l .NotEq r (a != b):=
 (Bg.W7 (n:=0) (m:=0) x y .bool .bool (by decide) hm).eq (by rw[Kh];rfl)
theorem OT:B9 300 (BZ 31) (S "_law_prices") 299 .none CX:=⟨λP=>rfl,λP=>⟨_,_,_,rfl,rfl,rfl⟩,rfl,rfl,rfl⟩
structure M4(A:A2)(G:W2)(P:P2)(hd:Nat)(k y x:Nat):Prop where
 small:0<=EP A G x y/\EP A G x y<29
 p1:Jp (Bn G x) (Bn G y) (EP A G x y)=EP A G x y
 p2:Go (Cy P y) (Dm P x k) (Ds A G x y k)=Ds A G x y k
 q1:x=hd->EP A G x y<=Jp (Bn G y) (Bn G x) (EP A G x y-1)
 q2:x=hd->2<=Go (Dm P x k) (Cy P y) 1
 q3:x=hd->Jp (Df (Bn G x)) (Df (Bn G y)) 200=201
theorem Xt(w:World)(kk:Nat)(ls:BY)(hd:Nat)(A:A2)(G:W2)(P:P2)(h5:ls.length<=10)(Nb:∀a∈ls,a<128)(f5:ls.head? = some hd)(hG:∀x∈ls,x∈G.map (·.1))(hP:∀x∈ls,x∈P.map (·.1))(hA:∀x∈ls,∀y∈ls,EC A (x,y))(ph:∀x∈ls,(Bn G x).length+1=ls.length/\∀a∈Bn G x,a∈By)(pw:∀x∈ls,(Cy P x).length<=100/\∀a∈Cy P x,FD a)(nD:∀k y,ls[k]? = some y->∀x∈ls.take k,M4 A G P hd k y x) :
  C9 w 300 (kk+3) [.list (ls.map λa=>.str (sg a)),.dict (dW G),.dict (dP P),.dict (dI A)] (.bool true):=by
 refine Ed OT (names:=[S "line",S "signs",S "pieces",S "steps"]) (λvs e=>?_) rfl (.of (by decide +kernel)) λc X h0 F=>?_
 .refine qy (gw e) ?_;rintro v1 v2 v3 v4 rfl;rfl
 .have E:=F.env;let R0:List (Str×D):=[(S "line",.list (ls.map λa=>.str (sg a))),(S "signs",.dict (dW G)),(S "pieces",.dict (dP P)),(S "steps",.dict (dI A))]
  refine Bd.cons (Ex.for (ds:=(ls.zipIdx).map λp=>.tup [.int (p.2:Nat),.str (sg p.1)]) E.ro (λV=>c.G) (λi=>R0) rfl rfl (Ba.eq (Ba.enum Ev.b Ev.n) (Fw _ _)) (λi d Xx X1 T hX=>?_)) ?_
  .rw [AL,AS]at Xx;refine Bh Xx ?_;clear Xx;rintro Cq hz rfl;obtain⟨y,k⟩:=Cq;refine FO (mem_zipIdx (AQ hz)) ?_;intro m1 m2 m3;dsimp only at m1 m2 m3;have E1:Bi (c.on X1 (c.G.star T)) w (BX (BZ 31)) (kk+2):=E.on;refine⟨(S "y",.str (sg y))::(S "k",.int (k:Nat))::R0,Bind.tup (.cons Bind.n (.cons Bind.n .nil)),?_⟩;refine Bd.cons (Ex.for (ds:=(ls.take k).map λa=>.str (sg a)) E1.ro (λV=>c.G.star T) (λi=>(S "y",.str (sg y))::(S "k",.int (k:Nat))::R0) rfl rfl (Ba.list (Ev.eq (Ev.EH Ev.n Part.no (Part.int Ev.n) ?_) ?_)) (λj d hj X2 T2 Hi=>?_)) ?_
   .rw [AA];exact lb h5 rfl
   .rw [NI,List.map_take]
   .rw [AL,AS]at hj;refine Bh hj ?_;clear hj;rintro x uW rfl;have mx:=AQ uW;have V0:=Ay mx;have PO:=nD k y m3 x mx;have E2:Bi ((c.on X1 (c.G.star T)).on X2 ((c.G.star T).star T2)) w (BX (BZ 31)) (kk+2):=E.on;refine CB (ph x V0) ?_;intro ae dB;refine CB (ph y m2) ?_;intro fj jh;refine CB (pw x V0) ?_;intro b7 rD;refine CB (pw y m2) ?_;intro oT kE;have k1:1<=k:=by
     have:=List.length_pos_of_mem mx;rw[Ae]at this;exact Ai this (BU _ _)
    let pr:=EP A G x y;refine⟨(S "x",.str (sg x))::(S "y",.str (sg y))::(S "k",.int (k:Nat))::R0,Bind.n,?_⟩;refine Bd.step (J':=(S "price",.int pr)::(S "x",.str (sg x))::(S "y",.str (sg y))::(S "k",.int (k:Nat))::R0) (Ex.sn (d:=.int pr) (Ev.Ij (Ev.CQ Ev.n (Ev.Ly Ev.n Ev.n) (He (hA x V0 y m2))) (Ev.TS Ev.cInt (Ev.YK Ev.b (CE.ev (CE.C0 (List.zip (Bn G x) (Bn G y)) B7 (λq=>GP q.1 != GP q.2) (λq=>.int 1) (J0:=[]) E2.co
     (Ba.eq (Ba.jN Ev.b (Ev.CQ Ev.n Ev.n (CM (hG x V0))) (Ev.CQ Ev.n Ev.n (CM (hG y m2))) (λa ha=>Dn a (dB a ha)) (λa ha=>Dn a (jh a ha)) (Nat.succ.inj (ae.trans fj.symm))) ?_)
     (λq=>[(S "b",.str (sg q.2)),(S "a",.str (sg q.1))]) (λV V h=>by cases h) (λV V V ig=>Bind.tup (.cons Bind.n (.cons Bind.n .nil))) (λq V V ig=>CL.one (CK.cmp (Bg.u9 (Ev.isalpha Ev.n) (Ev.isalpha Ev.n)))) (λV V V V ig=>Ev.cInt) ?_)) ?_) (by decide)))) ?_
    .unfold Q5;rw[List.map_zipWith,List.zip_eq_zipWith,List.map_zipWith];rfl
    .rw [List.length_zip];exact AD (BU _ _) (YJ ae h5 rfl)
    .refine AD (AV _ _) ?_;rw[List.length_zip];exact AD (BU _ _) (YJ ae h5 rfl)
    .refine Bd.step (J':=(S "short",.list ((Dm P x k).map .str))::(S "more",.int (Ds A G x y k))::(S "price",.int pr)::(S "x",.str (sg x))::(S "y",.str (sg y))::(S "k",.int (k:Nat))::R0)
      (Ex.SK (n1:=S "short") (n2:=S "more") (d1:=.list ((Dm P x k).map .str)) (d2:=.int (Ds A G x y k)) (J1:=(S "more",.int (Ds A G x y k))::(S "price",.int pr)::(S "x",.str (sg x))::(S "y",.str (sg y))::(S "k",.int (k:Nat))::R0) ?_ ⟨by decide,by decide⟩ ⟨by decide,by decide⟩ (E2.name (.inl rfl)) (E2.name (.inl rfl)) (DF.of (by rfl)) (DF.of (by rfl)) ?_) ?_
     .refine Ev.tp (.cons (Ev.eq (Ev.d8 (a:=((Cy P x).take (k-1)).map .str) (b:=((Cy P x).drop k).map .str) (Ev.eq (Ev.EH (ku:=some ((k-1:Nat):Int)) (Ev.CQ Ev.n Ev.n (EO (hP x V0))) Part.no (Part.int (Ev.eq (Ev.Lh Ev.n Ev.cInt) ?_)) ?_) ?_) (Ev.eq (Ev.EH (Ev.CQ Ev.n Ev.n (EO (hP x V0))) (Part.int Ev.n) Part.no ?_) ?_) ?_) ?_)
       (.cons (Ev.eq (Ev.Gz (d:=.int (pr+1)) (d':=.int pr) (CK.val (d:=.bool (GP ((Bn G x).getD (k-1) 0))) (Ev.isalpha (Ev.Ol (i:=k-1) (Ev.CQ Ev.n Ev.n (CM (hG x V0))) (Ev.eq (Ev.Lh Ev.n Ev.cInt) ?_) ?_ ?_ ?_)) trivial) (λV=>Ev.Ij Ev.n Ev.cInt) λV=>Ev.n) ?_) .nil))
      .congr 1;exact(Int.ofNat_sub k1).symm
      .rw [AA];exact lb b7 rfl
      .rw [NI,List.map_take]
      .rw [AA];exact lb b7 rfl
      .rw [Di,List.map_drop]
      .rw [AA,AA,Ae,AM];exact gp (AD (A9 _ _) b7) (AD (BN _ _) b7) rfl
      .unfold Dm;rw[Af]
      .congr 1;exact(Int.ofNat_sub k1).symm
      .exact getD_some _ (by(clear fj b7 oT;omega))
      .exact YJ ae h5 rfl
      .exact λa ha=>Dn a (dB a ha)
      .unfold Ds;cases hb:GP ((Bn G x).getD (k-1) 0)<;>rfl
     .unfold swappedStores Env.blockKind Env.kindOf;rw[E2.hs];rfl
     .have hw:=F.hw;have wW:∀a∈Bn G x,a∈By:=dB;have kD:∀ {l:B1},(∀a∈l,FD a)->om.ok l:=λh a ha=>(h a ha).1;have jf:∀a∈Dm P x k,FD a:=λa ha=>by
       unfold Dm at ha;rcases Ar.mp ha with h|h
       .exact rD a (Ay h)
       .exact rD a (Aj h)
      have qh:(Dm P x k).length<=1000:=by unfold Dm;rw[Ac,Ae,AM];exact gp (AD (A9 _ _) b7) (AD (BN _ _) b7) rfl
      have ps:=PO.small;have ms:0<=Ds A G x y k/\Ds A G x y k<30:=by unfold Ds;split<;>lia
      have g1:C9 c.w 45 (kk+2) [.str (tx (Bn G x)),.str (tx (Bn G y)),.int pr] (.int pr):=by
       have:=RY c.w kk (a:=Bn G x) (b:=Bn G y) (m:=pr) dB jh (YJ ae h5 rfl) (YJ fj h5 rfl) (by omega);rwa [PO.p1]at this
      have g2:C9 c.w 45 (kk+2) [.list ((Cy P y).map .str),.list ((Dm P x k).map .str),.int (Ds A G x y k)] (.int (Ds A G x y k)):=by
       have:=aW om c.w kk (a:=Cy P y) (b:=Dm P x k) (m:=Ds A G x y k) (kD kE) (kD jf) (lb oT rfl) qh kE jf (ur ms rfl);rwa [PO.p2]at this
      have lk:kk+2<=c.k:=by rw[F.hk];exact Ad _
      let R1:List (Str×D):=(S "short",.list ((Dm P x k).map .str))::(S "more",.int (Ds A G x y k))::(S "price",.int pr)::(S "x",.str (sg x))::(S "y",.str (sg y))::(S "k",.int (k:Nat))::R0;refine Bd.step (J':=(S "told",.list ([pr,Ds A G x y k].map .int))::R1) (Ex.sn (d:=.list ([pr,Ds A G x y k].map .int)) (Ev.ls (.cons (Ev.FV (fa:=45) (k:=kk+2) (ds:=[.str (tx (Bn G x)),.str (tx (Bn G y)),.int pr]) Ev.g (.cons (Ev.CQ Ev.n Ev.n (CM (hG x V0))) (.cons (Ev.CQ Ev.n Ev.n (CM (hG y m2))) (.cons Ev.n .nil))) g1 lk ⟨_,_,_,_,_,Km⟩)
       (.cons (Ev.FV (fa:=45) (k:=kk+2) (ds:=[.list ((Cy P y).map .str),.list ((Dm P x k).map .str),.int (Ds A G x y k)]) Ev.g (.cons (Ev.CQ Ev.n Ev.n (EO (hP y m2))) (.cons Ev.n (.cons Ev.n .nil))) g2 lk ⟨_,_,_,_,_,Km⟩) .nil)))) ?_
      have rI:∀i∈[pr,Ds A G x y k],0<=i/\i<30:=λi hi=>by
       refine Sa hi ?_ ?_
       .omega
       .exact ms
      refine Bd.if (CK.cmp (Bg.V2 (t:=Qt [pr,Ds A G x y k]) (Ev.Yr (is:=[pr,Ds A G x y k]) Ev.b Ev.n rI (AE rfl)) (Ev.Yr (is:=[pr,Ds A G x y k]) Ev.b (Ev.ls (.cons Ev.n (.cons Ev.n .nil))) rI (AE rfl)))) (λh=>by cases h) λV=>Bd.nil ?_
      have Gx:(ls.map λa=>D.str (sg a))[(0:Int).toNat]? = some (.str (sg hd)):=by
       rw[AL];cases ls with
       |nil=>cases f5
       |cons a l=>cases f5;rfl
      have tj:hd<128:=Nb hd (List.mem_of_mem_head? f5);refine Bd.if (b:=false) (CK.eq (CK.Zt (a:=decide (x=hd)) (b:=false) (CK.cmp (Bg.lh Ev.n (Ev.FG (i:=0) Ev.n Ev.cInt (by decide) Gx (by rw[AA];exact lb h5 rfl)) (Nb x V0) tj)) λhx=>CK.boolOp (b:=false) ?_) (by rw[Bool.and_false])) (λh=>by cases h) λV=>Bd.nil (Bd.nil (Bd.done λh Fh=>⟨X2,Hi,?_⟩))
      .have QN:=of_decide_eq_true hx;have g3:=RY c.w kk (a:=Bn G y) (b:=Bn G x) (m:=pr-1) jh dB (YJ fj h5 rfl) (YJ ae h5 rfl) (by omega);have g4:=aW om c.w kk (a:=Dm P x k) (b:=Cy P y) (m:=1) (kD jf) (kD kE) qh (lb oT rfl) jf kE (by decide);have qY:=Te;have qj:∀ {cs:BY}{a:Nat},a∈Df cs->a∈cs:=λh=>Tf h;have g5:=RY c.w kk (a:=Df (Bn G x)) (b:=Df (Bn G y)) (m:=200) (λa ha=>dB a (qj ha)) (λa ha=>jh a (qj ha)) (by rw[qY];exact hO (YJ (c:=9) ae h5 rfl) rfl) (by rw[qY];exact hO (YJ (c:=9) fj h5 rfl) rfl) (by decide);rw[PO.q3 QN]at g5;refine Ha.LO (a:=false) (b:=false) (CK.eq (CK.cmp (Bg.ltI (Ev.FV (fa:=45) (k:=kk+2) (ds:=[.str (tx (Bn G y)),.str (tx (Bn G x)),.int (pr-1)]) Ev.g (.cons (Ev.CQ Ev.n Ev.n (CM (hG y m2))) (.cons (Ev.CQ Ev.n Ev.n (CM (hG x V0))) (.cons (Ev.Lh Ev.n Ev.cInt) .nil))) g3 lk ⟨_,_,_,_,_,Km⟩) Ev.n)) ?_) λV=>
        Ha.LO (a:=false) (b:=false) (CK.eq (CK.cmp (Bg.ltI (Ev.FV (fa:=45) (k:=kk+2) (ds:=[.list ((Dm P x k).map .str),.list ((Cy P y).map .str),.int 1]) Ev.g (.cons Ev.n (.cons (Ev.CQ Ev.n Ev.n (EO (hP y m2))) (.cons Ev.cInt .nil))) g4 lk ⟨_,_,_,_,_,Km⟩) Ev.cInt)) ?_) λV=>
        Ha.LO (a:=false) (b:=false) (CK.eq (CK.cmp (Bg.vB (Ev.FV (fa:=45) (k:=kk+2) (ds:=[.str (tx (Df (Bn G x))),.str (tx (Df (Bn G y))),.int 200]) Ev.g (.cons (Ev.eq (Ev.bR (Ev.CQ Ev.n Ev.n (CM (hG x V0))) Ev.cInt ?_) ?_) (.cons (Ev.eq (Ev.bR (Ev.CQ Ev.n Ev.n (CM (hG y m2))) Ev.cInt ?_) ?_) (.cons Ev.cInt .nil))) g5 lk ⟨_,_,_,_,_,Km⟩) Ev.cInt)) ?_) λV=>Ha.Zf
       .have:=PO.q1 QN;exact decide_eq_false (by show ¬Jp (Bn G y) (Bn G x) (EP A G x y-1)<EP A G x y;omega)
       .have:=PO.q2 QN;exact decide_eq_false (by omega)
       .rw [DX];omega
       .rw [Vz]
       .rw [DX];omega
       .rw [Vz]
       .rfl
      .exact Fh.sub λp hp=>.tail _ (.tail _ (.tail _ (.tail _ (.tail _ hp))))
   .intro h2 Du;refine Bh Du ?_;intro X3 ZN F3;refine⟨c.on X3 (c.G.star T),_,⟨rfl,rfl,rfl⟩,F3,Bd.nil (Bd.done λh Fh=>⟨X3,λb z=>ZN b (hX b z),?_⟩)⟩;exact Fh.sub λp hp=>.tail _ (.tail _ hp)
  .intro h2 HU;refine Bh HU ?_;intro X2 Hi F2;exact⟨c.on X2 c.G,_,⟨rfl,rfl,rfl⟩,F2,Bd.imp (Bd.ret (Ex.ret Ev.cBool)) (λV z=>z) λv h z=>HR.on Hi z⟩
section
open PySem.Builtin PySem.Builtin.Re
noncomputable def IX:Array Nat:=#[14,14,4,1,1,9,4294966783,0,0,2147483648,0,0,0,0,0,13,11,9,4294966783,0,0,2147483648,0,0,0,0,0,1]
theorem Qr:∀a∈Bp,((PySem.Sre.forSearch IX #[a] 0 0 1 false).runFor 4).outcome=some .failed:=by
 intro a ha;simp only[Bp,AJ,An,or_false]at ha;rcases ha with rfl|rfl|rfl|rfl|rfl|rfl|rfl|rfl|rfl|rfl<;>kernel_rfl
theorem V9:PlainAttrs "re.Pattern":=⟨⟨"object.__getattribute__",by rw[Ap,builtinLookup_eq_fast];kernel_rfl,by decide +kernel⟩,by rw[Ap,builtinLookup_eq_fast];kernel_rfl⟩
theorem Ff:Slot "re.Pattern" "search" "re.Pattern.search":=
 .of (owner:="re.Pattern") (n:="search") (by rw[Ap,builtinLookup_eq_fast];kernel_rfl) (by decide +kernel) (by decide +kernel) (by decide +kernel)
  (by first|exact .inl (by decide +kernel)|exact .inr (by decide +kernel)) (by rw[isSubtype_type];kernel_rfl)
theorem Jg:typeOf (.builtin "re.Pattern.search")=pure (.type "method_descriptor"):=by rw[builtinType_eq_fast];kernel_rfl
theorem H3:entryFor table "re.Pattern.search"=some Builtin.«re.Pattern.search»:=entryFor_of_tree (by kernel_rfl)
theorem JS(a b:Value):argsOk "re.Pattern.search" ⟨[a,b],[]⟩:=by kernel_rfl
section
variable {w:World}{A:Around}{E:CG}{s:Shared}
theorem MG{a:Nat}{t:Tok}{ot:Obj}(ha:a∈Bp)(h1:s.heap.get? 60=some {cls:=.type "re.Pattern",data:=.fields #[(.str (Str.ofString "[\\x00-\\x08\\x0A-\\x1F\\x7F]") 381:Value),(.int 32 412:Value),(.int 0 0:Value),(.none:Value),(.none:Value),(.ref 59:Value),(.int 0 0:Value)]})(h2:s.heap.get? 59=some ot)(h3:ot.data=.seq (IX.map λn:Nat=>Value.int n 0) 0)(q0:Q .none s) :
  wpAny (model prog w) A (Builtin.«re.Pattern.search» ⟨[.ref 60,.str (sg a) t],[]⟩) (λfin s'=>∃v,fin=.done (.ret v)/\Q v s') E s:=by
 have tg:wpAny (model prog w) A (reTarget "re.Pattern.search" "search" ⟨[.ref 60,.str (sg a) t],[]⟩) (λr s'=>r={pattern:=.ref 60,string:=.str (sg a) t,code:=IX,text:=#[a],kind:=0,groups:=0,pos:=0,lim:=1}/\s'=s) E s:=by
  obtain⟨h,g,d,tk,os⟩:=s;have hn:reNamed "re.Pattern.search" "search" ["string","pos","endpos"] 1 [.str (sg a) t] []=pure [some (.str (sg a) t),none,none]:=by kernel_rfl
  rw[hn];wp_walk;rw[h3];refine wpAny_pure (wpAny_pure (wpAny_pure ⟨?_,rfl⟩));have e1:((((some (IX.map λn:Nat=>Value.int n 0)).getD #[]).map reRawOf).map λi:Int=>i.toNat)=IX:=by decide +kernel
  have e2:min (Int.toNat (2^63-1)) (sg a).cps.size=1:=by show min (Int.toNat (2^63-1)) 1=1;decide
  have e3:min (Int.toNat 0) (sg a).cps.size=0:=Nat.zero_min _;rw[e1,e2,e3];rfl
 refine wpAny_bind (wpAny_mono tg (λr s' z=>?_) λV V z=>z);refine CB z ?_;clear z;rintro rfl rfl;refine wpAny_bind (Jd (.inl ⟨Qr a ha,wpAny_pure ⟨_,rfl,q0⟩⟩))
end
inductive Ig:Addr->Str->Prop
 |name {x:Str}:Dj x=false->1<=x.length->x.length<=1000000->Ig 55 x
 |val {a:Nat}:a∈Bp->Ig 60 (sg a)
theorem Ev.WQ{apos:Pos}{p:Addr}(hx:Ig p x)(a:Ev c J o (.obj (.ref p)))(y:Ev c J e (.str x))(he:autoParam (D8 c e []) Bc)(hb:autoParam (attributeBase o "search" c.env (eval o c.env)=eval o c.env) Bc)(Dv:autoParam (((backTo pos (starEach [e] c.env)).all (λx=>!x.1)&&(backToKw pos (keywordEach [] c.env)).all (λx=>x.1.isSome)
   && decide ([e].length+([]:List Keyword).length+(if([]:List Keyword).isEmpty then 0 else 1)<30))=true) Bc)(hl:autoParam (J6 apos pos) Bc):Ev c J (.Call (.Attribute o "search" apos) [e] [] pos) .none:=
 λs F Q E q=>wpAny_Call_method_lateS hb Dv hl (a s F _ _ λv h1 t1 l1 r1=>by
  cases r1;have F1:=F.le l1;have gC:∃ob,h1.get? p=some ob/\ob.cls=.type "re.Pattern"/\ob.dict=none:=by
   cases hx with
   |name=>exact⟨_,F1.base.k 55 _ rfl,rfl,rfl⟩
   |val=>exact⟨_,F1.base.k 60 _ rfl,rfl,rfl⟩
  refine EI gC ?_;clear gC;intro ob e1 e2 e3;refine⟨"re.Pattern","re.Pattern.search",V9,Ff,Jg,⟨ob,e1,e2⟩,(λa' e=>by cases e;exact⟨ob,e1,e3⟩),?_⟩;refine BI (wpAny_items_cons (y _ F1 _ _ λv h2 t2 l2 r2=>wpAny_items_nil ?_) he) he rfl;cases r2;have F2:=F1.le l2;have n0:∀b,b=p->b≠TP:=λb e=>by cases hx<;>(rw[e];decide)
  refine wpAny_call_entry Ff ⟨ob,Bt.keep l2 _ _ (n0 _ rfl) id e1,e2⟩ H3 ?_ (JS _ _);cases hx with
  |name h0 h1 h2=>exact HB (F2.base.k 55 _ rfl) (F2.base.k 54 _ rfl) (by kernel_rfl) h2 h1 (λV=>q _ _ _ (Bt.trans l1 l2) .none) (λh=>by rw[h0]at h;cases h)
  |val ha=>exact MG ha (F2.base.k 60 _ rfl) (F2.base.k 59 _ rfl) (by kernel_rfl) (q _ _ _ (Bt.trans l1 l2) .none))
end
noncomputable abbrev EE:Value:=.str (Str.ofString "cpy313.wsgiref.headers") 318
theorem D5:B9 90 (Bu 1) (S "Headers._convert_string_type") 89 .none EE:=⟨λP=>rfl,λP=>⟨_,_,_,rfl,rfl,rfl⟩,rfl,rfl,rfl⟩
theorem Ev.Zn{np:Pos}{t:Str}(f:Ev c J (.Name x np) (.obj (.type "type")))(y:Ev c J e (.str t))(he:autoParam (D8 c e []) Bc):Ev c J (.Call (.Name x np) [e] [] pos) (.obj (.type "str")):=
 .RD f (.cons y .nil he) (λvs s F r Q E q=>by
  refine Dt (Be.Bo r) ?_;rintro V V rfl a b;cases b;cases a;exact PySem.call_type_of (typeIs_str _ _ _) (by decide +kernel) (q _ s.heap s.toks (.refl _) (.obj _))) he
theorem Bg.isType{T:String}(x:Ev c J l (.obj (.type T)))(y:Ev c J r (.obj (.type T)))(hm:autoParam (behindInMarks .Is r=false) Dy):Bg c J l .Is r true:=
 Bg.of x y (λV V s F ra rb Q E q=>by
  cases ra;cases rb;exact wpAny_is_self rfl (q _ s.heap s.toks (.refl _) (.bool _))) hm
def CD(b:Bool)(x:Str):Prop:=Ig (if b then 55 else 60) x
theorem VH(w:World)(k:Nat)(b:Bool)(x:Str)(hx:CD b x)(A:Around)(X:CF)(s:Shared)(self:Value)(t:Tok)(ok:E7 (k+1) A)(B:CV w s.heap)(xk:FT X s.heap) :
  Run w A Hu (call (.ref 90) [self,.str x t] [(Str.ofString "name",.bool b)]) s λv h'=>B8 X w h' v (.str x):=by
 refine VB D5 ok B xk (G:=Res.emp) trivial (λV z=>z.elim) (names:=[S "self",S "value",S "name"]) (vs:=[self,.str x t,.bool b]) (ds:=[.obj self,.str x,.bool b]) (.cons (.obj _) (.cons (.str _ _) (.cons (.bool _) .nil))) (by rfl) rfl (.of (by decide +kernel)) λc F=>?_
 .have E:=F.env;have eZ:Bd c [(S "self",.obj self),(S "value",.str x),(S "name",.bool b)] [Br (Bu 1)] (λV=>False) (HR c (.str x)):=by
   refine Bd.if (CK.cmp (Bg.isType (Ev.Zn Ev.b Ev.n) Ev.b)) (λV=>?_) (λh=>by cases h)
   refine Bd.step (J':=[(S "regex",.obj (.ref (if b then 55 else 60))),(S "self",.obj self),(S "value",.str x),(S "name",.bool b)]) (Ex.sn (d:=.obj (.ref (if b then 55 else 60))) (Ev.eq (Ev.Gz (d:=.obj (.ref 55)) (d':=.obj (.ref 60)) (CK.val (d:=.bool b) Ev.n trivial) (λV=>Ev.g) λV=>Ev.g) (by cases b<;>rfl))) ?_;refine Bd.if (CK.val (d:=.none) (Ev.WQ hx Ev.n Ev.n) trivial) (λh=>by cases h) λV=>Bd.nil ?_
   exact Bd.ret (Ex.ret Ev.n)
  exact eZ.imp (λV z=>z.elim) λv h z=>F.ie z
noncomputable abbrev JH:Str:=Str.ofString "_headers"
noncomputable def Bq(rows:Ch):List D:=rows.map λp=>.tup [.str p.1,.str p.2]
noncomputable def Bb(x dx l:Addr)(rows:Ch):Res where
 fp:=λb=>b=x\/b=dx\/b=l
 P:=λw X h=>∃ox vs,h.get? x=some ox/\ox.cls=.ref 189/\notCls ox=true/\ox.dict=some dx/\(∃m,h.Ns1 dx m/\m JH=some (.ref l)/\∀n,n≠JH->m n=none)/\h.PlainList l vs.toArray/\Be X w h vs (Bq rows)/\x≠TP/\dx≠TP/\l≠TP
 mv:=by
  intro w X X' h h' H k;refine bb H ?_;clear H;intro ox vs h1 h2 h3 h4 Cq h7 h8 n1 n2 n3;refine Bh Cq ?_;intro m h5 h6;refine⟨ox,vs,(k x ox (.inl (.inl rfl)) n1 h1).1,h2,h3,h4,⟨m,IK h5 λo e=>(k dx o (.inl (.inr (.inl rfl))) n2 e).1,h6⟩,?_,?_,n1,n2,n3⟩
  .refine B5 h7 ?_;clear h7;intro n e;exact⟨n,(k l _ (.inl (.inr (.inr rfl))) n3 e).1⟩
  .exact h8.move λb o n t e=>by refine CB (k b o (.inr (.inl n)) t e) ?_;intro x y;exact⟨x,y n⟩
theorem Mg{o:Obj}(N:h.Ns1 a m)(e:h.get? a=some o)(name:Str):lookIn name o=some (m name):=by
 refine qx N ?_;clear N;intro o' es ep e' hd hk V hf;rw[e]at e';cases e';unfold lookIn;rw[hd];dsimp only;have f:=hf name;unfold nsFind findBy at f;rw[<- Array.find?_toList]at f;cases hq:es.toList.find? λe=>e.key.isStr name with
 |some en=>rw[hq]at f;dsimp only;rw[<- f];rfl
 |none=>
  rw[hq]at f;dsimp only;rw[if_neg,<- f];rfl;intro z;refine Bh (Aq.mp z) ?_;intro en ml hz;refine MB (hk en (by simpa using ml)) ?_;intro n t ek;unfold DictEntry.refKey at hz;rw[ek]at hz;cases hz
theorem IB{x dx l:Addr}{rows:Ch}(H:(Bb x dx l rows).P w X h):∃ox od,InstAt h x ox 189 (some od)/\lookIn JH od=some (some (.ref l))/\∀n,n≠JH->lookIn n od=some none:=by
 refine V6 H ?_;clear H;intro ox vs h1 h2 h3 h4 Du V;refine EI Du ?_;intro m h5 h6 h7;refine Js (id h5) ?_;intro od es ep e r;refine⟨ox,od,⟨h1,h2,h3,?_⟩,?_,λn hn=>?_⟩
 .rw [h4];exact e
 .rw [Mg h5 e,h6]
 .rw [Mg h5 e,h7 n hn]
theorem Pw(P:Params):findIn (Kx P) (.ref 189) "__getattribute__"=some (some (.builtin "object.__getattribute__")):=by kernel_rfl
theorem aB(P:Params):findIn (Kx P) (.ref 189) "__getattr__"=some none:=by kernel_rfl
theorem aC(P:Params):findIn (Kx P) (.ref 189) JH=some none:=by kernel_rfl
theorem Ko{P:Params}{od:Obj}(h:lookIn JH od=some (some v)):findObj (Kx P) 189 (some od) JH=some (.value v):=by
 unfold findObj;have hc:clsIn (Kx P) 189=some I9:=rfl;rw[hc,Option.bind_some,aC,Option.bind_some];show(PySem.W.ownOf I9 (some od) JH).bind _=_;have e:PySem.W.ownOf I9 (some od) JH=some (some v):=by
  unfold PySem.W.ownOf;exact(if_pos rfl).trans h
 rw[e];rfl
noncomputable def CI(x dx l:Addr)(rows:Ch):Res where
 fp:=λV=>False
 P:=λw X h=>(Bb x dx l rows).P w X h/\¬X x/\¬X dx/\¬X l
 mv:=by
  intro w X X' h h' Cq k;refine Ht Cq ?_;intro H n1 n2 n3;refine bb (id H) ?_;intro ox vs h1 h2 h3 h4 Du h7 h8 t1 t2 t3;refine Bh Du ?_;intro m h5 h6;have kx:=k x ox (.inr (.inl n1)) t1 h1;refine Js (id h5) ?_;intro od es ep e5 r5;have kd:=k dx od (.inr (.inl n2)) t2 e5;refine B5 (id h7) ?_;intro n e7;have kl:=k l _ (.inr (.inl n3)) t3 e7;refine⟨(Bb x dx l rows).mv H λb o q t e=>?_,kx.2 n1,kd.2 n2,kl.2 n3⟩;rcases q with q|q
  .rcases q with rfl|rfl|rfl
   .exact k _ o (.inr (.inl n1)) t e
   .exact k _ o (.inr (.inl n2)) t e
   .exact k _ o (.inr (.inl n3)) t e
  .exact k b o (.inr q) t e
def DH(c:Cx)(x:Addr):Prop:=∀X h,c.G.P c.w X h->∃ox od,InstAt h x ox 189 (some od)/\∀n,n≠JH->lookIn n od=some none
theorem DH.res{x dx l:Addr}{rows:Ch}(h:∀X h,c.G.P c.w X h->(Bb x dx l rows).P c.w X h):DH c x:=λX hp z=>by refine Dt (IB (h X hp z)) ?_;intro ox od a V b;exact⟨ox,od,a,b⟩
theorem Ey{name:Str}{apos:Pos}{args:Cw}{QR:List Keyword}{x f:Addr}(a:Ev c J o (.obj (.ref x)))(F:Fr c J s.heap)(hI:DH c x)(hn:name≠JH)(hf:∀P,findIn (Kx P) (.ref 189) name=some (some (.ref f)))(hd:∃st qual code dflt mod,B9 f st qual code dflt mod)(hb:attributeBase o name c.env (eval o c.env)=eval o c.env)(Dv:((backTo pos (starEach args c.env)).all (λx=>!x.1)&&(backToKw pos (keywordEach QR c.env)).all (λx=>x.1.isSome)
   && decide (args.length+QR.length+(if(backToKw pos (keywordEach QR c.env)).isEmpty then 0 else 1)<30))=true)(hl:(apos.endLine==pos.line)=true)(y:∀s1,Fr c J s1.heap->Le s.heap s1.heap->s1={s with heap:=s1.heap,toks:=s1.toks}->wpAny (model prog c.w) c.A (evalArgs (.ref f) true (backTo pos (starEach args c.env)) (backToKw pos (keywordEach QR c.env))) (λv s2=>CV c.w s2.heap/\wpAny (model prog c.w) c.A (call (.ref f) (.ref x::v.pos) v.kw) Q E s2) E s1) :
  wpAny (model prog c.w) c.A (eval (.Call (.Attribute o name apos) args QR pos) c.env) Q E s:=by
 rw[arm_eval_Call,hb];refine wpAny_bind (a s F _ _ λv h1 t1 l1 r1=>?_);cases r1;have F1:Fr c J h1:=F.le l1;refine iP hd ?_;clear hd;intro st qual code dflt mod fd;refine wpAny_bind (wpAny_standAt ?_);have VX:methodCallForm (args.length+QR.length) (backTo pos (starEach args c.env)) (backToKw pos (keywordEach QR c.env))=true:=Dv;have QL:methodCallPos true o c.env apos pos=pure pos:=by unfold methodCallPos;simp[hl]
 unfold methodCall;rw[VX];refine Fp (hI _ _ F1.g) ?_;intro ox od I sh;have ht:typeIn (Kx c.w.params) (.ref f)=some (.type "function"):=by
  show Option.map (λx:Obj=>x.cls) (List.lookup f (Kx c.w.params))=_;rw[fd.here];rfl
 refine wpAny_bind (wpAny_holding (method_fn (F1.base.k) I (Pw _) (aB _) (hf _) ht (by show Option.map (λx:Option Value=>x.isSome) (lookIn name od)=some false;rw[sh name hn];rfl) ?_));refine wpAny_bind (wpAny_of_eq QL ?_);refine callWith_function_kw (o:=Et st qual dflt mod (.ref code)) (fd:=EV st qual dflt mod (.ref code)) (wpAny_mono (y {s with heap:=h1,toks:=t1} F1 l1 rfl) (λv s2 z=>?_) λV V z=>z);exact⟨⟨z.1.k _ _ (fd.here _),rfl⟩,z.2⟩
theorem Rd(P:Params):findIn (Kx P) (.ref 189) "_convert_string_type"=some (some (.ref 90)):=by kernel_rfl
theorem Ev.conv{apos kp bp:Pos}{bk:Nat}{b:Bool}{x:Addr}{t:Str}(hx:CD b t)(hI:DH c x)(hk:1<=c.k)(a:Ev c J o (.obj (.ref x)))(y:Ev c J e (.str t))(he:autoParam (D8 c e []) Bc)(hb:autoParam (attributeBase o "_convert_string_type" c.env (eval o c.env)=eval o c.env) Bc)(Dv:autoParam (((backTo pos (starEach [e] c.env)).all (λx=>!x.1)&&(backToKw pos (keywordEach [⟨some (Str.ofString "name"),.Constant (.bool b) bk bp,kp⟩] c.env)).all (λx=>x.1.isSome)
   && decide ([e].length+1+(if(backToKw pos (keywordEach [⟨some (Str.ofString "name"),.Constant (.bool b) bk bp,kp⟩] c.env)).isEmpty then 0 else 1)<30))=true) Bc)(hl:autoParam (J6 apos pos) Bc) :
  Ev c J (.Call (.Attribute o "_convert_string_type" apos) [e] [⟨some (Str.ofString "name"),.Constant (.bool b) bk bp,kp⟩] pos) (.str t):=λs F Q E q=>by
 refine Ey (f:=90) a F hI (by decide) Rd ⟨_,_,_,_,_,D5⟩ hb Dv hl λs1 F1 l1 e1=>?_;rw[he];refine evalArgs_kw (by rfl) ?_;refine PySem.Calls.spliced_cons (y s1 F1 _ _ λv h2 t2 l2 r2=>PySem.Calls.spliced_nil ?_);cases r2;refine wpAny_evalAll_cons ?_;refine wpAny_bind (wpAny_Constant_bool (wpAny_bind (wpAny_standAt (wpAny_pure (wpAny_evalAll_nil ?_)))));have F2:Fr c J h2:=F1.le l2;refine⟨F2.base,?_⟩;exact VH c.w 0 b t hx c.A c.X {s1 with heap:=h2,toks:=t2} (.ref x) _ (F2.ok.CC hk) F2.base F2.Cj Q E λv h3 t3 l3 r3=>by
  rw[e1];exact q v h3 t3 (Bt.trans (Bt.trans l1 l2) l3) r3
theorem Ex.SD{G1 G':Res}(y:Ev (c.on X G1) J e d)(hX:∀b,c.X b->X b)(hG:∀w' X' h,G1.P w' X' h->G'.P w' X' h):Ex (c.on X G1) J (.Return (some e) pos) N (M5 c d G'):=λs F Q E n r=>
 wpAny_Return_some (y s F _ _ λv h1 t1 l1 r1=>r v h1 t1 (by
  have F1:=F.le l1;exact⟨r1.move (Cc hX),F1.old,F1.base,Res.CC (hG _ _ _ F1.g) hX⟩))
theorem Ex.N2{G':Res}(y:Ev c J e d)(hG:∀w' X' h,c.G.P w' X' h->G'.P w' X' h):Ex c J (.Return (some e) pos) N (M5 c d G'):=Ex.SD (X:=c.X) (G1:=c.G) y (λV z=>z) hG
theorem DH.ro{x dx l:Addr}{rows:Ch}(h:∀X h,c.G.P c.w X h->(CI x dx l rows).P c.w X h):DH c x:=DH.res (dx:=dx) (l:=l) (rows:=rows) λX hp z=>(h X hp z).1
theorem Ev.MY{x dx l:Addr}{rows:Ch}(hG:∀X h,c.G.P c.w X h->(CI x dx l rows).P c.w X h)(a:Ev c J o (.obj (.ref x)))(he:autoParam (eval (.Attribute o JH pos) c.env=(do
   let o' <- eval o c.env;standAt pos.atName;let r <- holding [o'] (getAttr o' JH true);letTemporaryGo o o' r;pure r)) Dy):Ev c J (.Attribute o JH pos) (.list (Bq rows)):=λs F Q E q=>
 BQ (a s F _ _ λv' h1 t1 l1 r1=>by
  cases r1;have F1:=F.le l1;refine Ht (hG _ _ F1.g) ?_;intro H n1 n2 n3;refine Dt (IB H) ?_;intro ox od I sh V;refine bb H ?_;clear H;intro V vs V V V V V h7 h8 V V t3;exact get_value (F1.base.k) I (Pw _) (Ko sh) (by rfl) (q _ h1 _ l1 (.list n3 t3 h7 h8))) he
theorem cF{i n:Nat}(h:i<n):seqIndex? (i:Int) n=some i:=by
 unfold seqIndex?;simp only[show ¬((i:Int)<0)by exact Int.not_ofNat_neg i,if_false];rw[if_pos (by simp only[Bool.and_eq_true,decide_eq_true_eq];lia)];simp
theorem Ev.Vc{value slice:Expr}{pos}{i:Nat}(x:Ev c J value (.tup ds))(y:Ev c J slice (.int (i:Nat)))(hz:ds.length<=1000000)(hd:ds[i]? = some d)(hs:autoParam (∀o i,XC slice o i) Nc):Ev c J (.Subscript value slice pos) d:=
 .item x y (λo iv s F ra rb=>by
  cases rb;cases ra with|tup nx nt p r=>
  refine Bh (r.get hd) ?_;intro v hv rv;have Dw:=(AP.mp hd).1;have hl:=r.length;exact⟨⟨_,_,p.typeIs,PySem.F.slot_tuple_getitem.lookup⟩,λQ E q=>getItem_tuple p (by exact Int.neg_ofNat_le_natCast (2^63) i) (by omega) (j:=i) (by rw[AY];exact cF (by exact place_lt hv)) (by simpa using hv) (q _ s.heap s.toks (.refl _) rv)⟩) hs
structure JR(r:Str×Str):Prop where
 len:r.1.length<=1000000
 ok:PyData.strOk (Txt.lower r.1)=true
noncomputable def HM(rows:Ch)(n:Str):List Str:=(rows.filter λr=>decide (Txt.lower r.1=Txt.lower n)).map (·.2)
noncomputable def EW(rows:Ch)(n:Str):D:=(rows.find? λr=>decide (Txt.lower r.1=Txt.lower n)).elim .none λr=>.str r.2
theorem H5:B9 128 (Bu 7) (S "Headers.get_all") 127 .none EE:=⟨λP=>rfl,λP=>⟨_,_,_,rfl,rfl,rfl⟩,rfl,rfl,rfl⟩
theorem MU:B9 136 (Bu 8) (S "Headers.get") 135 (.ref 129) EE:=⟨λP=>rfl,λP=>⟨_,_,_,rfl,rfl,rfl⟩,rfl,rfl,rfl⟩
theorem U1:B9 141 (Bu 9) (S "Headers.keys") 140 .none EE:=⟨λP=>rfl,λP=>⟨_,_,_,rfl,rfl,rfl⟩,rfl,rfl,rfl⟩
theorem RM:B9 153 (Bu 11) (S "Headers.items") 152 .none EE:=⟨λP=>rfl,λP=>⟨_,_,_,rfl,rfl,rfl⟩,rfl,rfl,rfl⟩
theorem aU(w:World)(k:Nat)(x dx l:Addr)(rows:Ch)(hl:rows.length<=1000):CS w 153 (k+1) (CI x dx l rows) [.obj (.ref x)] (.list (Bq rows)) (CI x dx l rows):=by
 refine Kt RM (names:=[S "self"]) (λvs e=>?_) rfl (.of (by decide +kernel)) λc X h0 F=>?_
 .refine B5 (L9 e) ?_;rintro v1 rfl;rfl
 .have E:=F.env;have hG:∀X h,c.G.P c.w X h->(CI x dx l rows).P c.w X h:=λX h z=>by rw[F.hG]at z;exact z
  refine Bd.ret (Ex.N2 (Ev.eq (Ev.EH (Ev.MY hG Ev.n) Part.no Part.no ?_) ?_) λw' X' h z=>by rw[F.hG]at z;exact z)
  .unfold Bq;rw[AA];exact lb hl rfl
  .congr 1;unfold cut;simp
theorem fV(w:World)(k:Nat)(x dx l:Addr)(rows:Ch)(hl:rows.length<=1000):CS w 141 (k+1) (CI x dx l rows) [.obj (.ref x)] (.list (rows.map λr=>.str r.1)) (CI x dx l rows):=by
 refine Kt U1 (names:=[S "self"]) (λvs e=>?_) rfl (.of (by decide +kernel)) λc X h0 F=>?_
 .refine B5 (L9 e) ?_;rintro v1 rfl;rfl
 .have E:=F.env;have hG:∀X h,c.G.P c.w X h->(CI x dx l rows).P c.w X h:=λX h z=>by rw[F.hG]at z;exact z
  refine Bd.ret (Ex.N2 (CE.ev (CE.eq (CE.C0 rows (λr=>.tup [.str r.1,.str r.2]) (λV=>true) (λr=>.str r.1) (J0:=[]) E.co (Ba.list (Ev.MY hG Ev.n)) (λr=>[(S "v",.str r.2),(S "k",.str r.1)]) (λV V h=>by cases h)
   (λV V V sc=>Bind.tup (.cons Bind.n (.cons Bind.n .nil))) (λV V V V=>CL.nil) (λV V V cc sc=>Ev.n) (lb hl rfl)) (by rw[Bx]))) λw' X' h z=>by rw[F.hG]at z;exact z)
theorem NV(w:World)(k:Nat)(x dx l:Addr)(rows:Ch)(n:Str)(hl:rows.length<=1000)(hr:∀r∈rows,JR r)(hn:n.length<=1000000)(hc:CD true (Txt.lower n))(S2:PyData.strOk (Txt.lower n)=true) :
  CS w 128 (k+2) (CI x dx l rows) [.obj (.ref x),.str n] (.list ((HM rows n).map .str)) (CI x dx l rows):=by
 refine Kt H5 (names:=[S "self",S "name"]) (λvs e=>?_) rfl (.of (by decide +kernel)) λc X h0 F=>?_
 .refine MB (Ot e) ?_;rintro v1 v2 rfl;rfl
 .have E:=F.env;have hG:∀X h,c.G.P c.w X h->(CI x dx l rows).P c.w X h:=λX h z=>by rw[F.hG]at z;exact z
  have Jo:1<=c.k:=by rw[F.hk];exact A1 1 k
  refine Bd.step (J':=[(S "name",.str (Txt.lower n)),(S "self",.obj (.ref x))]) (Ex.sc E (d:=.str (Txt.lower n)) (Ev.conv hc (DH.ro hG) Jo Ev.n (Ev.lower Ev.n hn))) ?_;refine Bd.ret (Ex.N2 (CE.ev (CE.eq (CE.C0 rows (λr=>.tup [.str r.1,.str r.2]) (λr=>decide (Txt.lower r.1=Txt.lower n)) (λr=>.str r.2) (J0:=[(S "name",.str (Txt.lower n))]) E.co (Ba.list (Ev.MY hG Ev.n)) (λr=>[(S "kv",.tup [.str r.1,.str r.2]),(S "name",.str (Txt.lower n))]) (λV V h=>.tail _ h)
   (λV V V sc=>Bind.n) (λr Rh cc sc=>CL.one (CK.cmp (Bg.lq (Ev.lower (Ev.Vc (i:=0) (d:=.str r.1) Ev.n Ev.cInt (AE rfl) rfl) (hr r Rh).len) Ev.n (hr r Rh).ok S2))) (λr V V cc sc=>Ev.Vc (i:=1) (d:=.str r.2) Ev.n Ev.cInt (AE rfl) rfl) (lb hl rfl)) (by unfold HM;rw[AB];rfl))) λw' X' h z=>by rw[F.hG]at z;exact z)
theorem get_bind{v1 v2:Value}{Q:List (Str×Value)->Shared->Prop}(B:CV w s.heap)(q:Q [(S "self",v1),(S "name",v2),(S "default",.none)] s) :
  wpAny (model prog w) A (bindArgs (EV (Bu 8) (S "Headers.get") (.ref 129) EE (.ref 135)) ⟨[v1,v2],[]⟩) Q E s:=by
 obtain⟨h,g,d,tk,os⟩:=s;have e:=B.k 129 _ rfl;unfold bindArgs;wp_walk;exact q
theorem aZ{f:Addr}{st:Stmt}{qual:Str}{code:Addr}{dflt mod:Value}(fd:B9 f st qual code dflt mod){G G':Res}{names:B1}{es:Cr}(hb:∀(X:CF) (A:Around) (s:Shared) (vs:DV),CV w s.heap->FT X s.heap->Be X w s.heap vs ds->∀(Q:List (Str×Value)->Shared->Prop) (E:CG),(∀h1 tk us,Le s.heap h1->Be X w h1 us es->names.length=us.length->Q (names.zip us) {s with heap:=h1,toks:=tk})->
   wpAny (model prog w) A (bindArgs (EV st qual dflt mod (.ref code)) ⟨vs,[]⟩) Q E s)(ck:DY (BX st) names)(body:∀c X h0,FnAt c w (BX st) k X G h0->Bd c (names.zip es) [Br st] (λV=>False) (M5 c d G')):CS w f (k+1) G ds d G':=λA X s vs ok B xk r g gx=>
 OX fd ok B xk (G:=G) g gx (hb X A.in1 s vs B xk r) ck λc h0 FA=>(body c X h0 FA).imp (λV z=>z.elim) λv h z=>FA.N2 (λg s=>Res.CC g s) z
theorem VI(w:World)(k:Nat)(x dx l:Addr)(rows:Ch)(n:Str)(hl:rows.length<=1000)(hr:∀r∈rows,JR r)(hn:n.length<=1000000)(hc:CD true (Txt.lower n))(S2:PyData.strOk (Txt.lower n)=true) :
  CS w 136 (k+2) (CI x dx l rows) [.obj (.ref x),.str n] (EW rows n) (CI x dx l rows):=by
 refine aZ MU (names:=[S "self",S "name",S "default"]) (es:=[.obj (.ref x),.str n,.none]) (λX A s vs B xk r Q E q=>?_) (.of (by decide +kernel)) λc X h0 F=>?_
 .refine Dt (Be.Bo r) ?_;rintro V V rfl a r;refine Dt (Be.Bo r) ?_;rintro V V rfl b r;cases r;exact get_bind B (q s.heap s.toks [_,_,.none] (.refl _) (.cons a (.cons b (.cons .none .nil))) rfl)
 .have E:=F.env;have hG:∀X h,c.G.P c.w X h->(CI x dx l rows).P c.w X h:=λX h z=>by rw[F.hG]at z;exact z
  have Jo:1<=c.k:=by rw[F.hk];exact A1 1 k
  let R0:List (Str×D):=[(S "name",.str (Txt.lower n)),(S "self",.obj (.ref x)),(S "default",.none)]
  refine Bd.step (J':=R0) (Ex.sn (d:=.str (Txt.lower n)) (Ev.conv hc (DH.ro hG) Jo Ev.n (Ev.lower Ev.n hn))) ?_;refine Bd.cons (Ex.aP (ds:=rows.map λr=>.tup [.str r.1,.str r.2]) E.ro (λi=>∀r∈rows.take i,¬Txt.lower r.1=Txt.lower n) (λr hr=>by simp at hr) (λV=>c.G) (λV=>R0) rfl rfl (Ba.list (Ev.MY hG Ev.n)) (λi d hd hΦ X1 T hX=>?_)) ?_
  .rw [AL,AS]at hd;refine Bh hd ?_;clear hd;rintro r gJ rfl;have E1:Bi (c.on X1 (c.G.star T)) w (BX (Bu 8)) (k+1):=E.on;have gK:=AQ gJ;refine⟨(S "v",.str r.2)::(S "k",.str r.1)::R0,Bind.tup (.cons Bind.n (.cons Bind.n .nil)),?_⟩;refine Bd.if (CK.cmp (Bg.lq (Ev.lower Ev.n (hr r gK).len) Ev.n (hr r gK).ok S2)) (λh=>?_) λh=>?_
   .refine Bd.ret (Ex.SD (Ev.eq Ev.n ?_) hX λw' X' h z=>by have z1:=z.1;rw[F.hG]at z1;exact z1);have Xx:=of_decide_eq_true h;unfold EW;have hf:rows.find? (λr=>decide (Txt.lower r.1=Txt.lower n))=some r:=by
     refine B5 (AP.mp gJ) ?_;intro hi er;rw[List.find?_eq_some_iff_getElem];refine⟨by simpa using Xx,i,hi,er,λj hj=>?_⟩;have:rows[j]∈rows.take i:=List.mem_take_iff_getElem.mpr ⟨j,by(clear hl;lia),rfl⟩;simpa using hΦ _ this
    rw[hf];rfl
   .refine Bd.nil (Bd.nil (Bd.done λh2 Fh=>⟨?_,X1,hX,Fh.sub λp hp=>.tail _ (.tail _ hp)⟩));intro r' Rh;rw[A3,Ar]at Rh;rcases Rh with Rh|Rh
    .exact hΦ r' Rh
    .rw [gJ]at Rh;simp at Rh;rw[Rh];exact of_decide_eq_false h
  .intro h2 Cq;obtain⟨hΦ,X2,Hi,F2⟩:=Cq;refine⟨c.on X2 c.G,_,⟨rfl,rfl,rfl⟩,F2,Bd.ret (Ex.SD (Ev.eq Ev.n ?_) Hi λw' X' h z=>by rw[F.hG]at z;exact z)⟩;unfold EW;rw[AA,BF]at hΦ;have hf:rows.find? (λr=>decide (Txt.lower r.1=Txt.lower n))=none:=List.find?_eq_none.mpr λr hr=>by simpa using hΦ r hr
   rw[hf];rfl
theorem JA(rows:Ch)(n:Str):(EW rows n).flat=true:=by
 unfold EW;cases rows.find? λr=>decide (Txt.lower r.1=Txt.lower n)<;>rfl
noncomputable def Bk(l:Addr)(ds:Cr):Res where
 fp:=(·=l)
 P:=λw X h=>∃vs:List Value,h.PlainList l vs.toArray/\Be X w h vs ds/\l≠TP
 mv:=by
  intro w X X' h h' Cq k;refine EI Cq ?_;clear Cq;rintro vs ⟨n,e⟩ r nt;exact⟨vs,⟨n,(k l _ (.inl rfl) nt e).1⟩,r.move λb o n t e=>by refine CB (k b o (.inr (.inl n)) t e) ?_;intro x y;exact⟨x,y n⟩,nt⟩
theorem Ex.append{apos GD:Pos}{l:Addr}{G':Res}(ro:¬c.ro)(hz:ds.length<=1000000)(u:Upd c.G (Bk l ds) (Bk l (ds++[d])) G')(a:Ev c J o (.obj (.ref l)))(y:Ev c J e d)(hint:interactive c.env=false)(he:autoParam (D8 c e []) Bc)(hb:autoParam (attributeBase o "append" c.env (eval o c.env)=eval o c.env) Bc)(Dv:autoParam (((backTo pos (starEach [e] c.env)).all (λx=>!x.1)&&(backToKw pos (keywordEach [] c.env)).all (λx=>x.1.isSome)&&decide ([e].length+([]:List Keyword).length+(if([]:List Keyword).isEmpty then 0 else 1)<30))=true) Bc)(hl:autoParam (J6 apos pos) Bc)(hs:autoParam (swapsWith (.Call (.Attribute o "append" apos) [e] [] pos) none GD.line c.env=pure false) Bc) :
  Ex c J (.Expr (.Call (.Attribute o "append" apos) [e] [] pos) GD) (Fr (c.on c.X G') J) R:=λs F Q E n r=>
 wpAny_Expr_any (wpAny_Call_method_lateS hb Dv hl (a s F _ _ λv h1 t1 l1 r1=>by
  cases r1;have F1:Fr c J h1:=F.le l1;refine EI (u.has _ _ _ F1.g) ?_;intro vs pl rr nt;refine B5 (id pl) ?_;intro n0 e0;refine⟨"list","list.append",PySem.F.plainAttrs_list,slot_list_append,PySem.F.type_list_append,⟨_,e0,rfl⟩,(λa' e=>by cases e;exact⟨_,e0,rfl⟩),?_⟩;refine BI (wpAny_items_cons (y {s with heap:=h1,toks:=t1} F1 _ _ λv h2 t2 l2 r2=>wpAny_items_nil ?_) he) he rfl;have E0:Le h1 h2:=l2;have F2:Fr c J h2:=F1.le E0;refine EI (u.has _ _ _ F2.g) ?_;intro T8 Tb Yk V;have Na:=Yk.length;refine wpAny_list_append_plain Tb (λh3 p3 s3=>?_) (by rw[AY,sizeLine_eq];exact Jc Na hz rfl);refine B5 (id p3) ?_;intro n3 e3;have l3:Bt (·=l) h2 h3:=Co s3 _ e3 nt (by refine B5 Tb ?_;clear Tb;intro V e;exact Cd.at e (Cd.seq rfl));have lx:c.X l:=(F2.gx l (u.fp l rfl)).1.1;refine n h3 t2 (F2.upd ro u l3 ⟨T8++[v],?_,(Yk.append (.cons r2 .nil)).move (DQ l3 λb z=>z▸lx),nt⟩);exact⟨n3,by rw[e3];simp⟩)) hint hs
theorem Rb{x dx l:Addr}{rows rows':Ch}(hx:l≠x)(hd:l≠dx):Upd (Bb x dx l rows) (Bk l (Bq rows)) (Bk l (Bq rows')) (Bb x dx l rows') where
 has:=λw X h zz=>by refine bb zz ?_;clear zz;intro ox vs h1 h2 h3 h4 h5 h7 h8 t1 t2 t3;exact⟨vs,h7,h8,t3⟩
 fp:=λb z=>.inr (.inr z)
 same:=λb=>Iff.rfl
 same':=λb=>Iff.rfl
 put:=λw X h h' zz gx le y=>bb zz λox vs h1 h2 h3 h4 h5 h7 h8 t1 t2 t3=>EI y λWt p' r' V=>
  ⟨ox,Wt,le.keep _ _ t1 (λz=>hx z.symm) h1,h2,h3,h4,h5.imp λm z=>⟨IK z.1 λo e=>le.keep _ o t2 (λz=>hd z.symm) e,z.2⟩,p',r',t1,t2,t3⟩
theorem Ev.L5{x dx l:Addr}{rows:Ch}(hG:∀X h,c.G.P c.w X h->(Bb x dx l rows).P c.w X h)(a:Ev c J o (.obj (.ref x)))(he:autoParam (eval (.Attribute o JH pos) c.env=(do
   let o' <- eval o c.env;standAt pos.atName;let r <- holding [o'] (getAttr o' JH true);letTemporaryGo o o' r;pure r)) Dy):Ev c J (.Attribute o JH pos) (.obj (.ref l)):=λs F Q E q=>
 BQ (a s F _ _ λv' h1 t1 l1 r1=>by
  cases r1;have F1:=F.le l1;refine Dt (IB (hG _ _ F1.g)) ?_;intro ox od I sh V;exact get_value (F1.base.k) I (Pw _) (Ko sh) (by rfl) (q _ h1 _ l1 (.obj _))) he
theorem JX:B9 186 (Bu 16) (S "Headers.add_header") 185 .none EE:=⟨λP=>rfl,λP=>⟨_,_,_,rfl,rfl,rfl⟩,rfl,rfl,rfl⟩
theorem OH{v1 v2 v3:Value}{Q:List (Str×Value)->Shared->Prop}(q:Q [(S "self",v1),(S "_name",v2),(S "_value",v3),(S "_params",.ref s.heap.objs.size)] {s with heap:=s.heap.push {cls:=.type "dict",data:=.dict #[]}}) :
  wpAny (model prog w) A (bindArgs (EV (Bu 16) (S "Headers.add_header") .none EE (.ref 185)) ⟨[v1,v2,v3],[]⟩) Q E s:=by
 obtain⟨h,g,d,tk,os⟩:=s;unfold bindArgs;wp_walk;exact q
section
variable {c cc:Cx}{J J' KR J0:B3}{N:Em}{R:Cs}{h h':Heap}{Ji:Addr->List (Str×D)}
theorem NL:entryFor table "dict_itemiterator.__iter__"=some PySem.Builtin.«dict_keyiterator.__iter__»:=
 entryFor_alias (id':="dict_keyiterator.__iter__") (by kernel_rfl) (by first|rfl|decide +kernel) (by decide +kernel) (by kernel_rfl)
theorem ME{it d:Addr}{i n ep:Nat}{ok ov:Value}(hz:IsItemIter s.heap it d i n ep ok ov)(h:Q (.ref it) s):wpAny (model prog w) A (pyIter (.ref it)) Q E s:=by
 have hT:s.TypeIs (.ref it) "dict_itemiterator":=⟨_,hz,rfl⟩
 refine wpAny_pyIter_slot hT PySem.F.slot_dict_itemiterator_iter (wpAny_call_entry PySem.F.slot_dict_itemiterator_iter hT NL ?_ (PySem.F.args_dict_itemiterator_iter_1 _));show wpAny _ _ (ret (.ref it)) _ _ s;exact wpAny_pure ⟨_,rfl,"dict_itemiterator",_,hT,PySem.F.slot_dict_itemiterator_next.lookup,h⟩
theorem Ba.Vd{target:Expr}{apos:Pos}(a:Ev c J o (.dict []))(hb:autoParam (attributeBase o "items" c.env (eval o c.env)=eval o c.env) Bc)(hl:autoParam (J6 apos pos) Bc) :
  Ba c J target (.Call (.Attribute o "items" apos) [] [] pos) []:=λs F Q E q=>
 Call_method0 hb hl (a s F _ _ λv h1 t1 l1 r1=>by
  refine V6 (B8.Iq r1) ?_;rintro d kvs rfl nx nt ns p r;cases r;have F1:Fr c J h1:=F.le l1;refine Mn (id p) ?_;intro od es ep e1 ex V;refine⟨"dict","dict.items",PySem.F.plainAttrs_dict,PySem.F.slot_dict_items,PySem.F.type_dict_items,Ea (s:={s with heap:=h1,toks:=t1}) p,(λa' e=>by cases e;exact⟨od,e1,ex.2.1⟩),?_⟩;refine PyProof.Rows.callWith_method0 (env:=c.env) ?_;refine call_meetsIn PySem.F.slot_dict_items (Ea (s:={s with heap:=h1,toks:=t1}) p) PySem.F.entry_dict_items (PySem.F.args_dict_items_1 _) (meets_dict_items (KS c.w) d ns) ⟨⟨_,p⟩,?_⟩;have l2:Le h1 (h1.push {cls:=.type "dict_items",data:=.fields #[.ref d]}):=Le.push _ _;have w3:=F1.base.tab;have p2:(h1.push {cls:=.type "dict_items",data:=.fields #[.ref d]}).DictOf (KS c.w) d []:=C1 p λo e=>l2.keep _ o nt id e;refine B5 p2.dictAt ?_;intro aK at2;refine wpAny_pyIter_items (knd:=KS c.w) (d:=d) (kvs:=[]) (ep:=aK) ⟨_,AH _ rfl,rfl,rfl⟩ at2 ?_;dsimp only;generalize wb:h1.push {cls:=.type "dict_items",data:=.fields #[.ref d]}=h2 at *;have F2:Fr c J h2:=F1.le l2;have SO:=F2.base.tab;have l3:Le h2 (h2.push {cls:=.type "dict_itemiterator",data:=.fields #[.none,.bool false,.ref d,.int 0 0,.int 0 0,.int aK 0,.none,.none]}):=Le.push _ _;have QT:Le s.heap (h2.push {cls:=.type "dict_itemiterator",data:=.fields #[.none,.bool false,.ref d,.int 0 0,.int 0 0,.int aK 0,.none,.none]}):=Bt.trans (Bt.trans l1 l2) l3;have hI:IsItemIter (h2.push {cls:=.type "dict_itemiterator",data:=.fields #[.none,.bool false,.ref d,.int 0 0,.int 0 0,.int aK 0,.none,.none]}) h2.objs.size d 0 0 aK .none .none:=AH _ rfl;have qu:h2.objs.size≠TP:=B4 SO;have ti:d≠h2.objs.size:=λz=>by refine Fp at2 ?_;clear at2;intro o V e V;exact Aa _ (z▸Ag e)
  refine q (.ref h2.objs.size) (·=h2.objs.size) _ t1 QT (λb hb=>?_) ?_ ?_
  .have Ph:b=h2.objs.size:=hb;rw[Ph];exact⟨GN (Bt.trans l1 l2) SO,B6 F2.base,_,hI⟩
  .intro X' s' k sx Q' E' q';have pj:IsItemIter s'.heap h2.objs.size d 0 0 aK .none .none:=(k _ _ (.inl rfl) qu hI).1;have sA:s'.heap.DictAt (KS c.w) d [] aK:=by
    refine Fp at2 ?_;clear at2;intro o es' e r;refine⟨o,es',(k d o (.inr (.inl λz=>z.elim nx ti)) nt (l3.keep _ o nt id e)).1,r⟩
   refine wpAny_pyNext_items_end (knd:=KS c.w) (kvs:=[]) F.ok.handled pj sA rfl λh4 x4=>q' h4 s'.toks λb o hb e=>x4 b o (hb.elim id λhc z=>Cd.at pj (Cd.fd rfl (by intro t h;simp at h)) o (by rw[<- z];exact e) hc) e
  .exact λs' l Q E h=>ME (l.keep _ _ qu id hI) h)
theorem Fr.RW{G:Res}(F:Fr (c.on X' (G.star (Bk a ds))) J h)(nw:c.h0.get? a=none)(hJ:∀p∈J',p∈J\/(p.2=.list ds/\(p.1,D.obj (.ref a))∈J)):Fr (c.on (λb=>X' b/\¬b=a) G) J' h:=by
 have F':Fr (c.on (λb=>X' b/\¬(Bk a ds).fp b) G) J h:=F.Ln (λb z=>by have z':b=a:=z;rw[z'];exact nw) λb o V e=>e;have Y6:Fr (c.on (λb=>X' b/\¬b=a) G) J h:=F';refine{Y6 with names:=λx d m=>?_};rcases hJ _ m with m|⟨e,m⟩
 .exact Y6.names x d m
 .refine Bh (Y6.names _ _ m) ?_;intro v H r;have e':d=.list ds:=e;refine EI F.g.2.1 ?_;intro vs p rr nt;cases r;refine⟨_,H,?_⟩;rw[e'];exact B8.list (λz=>z.2 rfl) nt p (rr.move (Cc λb z=>z.1))
theorem Ex.Zd{xp lp:Pos}(k:Nm c x)(p:∀a,Hq J x (.obj (.ref a))=Ji a)(hs:autoParam (swapsWith (.List [] lp) (some (.Name x xp)) pos.line c.env=pure false) Bc) :
  Ex c J (.Assign [.Name x xp] (.List [] lp) pos) (λh=>∃a X',Gg c a X'/\Fr (c.on X' (c.G.star (Bk a []))) (Ji a) h) R:=λs F Q E n r=>
 wpAny_Assign_Name (wpAny_List (wpAny_items_nil (pos:=lp) (by
  have le:Le s.heap (s.heap.push {cls:=.type "list",data:=.seq #[]}):=Le.push _ _;refine⟨by decide,?_⟩;have tb:=F.base.tab;have na:s.heap.get? s.heap.objs.size=none:=Bm _;have ba:=B6 F.base;have new:MK c s.heap.objs.size:=F.new na ba;have ea:(s.heap.push {cls:=.type "list",data:=.seq #[]}).get? s.heap.objs.size=some {cls:=.type "list",data:=.seq #[]}:=AH _ rfl;have F1:Fr (c.plus (·=s.heap.objs.size)) J (s.heap.push {cls:=.type "list",data:=.seq #[]}):=F.plus le λb z=>by
   have z':b=s.heap.objs.size:=z;rw[z'];exact⟨na,ba,_,ea⟩
  have F2:Fr (c.on (DG c.X (·=s.heap.objs.size)) (c.G.star (Bk s.heap.objs.size []))) J (s.heap.push {cls:=.type "list",data:=.seq #[]}):=F1.star (T:=Bk s.heap.objs.size []) ⟨[],⟨_,ea⟩,.nil,B4 tb⟩ λb z=>by
   have z':b=s.heap.objs.size:=z;rw[z'];exact new.off (fp:=(·=s.heap.objs.size)) rfl
  exact F2.store (s:={s with heap:=s.heap.push {cls:=.type "list",data:=.seq #[]}}) k.plain k.slot (.obj _) (DF.of (p _)) λh2 t2 l2 F3=>n h2 t2 ⟨_,_,⟨λb z=>.inl z,new.2.2.1,new.1⟩,F3⟩))) hs
end
section
variable {c cc:Cx}{J J' KR J0:B3}{N:Em}{R:Cs}{h h':Heap}{Ji:Addr->List (Str×D)}
theorem Bi.quiet{sc:Scope}{n:Nat}(F:Bi c w sc n)(hk:sc.kind=.function):interactive c.env=false:=by
 unfold interactive;rw[F.hs,hk];rfl
theorem KE{f:Addr}{st:Stmt}{qual:Str}{code:Addr}{dflt mod:Value}(fd:B9 f st qual code dflt mod){G G':Res}{names:B1}{es:Cr}(hb:∀(X:CF) (A:Around) (s:Shared) (vs:DV),CV w s.heap->FT X s.heap->Be X w s.heap vs ds->∀(Q:List (Str×Value)->Shared->Prop) (E:CG),(∀h1 tk us,Le s.heap h1->Be X w h1 us es->names.length=us.length->Q (names.zip us) {s with heap:=h1,toks:=tk})->
   wpAny (model prog w) A (bindArgs (EV st qual dflt mod (.ref code)) ⟨vs,[]⟩) Q E s)(ck:DY (BX st) names)(body:∀c X h0,FnAt c w (BX st) k X G h0->Bd c (names.zip es) [Br st] (M5 c d G' .none) (M5 c d G')):CS w f (k+1) G ds d G':=λA X s vs ok B xk r g gx=>
 OX fd ok B xk (G:=G) g gx (hb X A.in1 s vs B xk r) ck λc h0 FA=>(body c X h0 FA).imp (λh z=>FA.N2 (λg s=>Res.CC g s) z) λv h z=>FA.N2 (λg s=>Res.CC g s) z
theorem join_one(sep v:Str):Txt.join sep [v]=v:=rfl
theorem mH(w:World)(k:Nat)(x dx l:Addr)(rows:Ch)(n v:Str)(hl:rows.length<=1000)(Pj:l≠x)(L5:l≠dx)(hn:CD true n)(hv:CD false v)(qN:v.length<=1000) :
  CS w 186 (k+2) (Bb x dx l rows) [.obj (.ref x),.str n,.str v] .none (Bb x dx l (rows++[(n,v)])):=by
 refine KE JX (names:=[S "self",S "_name",S "_value",S "_params"]) (es:=[.obj (.ref x),.str n,.str v,.dict []]) (λX A s vs B xk r Q E q=>?_) (.of (by decide +kernel)) λc X h0 F=>?_
 .refine Dt (Be.Bo r) ?_;rintro V V rfl a r;refine Dt (Be.Bo r) ?_;rintro V V rfl b r;refine Dt (Be.Bo r) ?_;rintro V V rfl d r;cases r;have le:Le s.heap (s.heap.push {cls:=.type "dict",data:=.dict #[]}):=Le.push _ _;have e:(s.heap.push {cls:=.type "dict",data:=.dict #[]}).get? s.heap.objs.size=some {cls:=.type "dict",data:=.dict #[]}:=AH _ rfl;have ns:(s.heap.objs.size==sysModules)=false:=by
   have:=B6 B;rw[Av];intro z;rw[z]at this;exact absurd this (by decide)
  exact OH (q _ s.toks [_,_,_,.ref s.heap.objs.size] le (.cons (a.le le) (.cons (b.le le) (.cons (d.le le) (.cons (.dict (fresh_ne xk) (B4 B.tab) ns (C3 e) .nil) .nil)))) rfl)
 .have E:=F.env;have Jo:1<=c.k:=by rw[F.hk];exact A1 1 k
  have hint:interactive c.env=false:=E.quiet rfl;have hG:∀X h,c.G.P c.w X h->(Bb x dx l rows).P c.w X h:=λX h z=>by rw[F.hG]at z;exact z
  let R0:List (Str×D):=[(S "self",.obj (.ref x)),(S "_name",.str n),(S "_value",.str v),(S "_params",.dict [])]
  refine Bd.cons (Ex.Zd (x:=S "parts") (Ji:=λa=>(S "parts",.obj (.ref a))::R0) (E.nm (.inl rfl)) (λa=>by rfl)) ?_;intro h1 Cq;refine Fp Cq ?_;intro a X1 nw F1;refine⟨c.on X1 (c.G.star (Bk a [])),_,⟨rfl,rfl,rfl⟩,F1,?_⟩;have E1:Bi (c.on X1 (c.G.star (Bk a []))) w (BX (Bu 16)) (k+1):=E.on;have mV:DH (c.on X1 (c.G.star (Bk a []))) x:=DH.res (dx:=dx) (l:=l) (rows:=rows) λX h z=>hG X h z.1;refine Bd.if (b:=true) (CK.cmp (Bg.isNotNone (d:=.str v) Ev.n true (λh u r=>by cases r;rfl))) (λV=>?_) (λh=>by cases h)
  refine Bd.step (J':=[(S "_value",.str v),(S "parts",.obj (.ref a)),(S "self",.obj (.ref x)),(S "_name",.str n),(S "_params",.dict [])]) (Ex.sn (d:=.str v) (Ev.conv hv mV Jo Ev.n Ev.n)) ?_;refine Bd.EL (X':=X1) (G':=c.G.star (Bk a ([]++[.str v]))) (Ex.append (l:=a) (ds:=[]) (d:=.str v) E1.ro (by decide) (Upd.rt (Upd.self (T:=Bk a []) (T':=Bk a ([]++[.str v])) λb=>Iff.rfl)) Ev.n Ev.n hint) ?_;refine Bd.nil ?_;have E2:Bi (c.on X1 (c.G.star (Bk a ([]++[.str v])))) w (BX (Bu 16)) (k+1):=E.on;let R1:List (Str×D):=[(S "_value",.str v),(S "parts",.obj (.ref a)),(S "self",.obj (.ref x)),(S "_name",.str n),(S "_params",.dict [])]
  refine Bd.cons (Ex.for (ds:=[]) E2.ro (λV=>c.G.star (Bk a ([]++[.str v]))) (λV=>R1) rfl rfl (Ba.Vd Ev.n) (λi d hd=>by cases i<;>cases hd)) ?_;intro h2 Du;refine Bh Du ?_;intro X2 Hi F2;have F3:Fr (c.on (λb=>X2 b/\¬b=a) c.G) [(S "parts",.list [.str v]),(S "self",.obj (.ref x)),(S "_name",.str n)] h2:=Fr.RW (c:=c) (ds:=[.str v]) F2 nw.old λp hp=>by
   refine kq hp ?_ ?_ ?_
   .exact .inr ⟨rfl,by simp[R1]⟩
   .exact .inl (by simp[R1])
   .exact .inl (by simp[R1])
  refine⟨c.on (λb=>X2 b/\¬b=a) c.G,_,⟨rfl,rfl,rfl⟩,F3,?_⟩;have E3:Bi (c.on (λb=>X2 b/\¬b=a) c.G) w (BX (Bu 16)) (k+1):=E.on;have tR:DH (c.on (λb=>X2 b/\¬b=a) c.G) x:=DH.res (dx:=dx) (l:=l) (rows:=rows) λX h z=>hG X h z;have e1:Bq rows++[.tup [.str n,.str v]]=Bq (rows++[(n,v)]):=by unfold Bq;rw[Af];rfl
  refine Bd.EL (X':=λb=>X2 b/\¬b=a) (G':=Bb x dx l (rows++[(n,v)])) (Ex.append (l:=l) (ds:=Bq rows) (d:=.tup [.str n,.str v]) E3.ro (by unfold Bq;rw[AA];exact lb hl rfl) ?_ (Ev.L5 (λX h z=>hG X h z) Ev.n) (Ev.tp (.cons (Ev.conv hn tR Jo Ev.n Ev.n) (.cons (Ev.eq (Ev.join (ys:=[v]) Ev.cStr Ev.n ?_) ?_) .nil))) hint) ?_
  .rw [e1];rw[F.hG];exact Rb Pj L5
  .simp only[AI,List.map_nil,BC,List.sum_nil,AZ,BS];show v.length+0+(0+1)*2<=1000000;omega
  .rw [join_one]
  .refine Bd.nil (Bd.done λh Fh=>?_);exact⟨.none,Fh.old,Fh.base,Res.CC Fh.g λb z=>⟨Hi b (nw.sub b z),λe=>nw.out (e▸z)⟩⟩
end
section
variable {c cc:Cx}{J J' KR J0:B3}{N:Em}{R:Cs}{h h':Heap}{Ji:Addr->List (Str×D)}
def KP(w:World)(fa:Addr)(k:Nat)(G:Res)(ds:Cr)(d:D):Prop:=
 ∀(A:Around) (X:CF) (s:Shared) (vs:DV),E7 k A->CV w s.heap->FT X s.heap->Be X w s.heap vs ds->G.P w X s.heap->Run w A Hu (call (.ref fa) vs) s λv h'=>B8 X w h' v d
theorem CS.ro{f:Addr}{x dx l:Addr}{rows:Ch}(g:CS w f k (CI x dx l rows) ds d (CI x dx l rows)):KP w f k (CI x dx l rows) ds d:=
 λA X s vs ok B xk r H Q E q=>g A X s vs ok B xk r H (λb z=>z.elim) Q E λv h' tk l' p=>q v h' tk l' p.1
theorem CS.rw{f:Addr}{x dx l:Addr}{rows:Ch}(g:CS w f k (CI x dx l rows) ds d (CI x dx l rows))(fl:d.flat=true):KP w f k (Bb x dx l rows) ds d:=
 λA X s vs ok B xk r H Q E q=>by
  let X':Addr->Prop:=λb=>X b/\¬(Bb x dx l rows).fp b;have wM:FT X' s.heap:=λb z=>xk b z.1;have H':(CI x dx l rows).P w X' s.heap:=⟨Res.CC H λb z=>z.1,λz=>z.2 (.inl rfl),λz=>z.2 (.inr (.inl rfl)),λz=>z.2 (.inr (.inr rfl))⟩
  exact g A X' s vs ok B wM (r.move (Cc λb z=>z.1)) H' (λb z=>z.elim) Q E λv h' tk l' p=>q v h' tk l' (p.1.flat fl)
theorem Ev.JT{name:Str}{apos:Pos}{es:Cw}{x f:Addr}{G:Res}(a:Ev c J o (.obj (.ref x)))(y:FP c J (e::es) ds)(g:KP c.w f k G (.obj (.ref x)::ds) d)(hk:k<=c.k)(hG:∀X h,c.G.P c.w X h->G.P c.w X h)(hI:DH c x)(hf:∀P,findIn (Kx P) (.ref 189) name=some (some (.ref f)))(hd:∃st qual code dflt mod,B9 f st qual code dflt mod)(hn:autoParam (name≠JH) Fi)(he:autoParam (D8 c e es) Bc)(hb:autoParam (jR c o name) Bc)(Dv:autoParam (((backTo pos (starEach (e::es) c.env)).all (λx=>!x.1)&&(backToKw pos (keywordEach [] c.env)).all (λx=>x.1.isSome)
   && decide ((e::es).length+([]:List Keyword).length+(if(backToKw pos (keywordEach [] c.env)).isEmpty then 0 else 1)<30))=true) Bc)(hl:autoParam (J6 apos pos) Bc) :
  Ev c J (.Call (.Attribute o name apos) (e::es) [] pos) d:=λs F Q E q=>by
 refine Ey a F hI hn hf hd hb Dv hl λs1 F1 l1 e1=>?_;rw[he];refine PySem.Calls.evalArgs_plain ?_;have z:=y pos s1 F1 (λvs s2=>CV c.w s2.heap/\wpAny (model prog c.w) c.A (call (.ref f) (.ref x::vs) []) Q E s2) E (λvs h2 t2 l2 r2=>?_)
 .rw [he]at z;exact z
 have F2:Fr c J h2:=F1.le l2;refine⟨F2.base,?_⟩;exact g c.A c.X {s1 with heap:=h2,toks:=t2} (.ref x::vs) (F2.ok.CC hk) F2.base F2.Cj (.cons (.obj _) r2) (hG _ _ F2.g) Q E λv h3 t3 l3 r3=>by
  rw[e1];exact q v h3 t3 (Bt.trans (Bt.trans l1 l2) l3) r3
theorem Ev.UT{name:Str}{apos:Pos}{x f:Addr}{G:Res}(a:Ev c J o (.obj (.ref x)))(g:KP c.w f k G [.obj (.ref x)] d)(hk:k<=c.k)(hG:∀X h,c.G.P c.w X h->G.P c.w X h)(hI:DH c x)(hf:∀P,findIn (Kx P) (.ref 189) name=some (some (.ref f)))(hd:∃st qual code dflt mod,B9 f st qual code dflt mod)(hn:autoParam (name≠JH) Fi)(hb:autoParam (jR c o name) Bc)(hl:autoParam (J6 apos pos) Bc) :
  Ev c J (.Call (.Attribute o name apos) [] [] pos) d:=λs F Q E q=>by
 refine Ey a F hI hn hf hd hb (by rfl) hl λs1 F1 l1 e1=>?_;refine PyProof.Rows.evalArgs_none ?_;refine⟨F1.base,?_⟩;exact g c.A c.X s1 [.ref x] (F1.ok.CC hk) F1.base F1.Cj (.cons (.obj _) .nil) (hG _ _ F1.g) Q E λv h3 t3 l3 r3=>by
  rw[e1];exact q v h3 t3 (Bt.trans l1 l3) r3
theorem Kz(P:Params):findIn (Kx P) (.ref 189) "get"=some (some (.ref 136)):=by kernel_rfl
theorem I7(P:Params):findIn (Kx P) (.ref 189) "get_all"=some (some (.ref 128)):=by kernel_rfl
theorem Xz(P:Params):findIn (Kx P) (.ref 189) "keys"=some (some (.ref 141)):=by kernel_rfl
theorem VT(P:Params):findIn (Kx P) (.ref 189) "items"=some (some (.ref 153)):=by kernel_rfl
theorem Sz(P:Params):findIn (Kx P) (.ref 189) "setdefault"=some (some (.ref 179)):=by kernel_rfl
theorem VS(P:Params):findIn (Kx P) (.ref 189) "add_header"=some (some (.ref 186)):=by kernel_rfl
theorem QJ(P:Params):findIn (Kx P) (.ref 189) "__setitem__"=some (some (.ref 104)):=by kernel_rfl
theorem QH(P:Params):findIn (Kx P) (.ref 189) "__delitem__"=some (some (.ref 109)):=by kernel_rfl
theorem Xy(P:Params):findIn (Kx P) (.ref 189) "__init__"=some (some (.ref 83)):=by kernel_rfl
theorem OU:B9 179 (Bu 15) (S "Headers.setdefault") 178 .none EE:=⟨λP=>rfl,λP=>⟨_,_,_,rfl,rfl,rfl⟩,rfl,rfl,rfl⟩
noncomputable def Ew(rows:Ch)(n v:Str):List (Str×Str):=if(rows.find? λr=>decide (Txt.lower r.1=Txt.lower n)).isSome then rows else rows++[(n,v)]
noncomputable def FE(rows:Ch)(n v:Str):Str:=((rows.find? λr=>decide (Txt.lower r.1=Txt.lower n)).map (·.2)).getD v
theorem Xu(w:World)(k:Nat)(x dx l:Addr)(rows:Ch)(n v:Str)(hl:rows.length<=1000)(Pj:l≠x)(L5:l≠dx)(hr:∀r∈rows,JR r)(hn:CD true n)(hv:CD false v)(uP:n.length<=1000000)(hc:CD true (Txt.lower n))(S2:PyData.strOk (Txt.lower n)=true) :
  CS w 179 (k+3) (Bb x dx l rows) [.obj (.ref x),.str n,.str v] (.str (FE rows n v)) (Bb x dx l (Ew rows n v)):=by
 refine Kt OU (names:=[S "self",S "name",S "value"]) (λvs e=>?_) rfl (.of (by decide +kernel)) λc X h0 F=>?_
 .refine bg (Ou e) ?_;rintro v1 v2 v3 rfl;rfl
 .have E:=F.env;have hint:interactive c.env=false:=E.quiet rfl;have Jo:1<=c.k:=by rw[F.hk];exact A1 1 (k+1)
  have UB:k+2<=c.k:=by rw[F.hk];exact Ad _
  have hG:∀X h,c.G.P c.w X h->(Bb x dx l rows).P c.w X h:=λX h z=>by rw[F.hG]at z;exact z
  have hI:DH c x:=DH.res hG;have gg:KP c.w 136 (k+2) (Bb x dx l rows) [.obj (.ref x),.str n] (EW rows n):=CS.rw (VI c.w k x dx l rows n hl hr uP hc S2) (JA _ _);refine Bd.step (J':=[(S "result",EW rows n),(S "self",.obj (.ref x)),(S "name",.str n),(S "value",.str v)]) (Ex.sn (d:=EW rows n) (Ev.JT Ev.n (.cons Ev.n .nil) gg UB hG hI Kz ⟨_,_,_,_,_,MU⟩)) ?_;cases hf:rows.find? λr=>decide (Txt.lower r.1=Txt.lower n)with
  |none=>
   have e0:EW rows n=.none:=by unfold EW;rw[hf];rfl
   have e1:Ew rows n v=rows++[(n,v)]:=by unfold Ew;rw[hf];rfl
   have e2:FE rows n v=v:=by unfold FE;rw[hf];rfl
   rw[e0,e1,e2];refine Bd.if (b:=true) (CK.cmp (Bg.isNone (d:=.none) Ev.n true (λh u r=>by cases r;rfl))) (λV=>?_) (λh=>by cases h)
   have e3:Bq rows++[.tup [.str n,.str v]]=Bq (rows++[(n,v)]):=by unfold Bq;rw[Af];rfl
   refine Bd.EL (X':=c.X) (G':=Bb x dx l (rows++[(n,v)])) (Ex.append (l:=l) (ds:=Bq rows) (d:=.tup [.str n,.str v]) E.ro (by unfold Bq;rw[AA];exact lb hl rfl) ?_ (Ev.L5 hG Ev.n) (Ev.tp (.cons (Ev.conv hn hI Jo Ev.n Ev.n) (.cons (Ev.conv hv hI Jo Ev.n Ev.n) .nil))) hint) ?_
   .rw [e3,F.hG];exact Rb Pj L5
   .exact Bd.ret (Ex.SD Ev.n (λb z=>z) λw' X' h z=>z)
  |some r=>
   have e0:EW rows n=.str r.2:=by unfold EW;rw[hf];rfl
   have e1:Ew rows n v=rows:=by unfold Ew;rw[hf];rfl
   have e2:FE rows n v=r.2:=by unfold FE;rw[hf];rfl
   rw[e0,e1,e2];refine Bd.if (b:=false) (CK.cmp (Bg.isNone (d:=.str r.2) Ev.n false (λh u r=>by cases r;rfl))) (λh=>by cases h) λV=>?_
   exact Bd.ret (Ex.N2 Ev.n λw' X' h z=>by rw[F.hG]at z;exact z)
end
theorem Qs{a b:Nat}(ha:a<=100000)(hb:b<=100000):PySem.Builtin.List.listTooLong (a+b)=false:=by
 exact decide_eq_false (Nat.not_lt.mpr (AD (Nat.add_le_add ha hb) (by rw[sizeLine_eq];decide)))
theorem Ox{l sl:Addr}{xs ys:Array Value}{n n2:Nat}{Q:PySem.Fin->Shared->Prop}(hx:xs.size<=100000)(hy:ys.size<=100000)(h1:s.heap.get? l=some {cls:=.type "list",data:=.seq xs n})(h2:s.heap.get? a=some {cls:=.type "list",data:=.seq ys n2})(uI:(l==a)=false)(h3:s.heap.get? sl=some {cls:=.type "slice",data:=.fields #[.none,.none,.none]})(q:∀h',(∃n',h'.get? l=some {cls:=.type "list",data:=.seq ys n'})->Heap.SameBut l s.heap h'->Q (.done (.ret .none)) {s with heap:=h'}) :
  wpAny (model prog w) A (PySem.Builtin.«list.__setitem__» ⟨[.ref l,.ref sl,.ref a],[]⟩) Q E s:=by
 obtain⟨h,g,d,tk,os⟩:=s;have z:min (if(1:Int)>0 then 0 else(xs.size:Int)-1).toNat xs.size-0+ys.size+(min xs.size xs.size-(max (if(1:Int)>0 then(0:Int)else(xs.size:Int)-1) (if(1:Int)>0 then(xs.size:Int)else -1)).toNat)<=16777216+1:=by
  rw[if_pos Int.one_pos,if_pos Int.one_pos,Int.max_eq_right (BD _),Int.toNat_natCast,Nat.min_self,Nat.sub_self];exact AD (Nat.add_le_add_right (AD (BN _ _) (BU _ _)) _) (AD (BM (Nat.zero_add _)) (lb hy rfl))
 have f1:typeLookup (.type "slice") "__index__"=pure none:=by rw[Ap,builtinLookup_eq_fast];kernel_rfl
 wp_walk
 have f2:PySem.Builtin.List.listSameRef (.ref l) (.ref a)=false:=uI;rw[f2];simp only[AR,if_false];wp_walk;rw[Qs hx hy];simp only[AR,if_false];refine wpAny_bind ?_;refine wpAny_updateSeq h1 rfl ?_;refine wpAny_bind (wpAny_letGo (wpAny_pure ?_));refine q _ ?_ (Heap.SameBut.update ..);rw[BJ _ h1 rfl];simp[Obj.mapSeq]
def jP(c:Cx)(J:B3)(e:Expr)(ds:Cr):Prop:=
 ∀s,Fr c J s.heap->Run c.w c.A Hu (eval e c.env) s λv h'=>∃a vs,v=.ref a/\s.heap.get? a=none/\h'.PlainList a vs.toArray/\Be c.X c.w h' vs ds
theorem jP.C0{elt target iter:Expr}{ifs:Cw}(xs:List α)(Cn:α->D)(p:α->Bool)(g:α->D)(CO:C8 c J scope J0)(Fj:Ba c J target iter (xs.map Cn))(Jx:α->List (Str×D))(D7:∀x,∀q∈J0,q∈Jx x)(hb:∀x∈xs,∀cc,Sub c cc scope->Bind cc J0 target (Cn x) (Jx x))(hi:∀x∈xs,∀cc,Sub c cc scope->CL cc (Jx x) ifs (p x))(he:∀x∈xs,p x=true->∀cc,Sub c cc scope->Ev cc (Jx x) elt (g x))(sz:xs.length<=1000000)(hs:autoParam (∀e x,Q7 iter e x) Gn) :
  jP c J (.ListComp elt [⟨target,iter,ifs,0⟩] scope pos) ((xs.filter p).map g):=λs F Q E q=>by
 have e:(xs.map λx=>(Cn x,if p x then[g x]else[])).flatMap (·.2)=(xs.filter p).map g:=by
  rw[Ak,AB];exact FZ p g xs
 have ZV:∀g'∈[(⟨target,iter,ifs,0⟩:Comprehension)],g'.is_async=0/\∀env x,foldedSetIterable g'.iter env x=pure x:=λg' hg=>by rw[AG.mp hg];exact⟨rfl,hs⟩
 rw[eval_ListComp];show wpAny _ _ (comprehension _ scope c.env _ (newList []) (firstAsync [⟨target,iter,ifs,0⟩]) (firstIter [⟨target,iter,ifs,0⟩] c.env) none) _ _ _;rw[DU (ZV _ (.head _)).1,Dp];refine Fu (ds:=xs.map λx=>(Cn x,if p x then[g x]else[])) (newAcc:=newList []) (Hd ZV) Jj.list (o0:={cls:=.type "list",data:=.seq #[]}) (λM A s Q E h=>wpAny_newObj_type h) rfl (λw X h a e V=>⟨[],⟨_,e⟩,.nil⟩) CO (by rw[AB];exact Fj) (λd hd=>?_) (by rw[e,AA];exact AD (AV _ _) sz) F ?_
 .refine Bh (AF.mp hd) ?_;rintro x hx rfl;refine⟨Jx x,p x,D7 x,hb x hx,hi x hx,λhp=>by simp[hp],λhp=>⟨g x,by simp[hp],λcc sc=>Ie.list (he x hx hp cc sc)⟩⟩
 .intro acc C h' tk m sa sC ba bC ac KI OD l ns Cq;refine Bh Cq ?_;intro vs pl r;rw[e]at r;refine⟨m,ns,λHh sb=>?_⟩;refine CB (Kc (X:=c.X) l sC OD sb (Cd.ns ns)) ?_;intro l2 kn;exact q _ Hh tk l2 ⟨acc,vs,rfl,sa,pl.at λo e=>sb.extBut _ _ ac e,r.kn kn⟩
theorem Fr.ro{x dx l:Addr}{rows:Ch}(F:Fr c J h)(hG:c.G=Bb x dx l rows):Fr (c.on (λb=>c.X b/\¬(Bb x dx l rows).fp b) (CI x dx l rows)) J h:=
 have gx:∀b,(Bb x dx l rows).fp b->b≠c.env.locals/\∀y,c.env.cells.lookup y≠some b:=λb z=>(F.gx b (by rw[hG];exact z)).2
 {base:=F.base
  Cj:=λa z=>F.Cj a z.1
  kind:=F.kind,glob:=F.glob,blt:=F.blt,ok:=F.ok,old:=F.old
  loc:=⟨⟨F.loc.1,λz=>(gx _ z).1 rfl⟩,F.loc.2⟩
  Ez:=λx a e=>by refine Ht (F.Ez x a e) ?_;intro a1 a2 a3 a4;exact⟨a1,a2,a3,λo=>⟨⟨(a4 o).1,λz=>(gx _ z).2 x e⟩,(a4 o).2⟩⟩
  apart:=F.apart
  names:=λx d m=>by refine Bh (F.names x d m) ?_;intro v H r;exact⟨v,H,r.move (Cc λb z=>z.1)⟩
  g:=by
   have g:=F.g;rw[hG]at g;exact⟨Res.CC g λb z=>z.1,λz=>z.2 (.inl rfl),λz=>z.2 (.inr (.inl rfl)),λz=>z.2 (.inr (.inr rfl))⟩
  gx:=λb z=>z.elim}
theorem Ml{vs:Array Value}(t:h.IsTuple a vs){x dx l:Addr}{rows:Ch}(H:(Bb x dx l rows).P w X h):¬(Bb x dx l rows).fp a:=by
 obtain⟨ot,et,ct,n,dt⟩:=t;refine j8 H ?_;clear H;intro ox us h1 h2 h3 h4 Du HU V;refine Bh Du ?_;clear Du;rintro m ⟨od,es,ep,e5,d5,_⟩ _;refine B5 HU ?_;intro n7 e7;rintro(rfl|rfl|rfl)
 .rw [h1]at et;cases et;rw[h2]at ct;cases ct
 .rw [e5]at et;cases et;rw[d5]at dt;cases dt
 .rw [e7]at et;cases et;exact absurd (Value.type.inj ct) (by decide)
theorem Tq{x dx l:Addr}{rows rows':Ch}(H:(Bb x dx l rows).P w X h):∀ {vs:DV},Be (λb=>X b/\¬(Bb x dx l rows).fp b) w h vs (Bq rows')->Be X w h vs (Bq rows'):=by
 induction rows' with
 |nil=>intro vs r;cases r;exact .nil
 |cons p rows' ih=>
  intro vs r;refine Dt (Be.Bo r) ?_;rintro V V rfl a b;refine .cons ?_ (ih b);refine Qe (B8.M1 a) ?_;rintro V V rfl nx nt p' r';refine .tup (λz=>nx ⟨z,Ml p' H⟩) nt p' (r'.flat λd hd=>?_);simp only[AJ,An,or_false]at hd;rcases hd with rfl|rfl<;>rfl
theorem Ex.WS{value:Expr}{sp rJ:Pos}{x dx l:Addr}{rows rows':Ch}(ro:¬c.ro)(hG:c.G=Bb x dx l rows)(Pj:l≠x)(L5:l≠dx)(hz:rows.length<=1000)(nO:rows'.length<=1000)(z:jP (c.on (λb=>c.X b/\¬(Bb x dx l rows).fp b) (CI x dx l rows)) J value (Bq rows'))(a:Ev c J o (.obj (.ref l)))(hs:autoParam (swapsWith value (some (.Subscript o (.Slice none none none rJ) sp)) pos.line c.env=pure false) Bc) :
  Ex c J (.Assign [.Subscript o (.Slice none none none rJ) sp] value pos) (Fr (c.on c.X (Bb x dx l rows')) J) R:=λs F Q E n r=>
 wpAny_Assign_Subscript (z s (F.ro hG) _ _ λv h1 t1 l1 zz=>de zz λb vs ev nb pl rl=>by
  subst ev;have F1:Fr c J h1:=F.le l1;refine a {s with heap:=h1,toks:=t1} F1 _ _ λov h2 t2 l2 r2=>?_;cases r2;have F2:Fr c J h2:=F1.le l2;refine wpAny_Slice ?_;rw[evalPart_none];refine wpAny_pure (wpAny_pure (wpAny_pure ?_));have l3:Le h2 (h2.push {cls:=.type "slice",data:=.fields #[.none,.none,.none]}):=Le.push _ _;have e3:(h2.push {cls:=.type "slice",data:=.fields #[.none,.none,.none]}).get? h2.objs.size=some {cls:=.type "slice",data:=.fields #[.none,.none,.none]}:=AH _ rfl;dsimp only;generalize jn:h2.push {cls:=.type "slice",data:=.fields #[.none,.none,.none]}=h3 at *;have F3:Fr c J h3:=F2.le l3;have g3:=F3.g;rw[hG]at g3;refine bb (id g3) ?_;intro ox us p1 p2 p3 p4 p5 p7 p8 q1 q2 q3;have g0:=F.g;rw[hG]at g0;have lb:l≠b:=λe=>by
   refine j8 g0 ?_;clear g0;intro V V V V V V V Jh V;refine B5 Jh ?_;intro n0 e0;rw[<- e,e0]at nb;cases nb
  have iM:b≠TP:=λe=>by refine Bh F.base.tab ?_;intro ps e' V;rw[e]at nb;rw[nb]at e';cases e'
  refine B5 pl ?_;clear pl;intro n1 sf;have sj:h3.get? b=some {cls:=.type "list",data:=.seq vs.toArray n1}:=l3.keep _ _ iM id (Bt.keep l2 _ _ iM id sf);refine B5 p7 ?_;clear p7;intro n3 lX;have X7:=p8.length;have Na:=rl.length;unfold Bq at X7 Na;rw[AA]at X7 Na;have hT:({s with heap:=h3,toks:=t2}:Shared).TypeIs (.ref l) "list":=⟨_,lX,rfl⟩
  unfold setItem;refine wpAny_holding (wpAny_bind (wpAny_sequenceKey hT (by decide) ?_));refine wpAny_bind (wpAny_callSpecial?_slot (name:=Str.ofString "__setitem__") hT PySem.F.slot_list_setitem (wpAny_call_entry PySem.F.slot_list_setitem hT PySem.F.entry_list_setitem
   (Ox (by rw[AY];exact Jc X7 hz rfl) (by rw[AY];exact Jc Na nO rfl) lX sj (by simpa using lb) e3 λh4 rB s4=>⟨_,rfl,?_⟩) (PySem.F.args_list_setitem_3 _ _ _)))
  refine wpAny_pure ?_;refine B5 rB ?_;clear rB;intro n4 e4;have l4:Bt (·=l) h3 h4:=Co s4 _ e4 q3 (Cd.at lX (Cd.seq rfl));have kF:Be c.X c.w h3 vs (Bq rows'):=Tq g3 (Be.le (Be.le rl l2) l3);have lx:c.X l:=(F3.gx l (by rw[hG];exact .inr (.inr rfl))).1.1;have u:Upd c.G (Bk l (Bq rows)) (Bk l (Bq rows')) (Bb x dx l rows'):=by rw[hG];exact Rb Pj L5
  exact n h4 t2 (F3.upd ro u l4 ⟨vs,⟨n4,e4⟩,kF.move (DQ l4 λb z=>z▸lx),q3⟩)) hs
theorem Bg.vC{a b:Str}(x:Ev c J l (.str a))(y:Ev c J r (.str b))(ha:PyData.strOk a=true)(hb:PyData.strOk b=true)(hm:autoParam (behindInMarks .NotEq r=false) Dy):Bg c J l .NotEq r (!decide (a=b)):=
 (Bg.W7 (n:=0) (m:=0) x y (.str ha) (.str hb) (by decide) hm).eq (by rw[DJ])
theorem O6(P:Params):noSeq (Kx P) 189=true:=by kernel_rfl
section
variable {w:World}{A:Around}{E:CG}{s:Shared}{x:Addr}{ox od:Obj}{k v:Value}
theorem NR(P:Params){f:Addr}{st:Stmt}{qual:Str}{code:Addr}{dflt mod:Value}(fd:B9 f st qual code dflt mod):typeIn (Kx P) (.ref f)=some (.type "function"):=by
 show Option.map (λx:Obj=>x.cls) (List.lookup f (Kx P))=_;rw[fd.here];rfl
theorem QG{Q:ET}{st:Stmt}{qual:Str}{code:Addr}{dflt mod:Value}(fd:B9 109 st qual code dflt mod)(X:(Kx w.params).In s.heap)(I:InstAt s.heap x ox 189 (some od))(h:wpAny (model prog w) A (call (.ref 109) [.ref x,k]) (λV=>Q ()) E s):wpAny (model prog w) A (delItem (.ref x) k) Q E s:=by
 refine wpAny_holding (wpAny_bind (wpAny_bind (I.type.here ?_)));refine wpAny_bind ((anyM_none X (O6 _)).here ?_);rw[if_pos (show(!false)=true from rfl)];exact wpAny_pure (wpAny_bind (special_fn X I (QH _) (NR _ fd) (wpAny_mono h (λV V z=>wpAny_pure z) λV V z=>z)))
theorem QI{Q:ET}{st:Stmt}{qual:Str}{code:Addr}{dflt mod:Value}(fd:B9 104 st qual code dflt mod)(X:(Kx w.params).In s.heap)(I:InstAt s.heap x ox 189 (some od))(h:wpAny (model prog w) A (call (.ref 104) [.ref x,k,v]) (λV=>Q ()) E s):wpAny (model prog w) A (setItem (.ref x) k v) Q E s:=by
 refine wpAny_holding (wpAny_bind (wpAny_bind (I.type.here ?_)));refine wpAny_bind ((anyM_none X (O6 _)).here ?_);rw[if_pos (show(!false)=true from rfl)];exact wpAny_pure (wpAny_bind (special_fn X I (QJ _) (NR _ fd) (wpAny_mono h (λV V z=>wpAny_pure z) λV V z=>z)))
end
theorem ZF:B9 109 (Bu 4) (S "Headers.__delitem__") 108 .none EE:=⟨λP=>rfl,λP=>⟨_,_,_,rfl,rfl,rfl⟩,rfl,rfl,rfl⟩
theorem ZH:B9 104 (Bu 3) (S "Headers.__setitem__") 103 .none EE:=⟨λP=>rfl,λP=>⟨_,_,_,rfl,rfl,rfl⟩,rfl,rfl,rfl⟩
noncomputable def Gy(rows:Ch)(n:Str):List (Str×Str):=rows.filter λr=>!decide (Txt.lower r.1=Txt.lower n)
theorem mI(w:World)(k:Nat)(x dx l:Addr)(rows:Ch)(n:Str)(hl:rows.length<=1000)(Pj:l≠x)(L5:l≠dx)(hr:∀r∈rows,JR r)(hn:n.length<=1000000)(hc:CD true (Txt.lower n))(S2:PyData.strOk (Txt.lower n)=true) :
  CS w 109 (k+2) (Bb x dx l rows) [.obj (.ref x),.str n] .none (Bb x dx l (Gy rows n)):=by
 refine KE ZF (names:=[S "self",S "name"]) (es:=[.obj (.ref x),.str n]) (λX A s vs B xk r Q E q=>?_) (.of (by decide +kernel)) λc X h0 F=>?_
 .refine Dt (Be.Bo r) ?_;rintro V V rfl a r;refine Dt (Be.Bo r) ?_;rintro V V rfl b r;cases r;exact wpAny_pure (q s.heap s.toks [_,_] (.refl _) (.cons a (.cons b .nil)) rfl)
 .have E:=F.env;have hG:∀X h,c.G.P c.w X h->(Bb x dx l rows).P c.w X h:=λX h z=>by rw[F.hG]at z;exact z
  have Jo:1<=c.k:=by rw[F.hk];exact A1 1 k
  refine Bd.step (J':=[(S "name",.str (Txt.lower n)),(S "self",.obj (.ref x))]) (Ex.sc E (d:=.str (Txt.lower n)) (Ev.conv hc (DH.res hG) Jo Ev.n (Ev.lower Ev.n hn))) ?_;have Er:Bi (c.on (λb=>c.X b/\¬(Bb x dx l rows).fp b) (CI x dx l rows)) w (BX (Bu 4)) (k+1):=E.on;have ev:Bq (Gy rows n)=(rows.filter λr=>!decide (Txt.lower r.1=Txt.lower n)).map λr=>D.tup [.str r.1,.str r.2]:=rfl;refine Bd.EL (X':=c.X) (G':=Bb x dx l (Gy rows n)) (Ex.WS (rows:=rows) (rows':=Gy rows n) E.ro F.hG Pj L5 hl (AD (AV _ _) hl) (ev▸jP.C0 rows (λr=>.tup [.str r.1,.str r.2]) (λr=>!decide (Txt.lower r.1=Txt.lower n)) (λr=>.tup [.str r.1,.str r.2]) (J0:=[(S "name",.str (Txt.lower n))]) Er.co
   (Ba.list (Ev.MY (λX h z=>z) Ev.n)) (λr=>[(S "kv",.tup [.str r.1,.str r.2]),(S "name",.str (Txt.lower n))]) (λV V h=>.tail _ h) (λV V V sc=>Bind.n)
   (λr Rh cc sc=>CL.one (CK.cmp (Bg.vC (Ev.lower (Ev.Vc (i:=0) (d:=.str r.1) Ev.n Ev.cInt (AE rfl) rfl) (hr r Rh).len) Ev.n (hr r Rh).ok S2))) (λr V V cc sc=>Ev.n) (lb hl rfl)) (Ev.L5 hG Ev.n)) ?_
  exact Bd.nil (Bd.done λh Fh=>⟨.none,Fh.old,Fh.base,Fh.g⟩)
noncomputable def L6(rows:Ch)(n v:Str):List (Str×Str):=Gy rows n++[(n,v)]
theorem mK(w:World)(k:Nat)(x dx l:Addr)(rows:Ch)(n v:Str)(hl:rows.length<=1000)(Pj:l≠x)(L5:l≠dx)(hr:∀r∈rows,JR r)(f9:CD true n)(hv:CD false v)(hn:n.length<=1000000)(hc:CD true (Txt.lower n))(S2:PyData.strOk (Txt.lower n)=true) :
  CS w 104 (k+3) (Bb x dx l rows) [.obj (.ref x),.str n,.str v] .none (Bb x dx l (L6 rows n v)):=by
 refine KE ZH (names:=[S "self",S "name",S "val"]) (es:=[.obj (.ref x),.str n,.str v]) (λX A s vs B xk r Q E q=>?_) (.of (by decide +kernel)) λc X h0 F=>?_
 .refine Dt (Be.Bo r) ?_;rintro V V rfl a r;refine Dt (Be.Bo r) ?_;rintro V V rfl b r;refine Dt (Be.Bo r) ?_;rintro V V rfl d r;cases r;exact wpAny_pure (q s.heap s.toks [_,_,_] (.refl _) (.cons a (.cons b (.cons d .nil))) rfl)
 .have E:=F.env;have hint:interactive c.env=false:=E.quiet rfl;have Jo:1<=c.k:=by rw[F.hk];exact A1 1 (k+1)
  have UB:k+2<=c.k:=by rw[F.hk];exact Ad _
  let R0:List (Str×D):=[(S "self",.obj (.ref x)),(S "name",.str n),(S "val",.str v)]
  have del:Ex c R0 (((Br (Bu 3))[0]?).getD default) (Fr (c.on c.X (Bb x dx l (Gy rows n))) R0) (M5 c .none (Bb x dx l (L6 rows n v))):=λs Fs Q E nn r=>by
   refine wpAny_Delete (wpAny_deleteEach_cons ?_);rw[arm_delete_Subscript];refine wpAny_bind ((Ev.n (d:=.obj (.ref x)):Ev c R0 _ _) s Fs _ _ λv1 h1 t1 l1 r1=>wpAny_bind (wpAny_holding ((Ev.n (d:=.str n):Ev c R0 _ _) {s with heap:=h1,toks:=t1} (Fs.le l1) _ _ λv2 h2 t2 l2 r2=>wpAny_bind (wpAny_standAt (wpAny_bind (wpAny_holding ?_))))));cases r1;have F2:Fr c R0 h2:=(Fs.le l1).le l2;have g2:=F2.g;rw[F.hG]at g2;refine Fp (IB g2) ?_;intro ox od I V;refine QG (od:=od) ZF (F2.base.k) I ?_;have gx:∀b,(Bb x dx l rows).fp b->c.X b:=λb z=>(F2.gx b (by rw[F.hG];exact z)).1.1;refine mI c.w k x dx l rows n hl Pj L5 hr hn hc S2 c.A c.X {s with heap:=h2,toks:=t2} [.ref x,v2] (F2.ok.CC UB) F2.base F2.Cj (.cons (.obj _) (.cons r2 .nil)) g2 gx _ _ λv3 h3 t3 l3 r3=>?_;have u:Upd c.G (Bb x dx l rows) (Bb x dx l (Gy rows n)) (Bb x dx l (Gy rows n)):=by rw[F.hG];exact Upd.self λb=>Iff.rfl
   exact wpAny_release (wpAny_deleteEach_nil (nn h3 t3 (F2.upd F.ro u l3 r3.2)))
  refine Bd.EL (X':=c.X) (G':=Bb x dx l (Gy rows n)) del ?_;have dD:∀X h,(c.on c.X (Bb x dx l (Gy rows n))).G.P c.w X h->(Bb x dx l (Gy rows n)).P c.w X h:=λX h z=>z;have hI:DH (c.on c.X (Bb x dx l (Gy rows n))) x:=DH.res dD;have E2:Bi (c.on c.X (Bb x dx l (Gy rows n))) w (BX (Bu 3)) (k+2):=E.on;have e3:Bq (Gy rows n)++[.tup [.str n,.str v]]=Bq (L6 rows n v):=by unfold L6 Bq;rw[Af];rfl
  have Na:(Gy rows n).length<=1000:=AD (AV _ _) hl;refine Bd.EL (X':=c.X) (G':=Bb x dx l (L6 rows n v)) (Ex.append (l:=l) (ds:=Bq (Gy rows n)) (d:=.tup [.str n,.str v]) E2.ro (by unfold Bq;rw[AA];exact lb Na rfl) (by rw[e3];exact Rb Pj L5) (Ev.L5 dD Ev.n) (Ev.tp (.cons (Ev.conv f9 hI Jo Ev.n Ev.n) (.cons (Ev.conv hv hI Jo Ev.n Ev.n) .nil))) hint) ?_;exact Bd.nil (Bd.done λh Fh=>⟨.none,Fh.old,Fh.base,Fh.g⟩)
theorem E7.Uk{n:Nat}(x:E7 (n+1) A)(C:Addr)(rest:DV)(kw:Dh):E7 n (A.under (.builtin "type.__call__" ⟨.ref C::rest,kw⟩)):=by
 have hw:(Code.builtin "type.__call__" ⟨.ref C::rest,kw⟩).weight=1:=by rfl
 have hu:(Code.builtin "type.__call__" ⟨.ref C::rest,kw⟩).cUnits=1:=by rfl
 have hg:(Code.builtin "type.__call__" ⟨.ref C::rest,kw⟩).guards=[]:=by rfl
 refine⟨x.handled,?_,?_,?_⟩
 .have:=x.depth;show A.depth+(Code.builtin "type.__call__" ⟨.ref C::rest,kw⟩).weight+2*n+2<=900;lia
 .have:=x.units;show A.units+(Code.builtin "type.__call__" ⟨.ref C::rest,kw⟩).cUnits+10*n+80<=9000;lia
 .show pushGuards (Code.builtin "type.__call__" ⟨.ref C::rest,kw⟩).guards A.guards=some [];rw[hg,x.guards];rfl
def FN(c:Cx)(J:B3)(e:Expr)(P:D->Res->Prop):Prop:=
 ∀s,Fr c J s.heap->∀(Q:CG) (E:CG),(∀v h' tk d T,P d T->Le s.heap h'->(∀b,T.fp b->s.heap.get? b=none/\306<=b/\∃o,h'.get? b=some o)->T.P c.w (DG c.X T.fp) h'->B8 (DG c.X T.fp) c.w h' v d->Q v {s with heap:=h',toks:=tk})->
  wpAny (model prog c.w) c.A (eval e c.env) Q E s
theorem FN.pure(y:Ev c J e d):FN c J e λd' T=>d'=d/\T=Res.emp:=λs F Q E q=>
 y s F _ _ λv h1 t1 l1 r1=>q v h1 t1 d Res.emp ⟨rfl,rfl⟩ l1 (λb z=>z.elim) trivial (r1.move (Cc λb z=>z.elim id λz=>z.elim))
theorem Fr.got{T:Res}(F:Fr c J h)(l:Le h h')(n:∀b,T.fp b->h.get? b=none/\306<=b/\∃o,h'.get? b=some o)(t:T.P c.w (DG c.X T.fp) h'):Fr (c.on (DG c.X T.fp) (c.G.star T)) J h':=by
 have F1:Fr (c.plus T.fp) J h':=F.plus l n;exact F1.star (T:=T) t λb z=>(F.new (n b z).1 (n b z).2.1).off z
theorem Ex.KN{xp:Pos}{P:D->Res->Prop}(y:FN c J e P)(k:Nm c x)(hs:swapsWith e (some (.Name x xp)) pos.line c.env=pure false)(hN:∀d T h X',P d T->(∀b,c.X b->X' b)->(∀b,T.fp b->Gg c b X')->Fr (c.on X' (c.G.star T)) (Hq J x d) h->N h):Ex c J (.Assign [.Name x xp] e pos) N R:=λs F Q E n r=>
 wpAny_Assign_Name (y s F _ _ λv h1 t1 d T p l1 nw t r1=>by
  have F2:=F.got (T:=T) l1 nw t;refine F2.store (s:={s with heap:=h1,toks:=t1}) k.plain k.slot r1 (DF.of rfl) λh2 t2 l2 F3=>n h2 t2 (hN d T h2 _ p (λb z=>.inl z) (λb z=>?_) F3);have new:=F.new (nw b z).1 (nw b z).2.1;exact⟨λb z=>.inl z,new.2.2.1,new.1⟩) hs
theorem QA:B9 83 (Bu 0) (S "Headers.__init__") 82 (.ref 76) EE:=⟨λP=>rfl,λP=>⟨_,_,_,rfl,rfl,rfl⟩,rfl,rfl,rfl⟩
theorem QO{v1:Value}{Q:List (Str×Value)->Shared->Prop}(B:CV w s.heap)(q:Q [(S "self",v1),(S "headers",.none)] s) :
  wpAny (model prog w) A (bindArgs (EV (Bu 0) (S "Headers.__init__") (.ref 76) EE (.ref 82)) ⟨[v1],[]⟩) Q E s:=by
 obtain⟨h,g,d,tk,os⟩:=s;have e:=B.k 76 _ rfl;unfold bindArgs;wp_walk;exact q
theorem QP{v1 v2:Value}{Q:List (Str×Value)->Shared->Prop}(B:CV w s.heap)(q:Q [(S "self",v1),(S "headers",v2)] s) :
  wpAny (model prog w) A (bindArgs (EV (Bu 0) (S "Headers.__init__") (.ref 76) EE (.ref 82)) ⟨[v1,v2],[]⟩) Q E s:=by
 obtain⟨h,g,d,tk,os⟩:=s;have e:=B.k 76 _ rfl;unfold bindArgs;wp_walk;exact q
theorem Ex.expr(y:Ev c J e d)(hint:interactive c.env=false)(hs:autoParam (swapsWith e none pos.line c.env=pure false) Bc):Ex c J (.Expr e pos) (Fr c J) R:=λs F Q E n r=>
 wpAny_Expr_any (y s F _ _ λv h1 t1 l1 r1=>n h1 t1 (F.le l1)) hint hs
noncomputable def Gx(x dx:Addr):Res where
 fp:=λb=>b=x\/b=dx
 P:=λw X h=>∃ox,h.get? x=some ox/\ox.cls=.ref 189/\notCls ox=true/\ox.dict=some dx/\h.Ns1 dx (λV=>none)/\x≠TP/\dx≠TP/\x≠dx
 mv:=by
  intro w X X' h h' Cq k;refine oF Cq ?_;intro ox h1 h2 h3 h4 h5 n1 n2 n3;exact⟨ox,(k x ox (.inl (.inl rfl)) n1 h1).1,h2,h3,h4,IK h5 λo e=>(k dx o (.inl (.inr rfl)) n2 e).1,n1,n2,n3⟩
theorem aD(P:Params):findIn (Kx P) (.ref 189) "__setattr__"=some (some (.builtin "object.__setattr__")):=by kernel_rfl
theorem Uj(P:Params):plainOver (Kx P) 189=true:=by kernel_rfl
theorem Sg(P:Params):takerIn (Kx P) 189 JH=some none:=by kernel_rfl
theorem VV{x dx:Addr}{ox:Obj}{tk:Tok}{b:Bool}{Q:PySem.Fin->Shared->Prop}(B:CV w s.heap)(h1:s.heap.get? x=some ox)(h2:ox.cls=.ref 189)(h4:ox.dict=some dx)(h5:s.heap.Ns1 dx λV=>none)(q:∀h' Wh,h'.Ns1 dx (λy=>if y=JH then some v else none)->Heap.SameBut dx s.heap h'->Q (.done (.ret .none)) {s with heap:=h',toks:=Wh}) :
  wpAny (model prog w) A (PySem.Builtin.ObjectAttr.storeInOwnDict (.ref x) (.ref 189) (.str JH tk) JH v b) Q E s:=by
 obtain⟨h,g,d,t,os⟩:=s;have hC:=B.k 189 _ rfl;obtain⟨oc,od,wu,vM⟩:=ox;dsimp only at h2 h4;subst h2 h4;have hc:clsIn (Kx w.params) 189=some I9:=rfl;refine wpAny_bind (wpAny_pure (wpAny_bind (wpAny_bind (wpAny_loadPart h1 (wpAny_bind ((looks_clsIn B.k hc).here ?_))))));rw[show(!I9.hasDict)=false from rfl];refine wpAny_pure (a:=some dx) (wpAny_bind (wpAny_pure (wpAny_bind (wpAny_nsSet1 h5 λh' ZT hs=>?_))));refine Mn (ZT.count (Within.cons JH v Within.nil)) ?_;intro oD pR pP gB fw fu;refine wpAny_bind (wpAny_lookBehind gB (by rw[fw];exact pastItsLine_dict (AD fu (by rw[AZ,BS,sizeLine_eq];exact A1 (0+1) 16777216))) ?_);exact wpAny_pure (q h' _ ZT hs)
theorem Ex.iu{ap:Pos}{x dx l:Addr}{rows:Ch}(ro:¬c.ro)(hG:c.G=(Gx x dx).star (Bk l (Bq rows)))(a:Ev c J o (.obj (.ref x)))(y:Ev c J e (.obj (.ref l)))(hs:autoParam (swapsWith e (some (.Attribute o JH ap)) pos.line c.env=pure false) Bc) :
  Ex c J (.Assign [.Attribute o JH ap] e pos) (λh=>Fr (c.on c.X (Bb x dx l rows)) J h/\l≠x/\l≠dx) R:=λs F Q E n r=>
 plainObj_wpAny_Assign_Attribute (y s F _ _ λv h1 t1 l1 r1=>by
  cases r1;refine a {s with heap:=h1,toks:=t1} (F.le l1) _ _ λov h2 t2 l2 r2=>?_;cases r2;have F2:Fr c J h2:=(F.le l1).le l2;have g2:=F2.g;rw[hG]at g2;refine FO (id g2) ?_;intro Du HU ap;refine oF Du ?_;intro ox p1 p2 p3 p4 p5 n1 n2 n3;refine EI HU ?_;intro vs pl rr n4;have lx:l≠x:=λe=>ap x (.inl rfl) e.symm;have ld:l≠dx:=λe=>ap dx (.inr rfl) e.symm;refine Js (id p5) ?_;intro od es ep e5 r5;have I:InstAt h2 x ox 189 (some od):=⟨p1,p2,p3,by rw[p4];exact e5⟩
  refine set_plain (s:={s with heap:=h2,toks:=t2}) F2.base.k I (aD _) ?_;refine osa_open (s:={s with heap:=h2,toks:=t2+1}) F2.base.k I (Uj _) (Sg _) λb=>?_;refine VV (s:={s with heap:=h2,toks:=t2+1}) F2.base p1 p2 p4 p5 λh3 t3 qJ s3=>?_;refine Js (id qJ) ?_;intro o3 wU wQ e3 r3;have l3:Bt (·=dx) h2 h3:=Co s3 _ e3 n2 (Cd.at e5 (Cd.dict r5.1));have sT:c.X dx:=(F2.gx dx (by rw[hG];exact .inl (.inr rfl))).1.1;refine n h3 t3 ⟨?_,lx,ld⟩;have iff:∀b,(Bb x dx l rows).fp b↔c.G.fp b:=λb=>by
   rw[hG];show(b=x\/b=dx\/b=l)↔((b=x\/b=dx)\/b=l);rw[or_assoc]
  have u:Upd c.G c.G (Bb x dx l rows) (Bb x dx l rows):=⟨λV V V z=>z,λV z=>z,iff,iff,λV V V V V V V z=>z⟩
  refine F2.upd ro u (l3.any λb z=>by rw[hG];exact .inl (.inr z)) ⟨ox,vs,l3.keep _ _ n1 n3 p1,p2,p3,p4,⟨_,qJ,?_,λn hn=>?_⟩,?_,rr.move (DQ l3 λb z=>z▸sT),n1,n2,n4⟩
  .simp
  .simp [hn]
  .refine B5 pl ?_;clear pl;intro m em;exact⟨m,l3.keep _ _ n4 ld em⟩) hs
theorem Rc{x dx l:Addr}{rows:Ch}(H:(Bb x dx l rows).P w (λb=>X b/\¬(Bb x dx l rows).fp b) h):(Bb x dx l rows).P w X h:=by
 refine qw (id H) ?_;intro ox vs h1 h2 h3 h4 h5 h7 h8 t;have H0:(Bb x dx l ([]:Ch)).P w X (h)\/True:=.inr trivial;refine⟨ox,vs,h1,h2,h3,h4,h5,h7,?_,t⟩;have key:∀(rs:Ch){us:DV},Be (λb=>X b/\¬(Bb x dx l rows).fp b) w h us (Bq rs)->Be X w h us (Bq rs):=λrs=>by
  induction rs with
  |nil=>intro us r;cases r;exact .nil
  |cons p rs ih=>
   intro us r;refine Dt (Be.Bo r) ?_;rintro V V rfl a b;refine .cons ?_ (ih b);refine Qe (B8.M1 a) ?_;rintro V V rfl nx nt p' r';refine .tup (λz=>nx ⟨z,Ml p' H⟩) nt p' (r'.flat λd hd=>?_);simp only[AJ,An,or_false]at hd;rcases hd with rfl|rfl<;>rfl
 exact key rows h8
theorem Fr.vZ{x dx l:Addr}{rows:Ch}(F:Fr c J h)(hG:c.G=Bb x dx l rows)(hJ:∀p∈J',p∈J\/(p.2=.list (Bq rows)/\(p.1,D.obj (.ref l))∈J)):Fr (c.on (λb=>c.X b/\¬(Bb x dx l rows).fp b) (CI x dx l rows)) J' h:=by
 have F':=F.ro hG;refine{F' with names:=λy d m=>?_};rcases hJ _ m with m|⟨e,m⟩
 .exact F'.names y d m
 .refine Bh (F'.names _ _ m) ?_;intro v H r;have e':d=.list (Bq rows):=e;cases r;refine⟨_,H,?_⟩;rw[e'];refine Ht F'.g ?_;intro Cq n1 n2 n3;refine bb Cq ?_;intro ox vs h1 h2 h3 h4 h5 h7 h8 t1 t2 t3;exact B8.list n3 t3 h7 h8
theorem FN.YB{t:Expr}{P:D->Res->Prop}(x:CK c J t false)(y:FN c J r P):FN c J (.IfExp t l r pos) P:=λs F Q E q=>
 wpAny_IfExp (x s F _ _ λb h1 t1 l1 e=>by
  subst e;have Eb:Le s.heap h1:=l1;refine y {s with heap:=h1,toks:=t1} (F.le Eb) Q E λv h2 t2 d T p l2 nw t r=>q v h2 t2 d T p (Bt.trans l1 l2) (λb z=>?_) t r;refine FO (nw b z) ?_;intro a1 a2 a3;exact⟨Bw Eb (LN (F.le Eb).base.tab a1) a1,a2,a3⟩)
theorem FN.bV:FN c J (.List [] pos) λd T=>∃l,d=.obj (.ref l)/\T=Bk l []:=λs F Q E q=>
 wpAny_List (wpAny_items_nil (pos:=pos) (by
  refine⟨by decide,?_⟩;have ea:(s.heap.push {cls:=.type "list",data:=.seq #[]}).get? s.heap.objs.size=some {cls:=.type "list",data:=.seq #[]}:=AH _ rfl;refine q _ _ s.toks (.obj (.ref s.heap.objs.size)) (Bk s.heap.objs.size []) ⟨_,rfl,rfl⟩ (Le.push _ _) (λb z=>?_) ⟨[],⟨_,ea⟩,.nil,B4 F.base.tab⟩ (.obj _);have z':b=s.heap.objs.size:=z;rw[z'];exact⟨Bm _,B6 F.base,_,ea⟩))
theorem Ev.jI{np:Pos}{l:Addr}(hG:∀X h,c.G.P c.w X h->(Bk l ds).P c.w X h)(f:Ev c J (.Name x np) (.obj (.type "type")))(y:Ev c J e (.obj (.ref l)))(he:autoParam (D8 c e []) Bc):Ev c J (.Call (.Name x np) [e] [] pos) (.obj (.type "list")):=
 .RD f (.cons y .nil he) (λvs s F r Q E q=>by
  refine Dt (Be.Bo r) ?_;rintro V V rfl a b;cases b;cases a;refine Bh (hG _ _ F.g) ?_;intro vs Du V;refine B5 Du ?_;intro n e0;exact PySem.call_type_of ⟨_,e0,rfl⟩ (by decide +kernel) (q _ s.heap s.toks (.refl _) (.obj _))) he
theorem Bg.S6{T:String}(x:Ev c J l (.obj (.type T)))(y:Ev c J r (.obj (.type T)))(hm:autoParam (behindInMarks .IsNot r=false) Dy):Bg c J l .IsNot r false:=
 Bg.of x y (λV V s F ra rb Q E q=>by
  cases ra;cases rb;refine wpAny_isNot_plain rfl ?_;rw[show(!(Value.type T==Value.type T))=false by simp];exact q _ s.heap s.toks (.refl _) (.bool _)) hm
theorem Bd.pass{c':Cx}{ls:List (List Stmt)}(e:M6 c c')(f:∀h,Fr c J h->Fr c' J' h)(x:Bd c' J' ls N R):Bd c J ls N R:=λs F Q E n r=>HP e ls (x s (f _ F) Q E n r)
theorem Mc{x dx l:Addr}{rows:Ch}(E:Bi c w (BX (Bu 0)) (k+1))(hG:c.G=(Gx x dx).star (Bk l (Bq rows)))(hr:∀r∈rows,CD true r.1/\CD false r.2) :
  Bd c [(S "headers",.obj (.ref l)),(S "self",.obj (.ref x))] [(Br (Bu 0)).drop 1] (λh=>M5 c .none (Bb x dx l rows) .none h/\l≠x/\l≠dx) R:=by
 have Jo:1<=c.k:=by rw[E.hk];exact A1 1 k
 refine Bd.if (b:=false) (CK.cmp (Bg.S6 (Ev.jI (l:=l) (ds:=Bq rows) (λX h z=>by rw[hG]at z;exact z.2.1) Ev.b Ev.n) Ev.b)) (λh=>by cases h) λV=>Bd.nil ?_
 refine Bd.cons (Ex.iu E.ro hG Ev.n Ev.n) λh1 zz=>?_;refine FO zz ?_;clear zz;intro F1 lx ld;refine⟨c.on c.X (Bb x dx l rows),_,⟨rfl,rfl,rfl⟩,F1,?_⟩;refine Bd.if (b:=true) (CK.val Ev.cBool trivial) (λV=>?_) (λh=>by cases h)
 let R0:List (Str×D):=[(S "headers",.list (Bq rows)),(S "self",.obj (.ref x))]
 let cr:Cx:=(c.on c.X (Bb x dx l rows)).on (λb=>c.X b/\¬(Bb x dx l rows).fp b) (CI x dx l rows);have Er:Bi cr w (BX (Bu 0)) (k+1):=⟨E.hw,E.hs,E.hk,E.ro,E.slot⟩
 have hint:interactive cr.env=false:=E.quiet rfl;refine Bd.pass (c':=cr) (J':=R0) ⟨rfl,rfl,rfl⟩ (λh F2=>Fr.vZ (c:=c.on c.X (Bb x dx l rows)) F2 rfl λp hp=>?_) ?_
 .simp only[R0,AJ,An,or_false]at hp;rcases hp with rfl|rfl
  .exact .inr ⟨rfl,by simp⟩
  .exact .inl (by simp)
 have hz:rows.length=(Bq rows).length:=by unfold Bq;rw[AA]
 refine Bd.cons (Ex.for (ds:=Bq rows) Er.ro (λV=>cr.G) (λV=>R0) rfl rfl (Ba.list Ev.n) (λi d hd X1 T hX=>?_)) ?_
 .unfold Bq at hd;rw[AL,AS]at hd;refine Bh hd ?_;clear hd;rintro r gJ rfl;have E1:Bi (cr.on X1 (cr.G.star T)) w (BX (Bu 0)) (k+1):=Er.on;have gK:=hr r (AQ gJ);have hI:DH (cr.on X1 (cr.G.star T)) x:=DH.ro (dx:=dx) (l:=l) (rows:=rows) λX h z=>z.1;refine⟨(S "v",.str r.2)::(S "k",.str r.1)::R0,Bind.tup (.cons Bind.n (.cons Bind.n .nil)),?_⟩;refine Bd.step (Ex.expr (Ev.conv gK.1 hI Jo Ev.n Ev.n) hint) (Bd.step (Ex.expr (Ev.conv gK.2 hI Jo Ev.n Ev.n) hint) ?_);exact Bd.nil (Bd.done λh2 Fh=>⟨X1,hX,Fh.sub λp hp=>.tail _ (.tail _ hp)⟩)
 .intro h2 Cq;refine Bh Cq ?_;intro X2 Hi F2;refine⟨cr.on X2 cr.G,_,⟨rfl,rfl,rfl⟩,F2,Bd.nil (Bd.nil (Bd.done λh3 F3=>⟨⟨.none,F3.old,F3.base,?_⟩,lx,ld⟩))⟩;have z:(CI x dx l rows).P c.w X2 h3:=F3.g;exact Rc (Res.CC z.1 Hi)
theorem RU{f:Addr}{st:Stmt}{qual:Str}{code:Addr}{dflt mod:Value}(fd:B9 f st qual code dflt mod)(ok:E7 (k+1) A)(B:CV w s.heap)(xk:FT X s.heap){G:Res}(g:G.P w X s.heap)(gx:∀b,G.fp b->X b){names:B1}{Wu:DV}{kw:Dh}(r:Be X w s.heap vs ds)(hl:names.length=vs.length)(hb:∀(Q:List (Str×Value)->Shared->Prop) (E:CG),Q (names.zip vs) s->wpAny (model prog w) A.in1 (bindArgs (EV st qual dflt mod (.ref code)) ⟨Wu,kw⟩) Q E s)(ck:DY (BX st) names){Post:Cs}(body:∀c,FnAt c w (BX st) k X G s.heap->Bd c (names.zip ds) [Br st] (FR G s.heap Post .none) (FR G s.heap Post))(q:∀a h' tk,Bt G.fp s.heap h'->Post a h'->Q a {s with heap:=h',toks:=tk}) :
  codeAny (model prog w) A (.call (.ref f) ⟨Wu,kw⟩) (λr s'=>match r with|.ok (.ret v)=>Q v s'|.ok _=>False|.error e=>E e s') s:=by
 have ho:=B.k _ _ (fd.here w.params);refine Mn (fd.code w.params) ?_;intro oc vc tc ec dc qc;refine A7 (o:=Et st qual dflt mod (.ref code)) (fd:=EV st qual dflt mod (.ref code)) ok.room ho rfl fd.plain.1 fd.plain.2 rfl ⟨code,oc,vc,tc,rfl,B.k _ _ ec,dc,qc⟩ ?_;exact hb _ _ (NQ (s:=s) fd ok B xk (G:=G) g gx r hl ck body q)
def UI(w:World)(X:CF)(x dx:Addr)(rows:Ch)(h0:Heap)(v:Value)(h:Heap):Prop:=
 v=.none/\∃l,(Bb x dx l rows).P w X h/\l≠x/\l≠dx/\h0.get? l=none/\306<=l/\∃o,h.get? l=some o
theorem gS(ok:E7 (k+2) A)(B:CV w s.heap)(xk:FT X s.heap){x dx:Addr}(g:(Gx x dx).P w X s.heap)(gx:∀b,(Gx x dx).fp b->X b)(q:∀a h' tk,Bt (Gx x dx).fp s.heap h'->UI w X x dx [] s.heap a h'->Q a {s with heap:=h',toks:=tk}) :
  codeAny (model prog w) A (.call (.ref 83) ⟨[.ref x],[]⟩) (λr s'=>match r with|.ok (.ret v)=>Q v s'|.ok _=>False|.error e=>E e s') s:=by
 refine RU QA ok B xk (G:=Gx x dx) g gx (names:=[S "self",S "headers"]) (vs:=[.ref x,.none]) (ds:=[.obj (.ref x),.none]) (.cons (.obj _) (.cons .none .nil)) rfl (λQ E q=>QO B q) (.of (by decide +kernel)) (Post:=UI w X x dx [] s.heap) (λc F=>?_) q
 .have E:=F.env;refine Bd.cons (Ex.KN (N:=λh=>∃l X',Gg c l X'/\(∀b,c.X b->X' b)/\Fr (c.on X' (c.G.star (Bk l []))) [(S "headers",.obj (.ref l)),(S "self",.obj (.ref x))] h) (FN.YB (CK.cmp (Bg.isNotNone (d:=.none) Ev.n false (λh u r=>by cases r;rfl))) FN.bV) (E.nm (.inl rfl)) (by rfl) λd T h X' zz hX nw F1=>?_) ?_
  .refine Bh zz ?_;clear zz;intro l e1 e2;subst e1 e2;exact⟨l,X',nw l rfl,hX,F1⟩
  .intro h1 Cq;refine Dt Cq ?_;intro l X1 nw OC F1;have E1:Bi (c.on X1 (c.G.star (Bk l []))) w (BX (Bu 0)) (k+1):=E.on;have XJ:306<=l:=(F1.Cj l (F1.gx l (.inr rfl)).1.1).1;refine⟨c.on X1 (c.G.star (Bk l [])),_,⟨rfl,rfl,rfl⟩,F1,(Mc E1 (rows:=[]) (x:=x) (dx:=dx) (l:=l) ?_ λr hr=>by cases hr).imp (λh zz=>?_) λv h z=>z⟩
   .rw [F.hG];rfl
   .refine FO zz ?_;clear zz;intro Du lx ld;refine Ht Du ?_;intro r1 r2 r3 r4;have e1:Bt c.M c.h0 h:=r2;have no:c.h0.get? l=none:=nw.old;have ib:(Bb x dx l []).P c.w X1 h:=r4;rw[F.hM,F.hh]at e1;rw[F.hh]at no;rw[F.hw]at ib;refine j8 (id ib) ?_;intro V V V V V V V HU V;refine B5 HU ?_;intro n eo;exact⟨e1,rfl,l,Res.CC ib λb z=>OC b (F.hX b z),lx,ld,no,XJ,_,eo⟩
theorem gT(ok:E7 (k+2) A)(B:CV w s.heap)(xk:FT X s.heap){x dx l:Addr}{rows:Ch}(hr:∀r∈rows,CD true r.1/\CD false r.2)(g:((Gx x dx).star (Bk l (Bq rows))).P w X s.heap)(gx:∀b,((Gx x dx).star (Bk l (Bq rows))).fp b->X b)(q:∀a h' tk,Bt ((Gx x dx).star (Bk l (Bq rows))).fp s.heap h'->(a=.none/\(Bb x dx l rows).P w X h'/\l≠x/\l≠dx)->Q a {s with heap:=h',toks:=tk}) :
  codeAny (model prog w) A (.call (.ref 83) ⟨[.ref x,.ref l],[]⟩) (λr s'=>match r with|.ok (.ret v)=>Q v s'|.ok _=>False|.error e=>E e s') s:=by
 refine RU QA ok B xk (G:=(Gx x dx).star (Bk l (Bq rows))) g gx (names:=[S "self",S "headers"]) (vs:=[.ref x,.ref l]) (ds:=[.obj (.ref x),.obj (.ref l)]) (.cons (.obj _) (.cons (.obj _) .nil)) rfl (λQ E q=>QP B q) (.of (by decide +kernel)) (Post:=λv h'=>v=.none/\(Bb x dx l rows).P w X h'/\l≠x/\l≠dx) (λc F=>?_) q
 .have E:=F.env;refine Bd.step (J':=[(S "headers",.obj (.ref l)),(S "self",.obj (.ref x))]) (Ex.sn (d:=.obj (.ref l)) (Ev.K5 (a:=true) (CK.cmp (Bg.isNotNone (d:=.obj (.ref l)) Ev.n true (λh u r=>by cases r;rfl))) (λV=>Ev.n) (λh=>by cases h))) ?_;refine(Mc E (rows:=rows) (x:=x) (dx:=dx) (l:=l) F.hG hr).imp (λh zz=>?_) λv h z=>z;refine FO zz ?_;clear zz;intro Jh lx ld;refine Ht Jh ?_;intro r1 r2 r3 r4;rw[F.hM,F.hh]at r2;rw[F.hw]at r4;exact⟨r2,rfl,Res.CC r4 F.hX,lx,ld⟩
theorem VU(P:Params):makesIn (Kx P) 189=true:=by kernel_rfl
theorem MX(P:Params):keepIn (Kx P) (.ref 189)=true:=by kernel_rfl
theorem ZO{x dx l:Addr}{rows:Ch}(H:(Bb x dx l rows).P w X h)(s:∀b,X' b->X b\/(Bb x dx l rows).fp b):(Bb x dx l rows).P w X' h:=
 Rc (Res.CC H λb z=>(s b z.1).resolve_right z.2)
theorem YX{o:Obj}(e:h.get? a=some o)(d:o.data=.dict #[]):h.Ns1 a λV=>none:=by
 refine⟨o,#[],_,e,d,λen ml=>by simp at ml,?_,λn=>rfl⟩;unfold UniqKeys;simp
theorem Rt(B:CV w s.heap){rest:DV}{kw:Dh}{R:Result->Shared->Prop}(hq:∀x dx h2,x=s.heap.objs.size+1->dx=s.heap.objs.size->Le s.heap h2->(∀X,(Gx x dx).P w X h2)->(∀b,(Gx x dx).fp b->s.heap.get? b=none/\306<=b/\∃o,h2.get? b=some o)->
   codeAny (model prog w) (A.under (.builtin "type.__call__" ⟨.ref 189::rest,kw⟩)) (.call (.ref 83) ⟨.ref x::rest,kw⟩) (InitBack x R) {s with heap:=h2}) :
  codeAny (model prog w) A (.call (.ref 189) ⟨rest,kw⟩) R s:=by
 obtain⟨h,g,d,t,os⟩:=s;have ht:typeIn (Kx w.params) (.ref 83)=some (.type "function"):=NR _ QA;refine make_core (makes_of B.k (VU _)) (looks_findIn B.k (Xy _)) (λself=>bind_fn B.k self ht) (.inl rfl) ?_;have l2:Le h ((h.push emptyDict).push (instObj 189 h.objs.size)):=(Le.push _ _).trans (Le.push _ _);have ex:((h.push emptyDict).push (instObj 189 h.objs.size)).get? (h.objs.size+1)=some (instObj 189 h.objs.size):=by heap_get
 have ed:((h.push emptyDict).push (instObj 189 h.objs.size)).get? h.objs.size=some emptyDict:=AO _ (AH _ rfl);have sz:=B6 B;have vq:306<=h.objs.size:=sz;have nx:h.get? (h.objs.size+1)=none:=by
  cases e:h.get? (h.objs.size+1)with
  |none=>rfl
  |some o=>exact absurd (Ag e) (Nat.not_lt.mpr (Nat.le_succ _))
 refine hq _ _ _ rfl rfl l2 (λX=>⟨_,ex,rfl,rfl,rfl,YX ed rfl,?_,?_,?_⟩) λb z=>?_
 .intro e;have:h.objs.size+1=263:=e;(clear sz e;lia)
 .intro e;have:h.objs.size=263:=e;(clear sz e;lia)
 .exact Nat.succ_ne_self _
 .rcases z with rfl|rfl
  .exact ⟨nx,by exact Aw sz,_,ex⟩
  .exact ⟨Bm _,vq,_,ed⟩
theorem E7.make{n:Nat}(x:E7 (n+1) A)(rest:DV)(kw:Dh):E7 n (A.under (.builtin "type.__call__" ⟨.ref 189::rest,kw⟩)):=x.Uk 189 rest kw
theorem hV(ok:E7 (k+3) A)(B:CV w s.heap)(xk:FT X s.heap)(q:∀x dx l h' tk,Le s.heap h'->l≠x->l≠dx->(∀b,(Bb x dx l []).fp b->s.heap.get? b=none/\306<=b/\∃o,h'.get? b=some o)->(Bb x dx l []).P w (DG X (Bb x dx l []).fp) h'->Q (.ref x) {s with heap:=h',toks:=tk}) :
  wpAny (model prog w) A (call (.ref 189) []) Q E s:=by
 refine wpAny_call (Rt B λx dx h2 ex sr l2 hP nw=>?_);have B2:CV w h2:=B.le l2 λV z=>z.elim;have cY:FT (DG X (Gx x dx).fp) h2:=λa z=>z.elim (λz=>(xk.le l2) a z) λz=>(nw a z).2;refine codeAny_mono (gS (k:=k) (X:=DG X (Gx x dx).fp) (s:={s with heap:=h2}) (ok.make _ _) B2 cY (hP _) (λb z=>.inr z) (Q:=λv s'=>v=.none/\Q (.ref x) s') (E:=E) λa h' tk le zz=>⟨zz.1,?_⟩) λr s' z=>?_
 .refine vJ zz.2 ?_;intro l H lx ld nl bl ol;have gu:Le s.heap h':=⟨λb o nt V e=>le.keep b o nt (λz=>by rw[(nw b z).1]at e;cases e) (l2.keep b o nt id e),λb o V z=>z.elim,λt=>le.tab (l2.tab t),λb o e z=>le.code b o (l2.code b o e z) z⟩
  have n8:l≠TP:=λe=>by rw[e]at bl;exact absurd bl (by decide)
  refine q x dx l h' tk gu lx ld (λb z=>?_) (ZO H λb z=>?_)
  .rcases z with rfl|rfl|rfl
   .obtain ⟨a1,a2,o,a3⟩:=nw _ (.inl rfl);exact⟨a1,a2,le.alive (λe=>by rw[e]at a2;exact absurd a2 (by decide)) a3⟩
   .obtain ⟨a1,a2,o,a3⟩:=nw _ (.inr rfl);exact⟨a1,a2,le.alive (λe=>by rw[e]at a2;exact absurd a2 (by decide)) a3⟩
   .exact ⟨Bw l2 n8 nl,bl,ol⟩
  .rcases z with z|z
   .exact .inl (.inl z)
   .exact .inr z
 .rcases r with e|(v|_|_|_)<;>exact z
theorem hY(ok:E7 (k+3) A)(B:CV w s.heap)(xk:FT X s.heap){l:Addr}{rows:Ch}(hr:∀r∈rows,CD true r.1/\CD false r.2)(g:(Bk l (Bq rows)).P w X s.heap)(gx:X l)(q:∀x dx h' tk,Bt (·=l) s.heap h'->l≠x->l≠dx->(∀b,(Gx x dx).fp b->s.heap.get? b=none/\306<=b/\∃o,h'.get? b=some o)->(Bb x dx l rows).P w (DG X (Gx x dx).fp) h'->Q (.ref x) {s with heap:=h',toks:=tk}) :
  wpAny (model prog w) A (call (.ref 189) [.ref l]) Q E s:=by
 refine wpAny_call (Rt B λx dx h2 ex sr l2 hP nw=>?_);have B2:CV w h2:=B.le l2 λV z=>z.elim;have cY:FT (DG X (Gx x dx).fp) h2:=λa z=>z.elim (λz=>(xk.le l2) a z) λz=>(nw a z).2;have g2:(Bk l (Bq rows)).P w (DG X (Gx x dx).fp) h2:=by
  refine(Bk l (Bq rows)).mv g λb o z nt e=>⟨l2.keep b o nt id e,λnx z=>z.elim nx λz=>by rw[(nw b z).1]at e;cases e⟩
 have gG:((Gx x dx).star (Bk l (Bq rows))).P w (DG X (Gx x dx).fp) h2:=by
  refine⟨hP _,g2,λb z z'=>?_⟩;have z1:b=l:=z';obtain⟨_,_,eo⟩:=xk l gx;rw[z1]at z;rw[(nw _ z).1]at eo;cases eo
 refine codeAny_mono (gT (k:=k) (X:=DG X (Gx x dx).fp) (s:={s with heap:=h2}) (ok.make _ _) B2 cY hr gG (λb z=>z.elim .inr λz=>.inl (by have z':b=l:=z;rw[z'];exact gx)) (Q:=λv s'=>v=.none/\Q (.ref x) s') (E:=E) λa h' tk le zz=>Ht zz λev H lx ld=>⟨ev,?_⟩) λr s' z=>?_
 .have gu:Bt (·=l) s.heap h':=(Bt.trans l2.to le).fresh λb z=>z.elim (λz=>.inr (nw b z).1) .inl;refine q x dx h' tk gu lx ld (λb z=>?_) H;obtain⟨a1,a2,o,a3⟩:=nw _ z;exact⟨a1,a2,le.alive (λe=>by rw[e]at a2;exact absurd a2 (by decide)) a3⟩
 .rcases r with e|(v|_|_|_)<;>exact z
def dw(rows:Ch)(d:D)(T:Res):Prop:=∃x dx l,d=.obj (.ref x)/\T=Bb x dx l rows/\l≠x/\l≠dx
def dz(ds:Cr)(d:D)(T:Res):Prop:=∃l,d=.obj (.ref l)/\T=Bk l ds
theorem FN.Gx{np:Pos}(f:Ev c J (.Name x np) (.obj (.ref 189)))(hk:3<=c.k):FN c J (.Call (.Name x np) [] [] pos) (dw []):=λs F Q E q=>
 wpAny_Call_NameR (f s F _ _ λv h1 t1 l1 r1=>by
  cases r1;have F1:Fr c J h1:=F.le l1;refine callWith_K0 (K:=Kx c.w.params) F1.base.k (MX _) ?_;have nt:∀ {b},306<=b->b≠TP:=λ{b} z e=>by rw[e]at z;exact absurd z (by decide)
  exact hV (k:=0) (s:={s with heap:=h1,toks:=t1}) (F1.ok.CC hk) F1.base F1.Cj λx dx l h2 t2 l2 lx ld nw H=>q _ h2 t2 (.obj (.ref x)) (Bb x dx l []) ⟨x,dx,l,rfl,rfl,lx,ld⟩ (Bt.trans l1 l2) (λb z=>by
   refine FO (nw b z) ?_;intro a1 a2 a3;exact⟨Bw l1 (nt a2) a1,a2,a3⟩) H (.obj _))
theorem FN.hF{es:Cw}(x:FP c J es ds)(hn:autoParam (ds.length<=1000) Fi):FN c J (.List es pos) (dz ds):=λs F Q E q=>
 wpAny_List (x pos s F _ _ λvs h1 t1 l1 r1=>⟨by have:=r1.length;rw[sizeLine_eq];exact Jc this hn rfl,by
  have Eb:Le s.heap h1:=l1;have F1:=F.le Eb;have ea:(h1.push {cls:=.type "list",data:=.seq vs.toArray}).get? h1.objs.size=some {cls:=.type "list",data:=.seq vs.toArray}:=AH _ rfl;refine q _ _ t1 (.obj (.ref h1.objs.size)) (Bk h1.objs.size ds) ⟨_,rfl,rfl⟩ (Bt.trans Eb (Le.push _ _)) (λb z=>?_) ⟨vs,⟨_,ea⟩,?_,B4 F1.base.tab⟩ (.obj _)
  .have z':b=h1.objs.size:=z;rw[z'];exact⟨GN Eb F1.base.tab,B6 F1.base,_,ea⟩
  .exact r1.move λa o nx nt e=>⟨AO _ e,λz=>z.elim nx λz=>by
    have z':a=h1.objs.size:=z;rw[z',Bm]at e;cases e⟩⟩)
theorem Cp{b:Addr}(z:306<=b):b≠TP:=λe=>by rw[e]at z;exact absurd z (by decide)
theorem FN.Oh{np:Pos}{rows:Ch}(hr:∀r∈rows,CD true r.1/\CD false r.2)(f:Ev c J (.Name x np) (.obj (.ref 189)))(y:FN c J e (dz (Bq rows)))(hk:3<=c.k)(he:autoParam (D8 c e []) Bc):FN c J (.Call (.Name x np) [e] [] pos) (dw rows):=λs F Q E q=>
 wpAny_Call_NameR (f s F _ _ λv h1 t1 l1 r1=>by
  cases r1;have F1:Fr c J h1:=F.le l1;refine callWith_K (K:=Kx c.w.params) (h₀:=h1) F1.base.k (MX _) (wpAny_items_cons (y {s with heap:=h1,toks:=t1} F1 _ _ λv h2 t2 d T zz l2 nw tP r2=>Bh zz λl e1 e2=>wpAny_items_nil ?_) he) he;subst e1 e2;cases r2;have E0:Le h1 h2:=l2;have Gj:Le s.heap h2:=Bt.trans l1 E0;have F2:Fr c J h2:=F1.le E0;refine FO (nw l rfl) ?_;intro n1 n2 n3;refine⟨F2.base.k,?_⟩;have cY:FT (DG c.X (·=l)) h2:=λa z=>z.elim (λz=>F2.Cj a z) λz=>by have z':a=l:=z;rw[z'];exact⟨n2,n3⟩
  exact hY (k:=0) (s:={s with heap:=h2,toks:=t2}) (X:=DG c.X (·=l)) (F2.ok.CC hk) F2.base cY hr tP (.inr rfl) λx dx h3 t3 l3 lx ld oA H=>by
   have n0:s.heap.get? l=none:=Bw l1 (Cp n2) n1;refine q _ h3 t3 (.obj (.ref x)) (Bb x dx l rows) ⟨x,dx,l,rfl,rfl,lx,ld⟩ ((Bt.trans Gj.to l3).fresh λb z=>.inr (by have z':b=l:=z;rw[z'];exact n0)) (λb z=>?_) (ZO H λb z=>?_) (.obj _)
   .rcases z with rfl|rfl|rfl
    .refine FO (oA _ (.inl rfl)) ?_;intro a1 a2 a3;exact⟨Bw Gj (Cp a2) a1,a2,a3⟩
    .refine FO (oA _ (.inr rfl)) ?_;intro a1 a2 a3;exact⟨Bw Gj (Cp a2) a1,a2,a3⟩
    .refine B5 n3 ?_;clear n3;intro o eo;exact⟨n0,n2,l3.alive (Cp n2) eo⟩
   .rcases z with z|z
    .exact .inl (.inl (.inl z))
    .exact .inr z)
theorem FN.cW{e1 e2:Expr}{P1 P2:D->Res->Prop}(x:FN c J e1 P1)(y:∀d T X',P1 d T->(∀b,c.X b->X' b)->FN (c.on X' (c.G.star T)) J e2 P2)(ZQ:autoParam (D8 c e1 [e2]) Bc)(Jn:autoParam (D8 c e2 []) Bc) :
  FN c J (.Tuple [e1,e2] k pos) λd T=>∃d1 d2 T1 T2,d=.tup [d1,d2]/\T=T1.star T2/\P1 d1 T1/\P2 d2 T2:=λs F Q E q=>
 wpAny_Tuple (wpAny_items_cons (x s F _ _ λv1 h1 t1 d1 T1 p1 l1 iN wG r1=>by
  have F1:=F.got (T:=T1) l1 iN wG;refine wpAny_items_cons (y d1 T1 _ p1 (λb z=>.inl z) {s with heap:=h1,toks:=t1} F1 _ _ λv2 h2 t2 d2 T2 p2 l2 n9 wH r2=>wpAny_items_nil ?_) Jn;have E0:Le h1 h2:=l2;have Gj:Le s.heap h2:=Bt.trans l1 E0;have F2:=F1.got (T:=T2) E0 n9 wH;refine⟨AE rfl,?_⟩;have B2:CV c.w h2:=F2.base;have l3:Le h2 (h2.push {cls:=.type "tuple",data:=.seq [v1,v2].toArray}):=Le.push _ _;have F3:=F2.le l3;have et:(h2.push {cls:=.type "tuple",data:=.seq [v1,v2].toArray}).get? h2.objs.size=some {cls:=.type "tuple",data:=.seq [v1,v2].toArray}:=AH _ rfl;have sz:=B6 B2;have sub:∀b,DG c.X (T1.star T2).fp b->DG (DG c.X T1.fp) T2.fp b:=λb z=>z.elim (λz=>.inl (.inl z)) λz=>z.elim (λz=>.inl (.inr z)) .inr;have cY:FT (DG (DG c.X T1.fp) T2.fp) h2:=F2.Cj;refine q _ _ t2 (.tup [d1,d2]) (T1.star T2) ⟨d1,d2,T1,T2,rfl,rfl,p1,p2⟩ (Bt.trans Gj l3) (λb z=>?_) ?_ ?_
  .rcases z with z|z
   .obtain ⟨a1,a2,o,a3⟩:=iN b z;refine B5 (Bt.alive E0 (Cp a2) a3) ?_;intro o2 a4;exact⟨a1,a2,l3.alive (Cp a2) a4⟩
   .obtain ⟨a1,a2,o,a3⟩:=n9 b z;exact⟨Bw l1 (Cp a2) a1,a2,l3.alive (Cp a2) a3⟩
  .have g3:((c.G.star T1).star T2).P c.w (DG (DG c.X T1.fp) T2.fp) _:=F3.g;refine⟨Res.CC g3.1.2.1 sub,Res.CC g3.2.1 sub,λb z z'=>g3.2.2 b (.inr z) z'⟩
  .have b8:B8 (DG (DG c.X T1.fp) T2.fp) c.w h2 v1 d1:=r1.move λa o nx nt e=>⟨E0.keep a o nt id e,λz=>z.elim nx λz=>by rw[(n9 a z).1]at e;cases e⟩;refine .tup (λz=>?_) (B4 B2.tab) ⟨_,et,rfl,0,rfl⟩ ((Be.cons b8 (.cons r2 .nil)).move λa o nx nt e=>⟨l3.keep a o nt id e,λz=>nx (sub a z)⟩);exact fresh_ne cY (sub _ z)) ZQ)
theorem Ex.setTR{elts:Cw}{tp:Pos}{P:D->Res->Prop}(y:FN c J e P)(hN:∀d T X',P d T->(∀b,c.X b->X' b)->(∀b,T.fp b->Gg c b X')->∃J',Bind (c.on X' (c.G.star T)) J (.Tuple elts k tp) d J'/\∀h,Fr (c.on X' (c.G.star T)) J' h->N h)(hs:autoParam (swapsWithSole [.Tuple elts k tp] e pos.line c.env=pure false) Bc)(hw:autoParam (swappedStores [.Tuple elts k tp] e c.env=pure none) Bc):Ex c J (.Assign [.Tuple elts k tp] e pos) N R:=λs F Q E n r=>
 Assign_Tuple (y s F _ _ λv h1 t1 d T p l1 nw t r1=>by
  have F2:=F.got (T:=T) l1 nw t;obtain⟨J',b,hn⟩:=hN d T (DG c.X T.fp) p (λb z=>.inl z) λb z=>(by
   have new:=F.new (nw b z).1 (nw b z).2.1;exact⟨λb z=>.inl z,new.2.2.1,new.1⟩)
  exact b v {s with heap:=h1,toks:=t1} F2 r1 _ _ λV h2 t2 l2 F3=>n h2 t2 (hn h2 F3)) hs hw
noncomputable def Oo(o:Obj):Obj:={o with data:=.freed}
noncomputable def hide(h:Heap):List Addr->Heap
 |[]=>h
 |L::r=>(hide h r).update L Oo
theorem TB(h:Heap)(a:Addr):(h.update a Oo).get? a=none:=by
 cases e:(h.update a Oo).get? a with
 |none=>rfl
 |some o=>
  refine CB (Heap.get?_some_iff.mp e) ?_;intro e1 e2;unfold Heap.update at e1;rw[show(h.objs.modify a Oo)[a]? = h.objs[a]?.map Oo by simp[Array.getElem?_modify]]at e1;refine Bh (AS.mp e1) ?_;rintro o' V rfl;cases e2
theorem JB:∀ {Ls:List Addr}{b:Addr}{o:Obj},(hide h Ls).get? b=some o->b∉Ls/\h.get? b=some o
 |[],b,o,e=>⟨An,e⟩
 |L::r,b,o,e=>by
  by_cases q:L=b
  .rw [q]at e;have k:=TB (hide h r) b;unfold hide at e;rw[k]at e;cases e
  .unfold hide at e;rw[Heap.get?_update_other _ _ q]at e;have z:=JB e;exact⟨λm=>(AJ.mp m).elim (λm=>q m.symm) z.1,z.2⟩
theorem IC:∀ {Ls:List Addr}{b:Addr},b∉Ls->(hide h Ls).get? b=h.get? b
 |[],b,n=>rfl
 |L::r,b,n=>by
  unfold hide;rw[Heap.get?_update_other _ _ λq=>n (by rw[q];exact .head _)];exact IC λm=>n (.tail _ m)
theorem X6{Ls:List Addr}{b:Addr}(m:b∈Ls):(hide h Ls).get? b=none:=by
 cases e:(hide h Ls).get? b with
 |none=>rfl
 |some o=>exact absurd m (JB e).1
noncomputable abbrev Bj(l:List Env):List Addr:=l.filterMap (·.frame)
def Lr(h:Heap)(l:List Env):Prop:=∀env∈l,env.scope.kind≠.module/\∃L o,env.frame=some L/\L≠TP/\h.get? L=some o/\∃es ep,o.data=.dict es ep
theorem Lr.memD{l:List Env}(F:Lr h l){b:Addr}(m:b∈Bj l):b≠TP/\∃o,h.get? b=some o/\∃es ep,o.data=.dict es ep:=by
 refine Bh (List.mem_filterMap.mp m) ?_;intro env me fe;obtain⟨_,L,o,e1,e2,e3⟩:=F env me;rw[e1]at fe;cases fe;exact⟨e2,o,e3⟩
theorem Lr.mem{l:List Env}(F:Lr h l){b:Addr}(m:b∈Bj l):b≠TP/\∃o,h.get? b=some o/\∀vs,o.data≠.fields vs:=by
 obtain⟨n,o,e,es,ep,d⟩:=F.memD m;exact⟨n,o,e,λvs z=>by rw[d]at z;cases z⟩
theorem Lr.fun{base:Heap}:∀ {l:List Env},Lr h l->(∀b∈Bj l,base.get? b=none)->h.FunFrames base l
 |[],_,_=>trivial
 |env::r,F,n=>by
  obtain⟨k,L,o,e1,_,e3,es,ep,e4⟩:=F env (.head _);refine⟨k,⟨L,o,e1,n L ?_,e3,λvs z=>by rw[e4]at z;cases z⟩,Lr.fun (λe m=>F e (.tail _ m)) λb m=>n b ?_⟩
  .exact List.mem_filterMap.mpr ⟨env,.head _,e1⟩
  .refine Bh (List.mem_filterMap.mp m) ?_;intro e me fe;exact List.mem_filterMap.mpr ⟨e,.tail _ me,fe⟩
def EN(l:List Env)(h0 h':Heap)(e:Addr)(msg:Str):Prop:=∃B t u,(∀b o,b≠TP->b∉Bj l->h0.get? b=some o->Heap.get? B b=some o)/\Tab B/\Heap.FlyingW B l e (.type "ValueError") (.ref t) h'/\h'.TupAt t [.str msg u]/\B.get? t=none/\
 ∀b∈Bj l,∀o,h0.get? b=some o->∃sl,h'.get? b=some {o with slots:=sl}
structure DZ(c:Cx)(l:List Env):Prop where
 fr:c.A.frames=some (c.env::l)
 own:c.env.frame=some c.env.locals
 Lu:Lr c.h0 l
 mOff:∀b,¬c.M b
theorem DZ.DP{l:List Env}(S:DZ c l){b:Addr}:b∈Bj (c.env::l)↔b=c.env.locals\/b∈Bj l:=by
 unfold Bj;rw[List.filterMap_cons,S.own];exact AJ
theorem Fr.Lu{l:List Env}(F:Fr c J h)(S:DZ c l):Lr h (c.env::l):=λenv m=>by
 rcases AJ.mp m with rfl|m
 .refine iO F.loc.2.2 ?_;intro m o V V eo ed V;exact⟨λz=>(by have k:=F.kind;rw[k]at z;cases z),_,o,S.own,F.W5,eo,_,_,ed⟩
 .obtain ⟨k,L,o,e1,e2,e3,e4⟩:=S.Lu env m;exact⟨k,L,o,e1,e2,F.old.keep _ _ e2 (S.mOff _) e3,e4⟩
theorem QV{l:List Env}{h1:Heap}{e:Addr}{msg:Str}{u:Tok}{Q:ET}(F:Fr c J h1)(S:DZ c l)(hx:Heap.MadeExc h1 s.heap e "ValueError" [.str msg u])(q:∀h',EN l c.h0 h' e msg->Q () {s with heap:=h'}):wpAny (model prog c.w) c.A (leaving c.env (.ref e)) Q E s:=by
 have Fs:=F.Lu S;refine wpAny_leaves_madeW (base:=hide h1 (Bj (c.env::l))) (h:=h1) (cls:=.type "ValueError") (args:=[.str msg u]) S.fr S.own (λb o e=>(JB e).2) (Fs.fun λb m=>X6 m) ⟨hx.keeps,hx.new,hx.there⟩ λh' t fl tp nt up=>q h' ?_;refine⟨_,t,u,λb o n m eo=>?_,?_,fl,tp,nt,λb m o eo=>?_⟩
 .rw [IC λz=>(S.DP.mp z).elim (λz=>by rw[z,F.loc.2.1]at eo;cases eo) m];exact F.old.keep b o n (S.mOff b) eo
 .exact F.base.tab.keep (λo e=>(IC λz=>(Fs.mem z).1 rfl).trans e) λc o V e zz=>Fp zz λvs t d V=>(IC λz=>by
   obtain⟨_,o',e',n'⟩:=Fs.mem z;rw[e]at e';cases e';exact n' vs d).trans e
 .obtain ⟨n,o',eh,nd⟩:=S.Lu.mem m;rw[eo]at eh;cases eh;exact up b o (hx.keeps b o (F.old.keep b o n (S.mOff b) eo)) nd
theorem Vl{l:List Env}{h1:Heap}{e:Addr}{msg:Str}{Q:ET}(F:Fr c J h1)(S:DZ c l)(hx:EN (c.env::l) h1 s.heap e msg)(q:∀h',EN l c.h0 h' e msg->Q () {s with heap:=h'}):wpAny (model prog c.w) c.A (leaving c.env (.ref e)) Q E s:=by
 refine Ze hx ?_;clear hx;intro B t u k1 k2 k3 k4 k5 k6;refine wpAny_leaves_onW S.fr S.own k3 λh' fl up=>q h' ⟨B,t,u,λb o n m eo=>?_,k2,fl,k4.of_slots up,k5,λb m o eo=>?_⟩
 .exact k1 b o n (λz=>(S.DP.mp z).elim (λz=>by rw[z,F.loc.2.1]at eo;cases eo) m) (F.old.keep b o n (S.mOff b) eo)
 .obtain ⟨n,o',eh,nd⟩:=S.Lu.mem m;rw[eo]at eh;cases eh;refine B5 (k6 b (S.DP.mpr (.inr m)) o (F.old.keep b o n (S.mOff b) eo)) ?_;intro sl e1;refine B5 (up b _ e1 nd) ?_;intro ix e2;exact⟨ix,e2⟩
noncomputable def Fm(h h':Heap):List Addr->Heap
 |[]=>h
 |b::r=>(h'.get? b).elim (Fm h h' r) λo'=>(Fm h h' r).update b λo=>{o with slots:=o'.slots}
theorem DN:∀ {ls:List Addr}{b:Addr},b∉ls->(Fm h h' ls).get? b=h.get? b
 |[],b,_=>rfl
 |a::r,b,n=>by
  have n1:a≠b:=λe=>n (by rw[e];exact .head _);have n2:b∉r:=λm=>n (.tail _ m);show((h'.get? a).elim (Fm h h' r) λo'=>(Fm h h' r).update a λo=>{o with slots:=o'.slots}).get? b=_;cases h'.get? a with
  |none=>exact DN n2
  |some o'=>exact(Heap.get?_update_other _ _ n1).trans (DN n2)
theorem HO{o:Obj}{sl:Array (Option Value)}:∀ {ls:List Addr}{b:Addr},h.get? b=some o->h'.get? b=some {o with slots:=sl}->b∈ls->(Fm h h' ls).get? b=some {o with slots:=sl}
 |a::r,b,e,e',m=>by
  have nf:∀x:Array (Option Value),({o with slots:=x}:Obj).isFreed=false:=λx=>by
   refine CB (Heap.get?_some_iff.mp e) ?_;intro V z;obtain⟨_,_,dt,_⟩:=o;cases dt<;>exact z
  show((h'.get? a).elim (Fm h h' r) λo'=>(Fm h h' r).update a λo=>{o with slots:=o'.slots}).get? b=_;by_cases q:a=b
  .subst q;rw[e'];show((Fm h h' r).update a λo=>{o with slots:=sl}).get? a=_;by_cases q2:a∈r
   .rw [BJ _ (HO e e' q2) (nf _)]
   .rw [BJ _ ((DN q2).trans e) (nf _)]
  .have m2:b∈r:=(AJ.mp m).resolve_left λz=>q z.symm;cases h'.get? a with
   |none=>exact HO e e' m2
   |some o'=>exact(Heap.get?_update_other _ _ q).trans (HO e e' m2)
structure Step(l:List Env)(h h':Heap):Prop where
 keep:∀b o,b≠TP->b∉Bj l->h.get? b=some o->h'.get? b=some o
 slots:∀b∈Bj l,∀o,h.get? b=some o->∃sl,h'.get? b=some {o with slots:=sl}
 tab:Tab h->Tab h'
theorem Step.refl(l:List Env)(h:Heap):Step l h h:=⟨λV V V V e=>e,λb V o e=>⟨o.slots,e⟩,id⟩
theorem Step.trans{l:List Env}{Hh:Heap}(x:Step l h h')(y:Step l h' Hh):Step l h Hh:=
 ⟨λb o n m e=>y.keep b o n m (x.keep b o n m e),λb m o e=>by refine B5 (x.slots b m o e) ?_;intro s1 e1;exact by refine B5 (y.slots b m _ e1) ?_;intro s2 e2;exact⟨s2,e2⟩,λt=>y.tab (x.tab t)⟩
theorem Step.le{l:List Env}(x:Le h h')(nt:TP∉Bj l):Step l h h':=
 ⟨λb o n V e=>x.keep b o n id e,λb m o e=>⟨o.slots,x.keep b o (λz=>nt (z▸m)) id e⟩,x.tab⟩
structure Q6(l:List Env)(h h':Heap):Prop where
 step:Step l h h'
 none:∀b,h.get? b=none->h'.get? b=none
theorem Q6.refl(l:List Env)(h:Heap):Q6 l h h:=⟨.refl l h,λV e=>e⟩
theorem Q6.trans{l:List Env}{Hh:Heap}(x:Q6 l h h')(y:Q6 l h' Hh):Q6 l h Hh:=⟨x.step.trans y.step,λb e=>y.none b (x.none b e)⟩
theorem Lr.nt{l:List Env}(F:Lr h l):TP∉Bj l:=λm=>(F.mem m).1 rfl
theorem Lr.step{l:List Env}(F:Lr h l)(s:∀b∈Bj l,∀o,h.get? b=some o->∃sl,h'.get? b=some {o with slots:=sl}):Lr h' l:=λenv m=>by
 obtain⟨k,L,o,e1,e2,e3,e4⟩:=F env m;refine B5 (s L (List.mem_filterMap.mpr ⟨env,m,e1⟩) o e3) ?_;intro sl e5;exact⟨k,L,_,e1,e2,e5,e4⟩
theorem cR{o:Obj}(t:Tab h)(e:h.get? TP=some o):¬Cd o:=λzz=>Fp zz λvs u d q=>by
 refine EI t ?_;clear t;intro ps e1 tr V;rw[e]at e1;have e2:o={cls:=.none,data:=.fields ps}:=Option.some.inj e1;have e3:ps=vs:=by rw[e2]at d;exact Obj.noConfusion (congrArg (λx=>({cls:=.none,data:=x}:Obj)) d) λV V z V=>by cases z<;>rfl
 subst e3;obtain⟨l⟩:=ps;cases l with
 |nil=>cases q
 |cons a r=>cases r with
  |nil=>cases q
  |cons b r=>
   have q':b=.str QU u:=by simpa using q
   subst q';cases a<;>exact tr
theorem Fr.rebase{l:List Env}(F:Fr c J h)(S:DZ c l)(ow:∀x,c.own x)(ro:¬c.ro)(sub:∀b∈Bj l,c.X b)(st:Step (c.env::l) h h'):∃D6,Q6 l c.h0 D6/\Fr {c with h0:=D6} J h'/\DZ {c with h0:=D6} l:=by
 let D6:=Fm c.h0 h' (Bj l);have fs:=F.Lu S;have inl:∀ {b},b∈Bj l->b∈Bj (c.env::l):=λm=>S.DP.mpr (.inr m);have SY:∀b∈Bj (c.env::l),c.X b:=λb m=>(S.DP.mp m).elim (λe=>e▸F.loc.1) (sub b);have nX:∀ {b},¬c.X b->b∉Bj (c.env::l):=λn m=>n (SY _ m);have small:∀ {b},b<306->b∉Bj (c.env::l):=λlt m=>Nat.not_le.mpr lt (F.Cj _ (SY _ m)).1;have nC:∀ {b o},h.get? b=some o->Cd o->b∉Bj (c.env::l):=λe zz m=>Fp zz λvs V d V=>by
  obtain⟨_,o',e',n'⟩:=fs.mem m;rw[e]at e';cases e';exact n' vs d
 have live:∀b∈Bj l,∃o,c.h0.get? b=some o:=λb m=>by obtain⟨_,o,e,_⟩:=S.Lu.mem m;exact⟨o,e⟩
 have kI:∀b∈Bj l,∀o,c.h0.get? b=some o->∃sl,D6.get? b=some {o with slots:=sl}/\h'.get? b=some {o with slots:=sl}:=λb m o e=>by
  refine B5 (st.slots b (inl m) o (F.old.keep b o (S.Lu.mem m).1 (S.mOff b) e)) ?_;intro sl e2;exact⟨sl,HO e e2 m,e2⟩
 have Mk:∀ {b},c.h0.get? b=none->b∉Bj l/\D6.get? b=none:=λ{b} e=>by
  have n:b∉Bj l:=λm=>by
   refine B5 (live b m) ?_;intro o e';rw[e]at e';cases e'
  exact⟨n,(DN n).trans e⟩
 have wo:c.env.locals∉Bj l:=(Mk F.loc.2.1).1;have new:∀ {b},c.h0.get? b=none->b≠c.env.locals->b∉Bj (c.env::l):=λe n m=>(S.DP.mp m).elim n λm=>(Mk e).1 m;have alive:∀ {b o},b≠TP->h.get? b=some o->∃o',h'.get? b=some o':=λ{b o} n e=>by
  by_cases m:b∈Bj (c.env::l)
  .refine B5 (st.slots b m o e) ?_;intro sl z;exact⟨_,z⟩
  .exact ⟨o,st.keep b o n m e⟩
 have vG:∃m,h'.Ns c.env.locals m:=by refine iO F.loc.2.2 ?_;intro m o es ep e d k;exact by refine B5 (st.slots _ (S.DP.mpr (.inl rfl)) o e) ?_;intro sl e';exact⟨m,_,es,ep,e',d,k⟩
 have kc:∀ {x a},c.env.cells.lookup x=some a->∀o,h.get? a=some o->h'.get? a=some o:=λ{x a} e o z=>
  Ht (F.Ez x a e) λc1 c2 V c4=>st.keep a o c2 (new (c4 (ow x)).2 c1) z
 refine⟨D6,⟨⟨λb o n m e=>(DN m).trans e,λb m o e=>by refine Bh (kI b m o e) ?_;intro sl z V;exact⟨sl,z⟩,λt=>t.keep (λo e=>(DN S.Lu.nt).trans e) λb o n e z=>(DN λm=>?_).trans e⟩,λb e=>(Mk e).2⟩,?_,⟨S.fr,S.own,S.Lu.step λb m o e=>by refine Bh (kI b m o e) ?_;intro sl z V;exact⟨sl,z⟩,S.mOff⟩⟩
 .refine Fp z ?_;clear z;intro vs V d V;obtain⟨_,o',e',n'⟩:=S.Lu.mem m;rw[e]at e';cases e';exact n' vs d
 .have bs:=F.base;exact{
   base:=⟨λa o e=>st.keep a o (ZX e) (small (K6 e)) (bs.k a o e),by refine Bh bs.gl ?_;intro mg n r;exact⟨mg,Ck n λo e=>st.keep _ o (by decide) (small (by decide)) e,r⟩,
    by refine Bh bs.bt ?_;intro mg n r;exact⟨mg,Ck n λo e=>st.keep _ o (by decide) (small (by decide)) e,r⟩,by refine Bh bs.lim ?_;intro mc n r;exact⟨mc,Ck n λo e=>st.keep _ o (by decide) (small (by decide)) e,r⟩,st.tab bs.tab⟩
   Cj:=λa z=>by obtain⟨x1,o,e⟩:=F.Cj a z;exact⟨x1,alive (Cp x1) e⟩
   kind:=F.kind,glob:=F.glob,blt:=F.blt,ok:=F.ok
   old:=⟨λb o n V e=>(by
     by_cases m:b∈Bj l
     .refine B5 (live b m) ?_;intro o0 e0;refine Bh (kI b m o0 e0) ?_;intro sl e1 e2;have e':D6.get? b=some o:=e;rw[e1]at e';cases e';exact e2
     .have e':c.h0.get? b=some o:=(DN m).symm.trans e;refine st.keep b o n (λm'=>(S.DP.mp m').elim (λz=>?_) m) (F.old.keep b o n (S.mOff b) e');rw[z,F.loc.2.1]at e';cases e'),
    λb V V m=>(S.mOff b m).elim,λV=>st.tab bs.tab,λb o e z=>(by
     by_cases m:b∈Bj l
     .refine Fp z ?_;clear z;intro vs V d V;obtain⟨_,o0,e0,n0⟩:=S.Lu.mem m;refine Bh (kI b m o0 e0) ?_;intro sl e1 V;have e':D6.get? b=some o:=e;rw[e1]at e';cases e';exact(n0 vs d).elim
     .have e1:=F.old.code b o ((DN m).symm.trans e) z;refine st.keep b o (λt=>?_) (nC e1 z) e1;rw[t]at e1;exact cR bs.tab e1 z)⟩
   loc:=⟨F.loc.1,(Mk F.loc.2.1).2,vG⟩
   Ez:=λx a e=>by refine Ht (F.Ez x a e) ?_;intro c1 c2 Cq c4;refine B5 Cq ?_;intro v c3;exact⟨c1,c2,⟨v,B0 c3 (kc e)⟩,λq=>⟨(c4 q).1,(Mk (c4 q).2).2⟩⟩
   apart:=F.apart
   names:=λx d m=>by
    refine Bh (F.names x d m) ?_;intro v Du r;refine CB Du ?_;intro H1 H2;refine⟨v,⟨H1,H2.imp (λ⟨k,n,m,⟨o,es,ep,e,q⟩,z⟩=>by refine B5 (st.slots _ (S.DP.mpr (.inl rfl)) o e) ?_;intro sl e';exact⟨k,n,m,⟨_,es,ep,e',q⟩,z⟩) λzz=>by refine UG zz ?_;clear zz;intro a k e n ic;exact⟨a,k,e,n,B0 ic (kc e)⟩⟩,r.move λa o n t e=>⟨st.keep a o t (nX n) e,n⟩⟩
   g:=c.G.mv F.g λb o q n e=>⟨st.keep b o n (by
    rcases q with q|q|q
    .refine FO (F.gx b q) ?_;intro HU g3 V;refine CB HU ?_;intro V g2;refine new ?_ g3;rcases g2 with g2|g2|g2
     .exact (ro g2).elim
     .exact (S.mOff b g2).elim
     .exact g2
    .exact nX q
    .exact nC e q) e,id⟩
   gx:=λb z=>by refine CB (F.gx b z) ?_;intro Jh g3;refine CB Jh ?_;intro g1 g2;exact⟨⟨g1,g2.imp_right λg=>g.imp_right λg=>(Mk g).2⟩,g3⟩}
section
open PySem.Builtin PySem.Builtin.Re
variable {c cc:Cx}{J J' KR J0:B3}{N:Em}{R:Cs}{h h':Heap}{Z:Addr->Heap->Prop}
def Dg(c:Cx)(J:B3)(ls:List (List Stmt))(Z:Addr->Heap->Prop):Prop:=
 ∀s,Fr c J s.heap->∀(Q:Flow->Shared->Prop) (E:CG),(∀e h' tk,Z e h'->E (.ref e) {s with heap:=h',toks:=tk})->Qp c ls Q E s
theorem Dg.cons{st:Stmt}{rest:Dx}{ls:List (List Stmt)}(x:Ex c J st N (λV V=>False))(y:∀h,N h->∃c' J',M6 c c'/\Fr c' J' h/\Dg c' J' (rest::ls) Z):Dg c J ((st::rest)::ls) Z:=λs F Q E n=>
 Ao (x s F _ _ (λh1 t1 n1=>by
  refine Dt (y h1 n1) ?_;intro c' J' e F' z;exact HP e (rest::ls) (z {s with heap:=h1,toks:=t1} F' Q E n)) λv h1 t1 r1=>r1.elim)
theorem Dg.step{st:Stmt}{rest:Dx}{ls:List (List Stmt)}(x:Ex c J st (Fr c J') (λV V=>False))(y:Dg c J' (rest::ls) Z):Dg c J ((st::rest)::ls) Z:=
 .cons x λh F=>⟨c,J',⟨rfl,rfl,rfl⟩,F,y⟩
theorem Dg.if{test:Expr}{body orelse:Dx}{rest:Dx}{ls:List (List Stmt)}(x:CK c J test true)(t:Dg c J (body::rest::ls) Z):Dg c J ((.If test body orelse pos::rest)::ls) Z:=λs F Q E n=>
 Ao (wpAny_If (x s F _ _ λb1 h1 t1 l1 e1=>by
  subst e1;have Eb:Le s.heap h1:=l1;have k:=t {s with heap:=h1,toks:=t1} (F.le Eb) Q E n;exact wpAny_mono k (λf s' k=>by cases f<;>exact k) λV V k=>k))
noncomputable def FC:Str:=Str.ofString "Control characters not allowed in headers"
theorem Dg.raise{np lJ:Pos}{rest:Dx}{ls:List (List Stmt)}{msg:Str}(f:Ev c J (.Name (S "ValueError") np) (.obj (.type "ValueError")))(y:Ev c J e (.str msg))(he:autoParam (D8 c e []) Bc) :
  Dg c J ((.Raise (some (.Call (.Name (S "ValueError") np) [e] [] lJ)) none pos::rest)::ls) λe h'=>∃h1 u,Fr c J h1/\Heap.MadeExc h1 h' e "ValueError" [.str msg u]:=λs F Q E n=>
 Ao (Raise_madeB PySem.F.excCall_ValueError PySem.F.excRaise_ValueError F.ok.handled (f s F _ _ λv h1 t1 l1 r1=>by
  cases r1;refine⟨rfl,wpAny_items_cons (y {s with heap:=h1,toks:=t1} (F.le l1) _ _ λv2 h2 t2 l2 r2=>wpAny_items_nil ?_) he⟩;cases r2;have E0:Le h1 h2:=l2;exact⟨AE rfl,λh' e hx=>n e h' _ ⟨h2,_,(F.le l1).le E0,hx⟩⟩) he)
theorem OA{vs:Array Value}{Q:Bool->Shared->Prop}(e:s.heap.get? a=some {cls:=.type "re.Match",data:=.fields vs})(q:Q true s):wpAny (model prog w) A (truthy (.ref a)) Q E s:=by
 have hT:s.TypeIs (.ref a) "re.Match":=⟨_,e,rfl⟩
 refine wpAny_bind (wpAny_callSpecial?_none (self:=.ref a) (name:="__bool__") hT (by rw[Ap,builtinLookup_eq_fast];kernel_rfl) ?_);refine wpAny_bind (wpAny_specialOf (v:=.ref a) (name:="__len__") (r:=none) hT (by rw[Ap,builtinLookup_eq_fast];kernel_rfl) ?_);exact wpAny_pure q
theorem CK.Tt{apos:Pos}(hx:Dj x=true)(h1:1<=x.length)(hz:x.length<=1000000)(a:Ev c J o (.obj (.ref 55)))(y:Ev c J e (.str x))(he:autoParam (D8 c e []) Bc)(hb:autoParam (attributeBase o "search" c.env (eval o c.env)=eval o c.env) Bc)(Dv:autoParam (((backTo pos (starEach [e] c.env)).all (λx=>!x.1)&&(backToKw pos (keywordEach [] c.env)).all (λx=>x.1.isSome)
   && decide ([e].length+([]:List Keyword).length+(if([]:List Keyword).isEmpty then 0 else 1)<30))=true) Bc)(hl:autoParam (J6 apos pos) Bc)(ht:autoParam (isTrue (.Call (.Attribute o "search" apos) [e] [] pos) c.env (eval (.Call (.Attribute o "search" apos) [e] [] pos) c.env)=(do let v <- eval (.Call (.Attribute o "search" apos) [e] [] pos) c.env;standAt (Expr.Call (.Attribute o "search" apos) [e] [] pos).pos;holding [v] (truthy v))) Bc):CK c J (.Call (.Attribute o "search" apos) [e] [] pos) true:=
 λs F Q E q=>wpAny_isTrue_value (wpAny_Call_method_lateS hb Dv hl (a s F _ _ λv VN t1 l1 r1=>by
  cases r1;have F1:=F.le l1;refine⟨"re.Pattern","re.Pattern.search",V9,Ff,Jg,⟨_,F1.base.k 55 _ rfl,rfl⟩,(λa' e=>by cases e;exact⟨_,F1.base.k 55 _ rfl,rfl⟩),?_⟩;refine BI (wpAny_items_cons (y _ F1 _ _ λv h2 t2 l2 r2=>wpAny_items_nil ?_) he) he rfl;cases r2;have F2:=F1.le l2;have Gj:Le s.heap h2:=Bt.trans l1 l2;refine wpAny_call_entry Ff ⟨_,F2.base.k 55 _ rfl,rfl⟩ H3 ?_ (JS _ _);refine HB (F2.base.k 55 _ rfl) (F2.base.k 54 _ rfl) (by kernel_rfl) hz h1 (λh=>by rw[hx]at h;cases h) λV h3 m k zz=>?_;refine B5 zz ?_;clear zz;intro vs em;exact OA (s:={s with heap:=h3,toks:=t2}) em (q true h3 t2 (Bt.trans Gj (Le.of k)) rfl))) ht
end
section
variable {c cc:Cx}{J J' KR J0:B3}{N:Em}{R:Cs}{h h':Heap}{Z:Addr->Heap->Prop}
theorem EN.since{l:List Env}{h0 h1:Heap}{e:Addr}{msg:Str}(x:EN l h1 h' e msg)(le:Le h0 h1)(nt:TP∉Bj l):EN l h0 h' e msg:=
 Ze x λB t u k1 k2 k3 k4 k5 k6=>⟨B,t,u,λb o n m e=>k1 b o n m (le.keep b o n id e),k2,k3,k4,k5,λb m o e=>k6 b m o (le.keep b o (λz=>nt (z▸m)) id e)⟩
theorem Lr.le{l:List Env}{h0 h1:Heap}(F:Lr h0 l)(le:Le h0 h1):Lr h1 l:=F.step λb m o e=>⟨o.slots,le.keep b o (F.mem m).1 id e⟩
theorem O9{sc:Scope}{G:Res}{h0:Heap}{l:List Env}(FA:FnAt c w sc k X G h0)(hA:c.A=A.deeper c.env)(ow:c.env.frame=some c.env.locals)(ha:A.frames=some l)(fs:Lr h0 l)(ng:∀b,¬G.fp b):DZ c l:=
 ⟨by rw[hA];exact Around.frames_deeper ha,ow,by rw[FA.hh];exact fs,λb z=>by rw[FA.hM]at z;exact ng b z⟩
theorem WD(w:World)(k:Nat)(hx:Dj x=true)(h1:1<=x.length)(hz:x.length<=1000000){self:Value}{t:Tok}{l:List Env}(ok:E7 (k+1) A)(B:CV w s.heap)(xk:FT X s.heap)(ha:A.frames=some l)(fs:Lr s.heap l){E':CG}(q:∀ea h' tk,EN l s.heap h' ea FC->E' (.ref ea) {s with heap:=h',toks:=tk}):wpAny (model prog w) A (call (.ref 90) [self,.str x t] [(Str.ofString "name",.bool true)]) Q E' s:=by
 refine wpAny_call ?_;refine Mn (D5.code w.params) ?_;intro oc vc tc ec dc qc;refine A7 (o:=Et (Bu 1) (S "Headers._convert_string_type") .none EE (.ref 89)) (fd:=EV (Bu 1) (S "Headers._convert_string_type") .none EE (.ref 89)) ok.room (B.k _ _ (D5.here w.params)) rfl D5.plain.1 D5.plain.2 rfl ⟨89,oc,vc,tc,rfl,B.k _ _ ec,dc,qc⟩ ?_;have hb:bindArgs (EV (Bu 1) (S "Headers._convert_string_type") .none EE (.ref 89)) ⟨[self,.str x t],[(Str.ofString "name",.bool true)]⟩=pure ([S "self",S "value",S "name"].zip [self,.str x t,.bool true]):=by rfl
 rw[hb];refine wpAny_pure (HL D5 ok B xk (G:=Res.emp) trivial (λV z=>z.elim) (ds:=[.obj self,.str x,.bool true]) (.cons (.obj _) (.cons (.str _ _) (.cons (.bool _) .nil))) rfl (.of (by decide +kernel)) λc h1 t1 FA hA zz V F=>CB zz λow V=>?_)
 .have E:=FA.env;have Sk:=O9 FA hA ow ha fs λb z=>z;have body:Dg c [(S "self",.obj self),(S "value",.str x),(S "name",.bool true)] [Br (Bu 1)] λe h'=>∃J h1 u,Fr c J h1/\Heap.MadeExc h1 h' e "ValueError" [.str FC u]:=by
   refine Dg.if (CK.cmp (Bg.isType (Ev.Zn Ev.b Ev.n) Ev.b)) ?_
   refine Dg.step (J':=[(S "regex",.obj (.ref 55)),(S "self",.obj self),(S "value",.str x),(S "name",.bool true)]) (Ex.sn (d:=.obj (.ref 55)) (Ev.K5 (d:=.obj (.ref 55)) (CK.val (d:=.bool true) Ev.n trivial) (λV=>Ev.g) λz=>by cases z)) ?_;refine Dg.if (CK.Tt hx ‹_› hz Ev.n Ev.n) ?_
   refine λs F Q E n=>(Dg.raise Ev.b Ev.cStr:Dg c _ _ _) s F Q E λea h' tk zz=>by refine Fp zz ?_;clear zz;intro h1 u F1 hx;exact n ea h' tk ⟨_,h1,u,F1,hx⟩
  have hw:c.w=w:=E.hw;have z:=body {s with heap:=h1,toks:=t1} F (λf s'=>Q (match f with|.ret v=>v|_=>.none) s') (λe s'=>wpAny (model prog c.w) c.A (leaving c.env e) (λV Gb=>E' e Gb) (λe' Gb=>E' e' Gb) s') λea h' tk zz=>Js zz λJ h2 u F2 hx=>QV F2 Sk hx λh3 T=>(by
   rw[FA.hh]at T;exact q ea h3 tk T)
  exact wpAny_mono z (λf s' k=>by cases f<;>exact k) λV V k=>k
def jO(c:Cx)(J:B3)(e:Expr)(Z:Addr->Heap->Prop):Prop:=
 ∀s,Fr c J s.heap->∀(Q:CG) (E:CG),(∀ea h' tk,Z ea h'->E (.ref ea) {s with heap:=h',toks:=tk})->wpAny (model prog c.w) c.A (eval e c.env) Q E s
theorem jO.conv{apos kp bp:Pos}{bk:Nat}{x:Addr}{t:Str}{l:List Env}(hx:Dj t=true)(h1:1<=t.length)(hz:t.length<=1000000)(S:DZ c l)(hI:DH c x)(hk:1<=c.k)(a:Ev c J o (.obj (.ref x)))(y:Ev c J e (.str t))(he:autoParam (D8 c e []) Bc)(hb:autoParam (attributeBase o "_convert_string_type" c.env (eval o c.env)=eval o c.env) Bc)(Dv:autoParam (((backTo pos (starEach [e] c.env)).all (λx=>!x.1)&&(backToKw pos (keywordEach [⟨some (Str.ofString "name"),.Constant (.bool true) bk bp,kp⟩] c.env)).all (λx=>x.1.isSome)
   && decide ([e].length+1+(if(backToKw pos (keywordEach [⟨some (Str.ofString "name"),.Constant (.bool true) bk bp,kp⟩] c.env)).isEmpty then 0 else 1)<30))=true) Bc)(hl:autoParam (J6 apos pos) Bc) :
  jO c J (.Call (.Attribute o "_convert_string_type" apos) [e] [⟨some (Str.ofString "name"),.Constant (.bool true) bk bp,kp⟩] pos) λea h'=>∃h1,Fr c J h1/\EN (c.env::l) h1 h' ea FC:=λs F Q E q=>by
 refine Ey (f:=90) a F hI (by decide) Rd ⟨_,_,_,_,_,D5⟩ hb Dv hl λs1 F1 l1 e1=>?_;rw[he];refine evalArgs_kw (by rfl) ?_;refine PySem.Calls.spliced_cons (y s1 F1 _ _ λv h2 t2 l2 r2=>PySem.Calls.spliced_nil ?_);cases r2;refine wpAny_evalAll_cons ?_;refine wpAny_bind (wpAny_Constant_bool (wpAny_bind (wpAny_standAt (wpAny_pure (wpAny_evalAll_nil ?_)))));have F2:Fr c J h2:=F1.le l2;refine⟨F2.base,?_⟩;exact WD c.w 0 hx h1 hz (s:={s1 with heap:=h2,toks:=t2}) (F2.ok.CC hk) F2.base F2.Cj S.fr (F2.Lu S) λea h3 t3 T=>by
  rw[e1];exact q ea h3 t3 ⟨h2,F2,T⟩
theorem Dg.append{e1 e2:Expr}{tk:Nat}{apos tp GD:Pos}{rest:Dx}{ls:List (List Stmt)}(a:Ev c J o (.list ds))(y:jO c J e1 Z)(hint:interactive c.env=false)(he:autoParam (starEach [.Tuple [e1,e2] tk tp] c.env=(false,eval (.Tuple [e1,e2] tk tp) c.env)::starEach [] c.env) Bc)(ZQ:autoParam (D8 c e1 [e2]) Bc)(hb:autoParam (attributeBase o "append" c.env (eval o c.env)=eval o c.env) Bc)(Dv:autoParam (((backTo pos (starEach [.Tuple [e1,e2] tk tp] c.env)).all (λx=>!x.1)&&(backToKw pos (keywordEach [] c.env)).all (λx=>x.1.isSome)&&decide ([Expr.Tuple [e1,e2] tk tp].length+([]:List Keyword).length+(if([]:List Keyword).isEmpty then 0 else 1)<30))=true) Bc)(hl:autoParam (J6 apos pos) Bc)(hs:autoParam (swapsWith (.Call (.Attribute o "append" apos) [.Tuple [e1,e2] tk tp] [] pos) none GD.line c.env=pure false) Bc) :
  Dg c J ((.Expr (.Call (.Attribute o "append" apos) [.Tuple [e1,e2] tk tp] [] pos) GD::rest)::ls) Z:=λs F Q E n=>
 Ao (wpAny_Expr_any (wpAny_Call_method_lateS hb Dv hl (a s F _ _ λv h1 t1 l1 r1=>by
  refine Qe (B8.Hl r1) ?_;rintro V V rfl nx nt pl rr;have F1:Fr c J h1:=F.le l1;refine B5 (id pl) ?_;intro n0 e0;refine⟨"list","list.append",PySem.F.plainAttrs_list,slot_list_append,PySem.F.type_list_append,⟨_,e0,rfl⟩,(λa' e=>by cases e;exact⟨_,e0,rfl⟩),?_⟩;exact BI (wpAny_items_cons (wpAny_Tuple (wpAny_items_cons (y {s with heap:=h1,toks:=t1} F1 _ _ λea h' tk z=>n ea h' tk z) ZQ)) he) he rfl)) hint hs)
end
section
variable {c cc:Cx}{J J' KR J0:B3}{N:Em}{R:Cs}{h h':Heap}{Z:Addr->Heap->Prop}
theorem Dg.nil{ls:List (List Stmt)}(x:Dg c J ls Z):Dg c J ([]::ls) Z:=λs F Q E n=>wpAny_execs_nil (x s F Q E n)
theorem DZ.on{l:List Env}{G:Res}(S:DZ c l):DZ (c.on X G) l:=⟨S.fr,S.own,S.Lu,S.mOff⟩
theorem oU(w:World)(k:Nat){x dx l:Addr}{rows:Ch}{n v:Str}(hn:Dj n=true)(m4:1<=n.length)(m5:n.length<=1000000)(hv:CD false v){fr:List Env}(ok:E7 (k+2) A)(B:CV w s.heap)(xk:FT X s.heap)(rv:Be X w s.heap vs [.obj (.ref x),.str n,.str v])(g:(CI x dx l rows).P w X s.heap)(ha:A.frames=some fr)(fs:Lr s.heap fr){E':CG}(q:∀ea h' tk,EN fr s.heap h' ea FC->E' (.ref ea) {s with heap:=h',toks:=tk}):wpAny (model prog w) A (call (.ref 186) vs) Q E' s:=by
 refine wpAny_call ?_;refine Mn (JX.code w.params) ?_;intro oc vc tc ec dc qc;refine A7 (o:=Et (Bu 16) (S "Headers.add_header") .none EE (.ref 185)) (fd:=EV (Bu 16) (S "Headers.add_header") .none EE (.ref 185)) ok.room (B.k _ _ (JX.here w.params)) rfl JX.plain.1 JX.plain.2 rfl ⟨185,oc,vc,tc,rfl,B.k _ _ ec,dc,qc⟩ ?_;refine Dt (Be.Bo rv) ?_;rintro V V rfl ra r;refine Dt (Be.Bo r) ?_;rintro V V rfl rb r;refine Dt (Be.Bo r) ?_;rintro V V rfl rd r;cases r;have le:Le s.heap (s.heap.push {cls:=.type "dict",data:=.dict #[]}):=Le.push _ _;have e:(s.heap.push {cls:=.type "dict",data:=.dict #[]}).get? s.heap.objs.size=some {cls:=.type "dict",data:=.dict #[]}:=AH _ rfl;have ns:(s.heap.objs.size==sysModules)=false:=by
  have:=B6 B;rw[Av];intro z;rw[z]at this;exact absurd this (by decide)
 have rp:Be X w (s.heap.push {cls:=.type "dict",data:=.dict #[]}) [_,_,_,.ref s.heap.objs.size] [.obj (.ref x),.str n,.str v,.dict []]:=.cons (ra.le le) (.cons (rb.le le) (.cons (rd.le le) (.cons (.dict (fresh_ne xk) (B4 B.tab) ns (C3 e) .nil) .nil)));refine OH ?_;refine HL (s:={s with heap:=s.heap.push {cls:=.type "dict",data:=.dict #[]}}) JX ok (B.le le λV z=>z.elim) (xk.le le) (G:=CI x dx l rows) ((CI x dx l rows).mv g λb o z nt e=>⟨le.keep b o nt id e,id⟩) (λb z=>z.elim) (names:=[S "self",S "_name",S "_value",S "_params"]) rp rfl (.of (by decide +kernel)) λc h1 t1 FA hA zz V F=>CB zz λow V=>?_
 .have Ee:=FA.env;have nt:TP∉Bj fr:=fs.nt;have Sk:=O9 FA hA ow ha (fs.le le) λb z=>z;have Jo:1<=c.k:=by rw[FA.hk];exact A1 1 k
  have hint:interactive c.env=false:=Ee.quiet rfl;have hG:∀X h,c.G.P c.w X h->(CI x dx l rows).P c.w X h:=λX h z=>by rw[FA.hG]at z;exact z
  let R0:List (Str×D):=[(S "self",.obj (.ref x)),(S "_name",.str n),(S "_value",.str v),(S "_params",.dict [])]
  have body:Dg c R0 [Br (Bu 16)] λea h'=>∃J X G h1,Fr (c.on X G) J h1/\EN (c.env::fr) h1 h' ea FC:=by
   refine Dg.cons (Ex.Zd (x:=S "parts") (Ji:=λa=>(S "parts",.obj (.ref a))::R0) (Ee.nm (.inl rfl)) (λa=>by rfl)) ?_;intro h1 Cq;refine Fp Cq ?_;intro a X1 nw F1;refine⟨c.on X1 (c.G.star (Bk a [])),_,⟨rfl,rfl,rfl⟩,F1,?_⟩;have E1:Bi (c.on X1 (c.G.star (Bk a []))) w (BX (Bu 16)) (k+1):=Ee.on;have mV:DH (c.on X1 (c.G.star (Bk a []))) x:=DH.ro (dx:=dx) (l:=l) (rows:=rows) λX h z=>hG X h z.1;refine Dg.if (CK.cmp (Bg.isNotNone (d:=.str v) Ev.n true (λh u r=>by cases r;rfl))) ?_
   refine Dg.step (J':=[(S "_value",.str v),(S "parts",.obj (.ref a)),(S "self",.obj (.ref x)),(S "_name",.str n),(S "_params",.dict [])]) (Ex.sn (d:=.str v) (Ev.conv hv mV Jo Ev.n Ev.n)) ?_;refine Dg.cons (Ex.append (l:=a) (ds:=[]) (d:=.str v) E1.ro (by decide) (Upd.rt (Upd.self (T:=Bk a []) (T':=Bk a ([]++[.str v])) λb=>Iff.rfl)) Ev.n Ev.n (E1.quiet rfl)) λh2 F2=>⟨c.on X1 (c.G.star (Bk a [.str v])),_,⟨rfl,rfl,rfl⟩,F2,?_⟩;refine Dg.nil ?_;have E2:Bi (c.on X1 (c.G.star (Bk a [.str v]))) w (BX (Bu 16)) (k+1):=Ee.on;let R1:List (Str×D):=[(S "_value",.str v),(S "parts",.obj (.ref a)),(S "self",.obj (.ref x)),(S "_name",.str n),(S "_params",.dict [])]
   refine Dg.cons (Ex.for (ds:=[]) E2.ro (λV=>c.G.star (Bk a [.str v])) (λV=>R1) rfl rfl (Ba.Vd Ev.n) (λi d hd=>by cases i<;>cases hd)) ?_;intro h2 Du;refine Bh Du ?_;intro X2 Hi F2;let c3:Cx:=c.on X2 (c.G.star (Bk a [.str v]));have E3:Bi c3 w (BX (Bu 16)) (k+1):=Ee.on;refine⟨c3,R1,⟨rfl,rfl,rfl⟩,F2,?_⟩;refine λs F Q E n=>(Dg.append (c:=c3) (Ev.MY (λX h z=>hG X h z.1) Ev.n) (jO.conv hn m4 m5 (Sk.on (X:=X2) (G:=c.G.star (Bk a [.str v]))) (DH.ro (dx:=dx) (l:=l) (rows:=rows) λX h z=>hG X h z.1) Jo Ev.n Ev.n) (E3.quiet rfl):Dg c3 R1 _ _) s F Q E λea h' tk zz=>by refine Bh zz ?_;clear zz;intro h1 F1 T;exact n ea h' tk ⟨R1,X2,c.G.star (Bk a [.str v]),h1,F1,T⟩
  have hw:c.w=w:=Ee.hw;have z:=body {s with heap:=h1,toks:=t1} F (λf s'=>Q (match f with|.ret v=>v|_=>.none) s') (λe s'=>wpAny (model prog c.w) c.A (leaving c.env e) (λV Gb=>E' e Gb) (λe' Gb=>E' e' Gb) s') λea h' tk zz=>j9 zz λJ X2 G2 h2 F2 T=>Vl (c:=c.on X2 G2) F2 Sk.on T λh3 T3=>(by
   have T4:EN fr c.h0 h3 ea FC:=T3;rw[FA.hh]at T4;exact q ea h3 tk (T4.since le nt))
  exact wpAny_mono z (λf s' k=>by cases f<;>exact k) λV V k=>k
end
section
variable {c cc:Cx}{J J' KR J0:B3}{N:Em}{R:Cs}{h h':Heap}{Z:Addr->Heap->Prop}
noncomputable def Kl(e t:Addr)(msg:Str)(u:Tok):Res where
 fp:=λV=>False
 P:=λw X h=>((¬X e/\e≠TP)/\¬X t/\t≠TP)/\h.ExcAt e "ValueError" (.ref t)/\h.TupAt t [.str msg u]
 mv:=λzz k=>by refine FO zz ?_;clear zz;intro Cq Du HU;refine FO Cq ?_;clear Cq;rintro⟨n1,t1⟩ n2 t2;refine Fp Du ?_;intro o vs e1 r;refine Fp HU ?_;intro o' n e2 r';exact let a:=k _ o (.inr (.inl n1)) t1 e1;let b:=k _ o' (.inr (.inl n2)) t2 e2;⟨⟨⟨a.2 n1,t1⟩,b.2 n2,t2⟩,⟨o,vs,a.1,r⟩,⟨o',n,b.1,r'⟩⟩
theorem Fr.land{l:List Env}{h1 h5 B:Heap}{e t:Addr}{msg:Str}{u:Tok}(F:Fr c J h1)(S:DZ c l)(ow:∀x,c.own x)(ro:¬c.ro)(sub:∀b∈Bj l,c.X b)(k1:∀b o,b≠TP->b∉Bj (c.env::l)->h1.get? b=some o->B.get? b=some o)(k2:Tab B)(fI:Heap.FlyingW B (c.env::l) e (.type "ValueError") (.ref t) h5)(tp:h5.TupAt t [.str msg u])(k5:B.get? t=none)(k6:∀b∈Bj (c.env::l),∀o,h1.get? b=some o->∃sl,h5.get? b=some {o with slots:=sl}) :
  ∃D6,Q6 l c.h0 D6/\Fr (({c with h0:=D6}:Cx).on c.X (c.G.star (Kl e t msg u))) J h5/\DZ {c with h0:=D6} l:=by
 have tb:∃o,B.get? TP=some o:=by refine Bh k2 ?_;clear k2;intro V z V;exact⟨_,z⟩
 have st:Step (c.env::l) h1 h5:=⟨λb o n m e=>fI.1 b o (k1 b o n m e),k6,λV=>k2.keep (λo e=>fI.1 _ o e) λc o n e z=>fI.1 c o e⟩
 refine EI (F.rebase S ow ro sub st) ?_;intro D6 s0 F' S';refine de fI.first ?_;intro oe vs e1 e2 e3 e4
 refine Dt (id tp) ?_;intro ot nn t1 t2 t3;have out:∀ {b:Addr}{o:Obj},B.get? b=none->h5.get? b=some o->(∀es ep,o.data≠.dict es ep)->¬c.X b/\b≠TP:=λ{b o} hb ho hd=>by
  have ht:b≠TP:=λz=>by
   refine B5 tb ?_;clear tb;intro o z';rw[z,z']at hb;cases hb
  refine⟨λz=>?_,ht⟩;obtain⟨_,o1,x1⟩:=F.Cj b z;by_cases m:b∈Bj (c.env::l)
  .obtain ⟨_,o2,x2,es,ep,d⟩:=(F.Lu S).memD m;refine B5 (k6 b m o2 x2) ?_;intro sl x3;rw[ho]at x3;cases x3;exact hd es ep d
  .rw [k1 b o1 ht m x1]at hb;cases hb
 refine⟨D6,s0,F'.star (T:=Kl e t msg u) ⟨⟨out fI.2.1 e1 λes ep z=>(by rw[e3]at z;cases z),out k5 t1 λes ep z=>(by rw[t3]at z;cases z)⟩,⟨oe,vs,e1,e2,e3,e4⟩,tp⟩ (λb z=>z.elim),S'⟩
theorem Fr.mO{n:Str}(F:Fr c J s.heap)(kl:c.env.kindOf n=some .local)(hn:∀p∈J',p∈J/\p.1≠n){Q:ET}{M:Model}(q:∀h' tk,Fr c J' h'->Q () {s with heap:=h',toks:=tk}):wpAny M A (do bindName c.env n .none;unbindBehindTheSuite c.env n pos) Q E s:=by
 obtain⟨lx,l0,m,ns⟩:=F.loc;refine wpAny_nameGoes_keeps kl ns (by rw[F.kind];rfl) λh2 v n2 s2=>?_;obtain⟨o2,e2⟩:∃o,h2.get? c.env.locals=some o:=by refine Js n2 ?_;clear n2;intro o V V e V;exact⟨o,e⟩
 have l:=Co s2 o2 e2 F.W5 (Cd.ns ns);refine q h2 _ (F.re l (λa z=>by rw[z];exact⟨lx,.inr l0,λz=>(F.gx _ z).2.1 rfl⟩) ⟨_,n2⟩ (λy a e=>?_) λy dy my=>?_)
 .refine Ht (F.Ez y a e) ?_;intro a1 a2 Jh V;refine B5 Jh ?_;intro u a3;exact⟨u,B0 a3 λo z=>l.keep _ o a2 a1 z⟩
 .refine CB (hn _ my) ?_;intro my ny;refine Bh (F.names y dy my) ?_;intro u Wz ru;refine CB Wz ?_;intro hy H;refine⟨u,⟨hy,H.imp (λ⟨ky,ly,m',n',e'⟩=>⟨ky,ly,_,n2,?_⟩) λzz=>by refine UG zz ?_;clear zz;intro a ka ea na ca;exact⟨a,ka,ea,na,B0 ca λo z=>l.keep _ o na (F.Ez y a ea).1 z⟩⟩,ru.move (DQ l λa z=>z▸lx)⟩;rw[if_neg ny,<- e',Nr n' ns]
end
noncomputable abbrev gq:Str:=Str.ofString "<lambda>"
noncomputable abbrev K9(params:Arguments)(body:Expr)(scope:Scope)(cl:List (Str×Addr))(pm cv ct:Value):FuncData:=
 {name:=gq,qualname:=QU,params:=params,body:=.expr body,scope:=scope,globals:=3,closure:=cl,defaults:=.none,kwdefaults:=.none,doc:=.none,pyModule:=pm,code:=cv,closureTuple:=ct,builtins:=0}
structure Dr(h:Heap)(f:Addr)(params:Arguments)(body:Expr)(scope:Scope)(cl:List (Str×Addr)):Prop where
 ex:∃o pm cv ct,h.get? f=some o/\o.cls=.type "function"/\o.data=.func (K9 params body scope cl pm cv ct)/\OE h cv
theorem SZ{a b:Int}{c':Value}:∀ {l:DV},TriplesOk l->codeAmong pos (l++[rawInt a,rawInt b,c'])=some v->codeAmong pos l=some v\/v=c':=by
 intro l ht e;fun_induction TriplesOk l with
 |case1=>
  simp only[BT,codeAmong,rawInt]at e;split at e
  .cases e;exact .inr rfl
  .cases e
 |case2 a' t b' u x rest ih=>
  simp only[List.cons_append,codeAmong]at e ⊢;split at e
  .rename_i hc;rw[if_pos hc];exact .inl e
  .rename_i hc;rw[if_neg hc];exact ih ht e
 |case3 l h1 h2=>exact ht.elim
theorem Vk{M:Model}(B:CV w s.heap){env:Env}(hc:env.code=.ref 267){line:Nat}{params:Arguments}{body:FuncBody}(q:∀cv h' tk,Le s.heap h'->s.heap.objs.size<=h'.objs.size->OE h' cv->Q cv {s with heap:=h',toks:=tk}):wpAny M A (functionCode env pos line gq QU params scope body) Q E s:=by
 refine EI B.tab ?_;intro ps eP tr lm;have C:=B.k 267 _ rfl;have qS:s.heap.IsCode 267 TP ps:=⟨_,_,_,_,_,_,_,_,_,_,C,rfl,rfl,rfl,rfl,rfl,rfl,eP,rfl,tr,by decide⟩
 cases ha:codeAmong pos ps.toList with
 |some cv=>exact wpAny_functionCode_hit hc qS ha (q cv s.heap s.toks (.refl _) (Ad _) (lm pos cv ha))
 |none=>
  refine wpAny_functionCodeX hc qS ⟨⟨_,_,C,rfl,rfl,rfl⟩,eP⟩ ha λc' h' tk hx jm Dw V gI uU V=>?_;refine YZ gI ?_;clear gI;intro c2 o2 T8 t2 e2 g2 d2 x2;cases e2;have vI:c'≠TP:=λz=>by
   have:=Ag eP;rw[z]at jm;exact Aa _ (Ai this jm)
  have lc:OE h' (.ref c'):=⟨c',o2,rfl,vI,g2,T8,t2,d2,x2⟩
  have keep:∀b o,b≠TP->s.heap.get? b=some o->h'.get? b=some o:=λb o nt e=>hx b o nt e;refine q _ h' tk ⟨λb o nt V e=>keep b o nt e,λb o V w=>w.elim,λV=>?_,λb o e hc=>keep b o (λz=>by rw[z,eP]at e;cases e;refine Fp hc ?_;clear hc;intro vs t z1 z2;cases z1;exact triples_no_str tr _ _ (by simpa using z2)) e⟩ (AD jm (A4 Dw)) lc;have el:(ps++#[rawInt pos.line,rawInt pos.col,Value.ref c']).toList=ps.toList++[rawInt pos.line,rawInt pos.col,.ref c']:=by simp
  refine⟨_,uU.2,?_,λpos' v hv=>?_⟩
  .rw [el];exact TriplesOk_snoc _ _ _ _ tr
  .rw [el]at hv;rcases SZ tr hv with hv|rfl
   .refine de (lm pos' v hv) ?_;intro c3 o3 e3 n3 g3 z3;exact⟨c3,o3,e3,n3,keep _ _ n3 g3,z3⟩
   .exact lc
theorem YG{M:Model}{b:Bool}{k:Value->Sem Value}(q:∀v h',Le s.heap h'->s.heap.objs.size<=h'.objs.size->wpAny M A (k v) Q E {s with heap:=h'}) :
  wpAny M A (if b=true then pure .none >>= k else newTextTuple vs >>= k) Q E s:=by
 cases b with
 |true=>exact wpAny_bind (wpAny_pure (q _ _ (.refl _) (Ad _)))
 |false=>exact wpAny_bind (wpAny_newTextTuple (q _ _ (Le.push _ _) (by rw[Heap.size_push];exact Nat.le_add_right s.heap.objs.size 1)))
theorem LA{params:Arguments}{body:Expr}(F:Fr c J s.heap)(Ky:c.env.code=.ref 267)(hq:c.env.qual++"<lambda>"=QU)(mj:defaultsOf params c.env=([],[]))(tZ:∀p∈scope.names,p.2=.free->(c.env.cells.lookup p.1).isSome=true)(q:∀f h' tk pm cv ct,Le s.heap h'->s.heap.get? f=none->306<=f->h'.get? f=some {cls:=.type "function",data:=.func (K9 params body scope (FX c.env.cells scope.names []) pm cv ct)}->OE h' cv->Q (.ref f) {s with heap:=h',toks:=tk}) :
  wpAny (model prog c.w) c.A (eval (.Lambda params body scope pos) c.env) Q E s:=by
 have B:=F.base;have sz:=B6 B;rw[arm_eval_Lambda,mj];refine wpAny_bind (wpAny_pure (wpAny_bind (wpAny_holding (wpAny_pure ?_))));rw[hq,makeFunction_eq];simp only[List.zip_nil_right,List.filterMap_nil,List.isEmpty_nil,if_true,pure_bind];unfold makeTail;rw[HV tZ,F.glob];refine wpAny_bind (wpAny_pure (YG λct h1 l1 z1=>wpAny_bind (Vk (s:={s with heap:=h1}) (B.le l1 λV z=>z.elim) Ky λcv h2 tk l2 z2 lc=>?_)));have B2:=(B.le l1 λV z=>z.elim).le l2 λV z=>z.elim;refine Bh B2.gl ?_;intro mg n r;refine wpAny_bind (wpAny_builtinsFor n (r (Str.ofString "__builtins__",some (.ref 4)) (.head _)) (by decide) (B2.k 4 _ rfl) rfl rfl rfl (wpAny_bind (wpAny_nsGet n (wpAny_bind (wpAny_pure (wpAny_newObj_type ?_ (by size_fits)))))));have zz:s.heap.objs.size<=h2.objs.size:=AD z1 z2;exact q h2.objs.size _ tk _ cv ct (.trans l1 (.trans l2 (Le.push _ _))) (Gv zz) (AD sz zz) (AH _ rfl) (by refine de lc ?_;clear lc;intro c3 o3 e3 n3 g3 x3;exact⟨c3,o3,e3,n3,AO _ g3,x3⟩)
theorem LX:∀ {names:B1}{vs:DV}{x:Str}{v:Value},names.length=vs.length->(x,v)∈names.zip vs->names.Nodup->(names.zip vs).reverse.lookup x=some v:=by
 intro names vs x v hl m nd;have Zc:((names.zip vs).reverse.map (·.1)).Nodup:=by
  rw[List.map_reverse,(List.reverse_perm _).nodup_iff,List.map_fst_zip (by exact BM hl)];exact nd
 have m2:(x,v)∈(names.zip vs).reverse:=List.mem_reverse.mpr m;generalize(names.zip vs).reverse=l at Zc m2;induction l with
 |nil=>cases m2
 |cons p l ih=>
  rw[AK];rcases AJ.mp m2 with e|m2
  .rw [<- e];simp
  .have Hj:(x==p.1)=false:=by
    rw[Av];intro e;rw[AI,List.nodup_cons]at Zc;exact Zc.1 (e▸Ab (f:=(·.1)) m2)
   rw[Hj];exact ih (by rw[AI,List.nodup_cons]at Zc;exact Zc.2) m2
theorem Dr.at{f:Addr}{params:Arguments}{body:Expr}{cl:List (Str×Addr)}(L:Dr h f params body scope cl)(k:∀o,h.get? f=some o->h'.get? f=some o)(kc:∀b o,b≠TP->h.get? b=some o->Cd o->h'.get? b=some o):Dr h' f params body scope cl:=by
 obtain⟨o,pm,cv,ct,e1,e2,e3,c,oc,e4,e5,e6,e7⟩:=L.ex;exact⟨o,pm,cv,ct,k o e1,e2,e3,c,oc,e4,e5,kc _ _ e5 e6 e7,e7⟩
theorem TF{f:Addr}{o:Obj}{fd:FuncData}{args:Args}{binds:Dh}{T:Result->Shared->Prop}(room:A.depth<recursionLimit)(ho:s.heap.get? f=some o)(hd:o.data=.func fd)(hc:fd.scope.isCoroutine=false)(hg:fd.scope.isGenerator=false)(hb:fd.body=.expr e)(rec:s.heap.CodeRec fd.code fd.qualname)(sE:bindArgs fd args=pure binds)(y:wpAny (model prog w) A.in1 (newFunctionEnv fd.scope fd.globals fd.closure binds (fd.qualname++".<locals>.") (some f) fd.code none fd.builtins) (λenv s2=>s2.heap.NoLimit/\wpAny (model prog w) (A.deeper env) (eval e env) (λv s'=>T (.ok (.ret v)) s')
   (λe' s'=>wpAny (model prog w) (A.deeper env) (leaving env e') (λV Gb=>T (.error e') Gb) (λlP Gb=>T (.error lP) Gb) s') s2) (λe' s'=>T (.error e') s') s):codeAny (model prog w) A (.call (.ref f) args) T s:=by
 have inner:∀env s2,wpAny (model prog w) (A.deeper env) (eval e env) (λv s'=>T (.ok (.ret v)) s') (λe' s'=>wpAny (model prog w) (A.deeper env) (leaving env e') (λV Gb=>T (.error e') Gb) (λlP Gb=>T (.error lP) Gb) s') s2->codeAny (model prog w) A (.expr e env) T s2:=λenv s2 z=>by
  refine codeAny_of_tree ?_;show wpAny (model prog w) (A.deeper env) (point >>= λV=>(eval e env).onRaise (leaving env) >>= λv=>ret v) _ _ s2;exact wpAny_bind (wpAny_point (wpAny_bind (wpAny_onRaise (wpAny_mono z (λV V k=>wpAny_pure k) λV V k=>k))))
 refine codeAny_of_tree ?_;show wpAny (model prog w) A.in1 (callAny (.ref f) args) _ _ s;simp -iota only[callAny];refine wpAny_bind (wpAny_load ho ?_);refine YZ rec ?_;clear rec;intro a oc vs t e1 e2 e3 e4;simp only[hd,callFunction,hc,hg,hb,e1,sE];rw[e1]at y;refine wpAny_bind (wpAny_field e2 e3 e4 (wpAny_bind (wpAny_pure (wpAny_bind (wpAny_pure (wpAny_bind (wpAny_mono y (λenv s2 z=>?_) λV V k=>k)))))));exact wpAny_bind (wpAny_enterFrame z.1 room (wpAny_pure ⟨rfl,inner env s2 z.2⟩))
theorem Rl{f:Addr}{params:Arguments}{body:Expr}{cl:List (Str×Addr)}(ok:E7 (k+1) A)(L:Dr s.heap f params body scope cl)(B:CV w s.heap)(xk:FT X s.heap){G:Res}(g:G.P w X s.heap)(gx:∀b,G.fp b->X b){names:B1}{Jf:B3}(r:Be X w s.heap vs ds)(hb:∀pm cv ct,bindArgs (K9 params body scope cl pm cv ct) ⟨vs,[]⟩=pure (names.zip vs))(hl:names.length=vs.length)(nd:names.Nodup)(kinds:∀x∈names,scope.names.lookup x=some .local)(plain:∀x∈names,Cm x)(hk:scope.kind=.function)(te:scope.isCoroutine=false)(aj:scope.isGenerator=false)(IA:∀x∈scope.names,x.2≠.cell)(aA:∀x a,cl.lookup x=some a->a≠TP/\(∃v,s.heap.IsCell a v)/\¬G.fp a)(inj:∀x y a,cl.lookup x=some a->cl.lookup y=some a->x=y)(fr:∀x d,(x,d)∈Jf->Cm x/\scope.names.lookup x=some .free/\∃a v,cl.lookup x=some a/\s.heap.IsCell a (some v)/\B8 X w s.heap v d){Post:Cs}(bd:∀c,FnAt c w scope k X G s.heap->∀s1:Shared,Fr c (names.zip ds++Jf) s1.heap->Run c.w c.A G.fp (eval body c.env) s1 Post):Run w A G.fp (call (.ref f) vs) s Post:=λQ E q=>by
 obtain⟨o,pm,cv,ct,e1,e2,e3,cd,oc,e4,e5,e6,T8,t2,e7,e8⟩:=L.ex;refine wpAny_call ?_;refine TF ok.room e1 e3 te aj rfl ⟨cd,oc,T8,t2,e4,e6,e7,e8⟩ (hb _ _ _) (wpAny_newFunctionEnv IA (λp hp=>?_) (λh1 Oi uS=>?_) hk)
 .have:p.1∈names:=by
   have hz:=Ab (f:=(·.1)) hp;rwa [List.map_fst_zip (by exact BM hl)]at hz
  exact kinds _ this
 have keep:∀b o,s.heap.get? b=some o->h1.get? b=some o:=λb o e=>uS.extBut b o (Nat.ne_of_lt (Ag e)) (AO _ e);have l1:Le s.heap h1:=Le.of keep;have sz:=B6 B;have nn:s.heap.get? s.heap.objs.size=none:=Bm _;refine⟨B.lim.keeps keep,?_⟩;let Ci:Env:=newEnv (K9 params body scope cl pm cv ct).scope s.heap.objs.size (K9 params body scope cl pm cv ct).globals (K9 params body scope cl pm cv ct).closure ((K9 params body scope cl pm cv ct).qualname++".<locals>.") (some f) (K9 params body scope cl pm cv ct).code none (K9 params body scope cl pm cv ct).builtins;let c:Cx:={w:=w,A:=A.deeper Ci,env:=Ci,k:=k,X:=DG X (·=s.heap.objs.size),G:=G,own:=λV=>False,h0:=s.heap,M:=G.fp,ro:=False}
 have n1:∀b,b=s.heap.objs.size->s.heap.get? b=none/\306<=b/\∃o,h1.get? b=some o:=λb z=>by
  refine Js Oi ?_;clear Oi;intro o V V eo V;rw[z];exact⟨Bm _,sz,o,eo⟩
 have F:Fr c (names.zip ds++Jf) h1:=
  {base:=B.le l1 λV z=>z.elim
   Cj:=λa z=>z.elim (λz=>(xk.le l1) a z) λz=>(n1 a z).2
   kind:=hk,glob:=rfl,blt:=rfl,ok:=ok.deeper Ci
   old:=l1.to
   loc:=⟨.inr rfl,Bm _,_,Oi⟩
   Ez:=λx a e=>by
    refine FO (aA x a e) ?_;intro a1 Cq a3;refine B5 Cq ?_;intro v a2;refine Bh (id a2) ?_;intro oa ea da;exact⟨λz=>(by have z':a=s.heap.objs.size:=z;rw[z',nn]at ea;cases ea),a1,⟨v,B0 a2 λo e=>keep _ o e⟩,λz=>z.elim⟩
   apart:=λx y a e e'=>inj x y a e e'
   names:=λx d m=>by
    rcases Ar.mp m with m|m
    .refine Bh (LW r m) ?_;intro v mv rv;have hm:x∈names:=by
      have hz:=Ab (f:=(·.1)) mv;rwa [List.map_fst_zip (by exact BM hl)]at hz
     exact⟨v,⟨plain x hm,.inl ⟨kinds x hm,λz=>B4 B.tab z,_,Oi,LX hl mv nd⟩⟩,(rv.move (ES λb z=>z.imp_right λz=>(n1 b z).1)).le l1⟩
    .obtain ⟨p1,p2,a,v,e1,e2,rv⟩:=fr x d m;exact⟨v,⟨p1,.inr ⟨a,.inr p2,e1,(aA x a e1).1,B0 e2 λo e=>keep _ o e⟩⟩,(rv.move (ES λb z=>z.imp_right λz=>(n1 b z).1)).le l1⟩
   g:=G.mv g λb o z nt e=>⟨keep b o e,λnx z=>z.elim nx λz=>by rw[(n1 b z).1]at e;cases e⟩
   gx:=λb z=>by
    obtain⟨_,o,eo⟩:=xk b (gx b z);refine⟨⟨.inl (gx b z),.inr (.inl z)⟩,λy=>?_,λx e=>(aA x b e).2.2 z⟩;have y':b=s.heap.objs.size:=y;rw[y',nn]at eo;cases eo}
 have FA:FnAt c w scope k X G s.heap:=⟨rfl,rfl,rfl,λb z=>.inl z,rfl,rfl,rfl,λz=>z,λx e=>absurd rfl (IA _ (lookup_mem e))⟩
 exact bd c FA {s with heap:=h1,toks:=s.toks+(names.zip vs).length} F _ _ λv h2 t2 l2 p2=>q v h2 t2 (Bt.trans l1.to l2) p2
theorem Fr.grow{fp:CF}(F:Fr c J h)(l:Bt W h h')(s:∀a,W a->Off c a)(n:∀b,fp b->h.get? b=none/\306<=b/\∃o,h'.get? b=some o):Fr (c.plus fp) J h':=
 have F':=F.off l s
 {base:=F'.base
  Cj:=λa q=>q.elim (λq=>F'.Cj a q) λq=>(n a q).2
  kind:=F.kind,glob:=F.glob,blt:=F.blt,ok:=F.ok,old:=F'.old
  loc:=⟨.inl F.loc.1,F.loc.2.1,F'.loc.2.2⟩
  Ez:=λx a e=>by refine Ht (F'.Ez x a e) ?_;intro a1 a2 a3 a4;exact⟨a1,a2,a3,λo=>⟨.inl (a4 o).1,(a4 o).2⟩⟩
  apart:=F.apart
  names:=λx d m=>by
   refine Bh (F.names x d m) ?_;intro v H r;exact⟨v,H.keep (λo nt e=>l.keep _ o nt (λq=>(s _ q).2.2.2.1 rfl) e) (λa o nt ea e=>l.keep _ o nt (λq=>(s _ q).2.2.2.2 x ea) e),r.move λa o nx nt e=>⟨l.keep a o nt (λq=>nx (s a q).1) e,λz=>z.elim nx λz=>by rw[(n a z).1]at e;cases e⟩⟩
  g:=c.G.mv F.g λb o q nt e=>⟨l.at nt e λz=>q.elim (λy=>absurd y (s b z).2.2.1) λq=>q.elim (λy=>absurd (s b z).1 y) id,λnx z=>z.elim nx λz=>by rw[(n b z).1]at e;cases e⟩
  gx:=λb q=>by refine CB (F.gx b q) ?_;intro Cq a3;refine CB Cq ?_;intro a1 a2;exact⟨⟨.inl a1,a2⟩,a3⟩}
theorem MK.iR{f:Addr}(n:MK c f)(q:X' f):Off {c with X:=X'} f:=⟨q,.inr n.2.2.1,n.2.2.2.1,n.2.2.2.2.1,n.2.2.2.2.2⟩
noncomputable def i4:Stmt->Expr
 |.Assign _ e _=>e
 |_=>.Constant .none 0 ⟨0,0,0,0⟩
noncomputable def Mz(i:Nat):Expr:=i4 ((Br (BZ 25))[i]?.getD (.Pass ⟨0,0,0,0⟩))
noncomputable def Vi:Expr->Arguments
 |.Lambda a _ _ _=>a
 |_=>⟨[],[],none,[],[],none,[]⟩
noncomputable def Vh:Expr->Expr
 |.Lambda _ b _ _=>b
 |e=>e
noncomputable def Vj:Expr->Scope
 |.Lambda _ _ s _=>s
 |_=>⟨.function,[],false,false,[]⟩
noncomputable abbrev cy:Arguments:=Vi (Mz 4)
noncomputable abbrev cw:Expr:=Vh (Mz 4)
noncomputable abbrev Zu:Scope:=Vj (Mz 4)
noncomputable abbrev gV:Arguments:=Vi (Mz 5)
noncomputable abbrev dM:Expr:=Vh (Mz 5)
noncomputable abbrev dN:Scope:=Vj (Mz 5)
theorem GJ:B9 268 (BZ 25) (S "_law_thing") 267 .none CX:=⟨λP=>rfl,λP=>⟨_,_,_,rfl,rfl,rfl⟩,rfl,rfl,rfl⟩
noncomputable def Zl(av:Value)(fa fi:Addr):Str->Option Value:=λy=>if y=S "itertext" then some (.ref fi)else if y=S "append" then some (.ref fa)else if y=S "makeelement" then some (.ref 268)else if y=S "attrib" then some av else none
structure Made(h:Heap)(tv av:Value)(f dd ka fa fi ck ct:Addr):Prop where
 fn:Gp h f (some dd) (Zl av fa fi)
 kids:h.PlainList ka #[]
 ap:Dr h fa cy cw Zu [(S "kids",ck)]
 it:Dr h fi gV dM dN [(S "tag",ct),(S "kids",ck)]
 ck:h.IsCell ck (some (.ref ka))
 ct:h.IsCell ct (some tv)
theorem Gp.at{f:Addr}{dd:Option Addr}(x:Gp h f dd m):∃o,h.get? f=some o/\¬Cd o:=by refine UG x ?_;clear x;intro o e V Du V;refine B5 Du ?_;intro fd d;exact⟨o,e,λzz=>by refine Fp zz ?_;clear zz;intro V V z V;rw[d]at z;cases z⟩
theorem Gp.dd{f d:Addr}(x:Gp h f (some d) m):∃o,h.get? d=some o/\¬Cd o:=by
 obtain⟨_,_,_,_,_,_,o,es,ep,e,z,_⟩:=x;exact⟨o,e,Cd.dict z⟩
theorem aN{f d:Addr}{dd:Option Addr}{m':Hv}(x:Gp h f dd m)(y:Gp h' f (some d) m')(e:dd=some d\/(dd=none/\d=h.objs.size))(nf:f≠TP)(nd:d≠TP)(k:∀b o,b≠f->b≠d->h.get? b=some o->h'.get? b=some o):Bt (λb=>b=f\/b=d) h h':=
 Bt.of (λb o n e=>k b o (λz=>n (.inl z)) (λz=>n (.inr z)) e) (λb o z V=>by
  rcases z with z|z
  .rw [z];exact by refine Bh y.at ?_;intro o e V;exact⟨o,e⟩
  .rw [z];exact by refine Bh y.dd ?_;intro o e V;exact⟨o,e⟩) (λz=>z.elim (λz=>nf z.symm) λz=>nd z.symm) λb o z e'=>by
  rcases z with z|z
  .refine Bh x.at ?_;intro o1 e1 n1;rw[z,e1]at e';cases e';exact n1
  .rcases e with e|⟨e,e2⟩
   .subst e;refine Bh x.dd ?_;intro o1 e1 n1;rw[z,e1]at e';cases e';exact n1
   .rw [z,e2,Bm]at e';cases e'
theorem PlainList.keep{vs:Array Value}(x:h.PlainList a vs)(l:Bt W h h')(nt:a≠TP)(n:¬W a):h'.PlainList a vs:=x.at λo e=>l.keep _ o nt n e
theorem Dr.Nj{f:Addr}{params:Arguments}{body:Expr}{cl:List (Str×Addr)}(L:Dr h f params body scope cl)(l:Bt W h h')(nt:f≠TP)(n:¬W f):Dr h' f params body scope cl:=
 L.at (λo e=>l.keep _ o nt n e) λb o nb e z=>l.code b o e z
theorem Gp.Nj{f:Addr}{dd:Option Addr}(x:Gp h f dd m)(l:Bt W h h')(nt:f≠TP)(n:¬W f)(nd:∀d,dd=some d->d≠TP/\¬W d):Gp h' f dd m:=
 x.keep (λo e=>l.keep _ o nt n e) λd e o e2=>l.keep _ o (nd d e).1 (nd d e).2 e2
theorem IV{name:Str}{f:Addr}{dd:Option Addr}{ns:B1}{Q:ET}(F:Fr c J s.heap)(a:Ev c J o (.obj (.ref f)))(hB:typeLookup (.type "function") name=pure none)(I:Gp s.heap f dd m)(nt:f≠TP/\∀d,dd=some d->d≠TP)(hw:Within m ns)(L7:ns.length<=1000)(q:∀h1 h' tk d',Le s.heap h1->Gp h' f (some d') (λy=>if y=name then some v else m y)->(dd=some d'\/(dd=none/\d'=h1.objs.size))->Bt (λb=>b=f\/b=d') h1 h'->d'≠TP->Q () {s with heap:=h',toks:=tk}) :
  wpAny (model prog c.w) c.A (eval o c.env) (λov s₂=>wpAny (model prog c.w) c.A (setAttr ov name v) Q E s₂) E s:=
 a s F _ _ λov h1 t1 l1 r1=>by
  cases r1;have F1:Fr c J h1:=F.le l1;have I1:Gp h1 f dd m:=I.Nj l1 nt.1 id λd e=>⟨nt.2 d e,id⟩;refine Kr hB I1 hw L7 λh' Wh d' I' e k=>?_;have nd:d'≠TP:=by
   rcases e with e|⟨_,e⟩
   .exact nt.2 d' e
   .rw [e];exact B4 F1.base.tab
  exact q h1 h' Wh d' l1 I' e (aN I1 I' e nt.1 nd λb o n1 n2=>k b o (.inl n1) n2) nd
theorem Fr.holds(F:Fr c J h)(m:(x,D.obj v)∈J)(k:c.env.kindOf x=some .cell)(e:c.env.cells.lookup x=some a):h.IsCell a (some v):=by
 refine Bh (F.names x _ m) ?_;intro v' H r;cases r;rcases H.2 with⟨k',_⟩|⟨a',_,e',_,i⟩
 .rw [k]at k';cases k'
 .rw [e]at e';cases e';exact i
theorem Q0(ok:E7 (k+1) A)(B:CV w s.heap)(xk:FT X s.heap)(tv av:Value)(q:∀f dd ka fa fi ck ct h' tk,Le s.heap h'->(∀b∈[f,dd,ka,fa,fi,ck,ct],s.heap.get? b=none/\306<=b)->Made h' tv av f dd ka fa fi ck ct->Q (.ref f) {s with heap:=h',toks:=tk}) :
  wpAny (model prog w) A (call (.ref 268) [tv,av]) Q E s:=by
 refine wpAny_call ?_;have ho:=B.k _ _ (GJ.here w.params);refine Mn (GJ.code w.params) ?_;intro oc vc tc ec dc qc;refine A7 (o:=Et (BZ 25) (S "_law_thing") .none CX (.ref 267)) (fd:=EV (BZ 25) (S "_law_thing") .none CX (.ref 267)) ok.room ho rfl GJ.plain.1 GJ.plain.2 rfl ⟨267,oc,vc,tc,rfl,B.k _ _ ec,dc,qc⟩ ?_;have hb:bindArgs (EV (BZ 25) (S "_law_thing") .none CX (.ref 267)) ⟨[tv,av],[]⟩=pure ([S "tag",S "attrib"].zip [tv,av]):=by rfl
 rw[hb];refine wpAny_pure (HL GJ ok B xk (G:=Res.emp) trivial (λV z=>z.elim) (ds:=[.obj tv,.obj av]) (.cons (.obj _) (.cons (.obj _) .nil)) rfl (.of (by decide +kernel)) λc h1 t1 FA hA zz Ky F=>?_);refine CB zz ?_;clear zz;intro qG V;have hq:c.env.qual++"<lambda>"=QU:=by rw[Ky.2];decide
 have EA:=FA.env;refine B5 (A6.mp (FA.slot (S "kids") rfl).2) ?_;intro ck W0;refine B5 (A6.mp (FA.slot (S "tag") rfl).2) ?_;intro ct ZE;have kk:c.env.kindOf (S "kids")=some .cell:=FA.kind rfl;have kt:c.env.kindOf (S "tag")=some .cell:=FA.kind rfl;have hh:=FA.hh;have tE:s.heap.get? ck=none:=by
  have z:=((F.Ez _ ck W0).2.2.2 (FA.slot (S "kids") rfl).1).2;rwa [hh]at z
 have tF:s.heap.get? ct=none:=by
  have z:=((F.Ez _ ct ZE).2.2.2 (FA.slot (S "tag") rfl).1).2;rwa [hh]at z
 have sB:306<=ck:=(F.Cj ck ((F.Ez _ ck W0).2.2.2 (FA.slot (S "kids") rfl).1).1).1;have sD:306<=ct:=(F.Cj ct ((F.Ez _ ct ZE).2.2.2 (FA.slot (S "tag") rfl).1).1).1;have big:∀ {b h2 J2}{c2:Cx},c2.h0=s.heap->Fr c2 J2 h2->h2.get? b=none->b≠TP->s.heap.get? b=none:=λ{b h2 J2 c2} e0 F2 e nt=>by
  cases z:s.heap.get? b with
  |none=>rfl
  |some o=>
   refine B5 (F2.old.alive nt (by rw[e0];exact z)) ?_;intro o' e';rw[e]at e';cases e'
 refine Ao (wpAny_Assign_Name (LA F Ky.1 hq rfl (λp hp=>by cases hp) λf h2 t2 pm cv pH l2 nf bf ef lc=>?_) (by rfl));have TV:f≠TP:=Cp bf;have Nf:MK c f:=F.new nf bf;have F1:Fr (c.plus (·=f)) _ h2:=F.plus l2 λb z=>by have z':b=f:=z;rw[z'];exact⟨nf,bf,_,ef⟩
 have E1:Bi (c.plus (·=f)) w (BX (BZ 25)) k:=⟨EA.hw,EA.hs,EA.hk,EA.ro,EA.slot⟩
 refine F1.store (s:={s with heap:=h2,toks:=t2}) ⟨by decide,by decide⟩ (E1.name (x:=S "thing") (.inl rfl)) (d:=.obj (.ref f)) (.obj _) (DF.of (J':=[(S "thing",.obj (.ref f)),(S "tag",.obj tv),(S "attrib",.obj av)]) rfl) λh3 t3 l3 F2=>?_;have I2:Gp h2 f none (λV=>none):=⟨_,ef,rfl,⟨_,rfl⟩,rfl,λV=>rfl⟩
 have I3:Gp h3 f none (λV=>none):=I2.Nj l3 TV (λz=>Ho Nf z) λd e=>by cases e
 refine Ao (wpAny_Assign_Name (wpAny_List (wpAny_items_nil ⟨by decide,?_⟩)) (by rfl));have l4:Le h3 (h3.push {cls:=.type "list",data:=.seq #[]}):=Le.push _ _;have e4:(h3.push {cls:=.type "list",data:=.seq #[]}).get? h3.objs.size=some {cls:=.type "list",data:=.seq #[]}:=AH _ rfl;have n4:=Bm h3;have b4:=B6 F2.base;generalize wc:h3.objs.size=ka at *;have UE:ka≠TP:=Cp b4;have Nk:MK (c.plus (·=f)) ka:=F2.new n4 b4;have F3:Fr ((c.plus (·=f)).plus (·=ka)) _ (h3.push {cls:=.type "list",data:=.seq #[]}):=F2.plus l4 λb z=>by have z':b=ka:=z;rw[z'];exact⟨n4,b4,_,e4⟩
 have E3:Bi ((c.plus (·=f)).plus (·=ka)) w (BX (BZ 25)) k:=⟨EA.hw,EA.hs,EA.hk,EA.ro,EA.slot⟩
 have P4:(h3.push {cls:=.type "list",data:=.seq #[]}).PlainList ka #[]:=⟨_,e4⟩
 have I4:Gp (h3.push {cls:=.type "list",data:=.seq #[]}) f none (λV=>none):=I3.Nj l4 TV id λd e=>by cases e
 generalize jo:h3.push {cls:=.type "list",data:=.seq #[]}=h4 at *;refine F3.store (s:={s with heap:=h4,toks:=t3}) ⟨by decide,by decide⟩ (E3.name (x:=S "kids") (.inr rfl)) (d:=.obj (.ref ka)) (.obj _) (DF.of (J':=[(S "kids",.obj (.ref ka)),(S "thing",.obj (.ref f)),(S "tag",.obj tv),(S "attrib",.obj av)]) rfl) λh5 t5 l5 F5=>?_;have I5:Gp h5 f none (λV=>none):=I4.Nj l5 TV (λz=>Ho Nf z) λd e=>by cases e
 have P5:h5.PlainList ka #[]:=PlainList.keep P4 l5 UE λz=>Ho Nk z;have kf:ka≠f:=λz=>by refine Bh I3.at ?_;intro o e V;rw[<- z,n4]at e;cases e
 refine Ao (plainObj_wpAny_Assign_Attribute ((Ev.n (d:=.obj av):Ev _ _ _ _) {s with heap:=h5,toks:=t5} F5 _ _ λv6 h6 t6 l6 r6=>?_) (by rfl));cases r6;have F6:=F5.le l6;refine IV (c:=(c.plus (·=f)).plus (·=ka)) (s:={s with heap:=h6,toks:=t6}) F6 Ev.n I0 (I5.Nj l6 TV id λd e=>by cases e) ⟨TV,λd e=>by cases e⟩ Within.nil (by decide) λh7 h8 t8 dd l7 I8 ed l8 Pk=>?_;have F7:=F6.le l7;have pO:dd=h7.objs.size:=by rcases ed with ed|⟨_,ed⟩;cases ed;exact ed
 have nd:h7.get? dd=none:=by rw[pO];exact Bm _
 have bd:306<=dd:=by rw[pO];exact B6 F7.base
 have qZ:Le h5 h7:=Bt.trans l6 l7;have oG:Off ((c.plus (·=f)).plus (·=ka)) f:=Nf.iR (c:=c) (.inl (.inr rfl));have nU:Bt (·=f) h7 h8:=l8.fresh λa z=>z.imp_right λz=>by rw[z];exact nd
 have Nd:MK ((c.plus (·=f)).plus (·=ka)) dd:=F7.new nd bd;have F8:Fr (((c.plus (·=f)).plus (·=ka)).plus (·=dd)) _ h8:=F7.grow nU (λa z=>by have z':a=f:=z;rw[z'];exact oG) λb z=>by have z':b=dd:=z;rw[z'];exact⟨nd,bd,by refine Bh I8.dd ?_;intro o e V;exact⟨o,e⟩⟩
 have kd:ka≠dd:=λz=>by
  have P7:=PlainList.keep P5 qZ UE id;refine B5 P7 ?_;clear P7;intro n e;rw[z,nd]at e;cases e
 have P8:h8.PlainList ka #[]:=PlainList.keep (PlainList.keep P5 qZ UE id) l8 UE λz=>z.elim kf kd;have E8:Bi (((c.plus (·=f)).plus (·=ka)).plus (·=dd)) w (BX (BZ 25)) k:=⟨EA.hw,EA.hs,EA.hk,EA.ro,EA.slot⟩
 have bh:∀a,a=f\/a=dd->Off (((c.plus (·=f)).plus (·=ka)).plus (·=dd)) a:=λa z=>by
  rcases z with z|z
  .rw [z];exact Nf.iR (c:=c) (.inl (.inl (.inr rfl)))
  .rw [z];exact Nd.off rfl
 have w8:=Within.cons (S "attrib") av Within.nil;generalize tf:((c.plus (·=f)).plus (·=ka)).plus (·=dd)=cx at *;have pN:cx.env=c.env/\cx.A=c.A/\cx.w=c.w/\cx.h0=c.h0/\cx.M=c.M:=by rw[<- tf];exact⟨rfl,rfl,rfl,rfl,rfl⟩
 refine oB pN ?_;clear pN;intro x1 x2 x3 x4 x5;rw[<- x1,<- x2,<- x3];rw[<- x1]at Ky hq W0 ZE kk kt;refine Ao (plainObj_wpAny_Assign_Attribute ((Ev.g (v:=.ref 268) (d:=.obj (.ref 268)) (E8.kd rfl):Ev cx _ _ _) {s with heap:=h8,toks:=t8} F8 _ _ λv9 h9 t9 l9 r9=>?_) (by rfl));cases r9;have F9:=F8.le l9;refine IV (s:={s with heap:=h9,toks:=t9}) F9 Ev.n ZK (I8.Nj l9 TV id λd e=>by cases e;exact⟨Pk,id⟩) ⟨TV,λd e=>by cases e;exact Pk⟩ w8 (by decide) λdC ji vz lM dR kg jZ qX V=>?_;have lS:lM=dd:=by rcases jZ with jZ|⟨jZ,_⟩<;>cases jZ;rfl
 subst lS;have kW:=(F9.le dR).off qX bh;have rj:ji.PlainList ka #[]:=PlainList.keep (PlainList.keep P8 (Bt.trans l9 dR) UE id) qX UE λz=>z.elim kf kd;have rP:=Within.cons (S "makeelement") (.ref 268) w8;refine Ao (plainObj_wpAny_Assign_Attribute (LA (s:={s with heap:=ji,toks:=vz}) kW Ky.1 hq rfl (λp hp e=>?_) λfa pW wA vP sJ sH Gj iH pE su uo=>?_) (by rfl))
 .have m9:p∈[(S "kid",NameKind.local),(S "kids",NameKind.free)]:=hp;refine Sa m9 (λe=>?_) (λe=>?_) e
  .cases e
  .rw [W0];rfl
 have oz:=kW.le Gj;have TX:fa≠TP:=Cp pE;have fa_f:fa≠f:=λz=>by refine Bh kg.at ?_;intro o e V;have bT:ji.get? fa=none:=iH;rw[<- z,bT]at e;cases e
 have fa_d:fa≠lM:=λz=>by refine Bh kg.dd ?_;intro o e V;have bT:ji.get? fa=none:=iH;rw[<- z,bT]at e;cases e
 have rS:Dr pW fa cy cw Zu [(S "kids",ck)]:=by
  have lR:FX cx.env.cells Zu.names []=[(S "kids",ck)]:=by
   show[(S "kids",(cx.env.cells.lookup (S "kids")).getD 0)]=_;rw[W0];rfl
  exact⟨_,_,_,_,su,rfl,congrArg (λcl=>Data.func (K9 cy cw Zu cl vP sJ sH)) lR,uo⟩
 refine IV (s:={s with heap:=pW,toks:=wA}) oz Ev.n U7 (kg.Nj Gj TV id λd e=>by cases e;exact⟨Pk,id⟩) ⟨TV,λd e=>by cases e;exact Pk⟩ rP (by decide) λwY fk wB lN QT kh ja dS V=>?_;have lT:lN=lM:=by rcases ja with ja|⟨ja,_⟩<;>cases ja;rfl
 subst lT;have kX:=(oz.le QT).off dS bh;have rm:fk.PlainList ka #[]:=PlainList.keep (PlainList.keep rj (Bt.trans Gj QT) UE id) dS UE λz=>z.elim kf kd;have rT:Dr fk fa cy cw Zu [(S "kids",ck)]:=(rS.Nj QT TX id).Nj dS TX λz=>z.elim fa_f fa_d;have wL:=Within.cons (S "append") (.ref fa) rP;refine Ao (plainObj_wpAny_Assign_Attribute (LA (s:={s with heap:=fk,toks:=wB}) kX Ky.1 hq rfl (λp hp e=>?_) λfi pX wC vQ sK sI jy nh pF sv uq=>?_) (by rfl))
 .have m9:p∈[(S "kids",NameKind.free),(S "tag",NameKind.free)]:=hp;refine Sa m9 ?_ ?_
  .rw [W0];rfl
  .rw [ZE];rfl
 have o5:=kX.le jy;have YY:fi≠TP:=Cp pF;have fi_f:fi≠f:=λz=>by refine Bh kh.at ?_;intro o e V;have bU:fk.get? fi=none:=nh;rw[<- z,bU]at e;cases e
 have fi_d:fi≠lN:=λz=>by refine Bh kh.dd ?_;intro o e V;have bU:fk.get? fi=none:=nh;rw[<- z,bU]at e;cases e
 have rU:Dr pX fi gV dM dN [(S "tag",ct),(S "kids",ck)]:=by
  have lR:FX cx.env.cells dN.names []=[(S "tag",ct),(S "kids",ck)]:=by
   show[(S "tag",(cx.env.cells.lookup (S "tag")).getD 0),(S "kids",(cx.env.cells.lookup (S "kids")).getD 0)]=_;rw[W0,ZE];rfl
  exact⟨_,_,_,_,sv,rfl,congrArg (λcl=>Data.func (K9 gV dM dN cl vQ sK sI)) lR,uq⟩
 refine IV (s:={s with heap:=pX,toks:=wC}) o5 Ev.n ZJ (kh.Nj jy TV id λd e=>by cases e;exact⟨Pk,id⟩) ⟨TV,λd e=>by cases e;exact Pk⟩ wL (by decide) λwZ jj wD pK jz rh jb j0 V=>?_;have lU:pK=lN:=by rcases jb with jb|⟨jb,_⟩<;>cases jb;rfl
 subst lU;have o6:=(o5.le jz).off j0 bh;have rn:jj.PlainList ka #[]:=PlainList.keep (PlainList.keep rm (Bt.trans jy jz) UE id) j0 UE λz=>z.elim kf kd;have rV:Dr jj fa cy cw Zu [(S "kids",ck)]:=(rT.Nj (Bt.trans jy jz) TX id).Nj j0 TX λz=>z.elim fa_f fa_d;have kT:Dr jj fi gV dM dN [(S "tag",ct),(S "kids",ck)]:=(rU.Nj jz YY id).Nj j0 YY λz=>z.elim fi_f fi_d;refine Ao (wpAny_Return_some ((Ev.n (d:=.obj (.ref f)):Ev cx _ _ _) {s with heap:=jj,toks:=wD} o6 _ _ λw5 pY wF gh vT=>?_));cases vT;have kY:=o6.le gh;have gu:Le s.heap pY:=by
  have z:=kY.old;rw[x4,x5,FA.hM,FA.hh]at z;exact z.any λV y=>y
 have c0:cx.h0=s.heap:=x4.trans FA.hh;refine q f pK ka fa fi ck ct pY wF gu (λb hb=>?_) ⟨?_,PlainList.keep rn gh UE id,rV.Nj gh TX id,kT.Nj gh YY id,kY.holds (.head _) kk W0,kY.holds (x:=S "tag") (by simp) kt ZE⟩
 .refine o9 hb ?_ ?_ ?_ ?_ ?_ ?_ ?_
  .exact ⟨big FA.hh F nf TV,bf⟩
  .exact ⟨big (c2:=(c.plus (·=f)).plus (·=ka)) FA.hh F7 nd Pk,bd⟩
  .exact ⟨big (c2:=c.plus (·=f)) FA.hh F2 n4 UE,b4⟩
  .exact ⟨big c0 kW iH TX,pE⟩
  .exact ⟨big c0 kX nh YY,pF⟩
  .exact ⟨tE,sB⟩
  .exact ⟨tF,sD⟩
 .exact rh.Nj gh TV id λd e=>by cases e;exact⟨Pk,id⟩
structure Th where
 tag:Nat
 way:List Nat
 above:Option Nat
 tl:Option D
 f:Addr
 dd:Addr
 ka:Addr
 kids:List Addr
abbrev Cz:=List Th
structure ki(m:Hv)(av:Value)(fa fi:Addr)(tl:Option D):Prop where
 at_:m (S "attrib")=some av
 mke:m (S "makeelement")=some (.ref 268)
 ap:m (S "append")=some (.ref fa)
 it:m (S "itertext")=some (.ref fi)
 wi:Within m [S "tail",S "itertext",S "append",S "makeelement",S "attrib"]
 tl:match tl with
  |none=>True
  |some d=>d.flat=true/\∃v,m (S "tail")=some v/\∀X w h,B8 X w h v d
structure Lw(w:World)(X:CF)(h:Heap)(t:Th)(fa fi ck ct:Addr)(tk:Tok)(av:Value)(m:Hv):Prop where
 nf:¬X t.f/\t.f≠TP
 nd:t.dd≠TP
 nk:t.ka≠TP
 fn:Gp h t.f (some t.dd) m
 ms:ki m av fa fi t.tl
 av:B8 X w h av (.dict (Ia t.way t.above))
 kids:h.PlainList t.ka (t.kids.map λa=>Value.ref a).toArray
 ap:(¬X fa/\fa≠TP)/\Dr h fa cy cw Zu [(S "kids",ck)]
 it:(¬X fi/\fi≠TP)/\Dr h fi gV dM dN [(S "tag",ct),(S "kids",ck)]
 ck:(¬X ck/\ck≠TP)/\h.IsCell ck (some (.ref t.ka))
 ct:(¬X ct/\ct≠TP)/\h.IsCell ct (some (.str (sg t.tag) tk))
def Lx(w:World)(X:CF)(h:Heap)(t:Th):Prop:=∃fa fi ck ct tk av m,Lw w X h t fa fi ck ct tk av m
theorem Lw.mv{t:Th}{fa fi ck ct:Addr}{tk:Tok}{av:Value}(x:Lw w X h t fa fi ck ct tk av m)(k:∀b o,(b=t.dd\/b=t.ka\/¬X b\/Cd o)->b≠TP->h.get? b=some o->h'.get? b=some o/\(¬X b->¬X' b)):Lw w X' h' t fa fi ck ct tk av m:=by
 have kx:∀ {a:Addr}{o:Obj},¬X a->a≠TP->h.get? a=some o->h'.get? a=some o/\¬X' a:=λ{a o} n t e=>by refine CB (k a o (.inr (.inr (.inl n))) t e) ?_;intro p q;exact⟨p,q n⟩
 have kc:∀b o,b≠TP->h.get? b=some o->Cd o->h'.get? b=some o:=λb o n e z=>(k b o (.inr (.inr (.inr z))) n e).1;have lm:∀ {f params body scope cl},(¬X f/\f≠TP)/\Dr h f params body scope cl->(¬X' f/\f≠TP)/\Dr h' f params body scope cl:=λ{f params body scope cl} zz=>CB zz λiY L=>CB iY λn1 n2=>by
  refine j9 L.ex ?_;intro o V V V e V;exact⟨⟨(kx n1 n2 e).2,n2⟩,L.at (λo e=>(kx n1 n2 e).1) kc⟩
 have ce:∀ {a v},(¬X a/\a≠TP)/\h.IsCell a v->(¬X' a/\a≠TP)/\h'.IsCell a v:=λ{a v} zz=>CB zz λiZ i=>CB iZ λn1 n2=>by
  refine Bh i ?_;clear i;intro o e d;exact⟨⟨(kx n1 n2 e).2,n2⟩,o,(kx n1 n2 e).1,d⟩
 refine⟨?_,x.nd,x.nk,x.fn.keep (λo e=>(kx x.nf.1 x.nf.2 e).1) (λd e o e2=>?_),x.ms,x.av.move λb o n t e=>kx n t e,x.kids.at λo e=>(k _ o (.inr (.inl rfl)) x.nk e).1,lm x.ap,lm x.it,ce x.ck,ce x.ct⟩
 .refine Bh x.fn.at ?_;intro o e V;exact⟨(kx x.nf.1 x.nf.2 e).2,x.nf.2⟩
 .cases e;exact(k _ o (.inl rfl) x.nd e2).1
noncomputable def Bl(L:Cz):Res where
 fp:=λb=>∃t∈L,b=t.dd\/b=t.ka
 P:=λw X h=>(∀t∈L,Lx w X h t)/\(L.flatMap λt:Th=>[t.dd,t.ka]).Nodup
 mv:=λ{w X X' h h'} zz k=>⟨λt ht=>by
  refine Mo (zz.1 t ht) ?_;intro fa fi ck ct tk av m z;exact⟨fa,fi,ck,ct,tk,av,m,z.mv λb o q n e=>k b o (q.elim (λq=>.inl ⟨t,ht,.inl q⟩) λq=>q.elim (λq=>.inl ⟨t,ht,.inr q⟩) .inr) n e⟩,zz.2⟩
def Zp(tag:Nat)(way:BY)(ab:Option Nat)(d:D)(T:Res):Prop:=∃t:Th,d=.obj (.ref t.f)/\T=Bl [t]/\t.tag=tag/\t.way=way/\t.above=ab/\t.kids=[]/\t.tl=none
theorem cT{av:Value}{fa fi:Addr}:ki (Zl av fa fi) av fa fi none:=by
 have n1:S "attrib"≠S "itertext":=by decide
 have n2:S "attrib"≠S "append":=by decide
 have n3:S "attrib"≠S "makeelement":=by decide
 have n4:S "makeelement"≠S "itertext":=by decide
 have n5:S "makeelement"≠S "append":=by decide
 have n6:S "append"≠S "itertext":=by decide
 refine⟨by simp only[Zl,if_neg n1,if_neg n2,if_neg n3,if_true],by simp only[Zl,if_neg n4,if_neg n5,if_true],by simp only[Zl,if_neg n6,if_true],by simp only[Zl,if_true],λy hy=>?_,trivial⟩;unfold Zl at hy;by_cases h1:y=S "itertext"
 .simp [h1]
 .by_cases h2:y=S "append"
  .simp [h2]
  .by_cases h3:y=S "makeelement"
   .simp [h3]
   .by_cases h4:y=S "attrib"
    .simp [h4]
    .simp [h1,h2,h3,h4]at hy
theorem iF{b:Addr}{o o':Obj}(e:h.get? a=some o)(e':h.get? b=some o')(n:o≠o'):a≠b:=λz=>by rw[z,e']at e;cases e;exact n rfl
theorem M0(ok:E7 (k+1) A)(B:CV w s.heap)(xk:FT X s.heap){tag:Nat}{way:BY}{ab:Option Nat}(r:Be X w s.heap vs [.str (sg tag),.dict (Ia way ab)])(q:∀t h' tk,t.tag=tag->t.way=way->t.above=ab->t.kids=[]->t.tl=none->Le s.heap h'->(∀b,(Bl [t]).fp b->s.heap.get? b=none/\306<=b/\∃o,h'.get? b=some o)->(Bl [t]).P w (DG X (Bl [t]).fp) h'->Q (.ref t.f) {s with heap:=h',toks:=tk}) :
  wpAny (model prog w) A (call (.ref 268) vs) Q E s:=by
 cases r with|cons r1 r=>
 cases r with|cons r2 r=>
 cases r;cases r1;rename_i av tk;refine Q0 ok B xk _ _ λf dd ka fa fi ck ct h' Wh l1 fr M=>?_;refine W8 (id M.fn) ?_;intro of ef cf Cq V Du;refine B5 Cq ?_;intro wV df;refine CB Du ?_;intro wm nu;refine Mn (id nu) ?_;intro od es ep ed aH V;refine B5 (id M.kids) ?_;intro nk ek;refine YZ (id M.ap.ex) ?_;intro oa V V V ea V da V;refine YZ (id M.it.ex) ?_;intro oi V V V ei V di V;refine Bh (id M.ck) ?_;intro q7 W0 pI;refine Bh (id M.ct) ?_;intro ot ZE pJ;let t:Th:=⟨tag,way,ab,none,f,dd,ka,[]⟩
 have nx:∀b∈[f,dd,ka,fa,fi,ck,ct],¬X b:=λb hb z=>by
  obtain⟨_,o,e⟩:=xk b z;rw[(fr b hb).1]at e;cases e
 have nt:∀b∈[f,dd,ka,fa,fi,ck,ct],b≠TP:=λb hb=>Cp (fr b hb).2;have mC:∀ {b},(Bl [t]).fp b->b=dd\/b=ka:=λ{b} zz=>Bh zz λt' ht z=>by rw[AG.mp ht]at z;exact z
 have out:∀ {b o},b∈[f,dd,ka,fa,fi,ck,ct]->h'.get? b=some o->(∀es ep,o.data≠.dict es ep)->(∀a n,o.data≠.seq a n)->¬DG X (Bl [t]).fp b:=λ{b o} hb e n1 n2 z=>by
  rcases z with z|z
  .exact nx b hb z
  .rcases mC z with z|z
   .rw [z,ed]at e;cases e;exact n1 _ _ aH
   .rw [z,ek]at e;cases e;exact n2 _ _ rfl
 refine q t h' Wh rfl rfl rfl rfl rfl l1 (λb z=>?_) ⟨λt' ht=>?_,?_⟩
 .rcases mC z with z|z
  .rw [z];exact⟨(fr dd (by simp)).1,(fr dd (by simp)).2,_,ed⟩
  .rw [z];exact⟨(fr ka (by simp)).1,(fr ka (by simp)).2,_,ek⟩
 .rw [AG.mp ht];refine⟨fa,fi,ck,ct,tk,av,Zl av fa fi,⟨out (b:=f) (by simp) ef (λV V z=>by rw[df]at z;cases z) (λV V z=>by rw[df]at z;cases z),nt f (by simp)⟩,nt dd (by simp),nt ka (by simp),M.fn,cT,?_,M.kids,⟨⟨out (by simp) ea (λV V z=>by rw[da]at z;cases z) (λV V z=>by rw[da]at z;cases z),nt fa (by simp)⟩,M.ap⟩,
   ⟨⟨out (by simp) ei (λV V z=>by rw[di]at z;cases z) (λV V z=>by rw[di]at z;cases z),nt fi (by simp)⟩,M.it⟩,⟨⟨out (by simp) W0 (λV V z=>by rw[pI]at z;cases z) (λV V z=>by rw[pI]at z;cases z),nt ck (by simp)⟩,M.ck⟩,
   ⟨⟨out (by simp) ZE (λV V z=>by rw[pJ]at z;cases z) (λV V z=>by rw[pJ]at z;cases z),nt ct (by simp)⟩,M.ct⟩⟩
  exact r2.move λa o na KI e=>⟨l1.keep a o KI id e,λz=>z.elim na λz=>by
   rcases mC z with z|z
   .rw [z,(fr dd (by simp)).1]at e;cases e
   .rw [z,(fr ka (by simp)).1]at e;cases e⟩
 .have:dd≠ka:=iF ed ek λz=>by rw[z]at aH;cases aH
  simpa[t]using this
section
variable {w:World}{A:Around}{E:CG}{s:Shared}
theorem L4{d:Addr}{kvs:Dh}{k:Str}{key:Value}{Q:ET}(S1:(KS w).is k key=true)(hm:s.heap.DictOf (KS w) d kvs)(L7:kvs.length<=1000)(hQ:∀h',h'.DictOf (KS w) d (stored kvs k v)->Heap.SameBut d s.heap h'->Q () {s with heap:=h'}):wpAny (model prog w) A (dictPut d ((KS w).hash k) key v) Q E s:=by
 refine Ze hm ?_;clear hm;intro o es ep ho hc hd hk hp hn;have el:es.toList.length=es.size:=by simp
 have tu:es.size<=sizeLine:=by rw[sizeLine_eq];have:=hp.length;lia
 have qI:(es.findIdx? λe=>(KS w).is k e.key)=kvs.findIdx? λkv=>decide (kv.1=k):=by
  rw[<- hp.findIdx k];obtain⟨l⟩:=es;simp
 refine wpAny_bind (wpAny_dictFind_of S1 ho hd hk ?_);cases hi:es.findIdx? λe=>(KS w).is k e.key with
 |some i=>
  have Od:(kvs.any λkv=>decide (kv.1=k))=true:=any_of_findIdx_some (qI▸hi);refine wpAny_updateDict ho hd (hQ _ ⟨_,_,ep,BJ _ ho (Obj.isFreed_of_dict (Obj.data_mapDict hd _)),hc.mapDict _,Obj.data_mapDict hd _,hk.modify _ _,?_,?_⟩ (Heap.SameBut.update ..))
  .rw [stored,if_pos Od];have hl:(es.toList.findIdx? λe=>(KS w).is k e.key)=some i:=by rw[<- hi];obtain⟨l⟩:=es;simp
   have:=hp.modify hn hl v;obtain⟨l⟩:=es;simpa using this
  .rw [stored,if_pos Od,keys_map_store];exact hn
 |none=>
  have gA:k∉kvs.map (·.1):=not_mem_of_findIdx_none (qI▸hi);have Od:¬(kvs.any λkv=>decide (kv.1=k))=true:=by
   rw[Aq];intro Cq;refine Bh Cq ?_;intro kv uE he;exact gA (AF.mpr ⟨kv,uE,of_decide_eq_true he⟩)
  refine wpAny_updateDictKeys (hz:=tu) ho hd (hQ _ ⟨_,_,ep+1,BJ _ ho (Obj.isFreed_of_dict (Obj.data_mapDictKeys hd _)),hc.mapDictKeys _,Obj.data_mapDictKeys hd _,hk.push S1 _,?_,?_⟩ (Heap.SameBut.update ..))
  .rw [stored,if_neg Od];have:=hp.append S1 ((KS w).hash k) v;obtain⟨l⟩:=es;simpa using this
  .rw [stored,if_neg Od,Af,List.nodup_append];refine⟨hn,by simp,λa ha b hb=>?_⟩;simp -iota only[AI,List.map_nil,AG]at hb;subst hb;exact λe=>gA (e▸ha)
noncomputable def Fg(kvs:Dh)(l:Dh):List (Str×Value):=l.foldl (λa p=>stored a p.1 p.2) kvs
theorem Qz(kvs:Dh)(k:Str)(v:Value):(stored kvs k v).length<=kvs.length+1:=by
 unfold stored;split<;>simp
theorem pairs_at{es:List DictEntry}{kvs:Dh}(hp:Pairs (KS w) es kvs){i:Nat}{p:Str×Value}(hi:kvs[i]? = some p):∃e,es[i]? = some e/\(KS w).is p.1 e.key=true/\e.val=p.2:=by
 induction hp generalizing i with
 |nil=>cases hi
 |cons h1 h2 _ ih=>
  cases i with
  |zero=>cases hi;exact⟨_,rfl,h1,h2⟩
  |succ i=>exact ih (i:=i) hi
theorem S9:typeLookup (.type "dict") "__iter__"=pure (some (.builtin "dict.__iter__")):=by rw[Ap,builtinLookup_eq_fast];kernel_rfl
theorem Hm{d:Addr}{kvs JD:Dh}{Q:ET}(hd:s.heap.DictOf (KS w) d kvs)(ha:s.heap.DictOf (KS w) a JD)(Hj:a≠d)(nI:(a==sysModules)=false)(h1:kvs.length<=100)(h2:JD.length<=100)(hQ:∀h',h'.DictOf (KS w) d (Fg kvs JD)->Heap.SameBut d s.heap h'->Q () {s with heap:=h'}):wpAny (model prog w) A (mergeMapping d (.ref a) false) Q E s:=by
 refine Ze (id ha) ?_;intro oa es ep ea xa da ka pa na;refine Ze (id hd) ?_;intro od fD wR ed xd dd kd pd nd;have hT:s.TypeIs (.ref a) "dict":=Ea ha;have D7:isSubtype (.type "dict") (.type "dict")=pure true:=by rw[isSubtype_type];kernel_rfl
 have lW:∀e∈es,∀x,e.key≠.ref x:=λe he x z=>by
  refine Bh (ka e he) ?_;intro k hk V;refine B5 (Value.isStrOf_shape (by exact hk)) ?_;intro t et;rw[z]at et;cases et
 refine wpAny_bind (wpAny_isInstance hT D7 ?_);rw[if_pos rfl];refine wpAny_bind (wpAny_bind (wpAny_typeOf hT ?_));refine wpAny_of_eq S9 ?_;rw[show(some (Value.builtin "dict.__iter__")==some (Value.builtin "dict.__iter__"))=true by simp];refine wpAny_bind (wpAny_pure ?_);dsimp only;rw[nI];simp -iota only[AR,if_false];have tail:wpAny (model prog w) A (dictEntries a >>= λes=>dictEpoch a >>= λej=>(forIn (List.range es.size) PUnit.unit λi __s=>do
   let es <- dictEntries a;match es[i]? with
    |some e=>do
     holding [e.key,e.val] (dictPut d e.hash e.key e.val)
     let ep <- dictEpoch a;if(ep != ej)=true then do
       unsupported "dict.changed-during-merge"
       pure (ForInStep.yield PUnit.unit)
      else pure (ForInStep.yield PUnit.unit)
    |x=>do
     unsupported "dict.changed-during-merge"
     pure (ForInStep.yield PUnit.unit)) >>= λV=>pure ()) Q E s:=by
  refine wpAny_bind (wpAny_dictEntries ea da (wpAny_bind (wpAny_dictEpoch ea da (wpAny_bind ?_))));have L7:es.size=JD.length:=by have:=pa.length;simpa using this
  refine wpAny_forIn_list _ (λl V s'=>∃i,l=(List.range es.size).drop i/\i<=es.size/\∃h',s'={s with heap:=h'}/\h'.DictOf (KS w) d (Fg kvs (JD.take i))/\Heap.SameBut d s.heap h'/\(Fg kvs (JD.take i)).length<=100+i) _ ?_ ?_ _ _ ⟨0,by simp,Al _,s.heap,rfl,by simpa[Fg]using hd,Heap.SameBut.refl _ _,by simp -iota[Fg];exact(λ{i₁ i₂}=>String.Pos.Raw.mk_le_mk.mp) h1⟩
  .intro x rest b s1 Du;obtain⟨i,e1,hi,hh,rfl,hD,hS,hL⟩:=Du;have Dw:i<es.size:=by
    apply Nat.lt_of_not_le;intro z;rw[List.drop_eq_nil_of_le (by simpa using z)]at e1;cases e1
   have ex:x=i/\rest=(List.range es.size).drop (i+1):=by
    rw[List.drop_eq_getElem_cons (by simpa using Dw)]at e1;cases e1;exact⟨by simp,rfl⟩
   refine CB ex ?_;clear ex;rintro rfl ez;have pM:hh.get? a=some oa:=hS.extBut _ _ Hj ea;refine wpAny_bind (wpAny_dictEntries pM da ?_);have UB:JD[x]? = some (JD[x]'(by exact BE Dw L7)):=AU _;refine EI (pairs_at pa UB) ?_;intro e he S1 nJ;have ZP:es[x]? = some e:=by rw[<- Array.getElem?_toList];exact he
   rw[ZP];dsimp only;refine wpAny_bind (wpAny_holding ?_);have hash:e.hash=(KS w).hash (JD[x]'(BE Dw L7)).1:=by
    refine Bh (ka e (Array.mem_of_getElem? ZP)) ?_;intro k' Ma uC;rw[uC,(KS w).inj _ _ _ Ma S1]
   rw[hash,nJ];refine L4 S1 hD (by lia) λh3 pZ pz=>?_;have sY:h3.get? a=some oa:=pz.extBut _ _ Hj pM;refine wpAny_bind (wpAny_dictEpoch sY da ?_);rw[if_neg (by simp)];refine wpAny_pure ⟨x+1,ez,Dw,h3,rfl,?_,hS.trans pz,?_⟩
   .rw [A3,UB];unfold Fg at pZ ⊢;rw[BH];exact pZ
   .rw [A3,UB];unfold Fg at hL ⊢;rw[BH];have:=Qz (List.foldl (λa p=>stored a p.1 p.2) kvs (JD.take x)) (JD[x]'(BE Dw L7)).1 (JD[x]'(BE Dw L7)).2;simp -iota only[Option.toList_some,As,List.foldl_nil];lia
  .intro b s1 HU;obtain⟨i,e1,hi,hh,rfl,hD,hS,_⟩:=HU;have jm:es.size<=i:=by
    have:=congrArg List.length e1;simp at this;(clear h2;lia)
   have:i=JD.length:=by(clear h2;lia)
   rw[this,BF]at hD;exact wpAny_pure (hQ hh hD hS)
 refine wpAny_bind (wpAny_dictEntries ed dd ?_);refine wpAny_ite ?_;split
 .refine wpAny_bind (wpAny_dictEntries ea da (wpAny_bind ?_));rw[<- Array.forIn_toList];refine wpAny_forIn_list _ (λl V s'=>s'=s/\∀e∈l,e∈es) _ (λx rest b s1 zz=>?_) (λb s1 zz=>by refine CB zz ?_;clear zz;intro e1 V;subst e1;exact tail) es.toList _ ⟨rfl,λe he=>by simpa using he⟩;refine CB zz ?_;clear zz;intro e1 hl;subst e1;have hx:=lW x (hl x (.head _));split
  .rename_i y hy;exact absurd hy (hx y)
  .exact wpAny_pure ⟨rfl,λe he=>hl e (.tail _ he)⟩
 .exact tail
end
theorem Tj:∀ {l:Dh}{ld:B3},Cb X w h l ld->∀ {kvs:Dh}{es:B3},Cb X w h kvs es->Cb X w h (Fg kvs l) (DB es ld):=by
 intro l ld r;induction ld generalizing l with
 |nil=>cases Cb.G9 r;exact λr=>r
 |cons p ds ih=>intro kvs es r';refine Dt (Cb.Bo r) ?_;rintro v Wt rfl a b;exact ih b (IP r' a)
theorem LI{B:Sem α}{fp:CF}{cd:Cx}{e1:Expr}{d:Addr}{kvs:Dh}{es1:B3}{Q:α->Shared->Prop}(F:Fr cd J s.heap)(off:Off cd d)(x:Ev cd J e1 (.dict es1))(hl:kvs.length<=60)(h1:es1.length<=20)(hd:s.heap.DictOf (KS cd.w) d kvs)(r:Cb cd.X cd.w s.heap kvs es)(q:∀gd h' tk,Fr cd J h'->Bt (·=d) s.heap h'->h'.DictOf (KS cd.w) d gd->Cb cd.X cd.w h' gd (DB es es1)->wpAny (model prog cd.w) cd.A B Q E {s with heap:=h',toks:=tk}) :
  wpAny (model prog cd.w) cd.A (do
   let m <- holding [Value.ref d] do
    let x <- eval e1 cd.env;standAt pos;pure x
   (((holding [Value.ref d,m] (mergeMapping d m false)).onRaise λx_2=>do
         let _ <- holding [Value.ref d,m,x_2] (runValue (Code.builtin "proto.let_go" {}));pure ()).tryCatch
       λe=>do
       let __do_lift <- isInstance e (Value.type "AttributeError");if __do_lift=true then do
         rule "dict.display.not-a-mapping"
         let __do_lift <- PySem.typeNameOf m;raiseErrorMade "TypeError"
           (toString "'"++toString __do_lift++toString "' object is not a mapping")
         throw e
        else throw e).onRaise
     λx_2=>do
     let _ <- holding [Value.ref d,x_2] (runValue (Code.builtin "proto.let_go" {}));pure ()
   B) Q E s:=by
 refine wpAny_bind (wpAny_holding (wpAny_bind (x s F _ _ λv h2 t2 l2 r2=>wpAny_bind (wpAny_standAt (wpAny_pure ?_)))));have E0:Le s.heap h2:=l2;refine V6 (B8.Iq r2) ?_;rintro a ue rfl nx nt ns p r2;have F2:=F.le E0;have Pk:d≠TP:=λz=>F.Cj.nt (z▸off.1);have Jm:h2.DictOf (KS cd.w) d kvs:=C1 hd λo e=>E0.keep _ o Pk id e;have Hj:a≠d:=λz=>nx (z▸off.1);have Ot:=Cb.length r2;refine wpAny_bind (wpAny_onRaise (wpAny_tryCatch (wpAny_onRaise (wpAny_holding (Hm (s:={s with heap:=h2,toks:=t2}) Jm p Hj ns (lb hl rfl) (Jc Ot h1 rfl) λh3 ah s3=>?_)))));refine V7 (id Jm) ?_;intro od V V ed V dd V;refine Js (id ah) ?_;intro o3 V V e3 V;have l3:Bt (·=d) h2 h3:=Co s3 _ e3 Pk (Cd.at ed (Cd.dict dd));have mv:∀b o,¬cd.X b->b≠TP->h2.get? b=some o->h3.get? b=some o/\¬cd.X b:=DQ l3 λb z=>z▸off.1;exact q _ h3 t2 (F2.off l3 λb z=>z▸off) (Bt.trans E0.to l3) ah (Tj (r2.move mv) ((r.le E0).move mv))
theorem Ev.bN{e1 e2:Expr}{es1 es2:B3}(x:∀fp,Ev (c.plus fp) J e1 (.dict es1))(y:∀fp,Ev (c.plus fp) J e2 (.dict es2))(h1:es1.length<=20)(h2:es2.length<=20):Ev c J (.Dict [none,none] [e1,e2] pos) (.dict (DB (DB [] es1) es2)):=λs F Q E q=>by
 rw[arm_eval_Dict];refine wpAny_bind (wpAny_standAt ?_);show wpAny _ _ (dictDisplay [(none,do let x <- eval e1 c.env;standAt pos;pure x),(none,do let x <- eval e2 c.env;standAt pos;pure x)]) _ _ _;unfold dictDisplay;simp only[List.forIn_cons,List.forIn_nil,List.isEmpty_nil,if_true,pure_bind,bind_assoc];refine wpAny_bind (wpAny_alloc ?_);have l1:Le s.heap (s.heap.push {cls:=.type "dict",data:=.dict #[]}):=Le.push _ _;have c8:(s.heap.push {cls:=.type "dict",data:=.dict #[]}).get? s.heap.objs.size=some {cls:=.type "dict",data:=.dict #[]}:=AH _ rfl;have n1:=Bm s.heap;have b1:=B6 F.base;generalize hd:s.heap.objs.size=d at *;have F1:Fr (c.plus (·=d)) J (s.heap.push {cls:=.type "dict",data:=.dict #[]}):=F.plus l1 λb z=>by have z':b=d:=z;rw[z'];exact⟨n1,b1,_,c8⟩
 have off:Off (c.plus (·=d)) d:=(F.new n1 b1).off rfl;have l0:∀ {h3},Bt (·=d) s.heap h3->Le s.heap h3:=λl=>l.fresh λb z=>.inr (by rw[z];exact n1);refine(LI (cd:=c.plus (·=d)) (fp:=Hu) (kvs:=[]) (es:=[]) (s:={s with heap:=s.heap.push {cls:=.type "dict",data:=.dict #[]},toks:=s.toks}) F1 off (x _) (Al _) h1 (C3 c8) .nil λud uR t2 F2 l2 Jm r2=>?_);have L9:ud.length<=40:=by
  have a1:=Cb.length r2;have a2:=Iu es1 [];simp at a2;exact Jc a1 (AD a2 h1) rfl
 refine(LI (cd:=c.plus (·=d)) (fp:=Hu) (s:={s with heap:=uR,toks:=t2}) F2 off (y _) (lb L9 rfl) h2 Jm r2 λue h3 t3 F3 l3 ah r3=>?_);have ns:(d==sysModules)=false:=by
  rw[Av];intro z;rw[z]at b1;exact absurd b1 (by decide)
 refine wpAny_pure (q _ h3 t3 (l0 (Bt.trans l1.to (Bt.trans l2 l3))) (.dict (λz=>?_) (Cp b1) ns ah (r3.move (Cc λb z=>.inl z))));obtain⟨_,o,e⟩:=F.Cj d z;rw[n1]at e;cases e
def Stop(p:Prop):Prop:=p
theorem Hr{M:Model}{k:Str}{Q:ET}(h:Stop (wpAny M A (nsSet a k v) Q E s)):wpAny M A (nsSet a k v) Q E s:=h
theorem Mm{k:Str}{kvs:Dh}{Q:ET}(hm:s.heap.DictOf (KS w) a kvs)(hn:k∉kvs.map (·.1))(hQ:∀h',h'.DictOf (KS w) a (kvs++[(k,v)])->Heap.SameBut a s.heap h'->Q () {s with heap:=h',toks:=s.toks+1}):wpAny (model prog w) A (nsSet a k v) Q E s:=λΓ p hΓ=>by
 refine Ze hm ?_;clear hm;intro o es ep ho hc hd hk hp js;simp -iota only[nsSet,strHash,Sem.wp_bind',Sem.wp_cmd_ask,Sem.wp_pure',Sem.wp_cmd_mkText];rw[Sem.wp_loadPart_of _ Γ (λe x s'=>E e s') p {s with toks:=s.toks+1} (o:=o) _ ho];have key:∀e∈es,∃x t,e.key=.str x t:=λe he=>by
  refine Bh (hk e he) ?_;intro x hx V;refine B5 (Value.isStrOf_shape (by exact hx)) ?_;intro t et;exact⟨x,t,et⟩
 have Od:es.any (·.refKey)=false:=by
  rw[Array.any_eq_false'];intro e he;refine MB (key e he) ?_;intro n t h;simp -iota[DictEntry.refKey,h]
 have hi:es.findIdx? (·.key.isStr k)=none:=by
  rw[Array.findIdx?_eq_none_iff];intro e he;refine MB (key e he) ?_;intro x t hx;rw[hx];have:x∈kvs.map (·.1):=by
   have ZP:e∈es.toList:=by simpa using he
   clear Od js hn hk hd hQ;generalize es.toList=l at hp ZP;induction hp with
   |nil=>cases ZP
   |cons a1 a2 a3 ih=>
    rcases AJ.mp ZP with rfl|ZP
    .refine B5 (Value.isStrOf_shape (by exact a1)) ?_;intro t' et;rw[hx]at et;cases et;exact .head _
    .exact .tail _ (ih ZP)
  have Hj:x≠k:=λz=>hn (z▸this);show(x==k)=false;simpa using Hj
 simp only[hd,aRefKeyMayBeTheName_eq,aRefKeyMayBeTheNameByArray,Od,Bool.and_false,AR,if_false,Sem.wp_cmd_updatePart];refine⟨by rw[ho];rfl,hQ _ ?_ (Heap.SameBut.update ..)⟩;obtain⟨cl,d,dt,sl⟩:=o;dsimp only at hd;subst hd;have bD:(KS w).is k (.str k s.toks)=true:=DK w k _;refine⟨_,_,ep+1,BJ _ ho (by simp -iota only[Obj.putName_eq,Obj.putNameByArray,hi];rfl),?_,by simp -iota only[Obj.putName_eq,Obj.putNameByArray,hi];rfl,hk.push bD _,?_,?_⟩
 .simp -iota only[Obj.putName_eq,Obj.putNameByArray,hi];exact hc
 .have:=hp.append bD ((KS w).hash k) v;obtain⟨l⟩:=es;simpa using this
 .rw [Af,List.nodup_append];refine⟨js,by simp,λa ha b hb=>?_⟩;simp -iota only[AI,List.map_nil,AG]at hb;subst hb;exact λe=>hn (e▸ha)
noncomputable abbrev Kk:Value:=.str (Str.ofString "cpy313.xml.etree.ElementTree") 582
theorem ZI:B9 202 (BZ 14) (S "SubElement") 201 (.ref 195) Kk:=⟨λP=>rfl,λP=>⟨_,_,_,rfl,rfl,rfl⟩,rfl,rfl,rfl⟩
theorem Wd{v1 v2 v3 v4 v5:Value}{Q:List (Str×Value)->Shared->Prop}(B:CV w s.heap)(q:∀h1 tk a,Le s.heap h1->s.heap.get? a=none->306<=a->h1.DictOf (KS w) a [(S "way",v4),(S "above",v5)]->Q [(S "parent",v1),(S "tag",v2),(S "attrib",v3),(S "extra",.ref a)] {s with heap:=h1,toks:=tk}) :
  wpAny (model prog w) A (bindArgs (EV (BZ 14) (S "SubElement") (.ref 195) Kk (.ref 201)) ⟨[v1,v2,v3],[(S "way",v4),(S "above",v5)]⟩) Q E s:=by
 obtain⟨h,g,d,tk,os⟩:=s;have e:=B.k 195 _ rfl;have na:h.get? h.objs.size=none:=Bm h;have ba:=B6 B;have ea:(h.push {cls:=.type "dict",data:=.dict #[]}).get? h.objs.size=some {cls:=.type "dict",data:=.dict #[]}:=AH _ rfl;have la:Le h (h.push {cls:=.type "dict",data:=.dict #[]}):=Le.push _ _;have da:(h.push {cls:=.type "dict",data:=.dict #[]}).DictOf (KS w) h.objs.size []:=C3 ea;unfold bindArgs;repeat(first|(with_reducible refine Hr ?_)|wp_step)
 refine Mm (s:=⟨h.push {cls:=.type "dict",data:=.dict #[]},g,d,tk,os⟩) da (by simp) λh1 d1 s1=>?_;repeat(first|(with_reducible refine Hr ?_)|wp_step)
 refine Mm (s:=⟨h1,g,d,tk+1,os⟩) d1 (show ¬S "above"∈[S "way"]by decide) λh2 d2 s2=>?_;repeat(first|(with_reducible refine Hr ?_)|wp_step)
 refine q h2 (tk+1+1) h.objs.size (Le.of λb o eb=>?_) na ba d2;have nb:b≠h.objs.size:=λz=>Aa _ (z▸Ag eb);exact s2.extBut _ _ nb (s1.extBut _ _ nb (AO _ eb))
theorem Tx{f:Addr}{dd:Option Addr}{name:Str}{pl:Sem Bool}{Q:Value×List Value->Shared->Prop}(I:Gp s.heap f dd m)(hv:m name=some (.ref a))(hB:typeLookup (.type "function") name=pure none)(q:Q (.ref a,[]) {s with toks:=s.toks+1}):wpAny (model prog w) A (getMethod (.ref f) name pl) Q E s:=by
 obtain⟨h,g,d,tk,os⟩:=s;refine EI (id I) ?_;intro o e1 e2 V;have hT:(⟨h,g,d,tk,os⟩:Shared).TypeIs (.ref f) "function":=⟨o,e1,e2⟩
 have mh:=PySem.F.canon_object_ga;unfold getMethod specialOf;refine wpAny_bind (wpAny_bind (wpAny_typeOf hT (wpAny_of_eq U8 ?_)));dsimp only;rw[mh,if_neg (by decide)];refine wpAny_bind (wpAny_bind (wpAny_typeOf hT (wpAny_of_eq fH ?_)));rw[if_neg (by simp)];refine wpAny_bind (wpAny_bind (wpAny_typeOf hT (wpAny_of_eq hB ?_)));exact wpAny_bind (GK hB I.kM hv (Kw _) (wpAny_pure q))
theorem KZ{name:Str}{apos:Pos}{args:Cw}{QR:List Keyword}{f:Addr}(a:Ev c J o (.obj (.ref f)))(F:Fr c J s.heap)(hB:typeLookup (.type "function") name=pure none)(hI:∀h,Fr c J h->∃dd m g,Gp h f dd m/\m name=some (.ref g))(hb:attributeBase o name c.env (eval o c.env)=eval o c.env)(Dv:((backTo pos (starEach args c.env)).all (λx=>!x.1)&&(backToKw pos (keywordEach QR c.env)).all (λx=>x.1.isSome)
   && decide (args.length+QR.length+(if(backToKw pos (keywordEach QR c.env)).isEmpty then 0 else 1)<30))=true)(hl:(apos.endLine==pos.line)=true)(y:∀s1 g dd m,Fr c J s1.heap->Le s.heap s1.heap->s1={s with heap:=s1.heap,toks:=s1.toks}->Gp s1.heap f dd m->m name=some (.ref g)->∃og fd,og.data=.func fd/\wpAny (model prog c.w) c.A (evalArgs (.ref g) true (backTo pos (starEach args c.env)) (backToKw pos (keywordEach QR c.env))) (λv s2=>s2.heap.get? g=some og/\wpAny (model prog c.w) c.A (call (.ref g) v.pos v.kw) Q E s2) E s1) :
  wpAny (model prog c.w) c.A (eval (.Call (.Attribute o name apos) args QR pos) c.env) Q E s:=by
 rw[arm_eval_Call,hb];refine wpAny_bind (a s F _ _ λv h1 t1 l1 r1=>?_);cases r1;have F1:Fr c J h1:=F.le l1;refine wpAny_bind (wpAny_standAt ?_);have VX:methodCallForm (args.length+QR.length) (backTo pos (starEach args c.env)) (backToKw pos (keywordEach QR c.env))=true:=Dv;have QL:methodCallPos true o c.env apos pos=pure pos:=by unfold methodCallPos;simp[hl]
 unfold methodCall;rw[VX];refine Js (hI _ F1) ?_;intro dd m g I hv;refine wpAny_bind (wpAny_holding (Tx (s:={s with heap:=h1,toks:=t1}) I hv hB ?_));refine wpAny_bind (wpAny_of_eq QL ?_);refine Fp (y {s with heap:=h1,toks:=t1+1} g dd m F1 l1 rfl I hv) ?_;intro og fd ed z;exact callWith_function_kw (o:=og) (fd:=fd) (wpAny_mono z (λv s2 z=>⟨⟨z.1,ed⟩,z.2⟩) λV V z=>z)
theorem JU{name:Str}{apos:Pos}{es:Cw}{f:Addr}(a:Ev c J o (.obj (.ref f)))(ya:FP c J (e::es) ds)(F:Fr c J s.heap)(hB:typeLookup (.type "function") name=pure none)(hI:∀h,Fr c J h->∃dd m g,Gp h f dd m/\m name=some (.ref g)/\g≠TP/\∃og fd,h.get? g=some og/\og.data=.func fd)(he:starEach (e::es) c.env=(false,eval e c.env)::starEach es c.env)(hb:attributeBase o name c.env (eval o c.env)=eval o c.env)(Dv:((backTo pos (starEach (e::es) c.env)).all (λx=>!x.1)&&(backToKw pos (keywordEach [] c.env)).all (λx=>x.1.isSome)
   && decide ((e::es).length+([]:List Keyword).length+(if(backToKw pos (keywordEach [] c.env)).isEmpty then 0 else 1)<30))=true)(hl:(apos.endLine==pos.line)=true)(y:∀s2 g vs dd m,Fr c J s2.heap->Le s.heap s2.heap->s2={s with heap:=s2.heap,toks:=s2.toks}->Gp s2.heap f dd m->m name=some (.ref g)->Be c.X c.w s2.heap vs ds->wpAny (model prog c.w) c.A (call (.ref g) vs) Q E s2)(nf:f≠TP)(nd:∀X h dd m,c.G.P c.w X h->Gp h f (some dd) m->dd≠TP) :
  wpAny (model prog c.w) c.A (eval (.Call (.Attribute o name apos) (e::es) [] pos) c.env) Q E s:=by
 refine KZ a F hB (λh z=>by refine Mn (hI h z) ?_;intro dd m g i e V;exact⟨dd,m,g,i,e⟩) hb Dv hl λs1 g dd m F1 l1 e1 I hv=>?_;obtain⟨aH,m',g',I',bE,ng,og,fd,eg,ed⟩:=hI _ F1;have gg:g'=g:=by
  refine W8 I ?_;clear I;intro o1 a1 a2 a3 a4 a5;refine W8 I' ?_;clear I';intro o2 b1 b2 b3 b4 b5;rw[a1]at b1;cases b1;rw[a4]at b4;subst b4;cases dd with
  |none=>rw[a5]at hv;cases hv
  |some d=>
   have:=Nr a5.2.ns b5.2.ns name;rw[hv,bE]at this;cases this;rfl
 subst gg;refine⟨og,fd,ed,?_⟩;rw[he];refine PySem.Calls.evalArgs_plain ?_;have z:=ya pos s1 F1 (λvs s2=>s2.heap.get? g'=some og/\wpAny (model prog c.w) c.A (call (.ref g') vs []) Q E s2) E (λvs h2 t2 l2 r2=>?_)
 .rw [he]at z;exact z
 have E0:Le s1.heap h2:=l2;have F2:=F1.le E0;refine⟨E0.keep _ _ ng id eg,?_⟩;refine y {s1 with heap:=h2,toks:=t2} g' vs dd m F2 (Bt.trans l1 E0) (by rw[e1]) (I.Nj E0 nf id λd e=>⟨?_,id⟩) hv r2;subst e;exact nd _ _ d m F1.g I
theorem Pq{apos:Pos}{l:Addr}(hG:c.G=Bk l ds)(hz:ds.length<=1000000)(a:Ev c J o (.obj (.ref l)))(y:Ev c J e d)(F:Fr c J s.heap)(he:autoParam (D8 c e []) Bc)(hb:autoParam (attributeBase o "append" c.env (eval o c.env)=eval o c.env) Bc)(Dv:autoParam (((backTo pos (starEach [e] c.env)).all (λx=>!x.1)&&(backToKw pos (keywordEach [] c.env)).all (λx=>x.1.isSome)&&decide ([e].length+([]:List Keyword).length+(if([]:List Keyword).isEmpty then 0 else 1)<30))=true) Bc)(hl:autoParam (J6 apos pos) Bc) :
  Run c.w c.A (·=l) (eval (.Call (.Attribute o "append" apos) [e] [] pos) c.env) s λv h'=>(Bk l (ds++[d])).P c.w c.X h':=λQ E q=>
 wpAny_Call_method_lateS hb Dv hl (a s F _ _ λv h1 t1 l1 r1=>by
  cases r1;have F1:Fr c J h1:=F.le l1;have g1:=F1.g;rw[hG]at g1;refine EI g1 ?_;clear g1;intro vs pl rr nt;refine B5 (id pl) ?_;intro n0 e0;refine⟨"list","list.append",PySem.F.plainAttrs_list,slot_list_append,PySem.F.type_list_append,⟨_,e0,rfl⟩,(λa' e=>by cases e;exact⟨_,e0,rfl⟩),?_⟩;refine BI (wpAny_items_cons (y {s with heap:=h1,toks:=t1} F1 _ _ λv h2 t2 l2 r2=>wpAny_items_nil ?_) he) he rfl;have E0:Le h1 h2:=l2;have F2:Fr c J h2:=F1.le E0;have g2:=F2.g;rw[hG]at g2;refine EI g2 ?_;clear g2;intro T8 Tb Yk V;have Na:=Yk.length;refine wpAny_list_append_plain Tb (λh3 p3 s3=>?_) (by rw[AY,sizeLine_eq];exact Jc Na hz rfl);refine B5 (id p3) ?_;intro n3 e3;have l3:Bt (·=l) h2 h3:=Co s3 _ e3 nt (by refine B5 Tb ?_;clear Tb;intro V e;exact Cd.at e (Cd.seq rfl));have lx:c.X l:=(F2.gx l (by rw[hG];exact rfl)).1.1;refine q _ h3 t2 (Bt.trans (Le.to (Bt.trans l1 E0)) l3) ⟨T8++[v],?_,(Yk.append (.cons r2 .nil)).move (DQ l3 λb z=>z▸lx),nt⟩;exact⟨n3,by rw[e3];simp⟩)
theorem Lw.u3{t:Th}{fa fi ck ct:Addr}{tk:Tok}{av:Value}{ks:List Addr}(x:Lw w X h t fa fi ck ct tk av m)(k:∀b o,(b=t.dd\/¬X b\/Cd o)->b≠TP->h.get? b=some o->h'.get? b=some o/\(¬X b->¬X' b))(p:h'.PlainList t.ka (ks.map λa=>Value.ref a).toArray):Lw w X' h' {t with kids:=ks} fa fi ck ct tk av m:=by
 have kx:∀ {a:Addr}{o:Obj},¬X a->a≠TP->h.get? a=some o->h'.get? a=some o/\¬X' a:=λ{a o} n t e=>by refine CB (k a o (.inr (.inl n)) t e) ?_;intro p q;exact⟨p,q n⟩
 have kc:∀b o,b≠TP->h.get? b=some o->Cd o->h'.get? b=some o:=λb o n e z=>(k b o (.inr (.inr z)) n e).1;have lm:∀ {f params body scope cl},(¬X f/\f≠TP)/\Dr h f params body scope cl->(¬X' f/\f≠TP)/\Dr h' f params body scope cl:=λ{f params body scope cl} zz=>CB zz λiY L=>CB iY λn1 n2=>by
  refine j9 L.ex ?_;intro o V V V e V;exact⟨⟨(kx n1 n2 e).2,n2⟩,L.at (λo e=>(kx n1 n2 e).1) kc⟩
 have ce:∀ {a v},(¬X a/\a≠TP)/\h.IsCell a v->(¬X' a/\a≠TP)/\h'.IsCell a v:=λ{a v} zz=>CB zz λiZ i=>CB iZ λn1 n2=>by
  refine Bh i ?_;clear i;intro o e d;exact⟨⟨(kx n1 n2 e).2,n2⟩,o,(kx n1 n2 e).1,d⟩
 refine⟨?_,x.nd,x.nk,x.fn.keep (λo e=>(kx x.nf.1 x.nf.2 e).1) (λd e o e2=>?_),x.ms,x.av.move λb o n t e=>kx n t e,p,lm x.ap,lm x.it,ce x.ck,ce x.ct⟩
 .refine Bh x.fn.at ?_;intro o e V;exact⟨(kx x.nf.1 x.nf.2 e).2,x.nf.2⟩
 .cases e;exact(k _ o (.inl rfl) x.nd e2).1
noncomputable def CW(L:Cz)(tag:Nat)(kf:Addr):List Th:=L.map λt=>if t.tag=tag then{t with kids:=t.kids++[kf]}else t
theorem Ik(L:Cz)(tag:Nat)(kf b:Addr):(Bl (CW L tag kf)).fp b↔(Bl L).fp b:=by
 constructor
 .intro Cq;refine Bh Cq ?_;intro t ht z;refine Bh (AF.mp ht) ?_;rintro t0 h0 rfl;refine⟨t0,h0,?_⟩;split at z<;>exact z
 .intro Du;refine Bh Du ?_;intro t ht z;refine⟨_,Ab ht,?_⟩;split<;>exact z
theorem QB{L:Cz}(nd:(L.flatMap λt=>[t.dd,t.ka]).Nodup){t p:Th}(ht:t∈L)(hp:p∈L)(ne:t≠p):t.dd≠p.ka/\t.ka≠p.ka:=by
 induction L with
 |nil=>cases ht
 |cons x L ih=>
  rw[AX,List.nodup_append]at nd;refine FO nd ?_;clear nd;intro n1 n2 n3;rcases AJ.mp ht with e1|h1
  .rcases AJ.mp hp with e2|h2
   .exact absurd (e1.trans e2.symm) ne
   .subst e1;have m:p.ka∈L.flatMap λt=>[t.dd,t.ka]:=Am.mpr ⟨p,h2,by simp⟩;exact⟨n3 _ (by simp) _ m,n3 _ (by simp) _ m⟩
  .rcases AJ.mp hp with e2|h2
   .subst e2;have m1:t.dd∈L.flatMap λt=>[t.dd,t.ka]:=Am.mpr ⟨t,h1,by simp⟩;have m2:t.ka∈L.flatMap λt=>[t.dd,t.ka]:=Am.mpr ⟨t,h1,by simp⟩;exact⟨(n3 _ (by simp) _ m1).symm,(n3 _ (by simp) _ m2).symm⟩
   .exact ih n2 h1 h2
theorem U9{L:Cz}(nd:(L.flatMap λt=>[t.dd,t.ka]).Nodup){p:Th}(hp:p∈L):p.dd≠p.ka:=by
 induction L with
 |nil=>cases hp
 |cons x L ih=>
  rw[AX,List.nodup_append]at nd;rcases AJ.mp hp with rfl|hp
  .have:=nd.1;simpa using this
  .exact ih nd.2.1 hp
theorem Yu{L:Cz}(nt:(L.map (·.tag)).Nodup){t p:Th}(ht:t∈L)(hp:p∈L)(e:t.tag=p.tag):t=p:=by
 induction L with
 |nil=>cases ht
 |cons x L ih=>
  rw[AI,List.nodup_cons]at nt;rcases AJ.mp ht with e1|h1
  .rcases AJ.mp hp with e2|h2
   .exact e1.trans e2.symm
   .subst e1;exact absurd (AF.mpr ⟨p,h2,e.symm⟩) nt.1
  .rcases AJ.mp hp with e2|h2
   .subst e2;exact absurd (AF.mpr ⟨t,h1,e⟩) nt.1
   .exact ih nt.2 h1 h2
theorem Xq{L:Cz}{p:Th}{kf:Addr}(g:(Bl L).P w X h)(gx:∀b,(Bl L).fp b->X b)(nt:(L.map (·.tag)).Nodup)(hp:p∈L)(l:Bt (·=p.ka) h h')(pl:h'.PlainList p.ka ((p.kids++[kf]).map λa=>Value.ref a).toArray):(Bl (CW L p.tag kf)).P w X h':=by
 refine CB g ?_;clear g;intro g1 nd;have px:X p.ka:=gx _ ⟨p,hp,.inr rfl⟩;refine⟨λt ht=>?_,?_⟩
 .refine Bh (AF.mp ht) ?_;rintro t0 h0 rfl;refine Mo (g1 t0 h0) ?_;intro fa fi ck ct tk av m z;by_cases e:t0.tag=p.tag
  .have e0:=Yu nt h0 hp e;subst e0;rw[if_pos rfl];refine⟨fa,fi,ck,ct,tk,av,m,z.u3 (λb o q n e=>⟨l.at n e λy=>?_,id⟩) pl⟩;have y':b=t0.ka:=y;rcases q with q|q|q
   .exact absurd (q.symm.trans y') (U9 nd h0)
   .exact absurd (y'▸px) q
   .exact q
  .rw [if_neg e];have ne:t0≠p:=λz=>e (z▸rfl);refine CB (QB nd h0 hp ne) ?_;intro a1 a2;refine⟨fa,fi,ck,ct,tk,av,m,z.mv λb o q n e=>⟨l.at n e λy=>?_,id⟩⟩;have y':b=p.ka:=y;rcases q with q|q|q|q
   .exact absurd (q.symm.trans y') a1
   .exact absurd (q.symm.trans y') a2
   .exact absurd (y'▸px) q
   .exact q
 .have e:(CW L p.tag kf).flatMap (λt=>[t.dd,t.ka])=L.flatMap λt=>[t.dd,t.ka]:=by
   unfold CW;rw[List.flatMap_map];congr 1;funext t;split<;>rfl
  rw[e];exact nd
noncomputable def oD(l:List Addr):List D:=l.map λa=>D.obj (.ref a)
theorem Mr:∀l:List Addr,Be X w h (l.map λa=>Value.ref a) (oD l):=by
 intro l;induction l with
 |nil=>exact .nil
 |cons a l ih=>exact .cons (.obj _) ih
theorem WJ:∀ {l:List Addr}{vs:DV},Be X w h vs (oD l)->vs=l.map λa=>Value.ref a:=by
 intro l;induction l with
 |nil=>exact Be.G9
 |cons a l ih=>intro vs r;refine Dt (Be.Bo r) ?_;rintro V V rfl a b;cases a;exact congrArg _ (ih b)
theorem XF(ok:E7 (k+1) A)(B:CV w s.heap)(xk:FT X s.heap){p:Th}{fa fi ck ct:Addr}{tk:Tok}{av:Value}(z:Lw w X s.heap p fa fi ck ct tk av m)(px:X p.ka)(hk:p.kids.length<=1000){kf:Addr} :
  Run w A (·=p.ka) (call (.ref fa) [.ref kf]) s λv h'=>h'.PlainList p.ka ((p.kids++[kf]).map λa=>Value.ref a).toArray:=by
 have g:(Bk p.ka (oD p.kids)).P w X s.heap:=⟨_,z.kids,Mr _,z.nk⟩
 have ck_ka:ck≠p.ka:=λe=>z.ck.1.1 (e▸px);refine Run.imp (Rl (k:=k) ok z.ap.2 B xk (G:=Bk p.ka (oD p.kids)) g (λb y=>by have y':b=p.ka:=y;rw[y'];exact px) (names:=[S "kid"]) (ds:=[.obj (.ref kf)]) (Jf:=[(S "kids",.obj (.ref p.ka))]) (.cons (.obj _) .nil) (λpm cv ct=>by rfl) rfl (by decide) (λy hy=>?_) (λy hy=>?_) rfl rfl rfl (λy hy=>?_) (λy a e=>?_) (λx y a e e'=>?_) (λy d my=>?_) (Post:=λv h'=>(Bk p.ka (oD p.kids++[.obj (.ref kf)])).P w X h') (λc FA s1 F=>?_)) λv h' l p'=>?_
 .rw [AG.mp hy];rfl
 .rw [AG.mp hy];exact⟨by decide,by decide⟩
 .have YA:y∈[(S "kid",NameKind.local),(S "kids",NameKind.free)]:=hy;simp only[AJ,An,or_false]at YA;rcases YA with rfl|rfl<;>(intro e;cases e)
 .have:=lookup_mem e;simp only[AJ,An,or_false]at this;cases this;exact⟨z.ck.1.2,⟨_,z.ck.2⟩,λy=>ck_ka y⟩
 .have h1:=lookup_mem e;have h2:=lookup_mem e';simp only[AJ,An,or_false]at h1 h2;cases h1;cases h2;rfl
 .simp only[AJ,An,or_false]at my;cases my;exact⟨⟨by decide,by decide⟩,rfl,ck,_,rfl,z.ck.2,.obj _⟩
 .have E:=FA.env;have hG:c.G=Bk p.ka (oD p.kids):=FA.hG;have r:=Pq (c:=c) (J:=[(S "kid",.obj (.ref kf)),(S "kids",.obj (.ref p.ka))]) (o:=.Name (S "kids") ⟨248,31,248,35⟩) (e:=.Name (S "kid") ⟨248,43,248,46⟩) (apos:=⟨248,31,248,42⟩) (pos:=⟨248,31,248,47⟩) hG (by unfold oD;rw[AA];exact lb hk rfl) Ev.n Ev.n (s:=s1) F;refine Run.imp r λv h' l p'=>?_;have p2:(Bk p.ka (oD p.kids++[.obj (.ref kf)])).P w c.X h':=by rw[<- FA.hw];exact p'
  exact Res.CC p2 FA.hX
 .refine EI p' ?_;clear p';intro vs pl rr V;have e1:oD p.kids++[D.obj (.ref kf)]=oD (p.kids++[kf]):=by unfold oD;rw[Af];rfl
  rw[e1]at rr;rw[WJ rr]at pl;exact pl
theorem FK{t:Th}(z:Lx w X h t):∃m fa fi ck ct tk av,Lw w X h t fa fi ck ct tk av m:=by refine Mo z ?_;clear z;intro fa fi ck ct tk av m z;exact⟨m,fa,fi,ck,ct,tk,av,z⟩
theorem H8{f:Addr}{dd aH:Option Addr}{m':Hv}(I:Gp h f dd m)(I':Gp h f aH m'):dd=aH/\m=m':=by
 refine W8 I ?_;clear I;intro o1 a1 a2 a3 a4 a5;refine W8 I' ?_;clear I';intro o2 b1 b2 b3 b4 b5;rw[a1]at b1;cases b1;rw[a4]at b4;subst b4;refine⟨rfl,?_⟩;cases dd with
 |none=>funext y;rw[a5 y,b5 y]
 |some d=>funext y;exact Nr a5.2.ns b5.2.ns y
theorem Ex.CW{apos GD:Pos}{L:Cz}{p:Th}{kf:Addr}{G':Res}(ro:¬c.ro)(nt:(L.map (·.tag)).Nodup)(hp:p∈L)(X7:p.kids.length<=1000)(u:Upd c.G (Bl L) (Bl (Mine.CW L p.tag kf)) G')(a:Ev c J o (.obj (.ref p.f)))(y:Ev c J e (.obj (.ref kf)))(hk:1<=c.k)(hint:interactive c.env=false)(he:autoParam (D8 c e []) Bc)(hb:autoParam (attributeBase o "append" c.env (eval o c.env)=eval o c.env) Bc)(Dv:autoParam (((backTo pos (starEach [e] c.env)).all (λx=>!x.1)&&(backToKw pos (keywordEach [] c.env)).all (λx=>x.1.isSome)&&decide ([e].length+([]:List Keyword).length+(if(backToKw pos (keywordEach [] c.env)).isEmpty then 0 else 1)<30))=true) Bc)(hl:autoParam (J6 apos pos) Bc)(hs:autoParam (swapsWith (.Call (.Attribute o "append" apos) [e] [] pos) none GD.line c.env=pure false) Bc) :
  Ex c J (.Expr (.Call (.Attribute o "append" apos) [e] [] pos) GD) (Fr (c.on c.X G') J) R:=λs F Q E n r=>by
 have gF:=u.has _ _ _ F.g;refine Mo (FK (gF.1 p hp)) ?_;intro m0 V V V V V V z0;refine wpAny_Expr_any (JU (ds:=[.obj (.ref kf)]) a (.cons y .nil he) F U7 (λh Fh=>?_) he hb Dv hl (λs2 g vs dd m F2 l2 e2 I hv rv=>?_) z0.nf.2 λX h dd m g I=>?_) hint hs
 .refine Mo (FK ((u.has _ _ _ Fh.g).1 p hp)) ?_;intro m fa fi ck ct tk av z;refine YZ z.ap.2.ex ?_;intro og pm cv pH e1 e2 e3 V;exact⟨_,m,fa,z.fn,z.ms.ap,z.ap.1.2,og,_,e1,e3⟩
 .refine Dt (Be.Bo rv) ?_;rintro V V rfl r1 r2;cases r1;cases r2;have g2:=u.has _ _ _ F2.g;refine Mo (FK (g2.1 p hp)) ?_;intro m' fa fi ck ct tk av z;refine CB (H8 I z.fn) ?_;intro V em;rw[em,z.ms.ap]at hv;cases hv;have px:c.X p.ka:=(F2.gx p.ka (u.fp _ ⟨p,hp,.inr rfl⟩)).1.1;have gx:∀b,(Bl L).fp b->c.X b:=λb y=>(F2.gx b (u.fp _ y)).1.1;refine XF (k:=0) (F2.ok.CC hk) F2.base F2.Cj z px X7 _ _ λv h3 t3 l3 pl=>?_;rw[e2];refine n h3 t3 (F2.upd ro u (l3.any λb y=>?_) (Xq g2 gx nt hp l3 pl));have y':b=p.ka:=y;exact⟨p,hp,.inr y'⟩
 .refine Mo (FK ((u.has _ _ _ g).1 p hp)) ?_;intro m' fa fi ck ct tk av z;refine CB (H8 I z.fn) ?_;intro e V;cases e;exact z.nd
theorem MW{f:Addr}{st:Stmt}{qual:Str}{code:Addr}{dflt mod:Value}(fd:B9 f st qual code dflt mod)(ok:E7 (k+1) A)(B:CV w s.heap)(xk:FT X s.heap){G:Res}(g:G.P w X s.heap)(gx:∀b,G.fp b->X b){names:B1}{Wu:DV}{kw:Dh}(hb:∀(Q:List (Str×Value)->Shared->Prop) (E:CG),(∀h1 tk vs,Le s.heap h1->Be X w h1 vs ds->names.length=vs.length->Q (names.zip vs) {s with heap:=h1,toks:=tk})->wpAny (model prog w) A.in1 (bindArgs (EV st qual dflt mod (.ref code)) ⟨Wu,kw⟩) Q E s)(ck:DY (BX st) names){Post:Cs}(body:∀c h0,Le s.heap h0->FnAt c w (BX st) k X G h0->Bd c (names.zip ds) [Br st] (FR G h0 Post .none) (FR G h0 Post)):Run w A G.fp (call (.ref f) Wu kw) s Post:=λQ E q=>by
 refine wpAny_call ?_;have ho:=B.k _ _ (fd.here w.params);refine Mn (fd.code w.params) ?_;intro oc vc tc ec dc qc;refine A7 (o:=Et st qual dflt mod (.ref code)) (fd:=EV st qual dflt mod (.ref code)) ok.room ho rfl fd.plain.1 fd.plain.2 rfl ⟨code,oc,vc,tc,rfl,B.k _ _ ec,dc,qc⟩ ?_;refine hb _ _ λh1 tk vs l1 r1 hl=>?_;exact NQ (s:={s with heap:=h1,toks:=tk}) fd ok (B.le l1 λV z=>z.elim) (xk.le l1) (G:=G) (G.mv g λb o z nt e=>⟨l1.keep b o nt id e,id⟩) gx r1 hl ck (λc F=>body c h1 l1 F) λa h' t l p=>q a h' t (Bt.trans l1.to l) p
theorem FN.nZ{e1 e2:Expr}{apos:Pos}{p:Th}{tag:Nat}{way:BY}{ab:Option Nat}(hG:∀X h,c.G.P c.w X h->Lx c.w X h p)(nf:p.f≠TP)(hk:1<=c.k)(a:Ev c J o (.obj (.ref p.f)))(y1:Ev c J e1 (.str (sg tag)))(y2:Ev c J e2 (.dict (Ia way ab)))(he:autoParam (D8 c e1 [e2]) Bc)(Jn:autoParam (D8 c e2 []) Bc)(hb:autoParam (attributeBase o "makeelement" c.env (eval o c.env)=eval o c.env) Bc)(Dv:autoParam (((backTo pos (starEach [e1,e2] c.env)).all (λx=>!x.1)&&(backToKw pos (keywordEach [] c.env)).all (λx=>x.1.isSome)&&decide ([e1,e2].length+([]:List Keyword).length+(if(backToKw pos (keywordEach [] c.env)).isEmpty then 0 else 1)<30))=true) Bc)(hl:autoParam (J6 apos pos) Bc):FN c J (.Call (.Attribute o "makeelement" apos) [e1,e2] [] pos) (Zp tag way ab):=λs F Q E q=>by
 refine JU (ds:=[.str (sg tag),.dict (Ia way ab)]) a (.cons y1 (.cons y2 .nil Jn) he) F ZK (λh Fh=>?_) he hb Dv hl (λs2 g vs dd m F2 l2 e2 I hv rv=>?_) nf λX h dd m g I=>?_
 .refine Mo (FK (hG _ h Fh.g)) ?_;intro m fa fi ck ct tk av z;exact⟨_,m,268,z.fn,z.ms.mke,by decide,_,_,Fh.base.k 268 _ (GJ.here _),rfl⟩
 .refine Mo (FK (hG _ _ F2.g)) ?_;intro m' fa fi ck ct tk av z;refine CB (H8 I z.fn) ?_;intro V em;rw[em,z.ms.mke]at hv;cases hv;refine M0 (k:=0) (F2.ok.CC hk) F2.base F2.Cj rv λt h3 t3 a1 a2 a3 a4 a5 l3 nw tP=>?_;rw[e2];refine q _ h3 t3 (.obj (.ref t.f)) (Bl [t]) ⟨t,rfl,rfl,a1,a2,a3,a4,a5⟩ (Bt.trans l2 l3) (λb z=>?_) tP (.obj _);refine FO (nw b z) ?_;intro b1 b2 b3;exact⟨Bw l2 (Cp b2) b1,b2,b3⟩
 .refine Mo (FK (hG X h g)) ?_;intro m' fa fi ck ct tk av z;refine CB (H8 I z.fn) ?_;intro e V;cases e;exact z.nd
theorem Xm(way way':BY)(ab:Option Nat)(a:Nat):DB (DB [] (Ia way ab)) [(S "way",.str (tx way')),(S "above",.str (sg a))]=Ia way' (some a):=by
 have n1:¬S "way"=S "above":=by decide
 have n2:¬S "above"=S "way":=by decide
 cases ab<;>simp[Ia,DB,dput,n1,n2]
theorem QC{L:Cz}{t:Th}(g:((Bl L).star (Bl [t])).P w X h):(Bl (L++[t])).P w X h:=by
 refine FO g ?_;clear g;intro Cq Du ap;refine CB Cq ?_;intro a1 a2;refine CB Du ?_;intro b1 b2;refine⟨λx hx=>?_,?_⟩
 .rcases Ar.mp hx with hx|hx
  .exact a1 x hx
  .exact b1 x hx
 .rw [List.flatMap_append,List.nodup_append];refine⟨a2,b2,λa ha b hb e=>?_⟩;refine Bh (Am.mp ha) ?_;intro x hx z;refine Bh (Am.mp hb) ?_;intro y hy z';refine ap a ⟨x,hx,by simpa using z⟩ ⟨y,hy,?_⟩;rw[e];simpa using z'
theorem HX{L:Cz}{t:Th}{b:Addr}:(Bl (L++[t])).fp b↔((Bl L).star (Bl [t])).fp b:=by
 constructor
 .intro HU;refine Bh HU ?_;intro x hx z;rcases Ar.mp hx with hx|hx
  .exact .inl ⟨x,hx,z⟩
  .exact .inr ⟨x,hx,z⟩
 .rintro (⟨x,hx,z⟩|⟨x,hx,z⟩)
  .exact ⟨x,List.mem_append_left _ hx,z⟩
  .exact ⟨x,List.mem_append_right _ hx,z⟩
def XD(w:World)(X:CF)(L:Cz)(p:Th)(q:Nat)(way':BY)(a:Nat)(h0:Heap)(v:Value)(h:Heap):Prop:=
 ∃t:Th,v=.ref t.f/\t.tag=q/\t.way=way'/\t.above=some a/\t.kids=[]/\t.tl=none/\(∀b,(Bl [t]).fp b->h0.get? b=none/\306<=b/\∃o,h.get? b=some o)/\(Bl (CW L p.tag t.f++[t])).P w (DG X (Bl [t]).fp) h
theorem We(ok:E7 (k+3) A)(B:CV w s.heap)(xk:FT X s.heap){L:Cz}(g:(Bl L).P w X s.heap)(gx:∀b,(Bl L).fp b->X b)(nt:(L.map (·.tag)).Nodup){p:Th}(hp:p∈L)(X7:p.kids.length<=1000){q a:Nat}{way':BY}{v2 v3 v4 v5:Value}(r2:B8 X w s.heap v2 (.str (sg q)))(r3:B8 X w s.heap v3 (.dict (Ia p.way p.above)))(r4:B8 X w s.heap v4 (.str (tx way')))(r5:B8 X w s.heap v5 (.str (sg a))) :
  Run w A (Bl L).fp (call (.ref 202) [.ref p.f,v2,v3] [(S "way",v4),(S "above",v5)]) s (XD w X L p q way' a s.heap):=by
 refine MW ZI ok B xk (G:=Bl L) g gx (names:=[S "parent",S "tag",S "attrib",S "extra"]) (ds:=[.obj (.ref p.f),.str (sg q),.dict (Ia p.way p.above),.dict [(S "way",.str (tx way')),(S "above",.str (sg a))]]) (λQ E q=>?_) (.of (by decide +kernel)) λc h0 l0 FA=>?_
 .refine Wd B λh1 tk ad l1 n1 b1 d1=>q h1 tk [.ref p.f,v2,v3,.ref ad] l1 (.cons (.obj _) (.cons (r2.le l1) (.cons (r3.le l1) (.cons (.dict (λz=>?_) (Cp b1) ?_ d1 (.cons (r4.le l1) (.cons (r5.le l1) .nil))) .nil)))) rfl
  .obtain ⟨_,o,e⟩:=xk ad z;rw[n1]at e;cases e
  .rw [Av];intro z;rw[z]at b1;exact absurd b1 (by decide)
 .have E:=FA.env;have hint:interactive c.env=false:=E.quiet rfl;have Jo:1<=c.k:=by rw[FA.hk];exact A1 1 (k+1)
  have hG:∀X h,c.G.P c.w X h->Lx c.w X h p:=λX h z=>by rw[FA.hG]at z;exact z.1 p hp
  refine Mo (FK (g.1 p hp)) ?_;intro V V V V V V V zp;let es2:List (Str×D):=[(S "way",.str (tx way')),(S "above",.str (sg a))]
  refine Bd.step (J':=[(S "attrib",.dict (Ia way' (some a))),(S "parent",.obj (.ref p.f)),(S "tag",.str (sg q)),(S "extra",.dict es2)]) (Ex.sn (d:=.dict (Ia way' (some a))) (Ev.eq (Ev.bN (es1:=Ia p.way p.above) (es2:=es2) (λfp=>Ev.n) (λfp=>Ev.n) (by cases p.above<;>simp[Ia]) (by simp[es2])) (by rw[Xm]))) ?_;refine Bd.cons (Ex.KN (N:=λh=>∃(t:Th) (X':CF),t.tag=q/\t.way=way'/\t.above=some a/\t.kids=[]/\t.tl=none/\(∀b,c.X b->X' b)/\(∀b,(Bl [t]).fp b->Gg c b X')/\Fr (c.on X' (c.G.star (Bl [t]))) [(S "element",.obj (.ref t.f)),(S "attrib",.dict (Ia way' (some a))),(S "parent",.obj (.ref p.f)),(S "tag",.str (sg q)),(S "extra",.dict es2)] h)
   (FN.nZ (p:=p) (tag:=q) (way:=way') (ab:=some a) hG zp.nf.2 Jo Ev.n Ev.n Ev.n) (E.nm (.inl rfl)) (by rfl) λd T h X' zz hX nw F1=>?_) ?_
  .refine qv zz ?_;clear zz;intro t e1 e2 a1 a2 a3 a4 a5;subst e1 e2;exact⟨t,X',a1,a2,a3,a4,a5,hX,nw,F1⟩
  .intro h1 Jh;refine qw Jh ?_;intro t X1 a1 a2 a3 a4 a5 OC nw F1;refine⟨c.on X1 (c.G.star (Bl [t])),_,⟨rfl,rfl,rfl⟩,F1,?_⟩;have E1:Bi (c.on X1 (c.G.star (Bl [t]))) w (BX (BZ 14)) (k+2):=E.on;have u:Upd (c.on X1 (c.G.star (Bl [t]))).G (Bl L) (Bl (CW L p.tag t.f)) ((Bl (CW L p.tag t.f)).star (Bl [t])):=by
    show Upd (c.G.star _) _ _ _;rw[FA.hG];exact Upd.lf (Upd.self λb=>Ik L p.tag t.f b)
   refine Bd.EL (X':=X1) (G':=(Bl (CW L p.tag t.f)).star (Bl [t])) (Ex.CW E1.ro nt hp X7 u Ev.n Ev.n Jo hint) ?_;refine Bd.ret (λs' F' Q E' n r=>wpAny_Return_some ((Ev.n (d:=.obj (.ref t.f))) s' F' _ _ λv h3 t3 l3 r3=>r v h3 t3 ?_));cases r3;have F3:=F'.le l3;have e1:Bt c.M c.h0 h3:=F3.old;rw[FA.hM,FA.hh]at e1;have g3:((Bl (CW L p.tag t.f)).star (Bl [t])).P c.w X1 h3:=F3.g;rw[FA.hw]at g3;refine⟨e1,t,rfl,a1,a2,a3,a4,a5,λb z=>?_,Res.CC (QC g3) λb z=>z.elim (λz=>OC b (FA.hX b z)) λz=>(F3.gx b (.inr z)).1.1⟩;obtain⟨XJ,o,eo⟩:=F3.Cj b (F3.gx b (.inr z)).1.1;have no:c.h0.get? b=none:=(nw b z).old;rw[FA.hh]at no;exact⟨Bw l0 (Cp XJ) no,XJ,o,eo⟩
noncomputable def JY(L:Cz):Res where
 fp:=λV=>False
 P:=λw X h=>∀t∈L,Lx w X h t/\¬X t.dd/\¬X t.ka
 mv:=λ{w X X' h h'} x k t ht=>by
  refine FO (x t ht) ?_;intro Cq n1 n2;refine Mo Cq ?_;intro fa fi ck ct tk av m z;refine Bh z.fn.dd ?_;intro od ed V;refine B5 (id z.kids) ?_;intro nk ek;refine⟨⟨fa,fi,ck,ct,tk,av,m,z.mv λb o q n e=>k b o ?_ n e⟩,(k _ od (.inr (.inl n1)) z.nd ed).2 n1,(k _ _ (.inr (.inl n2)) z.nk ek).2 n2⟩;rcases q with q|q|q
  .rw [q];exact .inr (.inl n1)
  .rw [q];exact .inr (.inl n2)
  .exact .inr q
inductive DA(L:Cz):List Addr->List Nat->Prop
 |nil:DA L [] []
 |cons {a:Addr}{b:Nat}{as:List Addr}{bs:BY}:(∃t∈L,t.f=a/\t.tag=b)->DA L as bs->DA L (a::as) (b::bs)
theorem DA.zip{L:Cz}:∀ {as:List Addr}{bs:BY},DA L as bs->(as.zip bs).map (·.1)=as/\(as.zip bs).map (·.2)=bs/\∀p∈as.zip bs,∃t∈L,t.f=p.1/\t.tag=p.2:=by
 intro as bs k;induction k with
 |nil=>exact⟨rfl,rfl,λp hp=>by cases hp⟩
 |cons a b ih=>
  refine FO ih ?_;intro e1 e2 e3;exact⟨congrArg (_::·) e1,congrArg (_::·) e2,IY a e3⟩
noncomputable def deep(kd:Nat->List Nat):Nat->Nat->Bool
 |0,_=>false
 |n+1,a=>(kd a).all (deep kd n)
noncomputable def CP(kd:Nat->List Nat):Nat->Nat->List Nat
 |0,_=>[]
 |n+1,a=>a::(kd a).flatMap (CP kd n)
theorem aI{kd:Nat->List Nat}{n a:Nat}:deep kd (n+1) a=(kd a).all (deep kd n):=rfl
theorem SV{kd:Nat->List Nat}{n a:Nat}:CP kd (n+1) a=a::(kd a).flatMap (CP kd n):=rfl
noncomputable def Cv(l:BY):List D:=l.map λa=>D.str (sg a)
def XB(w:World)(L:Cz)(kd:Nat->List Nat)(n k:Nat):Prop:=∀t∈L,deep kd n t.tag=true->∀(A:Around) (X:CF) (s:Shared),E7 (n+k) A->CV w s.heap->FT X s.heap->(JY L).P w X s.heap->∀(fa fi ck ct:Addr) (tk:Tok) (av:Value) (m:Hv),Lw w X s.heap t fa fi ck ct tk av m->
  Run w A Hu (call (.ref fi) []) s λv h'=>B8 X w h' v (.list (Cv (CP kd n t.tag)))
theorem Ev.Om{apos:Pos}{L:Cz}{t:Th}{kd:Nat->List Nat}{n:Nat}(hG:∀X h,c.G.P c.w X h->(JY L).P c.w X h)(ht:t∈L)(nf:t.f≠TP)(hd:deep kd n t.tag=true)(IH:XB c.w L kd n k)(hk:n+k<=c.k)(a:Ev c J o (.obj (.ref t.f)))(hb:autoParam (attributeBase o "itertext" c.env (eval o c.env)=eval o c.env) Bc)(hl:autoParam (J6 apos pos) Bc):Ev c J (.Call (.Attribute o "itertext" apos) [] [] pos) (.list (Cv (CP kd n t.tag))):=λs F Q E q=>by
 refine KZ a F ZJ (λh Fh=>?_) hb (by rfl) hl λs1 g dd m F1 l1 e1 I hv=>?_
 .refine Mo (FK ((hG _ _ Fh.g) t ht).1) ?_;intro m fa fi ck ct tk av z;exact⟨_,m,fi,z.fn,z.ms.it⟩
 .refine Mo (FK ((hG _ _ F1.g) t ht).1) ?_;intro m' fa fi ck ct tk av z;refine CB (H8 I z.fn) ?_;intro V em;rw[em,z.ms.it]at hv;cases hv;refine YZ z.it.2.ex ?_;intro og pm cv pH eg V dg V;refine⟨og,_,dg,PyProof.Rows.evalArgs_none ⟨eg,?_⟩⟩;exact IH t ht hd c.A c.X s1 (F1.ok.CC hk) F1.base F1.Cj (hG _ _ F1.g) fa _ ck ct tk av m' z Q E λv h3 t3 l3 r3=>by
   rw[e1];exact q v h3 t3 (Bt.trans l1 l3) r3
theorem Pe(kd:BY)(f:Nat->List α)(as:List Addr)(e:(as.zip kd).map (·.2)=kd):((as.zip kd).flatMap λp=>f p.2)=kd.flatMap f:=by
 conv=>rhs;rw[<- e]
 rw[List.flatMap_map]
theorem YE{L:Cz}{kd:Nat->List Nat}(hL:∀t∈L,DA L t.kids (kd t.tag))(n k:Nat)(sz:∀t∈L,(CP kd (n+1) t.tag).length<=5000)(IH:XB w L kd n k):XB w L kd (n+1) k:=λt ht hd A X s ok B xk g fa fi ck ct tk av m z=>by
  have q7:E7 ((n+k)+1) A:=ok.CC (by omega);refine FO ((hL t ht).zip) ?_;intro z1 z2 z3;have vD:¬X t.ka:=(g t ht).2.2;have rk:B8 X w s.heap (.ref t.ka) (.list (oD t.kids)):=.list vD z.nk z.kids (Mr _);have ne:ct≠ck:=λe=>by
   refine Bh z.ck.2 ?_;intro o1 e1 d1;refine Bh z.ct.2 ?_;intro o2 e2 d2;rw[e,e1]at e2;cases e2;rw[d1]at d2;cases d2
  refine Run.any (Rl (k:=n+k) q7 z.it.2 B xk (G:=JY L) g (λb y=>y.elim) (names:=[]) (ds:=[]) (Jf:=[(S "tag",.str (sg t.tag)),(S "kids",.list (oD t.kids))]) .nil (λpm cv ct=>by rfl) rfl (by decide) (λy hy=>by cases hy) (λy hy=>by cases hy) rfl rfl rfl (λy hy=>?_) (λy a e=>?_) (λx y a e e'=>?_) (λy d my=>?_) (Post:=λv h'=>B8 X w h' v (.list (Cv (CP kd (n+1) t.tag)))) (λc FA s1 F=>?_)) λa y=>y
  .have YA:y∈[(S "kids",NameKind.free),(S "tag",NameKind.free)]:=hy;simp only[AJ,An,or_false]at YA;rcases YA with rfl|rfl<;>(intro e;cases e)
  .have:=lookup_mem e;simp only[AJ,An,or_false]at this;rcases this with this|this
   .cases this;exact⟨z.ct.1.2,⟨_,z.ct.2⟩,λy=>y⟩
   .cases this;exact⟨z.ck.1.2,⟨_,z.ck.2⟩,λy=>y⟩
  .have h1:=lookup_mem e;have h2:=lookup_mem e';simp only[AJ,An,or_false]at h1 h2;rcases h1 with h1|h1<;>rcases h2 with h2|h2<;>cases h1<;>cases h2
   .rfl
   .exact absurd rfl ne
   .exact absurd rfl ne
   .rfl
  .simp only[AJ,An,or_false]at my;rcases my with my|my
   .cases my;exact⟨⟨by decide,by decide⟩,rfl,ct,_,rfl,z.ct.2,.str _ _⟩
   .cases my;exact⟨⟨by decide,by decide⟩,rfl,ck,_,rfl,z.ck.2,rk⟩
  .have E:=FA.env;let R0:List (Str×D):=[(S "tag",.str (sg t.tag)),(S "kids",.list (oD t.kids))]
   have ev:Ev c R0 dM (.list (Cv (CP kd (n+1) t.tag))):=by
    refine Ev.eq (Ev.d8 (a:=[.str (sg t.tag)]) (b:=Cv ((kd t.tag).flatMap (CP kd n))) (Ev.ls (.cons Ev.n .nil)) (Ev.eq (Ev.OO (t.kids.zip (kd t.tag)) (λp=>.obj (.ref p.1)) (λp=>CP kd n p.2) (λV y=>.str (sg y)) (λV V=>true) (λV y=>.str (sg y)) (J0:=[]) E.co
     (Ba.eq (Ba.list Ev.n) ?_) (λp=>[(S "kid",.obj (.ref p.1))]) (λV V h=>by cases h) (λV V cc sc=>Bind.n) (λp hp cc sc=>Ba.list ?_) (λp y=>[(S "part",.str (sg y)),(S "kid",.obj (.ref p.1))]) (λV V V h=>.tail _ h) (λV V V V cc sc=>Bind.n) (λV V V V V V=>CL.nil) (λV V V V V cc sc=>Ev.n) ?_) ?_) ?_) ?_
    .unfold oD;rw[show(λp:Addr×Nat=>D.obj (.ref p.1))=(λa=>D.obj (.ref a))∘(·.1)from rfl,<- AB,z1]
    .refine EI (z3 p hp) ?_;intro t' ju e1 e2;have hk:n+k<=cc.k:=by rw[sc.k,FA.hk];exact Ad _
     have hG:∀X h,cc.G.P cc.w X h->(JY L).P cc.w X h:=λX h z=>by
      have z1:=sc.g X h z;rw[FA.hG]at z1;rw[sc.w];exact z1
     have Xx:deep kd n t'.tag=true:=by
      rw[e2];have Jm:(kd t.tag).all (deep kd n)=true:=hd;exact Ah.mp Jm _ (List.of_mem_zip hp).2
     refine Mo (FK (g t' ju).1) ?_;intro V V V V V V V z';have:=Ev.Om (c:=cc) (J:=[(S "kid",.obj (.ref p.1))]) (o:=.Name (S "kid") ⟨249,71,249,74⟩) (apos:=⟨249,71,249,83⟩) (pos:=⟨249,71,249,85⟩) hG ju z'.nf.2 Xx (by rw[sc.w,FA.hw];exact IH) hk (by rw[e1];exact Ev.n);rw[e2]at this;exact this
    .simp only[Bx];have e:=Pe (kd t.tag) (λa=>(CP kd n a).map λy=>D.str (sg y)) t.kids z2;rw[e];have:=sz t ht;have e2:((kd t.tag).flatMap λa=>(CP kd n a).map λy=>D.str (sg y))=((kd t.tag).flatMap (CP kd n)).map λy=>D.str (sg y):=by rw[BP]
     rw[e2,AA];have e3:(CP kd (n+1) t.tag).length=((kd t.tag).flatMap (CP kd n)).length+1:=rfl;omega
    .simp only[Bx];rw[Pe (kd t.tag) (λa=>(CP kd n a).map λy=>D.str (sg y)) t.kids z2];unfold Cv;rw[BP]
    .unfold Cv;rw[AA];have:=sz t ht;have e3:(CP kd (n+1) t.tag).length=((kd t.tag).flatMap (CP kd n)).length+1:=rfl;simp only[AZ,BS];omega
    .rfl
   exact Run.imp (ev s1 F) λv h' l r=>(by rw[FA.hw]at r;exact r.move (Cc FA.hX))
theorem bG{L:Cz}{kd:Nat->List Nat}(hL:∀t∈L,DA L t.kids (kd t.tag))(k:Nat):∀n,(∀m ≤n,∀t∈L,(CP kd m t.tag).length<=5000)->XB w L kd n k:=by
 intro l;induction l with
 |zero=>exact λV=>λt ht hd=>by cases hd
 |succ n ih=>exact λsz=>YE hL n k (sz (n+1) (Ad _)) (ih λm hm=>sz m (Nat.le_succ_of_le hm))
section
theorem uj:typeLookup (.type "list") "append"=pure (some (.builtin "list.append")):=by rw[Ap,builtinLookup_eq_fast];kernel_rfl
theorem qm:typeLookup (.type "method_descriptor") "__get__"=pure (some (.builtin "method_descriptor.__get__")):=by rw[Ap,builtinLookup_eq_fast];kernel_rfl
theorem uz:typeLookup (.type "method_descriptor") "__set__"=pure none:=by rw[Ap,builtinLookup_eq_fast];kernel_rfl
theorem uy:typeLookup (.type "method_descriptor") "__delete__"=pure none:=by rw[Ap,builtinLookup_eq_fast];kernel_rfl
theorem Qv:Slot "method_descriptor" "__get__" "method_descriptor.__get__":=
 .of (owner:="method_descriptor") (n:="__get__") qm (by decide +kernel) (by decide +kernel) (by decide +kernel) (by first|exact .inl (by decide +kernel)|exact .inr (by decide +kernel)) (by rw[isSubtype_type];kernel_rfl)
theorem OR:entryFor table "method_descriptor.__get__"=some Builtin.«method_descriptor.__get__»:=entryFor_of_tree (by kernel_rfl)
theorem Pr(a b c:Value):argsOk "method_descriptor.__get__" ⟨[a,b,c],[]⟩:=by unfold argsOk;kernel_rfl
noncomputable abbrev Io(l:Addr):Obj:={cls:=.type "builtin_function_or_method",data:=.fields #[.builtin "list.append",.ref l]}
theorem cB{l:Addr}{items:Array Value}{n:Nat}{P:PySem.Fin->Shared->Prop}(hx:s.heap.get? l=some {cls:=.type "list",data:=.seq items n})(hp:P (.done (.ret (.ref s.heap.objs.size))) {s with heap:=s.heap.push (Io l)}) :
  wpAny (model prog w) A (Builtin.«method_descriptor.__get__» ⟨[.builtin "list.append",.ref l,.type "list"],[]⟩) P E s:=by
 have hT:s.TypeIs (.ref l) "list":=⟨_,hx,rfl⟩
 have D7:isSubtype (.type "list") (.type "list")=pure true:=by rw[isSubtype_type];kernel_rfl
 unfold Builtin.«method_descriptor.__get__»;refine wpAny_bind (wpAny_of_eq (a:=(.builtin "list.append",some (.ref l),some (.type "list"))) (by first|rfl|kernel_rfl) ?_);dsimp only;rw[if_neg (show ¬Manifest.toldItsClass.contains "list.append"=true by decide +kernel)];refine wpAny_bind (wpAny_bind (wpAny_of_eq (a:=(Str.ofString "append",Value.type "list")) (by first|rfl|kernel_rfl) ?_));dsimp only;refine wpAny_bind (wpAny_isInstance hT D7 ?_);rw[if_neg (by decide)];exact wpAny_pure (wpAny_bind (wpAny_newObj_type (wpAny_pure hp)))
theorem Ue{g:Array GenState}{d:Drawn}{t:Nat}{os:OsState}{l:Addr}{items:Array Value}{n:Nat}{Q:ET}(hx:h.get? l=some {cls:=.type "list",data:=.seq items n})(hq:Q () ⟨h,g,d,t,os⟩) :
  wpAny (model prog w) A (checkBoundCall "list.append" ⟨[.ref l,v],[]⟩) Q E ⟨h,g,d,t,os⟩:=by
 have hT:(⟨h,g,d,t,os⟩:Shared).TypeIs (.ref l) "list":=⟨_,hx,rfl⟩
 have D7:isSubtype (.type "list") (.type "module")=pure false:=by rw[isSubtype_type];kernel_rfl
 unfold checkBoundCall;refine wpAny_bind (wpAny_isInstance hT D7 ?_);rw[if_neg (by decide +kernel)];refine wpAny_bind (wpAny_bind (wpAny_loadPart hx (wpAny_pure ?_)));dsimp only;simp -iota only[AR,if_false];refine wpAny_bind (wpAny_typeOf hT ?_);exact wpAny_of_eq (by kernel_rfl) hq
theorem Sd{b l:Addr}{items:Array Value}(hb:s.heap.get? b=some (Io l))(pl:s.heap.PlainList l items)(hz:items.size<=100000)(q:∀h',h'.PlainList l (items.push v)->Heap.SameBut l s.heap h'->Q .none {s with heap:=h'}):wpAny (model prog w) A (call (.ref b) [v]) Q E s:=by
 obtain⟨h,g,d,t,os⟩:=s;refine B5 (id pl) ?_;intro n hx;refine wpAny_call (codeAny_of_tree ?_);show wpAny _ A.in1 (callAny (.ref b) ⟨[v],[]⟩) _ _ _;simp -iota only[callAny];refine wpAny_bind (wpAny_load hb ?_);simp -iota only[Io,show(Value.type "builtin_function_or_method" == Value.type "method" || Value.type "builtin_function_or_method" == Value.type "builtin_function_or_method" || Value.type "builtin_function_or_method" == Value.type "method-wrapper")=true by decide,if_true];show wpAny _ _ (if(Value.type "builtin_function_or_method" != Value.type "method")=true then(do checkBoundCall "list.append" ⟨[.ref l,v],[]⟩;again (.builtin "list.append" ⟨[.ref l,v],[]⟩))else _) _ _ _;rw[if_pos (by decide)];refine wpAny_bind (Ue hx ?_);refine wpAny_bind (wpAny_pure (wpAny_pure ?_));refine⟨Code.quiet_builtin _ (by decide +kernel),codeAny_builtin entry_list_append ?_⟩;show wpAny _ _ (updateSeq l (·.push v) >>= λV=>ret .none) _ _ _;refine wpAny_bind (wpAny_updateSeq hx rfl (wpAny_pure ?_));refine q _ ⟨n+1,?_⟩ (Heap.SameBut.update ..);rw[BJ _ hx (by rw[Obj.mapSeq_push_plain];rfl),Obj.mapSeq_push_plain]
open Builtin Builtin.ObjectAttr
theorem Pu{g:Array GenState}{d:Drawn}{t:Nat}{os:OsState}{l:Addr}{items:Array Value}{n:Nat}{Q:Found->Shared->Prop}(hx:h.get? l=some {cls:=.type "list",data:=.seq items n})(hq:Q (.bind (.builtin "method_descriptor.__get__") (.builtin "list.append")) ⟨h,g,d,t,os⟩) :
  wpAny (model prog w) A (find (.ref l) (.type "list") (Str.ofString "append")) Q E ⟨h,g,d,t,os⟩:=by
 have e1:=PySem.F.type_list_append;unfold find;refine wpAny_bind (wpAny_of_eq uj ?_);refine wpAny_bind ?_;unfold getOf specialOf;refine wpAny_bind (wpAny_of_eq e1 (wpAny_of_eq qm ?_));refine wpAny_bind ?_;unfold dataDescriptor?;refine wpAny_bind ?_;unfold takesStores specialOf;refine wpAny_bind (wpAny_bind (wpAny_of_eq e1 (wpAny_of_eq uz ?_)));refine wpAny_bind (wpAny_bind (wpAny_of_eq e1 (wpAny_of_eq uy (wpAny_pure ?_))));refine wpAny_pure ?_;dsimp only;unfold ownThenClass;refine wpAny_bind ?_;unfold ObjectAttr.inOwnDict ObjectAttr.ownDict;refine wpAny_bind (wpAny_bind (wpAny_loadPart hx ?_));dsimp only;unfold instanceDict;refine wpAny_bind (wpAny_loadPart hx (wpAny_pure ?_));refine wpAny_pure ?_;dsimp only;refine wpAny_bind (wpAny_of_eq (a:=()) (by first|rfl|kernel_rfl) ?_);unfold byTheClass;exact wpAny_bind (wpAny_rule (wpAny_pure hq))
theorem Se{g:Array GenState}{d:Drawn}{t:Nat}{os:OsState}{l:Addr}{items:Array Value}{n:Nat}{tk:Tok}{Q:PySem.Fin->Shared->Prop}(hx:h.get? l=some {cls:=.type "list",data:=.seq items n})(hq:Q (.done (.ret (.ref h.objs.size))) ⟨h.push (Io l),g,d,t,os⟩) :
  wpAny (model prog w) A (Builtin.«object.__getattribute__» ⟨[.ref l,.str (Str.ofString "append") tk],[]⟩) Q E ⟨h,g,d,t,os⟩:=by
 have e1:=PySem.F.type_list_append;have hT:(⟨h,g,d,t,os⟩:Shared).TypeIs (.ref l) "list":=⟨_,hx,rfl⟩
 unfold Builtin.«object.__getattribute__»;refine wpAny_bind (wpAny_of_eq (a:=(Value.ref l,[Value.str (Str.ofString "append") tk])) (by rfl) ?_);dsimp only;refine wpAny_bind (wpAny_of_eq (a:=Str.ofString "append") (by rfl) ?_);refine wpAny_bind (wpAny_typeOf hT ?_);refine wpAny_bind (Pu hx ?_);show wpAny _ _ (bindTo (.builtin "method_descriptor.__get__") (.builtin "list.append") (.ref l) (.type "list")) _ _ _;unfold bindTo;show wpAny _ _ (holding [.builtin "list.append"] (call (.builtin "method_descriptor.__get__") [.builtin "list.append",.ref l,.type "list"]) >>= λv=>ret v) _ _ _;refine wpAny_bind (wpAny_holding (wpAny_call_entry Qv (by exact e1) OR (cB hx ⟨_,rfl,?_⟩) (Pr _ _ _)));exact wpAny_pure hq
theorem JF{l:Addr}{items:Array Value}{expr:Bool}(pl:s.heap.PlainList l items)(hq:Q (.ref s.heap.objs.size) {s with heap:=s.heap.push (Io l),toks:=s.toks+1}) :
  wpAny (model prog w) A (getAttr (.ref l) (Str.ofString "append") expr) Q E s:=by
 obtain⟨h,g,d,t,os⟩:=s;refine B5 (id pl) ?_;intro n hx;have hT:∀tk,(⟨h,g,d,tk,os⟩:Shared).TypeIs (.ref l) "list":=λV=>⟨_,hx,rfl⟩;have lk:=F.slot_list_getattribute.lookup;unfold getAttr getAttrBy;repeat(first|(with_reducible refine wpAny_loadPart_at hx ?_)|wp_step)
 rw[if_neg (show ¬(expr&&onTheHeap (Value.builtin "list.__getattribute__"))=true by rw[show onTheHeap (Value.builtin "list.__getattribute__")=false from rfl,Bool.and_false];exact Bool.false_ne_true)];unfold boundAndCalled;refine wpAny_bind (wpAny_of_eq (F.slot_list_getattribute.bind (.ref l)) ?_);refine wpAny_call_entry F.slot_list_getattribute (hT _) F.entry_list_ga (Se hx ⟨_,rfl,?_⟩) (F.args_list_getattribute_2 _ _);exact wpAny_pure hq
end
noncomputable def OK(b l:Addr):Res where
 fp:=λV=>False
 P:=λw X h=>¬X b/\b≠TP/\h.get? b=some (Io l)
 mv:=λzz k=>FO zz λn t e=>by refine CB (k _ _ (.inr (.inl n)) t e) ?_;intro e' n';exact⟨n' n,t,e'⟩
theorem L2{env:Env}{b l:Addr}(he:starEach [e] env=(false,eval e env)::starEach [] env)(h:wpAny (model prog w) A (eval e env) (λv s1=>s1.heap.get? b=some (Io l)/\wpAny (model prog w) A (call (.ref b) [v]) Q E s1) E s):wpAny (model prog w) A (callWith pos (.ref b) [] (backTo pos (starEach [e] env)) []) Q E s:=by
 have h2:wpAny (model prog w) A (evalArgs (.ref b) true (backTo pos (starEach [e] env)) []) (λx s1=>s1.heap.get? b=some (Io l)/\wpAny (model prog w) A (call (.ref b) ([]++x.pos) x.kw) Q E s1) E s:=by
  rw[he];refine PySem.Calls.evalArgs_plain ?_;exact PySem.Calls.spliced_cons (wpAny_mono h (λv s1 z=>PySem.Calls.spliced_nil z) λV V z=>z)
 have hp:(backTo pos (starEach [e] env)).any (·.1)=false:=by rw[he];rfl
 refine wpAny_bind (wpAny_holding (wpAny_mono h2 (λx s₁ h₁=>wpAny_bind (wpAny_standAt ?_)) λV V x=>x));refine CB h₁ ?_;clear h₁;intro ho fv;simp -iota only[hp,List.any_nil,Bool.or_false];refine wpAny_bind (m:=keeperOf (.ref b)) ?_;refine wpAny_bind (wpAny_load ho ?_);simp -iota only[Io,show(Value.type "builtin_function_or_method" != Value.type "method")=true by decide,show(Value.type "builtin_function_or_method" == Value.type "builtin_function_or_method" || Value.type "builtin_function_or_method" == Value.type "method-wrapper")=true by decide,if_true];refine wpAny_pure ?_;exact wpAny_bind (wpAny_mono fv (λr s₂ hr=>wpAny_bind (wpAny_holding (wpAny_point (wpAny_pure hr)))) λV V x=>x)
theorem Ex.write{np GD:Pos}{b l:Addr}{G':Res}(ro:¬c.ro)(hz:ds.length<=1000)(hb:∀X h,c.G.P c.w X h->(OK b l).P c.w X h)(u:Upd c.G (Bk l ds) (Bk l (ds++[d])) G')(f:Ev c J (.Name x np) (.obj (.ref b)))(y:Ev c J e d)(hint:interactive c.env=false)(he:autoParam (D8 c e []) Bc)(hs:autoParam (swapsWith (.Call (.Name x np) [e] [] pos) none GD.line c.env=pure false) Bc) :
  Ex c J (.Expr (.Call (.Name x np) [e] [] pos) GD) (Fr (c.on c.X G') J) R:=λs F Q E n r=>
 wpAny_Expr_any (wpAny_Call_NameR (f s F _ _ λv h1 t1 l1 r1=>by
  cases r1;have F1:Fr c J h1:=F.le l1;refine L2 (l:=l) he (y {s with heap:=h1,toks:=t1} F1 _ _ λv h2 t2 l2 r2=>?_);have E0:Le h1 h2:=l2;have F2:Fr c J h2:=F1.le E0;refine FO (hb _ _ F2.g) ?_;intro V V eb;refine⟨eb,?_⟩;refine EI (u.has _ _ _ F2.g) ?_;intro T8 Tb Yk nt;have Na:=Yk.length;refine Sd (s:={s with heap:=h2,toks:=t2}) eb Tb (by rw[AY];exact Jc Na hz rfl) λh3 p3 s3=>?_;refine B5 (id p3) ?_;intro n3 e3;have l3:Bt (·=l) h2 h3:=Co s3 _ e3 nt (by refine B5 Tb ?_;clear Tb;intro V e;exact Cd.at e (Cd.seq rfl));have lx:c.X l:=(F2.gx l (u.fp l rfl)).1.1;refine n h3 t2 (F2.upd ro u l3 ⟨T8++[v],?_,(Yk.append (.cons r2 .nil)).move (DQ l3 λb z=>z▸lx),nt⟩);exact⟨n3,by rw[e3];simp⟩)) hint hs
theorem Ev.tail{t:Th}(hG:∀X h,c.G.P c.w X h->Lx c.w X h t)(ht:t.tl=some d)(hd:d=.none\/∃y,d=.str y)(x:Ev c J o (.obj (.ref t.f)))(he:autoParam (eval (.Attribute o (Str.ofString "tail") pos) c.env=(do
   let o' <- eval o c.env;standAt pos.atName;let r <- holding [o'] (getAttr o' (Str.ofString "tail") true);letTemporaryGo o o' r;pure r)) Dy):Ev c J (.Attribute o (Str.ofString "tail") pos) d:=λs F Q E q=>
 BQ (x s F _ _ λv' h1 t1 l1 r1=>by
  cases r1;have F1:=F.le l1;refine Mo (FK (hG _ _ F1.g)) ?_;intro m fa fi ck ct tk av z;have tl:=z.ms.tl;rw[ht]at tl;obtain⟨fl,v,ev,rv⟩:=tl;have hh:handedOut v=pure v:=by
   have:=rv c.X c.w h1;rcases hd with rfl|⟨y,rfl⟩<;>(cases this;rfl)
  exact GK RS z.fn.kM ev hh (q _ h1 _ l1 (rv _ _ _))) he
theorem ZG:B9 209 (BZ 15) (S "_serialize_text") 208 .none Kk:=⟨λP=>rfl,λP=>⟨_,_,_,rfl,rfl,rfl⟩,rfl,rfl,rfl⟩
noncomputable def tailD(d:D):List D:=if d.Ll then[d]else[]
theorem mJ(w:World)(k n:Nat)(hn:n<=k)(L:Cz)(kd:Nat->List Nat)(hL:∀t∈L,DA L t.kids (kd t.tag))(sz:∀m ≤n,∀t∈L,(CP kd m t.tag).length<=500)(t:Th)(ht:t∈L)(hd:deep kd n t.tag=true)(nf:t.f≠TP)(gP:t.tl=some d)(Jm:d=.none\/∃y,d=.str y/\y.length<=1000)(bm la:Addr) :
  CS w 209 (k+1) (((JY L).star (OK bm la)).star (Bk la [])) [.obj (.ref bm),.obj (.ref t.f)] .none (((JY L).star (OK bm la)).star (Bk la (Cv (CP kd n t.tag)++tailD d))):=by
 refine KE ZG (names:=[S "write",S "elem"]) (es:=[.obj (.ref bm),.obj (.ref t.f)]) (λX A s vs B xk r Q E q=>?_) (.of (by decide +kernel)) λc X h0 F=>?_
 .refine Dt (Be.Bo r) ?_;rintro V V rfl a r;refine Dt (Be.Bo r) ?_;rintro V V rfl b r;cases r;exact wpAny_pure (q s.heap s.toks [_,_] (.refl _) (.cons a (.cons b .nil)) rfl)
 .have E:=F.env;have hint:interactive c.env=false:=E.quiet rfl;let S0:Res:=(JY L).star (OK bm la);let R0:List (Str×D):=[(S "write",.obj (.ref bm)),(S "elem",.obj (.ref t.f))]
  let ds:=Cv (CP kd n t.tag);have qa:ds.length<=500:=by show(List.map _ _).length<=_;rw[AA];exact sz n (Ad _) t ht
  refine Bd.cons (Ex.for (ds:=ds) E.ro (λi=>S0.star (Bk la (ds.take i))) (λV=>R0) F.hG rfl (Ba.list (Ev.Om (L:=L) (kd:=kd) (n:=n) (k:=0) (λX h z=>?_) ht nf hd (bG hL 0 n λm hm t ht=>AD (sz m hm t ht) (by decide)) (by rw[F.hk];exact(λ{i₁ i₂}=>String.Pos.Raw.mk_le_mk.mp) hn) Ev.n)) (λi d hd X1 T hX=>?_)) ?_
  .rw [F.hG]at z;exact z.1.1
  .have E1:Bi (c.on X1 ((S0.star (Bk la (ds.take i))).star T)) w (BX (BZ 15)) k:=E.on;refine⟨(S "part",d)::R0,Bind.n,?_⟩;have e1:ds.take (i+1)=ds.take i++[d]:=by rw[A3,hd];rfl
   refine Bd.EL (X':=X1) (G':=(S0.star (Bk la (ds.take (i+1)))).star T) (Ex.write (l:=la) (b:=bm) (ds:=ds.take i) E1.ro (by rw[Ae];exact uv qa rfl) (λX h z=>z.1.1.2.1) ?_ Ev.n Ev.n hint) ?_
   .rw [<- e1];exact Upd.lf (Upd.rt (Upd.self λb=>Iff.rfl))
   .exact Bd.nil (Bd.done λh2 Fh=>⟨X1,hX,Fh.sub λp hp=>.tail _ hp⟩)
  .intro h1 Cq;refine Bh Cq ?_;intro X1 OC F1;rw[BF]at F1;refine⟨c.on X1 (S0.star (Bk la ds)),_,⟨rfl,rfl,rfl⟩,F1,?_⟩;have E1:Bi (c.on X1 (S0.star (Bk la ds))) w (BX (BZ 15)) k:=E.on;have sm:d.small:=by
    rcases Jm with rfl|⟨y,rfl,hy⟩
    .trivial
    .show y.length<=1000000;exact lb hy rfl
   have fq:∀X h,(c.on X1 (S0.star (Bk la ds))).G.P (c.on X1 (S0.star (Bk la ds))).w X h->Lx (c.on X1 (S0.star (Bk la ds))).w X h t:=λX h z=>(z.1.1 t ht).1;have ah:d=.none\/∃y,d=.str y:=Jm.imp_right λzz=>by refine Bh zz ?_;clear zz;intro y e V;exact⟨y,e⟩
   refine Bd.if (CK.val (d:=d) (Ev.tail (t:=t) fq gP ah Ev.n) sm) (λhb=>?_) λhb=>?_
   .have e1:ds++tailD d=ds++[d]:=by unfold tailD;rw[if_pos hb]
    refine Bd.EL (X':=X1) (G':=S0.star (Bk la (ds++[d]))) (Ex.write (l:=la) (b:=bm) (ds:=ds) E1.ro (lb qa rfl) (λX h z=>z.1.2.1) (Upd.rt (Upd.self λb=>Iff.rfl)) Ev.n (Ev.tail (t:=t) fq gP ah Ev.n) hint) ?_;refine Bd.nil (Bd.nil (Bd.done λh2 F2=>⟨.none,F2.old,F2.base,?_⟩));have g2:(S0.star (Bk la (ds++[d]))).P c.w X1 h2:=F2.g;rw[<- e1]at g2;exact Res.CC g2 OC
   .have e1:ds++tailD d=ds:=by unfold tailD;rw[if_neg (by rw[hb];decide),List.append_nil]
    refine Bd.nil (Bd.nil (Bd.done λh2 F2=>⟨.none,F2.old,F2.base,?_⟩));have g2:(S0.star (Bk la ds)).P c.w X1 h2:=F2.g;rw[<- e1]at g2;exact Res.CC g2 OC
noncomputable abbrev Cx.re(c:Cx)(h0:Heap):Cx:={c with h0:=h0}
theorem Ex.fJ{target iter:Expr}{body:Dx}(ro:¬c.ro)(Inv:Nat->Heap->Res->List (Str×D)->Prop)(i0:Inv 0 c.h0 c.G J)(old:∀ {i h0 G J},Inv i h0 G J->∀b,c.h0.get? b=none->h0.get? b=none)(Fj:Ba c J target iter ds)(hb:∀i d,ds[i]? = some d->∀h0 G J,Inv i h0 G J->∀(X:CF) (T:Res),(∀b,c.X b->X b)->∃Jx,Bind ((c.re h0).on X (G.star T)) J target d Jx/\
   Bd ((c.re h0).on X (G.star T)) Jx [body] (λh=>∃D6 G' J' X',Inv (i+1) D6 G' J'/\(∀b,c.X b->X' b)/\Fr ((c.re D6).on X' (G'.star T)) J' h) R)(hs:autoParam (∀x,foldedSetIterable iter c.env x=pure x) Gn) :
  Ex c J (.For target iter body [] pos) (λh=>∃D6 G' J' X',Inv ds.length D6 G' J'/\(∀b,c.X b->X' b)/\Fr ((c.re D6).on X' G') J' h) R:=λs F Q E n r=>by
 refine wpAny_For (Fj s F _ _ λit fp h1 t1 l1 n1 c6 ij=>?_) hs;have new:∀b,fp b->MK c b:=λb z=>F.new (n1 b z).1 (n1 b z).2.1;have F1:Fr (c.on (DG c.X fp) (c.G.star (Gh c.A target it fp ds))) J h1:=(F.plus l1 n1).star (T:=Gh c.A target it fp ds) c6 λb z=>(new b z).off z;refine codeAny_loop' rfl (λm s'=>∃i X h tk h0 G J,m+i=ds.length/\Inv i h0 G J/\s'={s with heap:=h,toks:=tk}/\(∀b,c.X b->X b)/\Fr ((c.re h0).on X (G.star (Gh c.A target it fp (ds.drop i)))) J h) (λm s' hI=>?_) ds.length
  ⟨0,DG c.X fp,h1,t1,c.h0,c.G,J,rfl,i0,rfl,λb z=>Or.inl z,by rw[List.drop_zero];exact F1⟩
 refine vK hI ?_;clear hI;rintro i X h2 t2 h0 G J2 hm hΦ rfl hX F2;refine wpAny_noted ?_;have kr:Kp fp X X h2 h2:=λb o q nt e=>⟨e,id⟩;have fx:∀b,fp b->X b:=λb z=>(F2.gx b (.inr z)).1.1;have NJ:Draws c.w c.A target it fp (ds.drop i) X h2:=F2.g.2.1;cases hd:ds.drop i with
 |nil=>
  rw[hd]at NJ;refine JZ (s:={s with heap:=h2,toks:=t2}) (NJ X {s with heap:=h2,toks:=t2} kr fx) λh3 t3 k3=>?_;have hi:i=ds.length:=Nat.le_antisymm (by omega) (BO.mp hd);subst hi;exact wpAny_pure (.inr ⟨rfl,codeAny_block (wpAny_execs_nil (n h3 t3 ⟨h0,G,J2,_,hΦ,λb z=>⟨hX b z,λy=>(new b y).1 z⟩,F2.Ln (c:=c.re h0) (λb z=>old hΦ b (new b z).2.2.1) k3⟩))⟩)
 |cons d IZ=>
  rw[hd]at NJ;have EW:ds[i]? = some d:=by rw[<- List.head?_drop,hd];rfl
  have ai:ds.drop (i+1)=IZ:=by rw[<- List.drop_drop,hd];rfl
  have Dw:=(AP.mp EW).1;refine H9 (s:={s with heap:=h2,toks:=t2}) (P:=λv h3=>Bt fp h2 h3/\B8 X c.w h3 v d/\Draws c.w c.A target it fp IZ X h3)
   (λQ' E' q'=>NJ X {s with heap:=h2,toks:=t2} kr fx F2.Cj F2.base.tab Q' E' λv h3 t3 l3 r3 Up=>q' v h3 t3 ⟨l3,r3,Up⟩) λv h3 t3 zz=>?_
  refine FO zz ?_;clear zz;intro l3 r3 Up;have F3:Fr ((c.re h0).on X (G.star (Gh c.A target it fp IZ))) J2 h3:=F2.turn (c:=c.re h0) ro l3 rfl Up;refine Bh (hb i d EW h0 G J2 hΦ X (Gh c.A target it fp IZ) hX) ?_;intro Jx b x;refine b v {s with heap:=h3,toks:=t3} F3 r3 _ _ λV h4 t4 l4 F4=>?_;refine wpAny_mono (x {s with heap:=h4,toks:=t4} F4 (λf s'=>match f with
    |.next|.cont=>∃m',m'<m/\∃i X h tk h0 G J,m'+i=ds.length/\Inv i h0 G J/\s'={s with heap:=h,toks:=tk}/\(∀b,c.X b->X b)/\Fr ((c.re h0).on X (G.star (Gh c.A target it fp (ds.drop i)))) J h
    |.brk=>Q .next s'
    |.ret v=>Q (.ret v) s') _ (λh5 t5 zz=>by refine iO zz ?_;clear zz;intro D6 G' J' X' nP Sx F5;exact⟨m-1,by omega,i+1,X',h5,t5,D6,G',J',by omega,nP,rfl,Sx,ai▸F5⟩) λv h5 t5 r5=>r v h5 t5 r5) (λf s' z=>?_) λV V z=>z
  cases f with
  |next=>exact wpAny_pure (.inl ⟨rfl,z⟩)
  |cont=>exact wpAny_pure (.inl ⟨rfl,z⟩)
  |brk=>exact z
  |ret v=>exact z
theorem Ex.fK{target iter:Expr}{body:Dx}(ro:¬c.ro)(Inv:Nat->Res->List (Str×D)->Prop)(i0:Inv 0 c.G J)(Fj:Ba c J target iter ds)(hb:∀i d,ds[i]? = some d->∀G J,Inv i G J->∀(X:CF) (T:Res),(∀b,c.X b->X b)->∃Jx,Bind (c.on X (G.star T)) J target d Jx/\
   Bd (c.on X (G.star T)) Jx [body] (λh=>∃G' J' X',Inv (i+1) G' J'/\(∀b,c.X b->X' b)/\Fr (c.on X' (G'.star T)) J' h) R)(hs:autoParam (∀x,foldedSetIterable iter c.env x=pure x) Gn) :
  Ex c J (.For target iter body [] pos) (λh=>∃G' J' X',Inv ds.length G' J'/\(∀b,c.X b->X' b)/\Fr (c.on X' G') J' h) R:=
 (Ex.fJ ro (λi h0 G J=>h0=c.h0/\Inv i G J) ⟨rfl,i0⟩ (λz b e=>z.1▸e) Fj (λi d e h0 G J zz X T hX=>CB zz λe0 z=>by
  subst e0;refine Bh (hb i d e G J z X T hX) ?_;intro Jx b x;exact⟨Jx,b,x.imp (λh zz=>by refine bg zz ?_;clear zz;intro G' J' X' a;exact⟨c.h0,G',J',X',⟨rfl,a.1⟩,a.2⟩) λV V z=>z⟩) hs).imp (λh zz=>by refine j9 zz ?_;clear zz;intro h0 G' J' X' Cq b;refine CB Cq ?_;intro e a;subst e;exact⟨G',J',X',a,b⟩) λV V z=>z
theorem Fr.less{G G':Res}(F:Fr (c.on X G) J h)(a:∀w X h,G.P w X h->G'.P w X h)(b:∀b,G'.fp b->G.fp b):Fr (c.on X G') J h:=
 {base:=F.base,Cj:=F.Cj,kind:=F.kind,glob:=F.glob,blt:=F.blt,ok:=F.ok,old:=F.old,loc:=F.loc,Ez:=F.Ez,apart:=F.apart,names:=F.names,g:=a _ _ _ F.g,gx:=λx z=>F.gx x (b x z)}
theorem Ba.keys{n:Str}{np:Pos}(x:Ev c J e (.dict es)):Ba c J (.Name n np) e (es.map λp=>.str p.1):=λs F Q E q=>
 x s F _ _ λv h1 t1 l1 r1=>by
  refine V6 (B8.Iq r1) ?_;rintro a kvs rfl nx nt ns p r;have F1:=F.le l1;refine B5 p.dictAt ?_;intro ep jW;refine wpAny_pyIter_dict ns jW ?_;have lp:Le h1 (h1.push {cls:=.type "dict_keyiterator",data:=.fields #[.ref a,.int 0 0,.int (kvs.length:Int) 0,.int (ep:Int) 0]}):=Le.push _ _;have KH:=B4 F1.base.tab;have Hj:a≠h1.objs.size:=λz=>by refine Fp jW ?_;clear jW;intro o V e V;exact Aa _ (z▸Ag e)
  have hW:=Walks.dictKeys (prog:=prog) (w:=c.w) (knd:=KS c.w) F.ok.handled h1.objs.size a Hj kvs ep;have hI:(h1.push {cls:=.type "dict_keyiterator",data:=.fields #[.ref a,.int 0 0,.int (kvs.length:Int) 0,.int (ep:Int) 0]}).IsKeyIter h1.objs.size a 0 kvs.length ep:=⟨_,AH _ rfl,rfl,rfl⟩
  have hA:(h1.push {cls:=.type "dict_keyiterator",data:=.fields #[.ref a,.int 0 0,.int (kvs.length:Int) 0,.int (ep:Int) 0]}).DictAt (KS c.w) a kvs ep:=jW.at' λo e=>lp.keep _ o nt id e;have ek:=Cb.keys r;have el:=Cb.length r;refine Fp (id hA) ?_;intro oa V ea V;refine q (.ref h1.objs.size) (·∈[h1.objs.size]) _ t1 (l1.trans lp) ?_ ?_ ?_
  .intro b hb;rw[AG.mp hb];exact LM F1.base l1 (AH _ rfl)
  .refine Kf hW (λi h st b hb=>?_) (λi v s' Q E st h=>wpAny_of_eq (t:=pure ()) rfl h) _ (by rw[AA,el]) (λV V=>True) (λV V V V V V=>trivial) (λX h j v d V pv hd=>?_) (by simp[Ne.symm KH]) _ 0 _ _ (Al _) rfl ⟨hI,hA⟩ trivial ?_
   .rw [AG.mp hb];refine CB st ?_;clear st;intro Du V;refine EI Du ?_;intro o e V ed;exact⟨o,e,Cd.fd ed (by intro t h;simp at h)⟩
   .refine Fp pv ?_;clear pv;intro k x e1 e2;refine B5 (Value.isStrOf_shape (by exact e2)) ?_;rintro t rfl;have:d=.str k:=by
     rw[AL,AS]at hd;refine Bh hd ?_;clear hd;rintro p2 e3 rfl;have e4:(kvs.map (·.1))[j]? = (es.map (·.1))[j]?:=by rw[ek]
     rw[AL,AL,e1,e3]at e4;simp at e4;rw[e4]
    rw[this];exact .str _ _
   .intro b hb;rcases AJ.mp hb with rfl|hb
    .exact ⟨.inl (AG.mpr rfl),KH,_,AH _ rfl⟩
    .rw [AG.mp hb];exact⟨.inr λz=>z.elim nx λz=>Hj (AG.mp z),nt,_,ea⟩
  .exact λs' l Q E h=>wpAny_pyIter_keyiter (hI.at λo e=>l.keep _ o KH id e) h
theorem Ev.eY{ke ve:Expr}{k:Str}(x:Ev c J ke (.str k))(y:Ev c J ve d)(fl:d.flat=true):Ev c J (.Dict [some ke] [ve] pos) (.dict [(k,d)]):=λs F Q E q=>by
 refine wpAny_Dict_walk (knd:=KS c.w) rfl rfl (by simp) (AE rfl) ?_;have l1:Le s.heap (s.heap.push {cls:=.type "dict",data:=.dict #[]}):=Le.push _ _;have e1:(s.heap.push {cls:=.type "dict",data:=.dict #[]}).get? s.heap.objs.size=some {cls:=.type "dict",data:=.dict #[]}:=AH _ rfl;have n1:=Bm s.heap;have b1:=B6 F.base;have d1:(s.heap.push {cls:=.type "dict",data:=.dict #[]}).DictOf (KS c.w) s.heap.objs.size []:=C3 e1;generalize hd:s.heap.objs.size=a at *;generalize uD:s.heap.push {cls:=.type "dict",data:=.dict #[]}=h1 at *;have F1:Fr c J h1:=F.le l1;refine pairTrees_cons_walk (x {s with heap:=h1,toks:=s.toks} F1 _ _ λkv h2 t2 l2 r2=>y {s with heap:=h2,toks:=t2} (F1.le l2) _ _ λvv h3 t3 l3 r3=>pairTrees_nil_walk ?_);cases r2;have bJ:Le h1 h3:=Bt.trans l2 l3;have KI:a≠TP:=Cp b1;refine⟨[(k,vv)],⟨DK _ _ _,rfl,trivial⟩,C1 d1 λo e=>bJ.keep _ o KI id e,λh4 d4 s4=>?_⟩;have ns:(a==sysModules)=false:=by
  rw[Av];intro z;rw[z]at b1;exact absurd b1 (by decide)
 have l4:Bt (·=a) h3 h4:=by
  refine Js (id d4) ?_;intro o4 V V e4 V;exact Co s4 _ e4 KI (Cd.at (bJ.keep _ _ KI id e1) (Cd.dict rfl))
 refine q _ h4 _ ((Bt.trans (Le.to (Bt.trans l1 bJ)) l4).fresh λb z=>.inr (by rw[z];exact n1)) (.dict (λz=>?_) KI ns d4 (.cons (r3.flat fl) .nil));obtain⟨_,o,e⟩:=F.Cj a z;rw[n1]at e;cases e
theorem FN.i8{np:Pos}{e1 e2:Expr}{tag:Nat}{way:BY}{ab:Option Nat}(f:Ev c J (.Name x np) (.obj (.ref 268)))(y1:Ev c J e1 (.str (sg tag)))(y2:Ev c J e2 (.dict (Ia way ab)))(hk:1<=c.k)(he:autoParam (D8 c e1 [e2]) Bc)(Jn:autoParam (D8 c e2 []) Bc):FN c J (.Call (.Name x np) [e1,e2] [] pos) (Zp tag way ab):=λs F Q E q=>
 wpAny_Call_NameR (f s F _ _ λv h1 t1 l1 r1=>by
  cases r1;have Eb:Le s.heap h1:=l1;refine BG (o:=Et (BZ 25) (S "_law_thing") .none CX (.ref 267)) (fd:=EV (BZ 25) (S "_law_thing") .none CX (.ref 267)) rfl ((FP.cons y1 (FP.cons y2 .nil Jn) he:FP c J _ [.str (sg tag),.dict (Ia way ab)]) pos {s with heap:=h1,toks:=t1} (F.le Eb) _ _ λvs h2 t2 l2 r2=>?_) he;have E0:Le h1 h2:=l2;have F2:=(F.le Eb).le E0;have Gj:Le s.heap h2:=Bt.trans Eb E0;refine⟨F2.base.k _ _ (GJ.here _),M0 (k:=0) (s:={s with heap:=h2,toks:=t2}) (F2.ok.CC hk) F2.base F2.Cj r2 λt h3 t3 a1 a2 a3 a4 a5 l3 nw tP=>?_⟩;refine q _ h3 t3 (.obj (.ref t.f)) (Bl [t]) ⟨t,rfl,rfl,a1,a2,a3,a4,a5⟩ (Bt.trans Gj l3) (λb z=>?_) tP (.obj _);refine FO (nw b z) ?_;intro b1 b2 b3;exact⟨Bw Gj (Cp b2) b1,b2,b3⟩)
def d3(tag:Nat)(way:BY)(ab:Option Nat)(d:D)(T:Res):Prop:=∃(a:Addr) (t:Th),d=.obj (.ref a)/\T=(Bv a [(sg tag,.obj (.ref t.f))]).star (Bl [t])/\t.tag=tag/\t.way=way/\t.above=ab/\t.kids=[]/\t.tl=none
theorem FN.tab{ke ve:Expr}{tag:Nat}{way:BY}{ab:Option Nat}(x:Ev c J ke (.str (sg tag)))(y:∀fp,FN (c.plus fp) J ve (Zp tag way ab)):FN c J (.Dict [some ke] [ve] pos) (d3 tag way ab):=λs F Q E q=>by
 refine wpAny_Dict_walk (knd:=KS c.w) rfl rfl (by simp) (AE rfl) ?_;have l1:Le s.heap (s.heap.push {cls:=.type "dict",data:=.dict #[]}):=Le.push _ _;have e1:(s.heap.push {cls:=.type "dict",data:=.dict #[]}).get? s.heap.objs.size=some {cls:=.type "dict",data:=.dict #[]}:=AH _ rfl;have n1:=Bm s.heap;have b1:=B6 F.base;have d1:(s.heap.push {cls:=.type "dict",data:=.dict #[]}).DictOf (KS c.w) s.heap.objs.size []:=C3 e1;generalize hd:s.heap.objs.size=a at *;have F1:Fr (c.plus (·=a)) J (s.heap.push {cls:=.type "dict",data:=.dict #[]}):=F.plus l1 λb z=>by have z':b=a:=z;rw[z'];exact⟨n1,b1,_,e1⟩
 generalize uD:s.heap.push {cls:=.type "dict",data:=.dict #[]}=h1 at *;refine pairTrees_cons_walk (x {s with heap:=h1,toks:=s.toks} (F.le l1) _ _ λkv h2 t2 l2 r2=>y (·=a) {s with heap:=h2,toks:=t2} (F1.le l2) _ _ λvv h3 t3 d T zz l3 nw tP r3=>qv zz λt ed eT a1 a2 a3 a4 a5=>pairTrees_nil_walk ?_);subst ed eT;cases r2;cases r3;have E0:Le h1 h2:=l2;have L8:Le h2 h3:=l3;have bJ:Le h1 h3:=Bt.trans E0 L8;have KI:a≠TP:=Cp b1;refine⟨[(sg tag,.ref t.f)],⟨DK _ _ _,rfl,trivial⟩,C1 d1 λo e=>bJ.keep _ o KI id e,λh4 d4 s4=>?_⟩;have ns:(a==sysModules)=false:=by
  rw[Av];intro z;rw[z]at b1;exact absurd b1 (by decide)
 have l4:Bt (·=a) h3 h4:=by
  refine Js (id d4) ?_;intro o4 V V e4 V;exact Co s4 _ e4 KI (Cd.at (bJ.keep _ _ KI id e1) (Cd.dict rfl))
 refine Js (id d4) ?_;intro wt V V sZ V;have qp:∃o,h2.get? a=some o:=⟨_,E0.keep _ _ KI id e1⟩
 have fa:∀b,(Bl [t]).fp b->b≠a:=λb z e=>by
  refine B5 qp ?_;clear qp;intro o eo;rw[e]at z;have:=(nw a z).1;rw[eo]at this;cases this
 have oo:∀b,DG c.X ((Bv a [(sg tag,D.obj (.ref t.f))]).star (Bl [t])).fp b->DG (c.plus (·=a)).X (Bl [t]).fp b:=λb z=>z.elim (λz=>.inl (.inl z)) λz=>z.elim (λz=>.inl (.inr z)) λz=>.inr z;refine q _ h4 _ (.obj (.ref a)) ((Bv a [(sg tag,.obj (.ref t.f))]).star (Bl [t])) ⟨a,t,rfl,rfl,a1,a2,a3,a4,a5⟩ ((Bt.trans (Le.to (Bt.trans l1 bJ)) l4).fresh λb z=>.inr (by rw[z];exact n1)) (λb z=>?_) ⟨⟨_,d4,.cons (.obj _) .nil,KI,ns⟩,?_,λb z z'=>fa b z' z⟩ (.obj _)
 .rcases z with z|z
  .have z':b=a:=z;rw[z'];exact⟨n1,b1,_,sZ⟩
  .obtain ⟨b2,b3,o,b4⟩:=nw b z;have Gj:Le s.heap h2:=Bt.trans l1 E0;exact⟨Bw Gj (Cp b3) b2,b3,l4.alive (Cp b3) b4⟩
 .refine Res.CC ((Bl [t]).mv tP λb o z n e=>⟨l4.at n e λy=>?_,id⟩) oo;have y':b=a:=y;rcases z with z|z|z
  .exact absurd y' (fa b z)
  .exact absurd (.inl (.inr y')) z
  .exact z
theorem Ex.Yp{ap:Pos}{t:Th}{G':Res}(ro:¬c.ro)(gP:t.tl=none)(fl:d.flat=true)(hd:∀X w h v,B8 X w h v d->∀X' w' h',B8 X' w' h' v d)(u:Upd c.G (Bl [t]) (Bl [{t with tl:=some d}]) G')(a:Ev c J o (.obj (.ref t.f)))(y:Ev c J e d)(hs:autoParam (swapsWith e (some (.Attribute o (Str.ofString "tail") ap)) pos.line c.env=pure false) Bc):Ex c J (.Assign [.Attribute o (Str.ofString "tail") ap] e pos) (Fr (c.on c.X G') J) R:=λs F Q E n r=>
 plainObj_wpAny_Assign_Attribute (y s F _ _ λv h1 t1 l1 r1=>by
  have F1:Fr c J h1:=F.le l1;have g1:=u.has _ _ _ F1.g;obtain⟨⟨fa,fi,ck,ct,tk,av,m,z⟩,nd⟩:Lx c.w c.X h1 t/\_:=⟨g1.1 t (.head _),g1.2⟩
  refine a {s with heap:=h1,toks:=t1} F1 _ _ λov h2 t2 l2 r2=>?_;cases r2;have E0:Le h1 h2:=l2;have F2:=F1.le E0;have g2:=u.has _ _ _ F2.g;obtain⟨⟨fa,fi,ck,ct,tk,av,m,z⟩,Zc⟩:Lx c.w c.X h2 t/\_:=⟨g2.1 t (.head _),g2.2⟩
  refine Kr (g:=s.gens) (d:=s.drawn) (t:=t2) (os:=s.os) RS z.fn z.ms.wi (by decide) λh3 t3 d' I e k=>?_;have ed:t.dd=d':=by rcases e with e|⟨e,_⟩<;>cases e<;>rfl
  subst ed;refine Bh I.dd ?_;intro o3 e3 n3;refine Bh z.fn.dd ?_;intro o2 e2 n2;have l3:Bt (·=t.dd) h2 h3:=Bt.of (λb o nb e=>k b o (.inr (by simp)) nb e) (λb o w V=>⟨o3,by rw[show b=t.dd from w];exact e3⟩) (λq=>z.nd q.symm) λb o w e=>by
   have w':b=t.dd:=w;rw[w',e2]at e;cases e;exact n2
  have sQ:c.X t.dd:=(F2.gx t.dd (u.fp _ ⟨t,.head _,.inl rfl⟩)).1.1;have dk:t.dd≠t.ka:=by have:=Zc;simpa using this
  have kk:∀b o,(b=t.ka\/¬c.X b\/Cd o)->b≠TP->h2.get? b=some o->h3.get? b=some o:=λb o q n e=>l3.at n e λy=>by
   have y':b=t.dd:=y;rcases q with q|q|q
   .exact absurd (y'.symm.trans q) dk
   .exact absurd (y'▸sQ) q
   .exact q
  have kx:∀ {a:Addr}{o:Obj},¬c.X a->a≠TP->h2.get? a=some o->h3.get? a=some o:=λ{a o} n t e=>kk a o (.inr (.inl n)) t e;have kc:∀b o,b≠TP->h2.get? b=some o->Cd o->h3.get? b=some o:=λb o n e z=>kk b o (.inr (.inr z)) n e;have r3:∀X w h,B8 X w h v d:=λX w h=>hd _ _ _ _ r1 X w h;have ne:∀x,x∈[S "attrib",S "makeelement",S "append",S "itertext"]->¬x=Str.ofString "tail":=by decide
  have ms:ki (λy=>if y=Str.ofString "tail" then some v else m y) av fa fi (some d):=by
   refine⟨?_,?_,?_,?_,λy hy=>?_,fl,v,by simp,r3⟩
   .rw [if_neg (ne _ (by simp))];exact z.ms.at_
   .rw [if_neg (ne _ (by simp))];exact z.ms.mke
   .rw [if_neg (ne _ (by simp))];exact z.ms.ap
   .rw [if_neg (ne _ (by simp))];exact z.ms.it
   .by_cases q:y=Str.ofString "tail"
    .rw [q];exact .head _
    .simp only[if_neg q]at hy;exact z.ms.wi y hy
  refine n h3 t3 (F2.upd ro u (l3.any λb y=>⟨t,.head _,.inl y⟩) ⟨λt' ju=>?_,Zc⟩);rw[AG.mp ju];have lm:∀ {f params body scope cl},(¬c.X f/\f≠TP)/\Dr h2 f params body scope cl->(¬c.X f/\f≠TP)/\Dr h3 f params body scope cl:=λ{f params body scope cl} zz=>CB zz λiY L=>CB iY λn1 n2=>⟨⟨n1,n2⟩,L.at (λo e=>kx n1 n2 e) kc⟩;have ce:∀ {a v},(¬c.X a/\a≠TP)/\h2.IsCell a v->(¬c.X a/\a≠TP)/\h3.IsCell a v:=λ{a v} zz=>CB zz λiZ i=>CB iZ λn1 n2=>⟨⟨n1,n2⟩,B0 i λo e=>kx n1 n2 e⟩;exact⟨fa,fi,ck,ct,tk,av,_,z.nf,z.nd,z.nk,I,ms,z.av.move λb o n t e=>⟨kx n t e,n⟩,z.kids.at λo e=>kk _ o (.inl rfl) z.nk e,lm z.ap,lm z.it,ce z.ck,ce z.ct⟩) hs
theorem UU{name:Str}{apos:Pos}{es:Cw}{x f:Addr}{T T' G2:Res}(ro:¬c.ro)(u:Upd c.G T T' G2)(a:Ev c J o (.obj (.ref x)))(y:FP c J (e::es) ds)(g:CS c.w f k T (.obj (.ref x)::ds) d T')(hk:k<=c.k)(hI:DH c x)(hf:∀P,findIn (Kx P) (.ref 189) name=some (some (.ref f)))(hd:∃st qual code dflt mod,B9 f st qual code dflt mod)(F:Fr c J s.heap)(q:∀v h' tk,Bt T.fp s.heap h'->Fr (c.on c.X G2) J h'->B8 c.X c.w h' v d->Q v {s with heap:=h',toks:=tk})(hn:autoParam (name≠JH) Fi)(he:autoParam (D8 c e es) Bc)(hb:autoParam (jR c o name) Bc)(Dv:autoParam (((backTo pos (starEach (e::es) c.env)).all (λx=>!x.1)&&(backToKw pos (keywordEach [] c.env)).all (λx=>x.1.isSome)
   && decide ((e::es).length+([]:List Keyword).length+(if(backToKw pos (keywordEach [] c.env)).isEmpty then 0 else 1)<30))=true) Bc)(hl:autoParam (J6 apos pos) Bc) :
  wpAny (model prog c.w) c.A (eval (.Call (.Attribute o name apos) (e::es) [] pos) c.env) Q E s:=by
 refine Ey a F hI hn hf hd hb Dv hl λs1 F1 l1 e1=>?_;rw[he];refine PySem.Calls.evalArgs_plain ?_;have z:=y pos s1 F1 (λvs s2=>CV c.w s2.heap/\wpAny (model prog c.w) c.A (call (.ref f) (.ref x::vs) []) Q E s2) E (λvs h2 t2 l2 r2=>?_)
 .rw [he]at z;exact z
 have F2:Fr c J h2:=F1.le l2;refine⟨F2.base,?_⟩;have gx:∀b,T.fp b->c.X b:=λb z=>(F2.gx b (u.fp b z)).1.1;exact g c.A c.X {s1 with heap:=h2,toks:=t2} (.ref x::vs) (F2.ok.CC hk) F2.base F2.Cj (.cons (.obj _) r2) (u.has _ _ _ F2.g) gx Q E λv h3 t3 l3 r3=>by
  rw[e1];exact q v h3 t3 (Bt.trans (Le.to (Bt.trans l1 l2)) l3) (F2.upd ro u l3 r3.2) r3.1
theorem Ex.Ii{e1 e2:Expr}{apos GD:Pos}{x dx l:Addr}{rows:Ch}{n v:Str}{G2:Res}(ro:¬c.ro)(hl:rows.length<=1000)(Pj:l≠x)(L5:l≠dx)(hn:CD true n)(hv:CD false v)(qN:v.length<=1000)(hk:2<=c.k)(u:Upd c.G (Bb x dx l rows) (Bb x dx l (rows++[(n,v)])) G2)(a:Ev c J o (.obj (.ref x)))(y1:Ev c J e1 (.str n))(y2:Ev c J e2 (.str v))(hint:interactive c.env=false)(he:autoParam (D8 c e1 [e2]) Bc)(Jn:autoParam (D8 c e2 []) Bc)(hb:autoParam (attributeBase o "add_header" c.env (eval o c.env)=eval o c.env) Bc)(Dv:autoParam (((backTo pos (starEach [e1,e2] c.env)).all (λx=>!x.1)&&(backToKw pos (keywordEach [] c.env)).all (λx=>x.1.isSome)
   && decide ([e1,e2].length+([]:List Keyword).length+(if(backToKw pos (keywordEach [] c.env)).isEmpty then 0 else 1)<30))=true) Bc)(Na:autoParam (J6 apos pos) Bc)(hs:autoParam (swapsWith (.Call (.Attribute o "add_header" apos) [e1,e2] [] pos) none GD.line c.env=pure false) Bc) :
  Ex c J (.Expr (.Call (.Attribute o "add_header" apos) [e1,e2] [] pos) GD) (Fr (c.on c.X G2) J) R:=λs F Q E nn r=>
 wpAny_Expr_any (UU ro u a (.cons y1 (.cons y2 .nil Jn) he) (mH c.w 0 x dx l rows n v hl Pj L5 hn hv qN) hk (DH.res (dx:=dx) (l:=l) (rows:=rows) λX h z=>u.has _ _ _ z) VS ⟨_,_,_,_,_,JX⟩ F (λv h' tk l' F' V=>nn h' tk F') (by decide) he hb Dv Na) hint hs
theorem Ex.cG{e1 e2:Expr}{sp:Pos}{x dx l:Addr}{rows:Ch}{n v:Str}{G2:Res}(ro:¬c.ro)(hl:rows.length<=1000)(Pj:l≠x)(L5:l≠dx)(hr:∀r∈rows,JR r)(f9:CD true n)(hv:CD false v)(hn:n.length<=1000000)(hc:CD true (Txt.lower n))(S2:PyData.strOk (Txt.lower n)=true)(hk:3<=c.k)(u:Upd c.G (Bb x dx l rows) (Bb x dx l (L6 rows n v)) G2)(a:Ev c J o (.obj (.ref x)))(y1:Ev c J e1 (.str n))(y2:Ev c J e2 (.str v))(hs:autoParam (swapsWith e2 (some (.Subscript o e1 sp)) pos.line c.env=pure false) Bc) :
  Ex c J (.Assign [.Subscript o e1 sp] e2 pos) (Fr (c.on c.X G2) J) R:=λs F Q E nn r=>
 wpAny_Assign_Subscript (y2 s F _ _ λv1 h1 t1 l1 r1=>by
  have F1:Fr c J h1:=F.le l1;refine a {s with heap:=h1,toks:=t1} F1 _ _ λv2 h2 t2 l2 r2=>?_;cases r2;have E0:Le h1 h2:=l2;have F2:Fr c J h2:=F1.le E0;refine y1 {s with heap:=h2,toks:=t2} F2 _ _ λv3 h3 t3 l3 r3=>?_;have L8:Le h2 h3:=l3;have F3:Fr c J h3:=F2.le L8;have g3:=u.has _ _ _ F3.g;refine Fp (IB g3) ?_;intro ox od I V;refine QI (od:=od) ZH F3.base.k I ?_;have gx:∀b,(Bb x dx l rows).fp b->c.X b:=λb z=>(F3.gx b (u.fp b z)).1.1;have b8:B8 c.X c.w h3 v1 (.str v):=r1.flat rfl;refine mK c.w 0 x dx l rows n v hl Pj L5 hr f9 hv hn hc S2 c.A c.X {s with heap:=h3,toks:=t3} [.ref x,v3,v1] (F3.ok.CC hk) F3.base F3.Cj (.cons (.obj _) (.cons r3 (.cons b8 .nil))) g3 gx _ _ λv4 h4 t4 l4 r4=>?_;exact nn h4 t4 (F3.upd ro u l4 r4.2)) hs
theorem Bd.Va{e1 e2 r0:Expr}{apos cp ip:Pos}{body orelse:Dx}{rest:Dx}{ls:List (List Stmt)}{x dx l:Addr}{rows:Ch}{n v:Str}{G2:Res}(ro:¬c.ro)(hl:rows.length<=1000)(Pj:l≠x)(L5:l≠dx)(hr:∀r∈rows,JR r)(f9:CD true n)(hv:CD false v)(hn:n.length<=1000000)(hc:CD true (Txt.lower n))(S2:PyData.strOk (Txt.lower n)=true)(hk:3<=c.k)(u:Upd c.G (Bb x dx l rows) (Bb x dx l (Ew rows n v)) G2)(a:Ev c J o (.obj (.ref x)))(y1:Ev c J e1 (.str n))(y2:Ev c J e2 (.str v))(z:Ev (c.on c.X G2) J r0 (.str (FE rows n v)))(k:Bd (c.on c.X G2) J (orelse::rest::ls) N R)(he:autoParam (D8 c e1 [e2]) Bc)(Jn:autoParam (D8 c e2 []) Bc)(hb:autoParam (attributeBase o "setdefault" c.env (eval o c.env)=eval o c.env) Bc)(Dv:autoParam (((backTo pos (starEach [e1,e2] c.env)).all (λx=>!x.1)&&(backToKw pos (keywordEach [] c.env)).all (λx=>x.1.isSome)
   && decide ([e1,e2].length+([]:List Keyword).length+(if(backToKw pos (keywordEach [] c.env)).isEmpty then 0 else 1)<30))=true) Bc)(Na:autoParam (J6 apos pos) Bc)(hm:autoParam (behindInMarks .NotEq r0=false) Dy) :
  Bd c J ((.If (.Compare (.Call (.Attribute o "setdefault" apos) [e1,e2] [] pos) [.NotEq] [r0] cp) body orelse ip::rest)::ls) N R:=λs F Q E nn r=>
 Ao (wpAny_If (wpAny_isTrue_Compare1 (UU ro u a (.cons y1 (.cons y2 .nil Jn) he) (Xu c.w 0 x dx l rows n v hl Pj L5 hr f9 hv hn hc S2) hk (DH.res (dx:=dx) (l:=l) (rows:=rows) λX h z=>u.has _ _ _ z) Sz ⟨_,_,_,_,_,OU⟩ F (λv1 h1 t1 l1 F1 r1=>by
  refine z {s with heap:=h1,toks:=t1} F1 _ _ λv2 h2 t2 l2 r2=>?_;have E0:Le h1 h2:=l2;cases r1;cases r2;refine ne_str (wpAny_truthy_bool ?_);have e:((FE rows n v) != (FE rows n v))=false:=by simp
  rw[e];have kk:Qp c (orelse::rest::ls) Q E {s with heap:=h2,toks:=t2}:=HP (c:=c) (c':=c.on c.X G2) ⟨rfl,rfl,rfl⟩ (orelse::rest::ls) (k {s with heap:=h2,toks:=t2} (F1.le E0) Q E nn r);exact wpAny_mono kk (λf s' k=>by cases f<;>exact k) λV V k=>k) (by decide) he hb Dv Na) hm))
theorem Bg.YW{k:Str}(hG:∀X h,c.G.P c.w X h->(Bv a es).P c.w X h)(x:Ev c J l (.str k))(y:Ev c J r (.obj (.ref a)))(hm:autoParam (behindInMarks .NotIn r=false) Dy) :
  Bg c J l .NotIn r (!(es.lookup k).isSome):=Bg.of x y (λV V s F ra rb Q E q=>by
 cases ra;cases rb;refine UG (hG _ _ F.g) ?_;intro kvs p rr nt ns;refine wpAny_notIn_of (knd:=KS c.w) (DK _ _ _) ns p.mapOf ?_;rw[WH rr];exact q _ s.heap _ (.refl _) (.bool _)) hm
structure Gq(G T:Res)(M:CF)(T' G':Res):Prop where
 has:∀w X h,G.P w X h->T.P w X h
 fp:∀b,T.fp b->G.fp b
 out:∀b,G'.fp b->G.fp b\/M b
 put:∀w X h h',G.P w X h->(∀b,G.fp b->X b)->(∀b,X b->∃o,h.get? b=some o)->(∀b,M b->h.get? b=none)->Bt T.fp h h'->T'.P w (DG X M) h'->G'.P w (DG X M) h'
theorem Gq.self{T T':Res}{M:CF}(o:∀b,T'.fp b->T.fp b\/M b):Gq T T M T' T':=⟨λV V V z=>z,λV z=>z,o,λV V V V V V V V V t=>t⟩
theorem NW{S:Res}{M:CF}(s:S.P w X h)(l:Bt W h h')(wx:∀b,W b->X b)(ap:∀b,S.fp b->W b->False)(m:∀b,M b->h.get? b=none):S.P w (DG X M) h':=
 S.mv s λb o q nt e=>⟨l.at nt e λy=>by
  rcases q with q|q|q
  .exact (ap b q y).elim
  .exact absurd (wx b y) q
  .exact q,λnx z=>z.elim nx λz=>by rw[m b z]at e;cases e⟩
theorem Gq.lf{G T T' G' S:Res}{M:CF}(u:Gq G T M T' G'):Gq (G.star S) T M T' (G'.star S) where
 has:=λw X h z=>u.has w X h z.1
 fp:=λb z=>.inl (u.fp b z)
 out:=λb z=>z.elim (λz=>(u.out b z).imp_left .inl) λz=>.inl (.inr z)
 put:=λw X h h' z gx xk m l t=>⟨u.put w X h h' z.1 (λb y=>gx b (.inl y)) xk m l t,NW z.2.1 l (λb y=>gx b (.inl (u.fp b y))) (λb y y'=>z.2.2 b (u.fp b y') y) m,λb y y'=>(u.out b y).elim (λy=>z.2.2 b y y') λy=>by
  refine B5 (xk b (gx b (.inr y'))) ?_;intro o e;rw[m b y]at e;cases e⟩
theorem Gq.rt{G T T' G' S:Res}{M:CF}(u:Gq G T M T' G'):Gq (S.star G) T M T' (S.star G') where
 has:=λw X h z=>u.has w X h z.2.1
 fp:=λb z=>.inr (u.fp b z)
 out:=λb z=>z.elim (λz=>.inl (.inl z)) λz=>(u.out b z).imp_left .inr
 put:=λw X h h' z gx xk m l t=>⟨NW z.1 l (λb y=>gx b (.inr (u.fp b y))) (λb y y'=>z.2.2 b y (u.fp b y')) m,u.put w X h h' z.2.1 (λb y=>gx b (.inr y)) xk m l t,λb y' y=>(u.out b y).elim (λy=>z.2.2 b y' y) λy=>by
  refine B5 (xk b (gx b (.inl y'))) ?_;intro o e;rw[m b y]at e;cases e⟩
theorem Fr.fg{T T' G':Res}{M:CF}(F:Fr c J h)(ro:¬c.ro)(u:Gq c.G T M T' G')(l:Bt T.fp h h')(n:∀b,M b->h.get? b=none/\306<=b/\∃o,h'.get? b=some o)(t:T'.P c.w (DG c.X M) h'):Fr (c.on (DG c.X M) G') J h':=
 have nl:¬T.fp c.env.locals:=λz=>(F.gx _ (u.fp _ z)).2.1 rfl;have nc:∀x a,c.env.cells.lookup x=some a->¬T.fp a:=λx a e z=>(F.gx _ (u.fp _ z)).2.2 x e;have tx:∀b,T.fp b->c.X b:=λb z=>(F.gx b (u.fp _ z)).1.1
 {base:=F.base.le l λb z=>(F.Cj b (tx b z)).1
  Cj:=λa z=>z.elim (λz=>(F.Cj.le l) a z) λz=>(n a z).2
  kind:=F.kind,glob:=F.glob,blt:=F.blt,ok:=F.ok
  old:=⟨λb o nt n e=>l.keep b o nt (λz=>((F.gx b (u.fp _ z)).1.2).elim (λz=>ro z) λz=>z.elim n λz=>by have e2:c.h0.get? b=some o:=e;rw[z]at e2;cases e2) (F.old.keep b o nt n e),λb o nt w e=>by
   refine B5 (F.old.live b o nt w e) ?_;intro o' e';exact l.alive nt e',λtb=>l.tab (F.old.tab tb),λb o e z=>l.code b o (F.old.code b o e z) z⟩
  loc:=⟨.inl F.loc.1,F.loc.2.1,by refine B5 F.loc.2.2 ?_;intro m q;exact⟨m,Ck q λo e=>l.keep _ o F.W5 nl e⟩⟩
  Ez:=λx a e=>let⟨a1,a2,⟨v,a3⟩,a4⟩:=F.Ez x a e
   ⟨a1,a2,⟨v,B0 a3 λo z=>l.keep _ o a2 (nc x a e) z⟩,λo=>⟨.inl (a4 o).1,(a4 o).2⟩⟩
  apart:=F.apart
  names:=λx d m=>by
   refine Bh (F.names x d m) ?_;intro v H r;exact⟨v,H.keep (λo nt e=>l.keep _ o nt nl e) (λa o nt ea e=>l.keep _ o nt (nc x a ea) e),r.move λb o nx nt e=>⟨l.keep b o nt (λz=>nx (tx b z)) e,λz=>z.elim nx λz=>by rw[(n b z).1]at e;cases e⟩⟩
  g:=u.put _ _ _ _ F.g (λb z=>(F.gx b z).1.1) (λb z=>(F.Cj b z).2) (λb z=>(n b z).1) l t
  gx:=λb z=>by
   rcases u.out b z with z|z
   .refine CB (F.gx b z) ?_;intro Cq a3;refine CB Cq ?_;intro a1 a2;exact⟨⟨.inl a1,a2⟩,a3⟩
   .have nw:=F.new (n b z).1 (n b z).2.1;exact⟨⟨.inr z,.inr (.inr nw.2.2.1)⟩,nw.2.2.2.2⟩}
noncomputable def J8(L:Cz):List (Str×D):=L.map λt=>(sg t.tag,D.obj (.ref t.f))
noncomputable def Ge(td:Addr)(L:Cz):Res:=(Bv td (J8 L)).star (Bl L)
theorem P9(L:Cz)(tag:Nat)(kf:Addr):J8 (CW L tag kf)=J8 L:=by
 unfold J8 CW;rw[AB];apply AW;intro t V;dsimp only[Function.comp];split<;>rfl
theorem Xl{L:Cz}{q:Nat}(hq:q∉L.map (·.tag)):dput (J8 L) (sg q) d=J8 L++[(sg q,d)]:=by
 unfold dput;rw[if_neg];intro z;refine Bh (Aq.mp z) ?_;intro p hp e;refine Bh (AF.mp hp) ?_;rintro t ht rfl;exact hq (AF.mpr ⟨t,ht,Eh (of_decide_eq_true e)⟩)
theorem J9{L:Cz}{t:Th}(nt:(L.map (·.tag)).Nodup)(ht:t∈L):(J8 L).lookup (sg t.tag)=some (.obj (.ref t.f)):=by
 induction L with
 |nil=>cases ht
 |cons x L ih=>
  rw[AI,List.nodup_cons]at nt;unfold J8;rw[AI,AK];rcases AJ.mp ht with e|h1
  .rw [e];simp
  .have Hj:(sg t.tag==sg x.tag)=false:=by
    rw[Av];intro e;exact nt.1 (AF.mpr ⟨t,h1,Eh e⟩)
   rw[Hj];exact ih nt.2 h1
theorem Ex.cI{i a1 a2 a3 a4 a5:Expr}{sp np cp k1 k2:Pos}{td:Addr}{L:Cz}{p:Th}{q a:Nat}{way':BY}{G1 G':Th->Res}(ro:¬c.ro)(nt:(L.map (·.tag)).Nodup)(hp:p∈L)(X7:p.kids.length<=1000)(hq:q∉L.map (·.tag))(tS:L.length<=1000)(hk:3<=c.k)(gr:∀t:Th,t.tag=q->Gq c.G (Ge td L) (Bl [t]).fp ((Bv td (J8 L)).star (Bl (Mine.CW L p.tag t.f++[t]))) (G1 t))(u2:∀t:Th,t.tag=q->Upd (G1 t) (Bv td (J8 L)) (Bv td (J8 (Mine.CW L p.tag t.f++[t]))) (G' t))(f:Ev c J (.Name (S "SubElement") np) (.obj (.ref 202)))(y1:Ev c J a1 (.obj (.ref p.f)))(y2:Ev c J a2 (.str (sg q)))(y3:Ev c J a3 (.dict (Ia p.way p.above)))(y4:Ev c J a4 (.str (tx way')))(y5:Ev c J a5 (.str (sg a)))(yo:∀X G,Ev (c.on X G) J o (.obj (.ref td)))(yi:∀X G,Ev (c.on X G) J i (.str (sg q)))(hN:∀(t:Th) X' h,t.tag=q->t.way=way'->t.above=some a->t.kids=[]->t.tl=none->(∀b,c.X b->X' b)->Fr (c.on X' (G' t)) J h->N h)(ZQ:autoParam (starEach [a1,a2,a3] c.env=(false,eval a1 c.env)::(false,eval a2 c.env)::(false,eval a3 c.env)::[]) Bc)(hs:autoParam (swapsWith (.Call (.Name (S "SubElement") np) [a1,a2,a3] [⟨some (S "way"),a4,k1⟩,⟨some (S "above"),a5,k2⟩] cp) (some (.Subscript o i sp)) pos.line c.env=pure false) Bc) :
  Ex c J (.Assign [.Subscript o i sp] (.Call (.Name (S "SubElement") np) [a1,a2,a3] [⟨some (S "way"),a4,k1⟩,⟨some (S "above"),a5,k2⟩] cp) pos) N R:=λs F Q E nn r=>
 wpAny_Assign_Subscript (by
  refine wpAny_bind (f s F _ _ λv h1 t1 l1 r1=>?_);cases r1;have F1:Fr c J h1:=F.le l1;refine callWith_function_kw (o:=Et (BZ 14) (S "SubElement") (.ref 195) Kk (.ref 201)) (fd:=EV (BZ 14) (S "SubElement") (.ref 195) Kk (.ref 201)) ?_;rw[ZQ];refine evalArgs_kw (by rfl) ?_;refine PySem.Calls.spliced_cons (y1 {s with heap:=h1,toks:=t1} F1 _ _ λv1 h2 t2 l2 r1=>PySem.Calls.spliced_cons (y2 {s with heap:=h2,toks:=t2} (F1.le l2) _ _ λv2 h3 t3 l3 r2=>PySem.Calls.spliced_cons (y3 {s with heap:=h3,toks:=t3} ((F1.le l2).le l3) _ _ λv3 h4 t4 l4 r3=>PySem.Calls.spliced_nil ?_)));have E0:Le h1 h2:=l2;have L8:Le h2 h3:=l3;have UD:Le h3 h4:=l4;cases r1;have F4:Fr c J h4:=((F1.le E0).le L8).le UD;refine wpAny_evalAll_cons (wpAny_bind (y4 {s with heap:=h4,toks:=t4} F4 _ _ λv4 h5 t5 l5 r4=>wpAny_bind (wpAny_standAt (wpAny_pure ?_))));refine wpAny_evalAll_cons (wpAny_bind (y5 {s with heap:=h5,toks:=t5} (F4.le l5) _ _ λv5 h6 t6 l6 r5=>wpAny_bind (wpAny_standAt (wpAny_pure (wpAny_evalAll_nil ?_)))));have j1:Le h4 h5:=l5;have j2:Le h5 h6:=l6;have F6:Fr c J h6:=(F4.le j1).le j2;have g6:=(gr ⟨q,[],none,none,0,0,0,[]⟩ rfl).has _ _ _ F6.g;have mP:∀b,(Ge td L).fp b->c.X b:=λb z=>(F6.gx b ((gr ⟨q,[],none,none,0,0,0,[]⟩ rfl).fp b z)).1.1;have vU:B8 c.X c.w h6 v2 (.str (sg q)):=r2.flat rfl;have vV:B8 c.X c.w h6 v3 (.dict (Ia p.way p.above)):=(r3.le j1).le j2;have ib:B8 c.X c.w h6 v4 (.str (tx way')):=r4.flat rfl;refine⟨⟨F6.base.k _ _ (ZI.here _),rfl⟩,?_⟩;refine We (k:=0) (s:={s with heap:=h6,toks:=t6}) (F6.ok.CC hk) F6.base F6.Cj g6.2.1 (λb z=>mP b (.inr z)) nt hp X7 (way':=way') (a:=a) vU vV ib r5 _ _ λv7 h7 t7 l7 zz=>?_;refine oF zz ?_;clear zz;intro t ev b1 b2 b3 b4 b5 nw tP;subst ev;have ug:Bt (Ge td L).fp h6 h7:=l7.any λb z=>.inr z;have dP:(Bv td (J8 L)).P c.w (DG c.X (Bl [t]).fp) h7:=NW g6.1 l7 (λb z=>mP b (.inr z)) (λb z z'=>g6.2.2 b z z') λb z=>(nw b z).1;have F7:=F6.fg ro (gr t b1) ug nw ⟨dP,tP,λb z z'=>by
   rcases HX.mp z' with y|y
   .exact g6.2.2 b z ((Ik L p.tag t.f b).mp y)
   .obtain ⟨_,o,e⟩:=F6.Cj b (mP b (.inl z));have:=(nw b y).1;rw[e]at this;cases this⟩
  refine yo _ _ {s with heap:=h7,toks:=t7} F7 _ _ λv8 h8 t8 l8 r8=>?_;cases r8;have nU:Le h7 h8:=l8;have F8:=F7.le nU;refine yi _ _ {s with heap:=h8,toks:=t8} F8 _ _ λv9 h9 t9 l9 r9=>?_;cases r9;have uh:Le h8 h9:=l9;have F9:=F8.le uh;refine UG ((u2 t b1).has _ _ _ F9.g) ?_;intro kvs pd rr Pk ns;have uH:=Cb.length rr;have mw:(J8 L).length<=1000:=by unfold J8;rw[AA];exact tS
  refine wpAny_setItem_pairs (knd:=KS c.w) (DK _ _ _) pd (λdC rA vh=>?_) (by rw[sizeLine_eq];exact Jc uH mw rfl);refine Js (id rA) ?_;intro wq V V sX V;have dR:Bt (·=td) h9 dC:=Co vh _ sX Pk (by refine V7 pd ?_;clear pd;intro V V V e V d V;exact Cd.at e (Cd.dict d));have oq:(c.on (DG c.X (Bl [t]).fp) (G1 t)).X td:=(F9.gx td ((u2 t b1).fp td rfl)).1.1;have oV:=IP (k:=sg q) (v:=Value.ref t.f) (d:=.obj (.ref t.f)) (rr.move (DQ dR λb z=>z▸oq)) (.obj _);rw[Xl hq]at oV;have ee:J8 L++[(sg q,D.obj (.ref t.f))]=J8 (Mine.CW L p.tag t.f++[t]):=by
   have:=P9 L p.tag t.f;unfold J8 at this ⊢;rw[Af,this,<- b1];rfl
  rw[ee]at oV;exact nn dC _ (hN t _ dC b1 b2 b3 b4 b5 (λb z=>.inl z) (F9.upd ro (u2 t b1) dR ⟨_,rA,oV,Pk,ns⟩))) hs
noncomputable def lows:List Nat:=[98,99,100,101,102]
noncomputable def Cg(a:Nat):Nat:=if a<97 then a+32 else a
noncomputable def My(a:Nat):Nat:=if a<97 then a+32 else a-32
theorem GA:∀a∈Bp,Txt.lower (sg a)=sg (Cg a):=by decide +kernel
theorem Yt:∀a∈Bp,Txt.swapcase (sg a)=sg (My a):=by decide +kernel
theorem Wf:∀a∈Bp,My a∈Bp/\Cg (My a)=Cg a:=by decide
theorem Rr:∀a∈Bp,Cg a∈lows:=by decide
theorem CA:∀a∈lows,a∈Bp/\Cg a=a/\a∈[98,99,100,101,102]:=by decide
theorem GR:∀a∈Bp,a<128:=by decide
theorem EF:∀a∈Bp,PyData.strOk (Txt.lower (sg a))=true:=by decide +kernel
theorem iK:∀a∈Bp,Dj (sg a)=false:=by decide +kernel
theorem DI{a:Nat}(h:a∈Bp)(b:Bool):CD b (sg a):=by
 cases b
 .exact Ig.val h
 .exact Ig.name (iK a h) (Ad 1) (AE rfl)
theorem EU{a:Nat}(h:a∈Bp):CD true (Txt.lower (sg a)):=by
 rw[GA a h];exact DI (CA _ (Rr a h)).1 true
theorem LF{a b:Nat}(ha:a∈Bp)(hb:b∈Bp):decide (Txt.lower (sg a)=Txt.lower (sg b))=(Cg a==Cg b):=by
 rw[GA a ha,GA b hb];by_cases h:Cg a=Cg b
 .simp [h]
 .have:¬sg (Cg a)=sg (Cg b):=λe=>h (Eh e);simp[h,this]
noncomputable abbrev R2:=List (Nat×Nat)
noncomputable def Bf(r:R2):List (Str×Str):=r.map λp=>(sg p.1,sg p.2)
def RL(r:R2):Prop:=∀p∈r,p.1∈Bp/\p.2∈Bp
noncomputable def C7(r:R2)(q:Nat):List Nat:=(r.filter λp=>Cg p.1==Cg q).map (·.2)
noncomputable def C2(r:R2)(q:Nat):Option Nat:=(r.find? λp=>Cg p.1==Cg q).map (·.2)
noncomputable def EJ(r:R2)(q v:Nat):R2:=(r.filter λp=>!(Cg p.1==Cg q))++[(q,v)]
noncomputable def Ts(r:R2)(q v:Nat):R2:=if(C2 r q).isSome then r else r++[(q,v)]
noncomputable def kH(r:R2)(q v:Nat):Nat:=(C2 r q).getD v
theorem EZ{r:R2}(h:RL r):∀p∈Bf r,JR p:=λp hp=>by
 refine Bh (AF.mp hp) ?_;rintro x hx rfl;exact⟨AE rfl,EF _ (h x hx).1⟩
theorem DC(r:R2):(Bf r).length=r.length:=AA _
theorem OV{r:R2}(h:RL r){q:Nat}(hq:q∈Bp):(Bf r).filter (λp=>decide (Txt.lower p.1=Txt.lower (sg q)))=Bf (r.filter λp=>Cg p.1==Cg q):=by
 unfold Bf;rw[List.filter_map];congr 1;apply List.filter_congr;intro x hx;exact LF (h x hx).1 hq
theorem NO{r:R2}(h:RL r){q:Nat}(hq:q∈Bp):(Bf r).filter (λp=>!decide (Txt.lower p.1=Txt.lower (sg q)))=Bf (r.filter λp=>!(Cg p.1==Cg q)):=by
 unfold Bf;rw[List.filter_map];congr 1;apply List.filter_congr;intro x hx;show(!_)=_;rw[LF (h x hx).1 hq]
theorem Iz{r:R2}(h:RL r){q:Nat}(hq:q∈Bp):(Bf r).find? (λp=>decide (Txt.lower p.1=Txt.lower (sg q)))=(r.find? λp=>Cg p.1==Cg q).map λp=>(sg p.1,sg p.2):=by
 induction r with
 |nil=>rfl
 |cons x r ih=>
  have hx:=h x (.head _);unfold Bf;rw[AI,List.find?_cons,List.find?_cons];have e:=LF hx.1 hq;dsimp only at e ⊢;rw[e];cases Cg x.1==Cg q
  .exact ih λp hp=>h p (.tail _ hp)
  .rfl
theorem MZ{r:R2}(h:RL r){q:Nat}(hq:q∈Bp):HM (Bf r) (sg q)=(C7 r q).map sg:=by
 unfold HM C7;rw[OV h hq];unfold Bf;rw[AB,AB];rfl
theorem NY{r:R2}(h:RL r){q:Nat}(hq:q∈Bp):EW (Bf r) (sg q)=match C2 r q with
  |some v=>.str (sg v)
  |none=>.none:=by
 unfold EW C2;rw[Iz h hq];cases r.find? λp=>Cg p.1==Cg q<;>rfl
theorem bB{r:R2}(h:RL r){q:Nat}(hq:q∈Bp)(v:Nat):L6 (Bf r) (sg q) (sg v)=Bf (EJ r q v):=by
 unfold L6 Gy EJ;rw[NO h hq];unfold Bf;rw[Af];rfl
theorem S3{r:R2}(h:RL r){q:Nat}(hq:q∈Bp)(v:Nat):Ew (Bf r) (sg q) (sg v)=Bf (Ts r q v):=by
 unfold Ew Ts C2;rw[Iz h hq];cases r.find? λp=>Cg p.1==Cg q with
 |none=>unfold Bf;simp
 |some x=>rfl
theorem VZ{r:R2}(h:RL r){q:Nat}(hq:q∈Bp)(v:Nat):FE (Bf r) (sg q) (sg v)=sg (kH r q v):=by
 unfold FE kH C2;rw[Iz h hq];cases r.find? λp=>Cg p.1==Cg q<;>rfl
theorem SG{r:R2}(h:RL r){q v:Nat}(hq:q∈Bp)(hv:v∈Bp):RL (EJ r q v):=λp hp=>by
 rcases Ar.mp hp with hp|hp
 .exact h p (Az.mp hp).1
 .rw [AG.mp hp];exact⟨hq,hv⟩
theorem Qq{r:R2}(h:RL r){q v:Nat}(hq:q∈Bp)(hv:v∈Bp):RL (Ts r q v):=λp hp=>by
 unfold Ts at hp;split at hp
 .exact h p hp
 .rcases Ar.mp hp with hp|hp
  .exact h p hp
  .rw [AG.mp hp];exact⟨hq,hv⟩
theorem PM(r:R2)(q v:Nat):(EJ r q v).length<=r.length+1:=by
 unfold EJ;rw[Ac];have:=AV (λp:Nat×Nat=>!(Cg p.1==Cg q)) r;simp;omega
theorem N4(r:R2)(q v:Nat):(Ts r q v).length<=r.length+1:=by
 unfold Ts;split<;>simp
theorem U5{r:R2}{q q':Nat}(e:Cg q=Cg q'):C2 r q=C2 r q':=by unfold C2;rw[e]
theorem Xo(r:R2)(q v:Nat):C2 (Ts r q v) q=some (kH r q v):=by
 unfold Ts kH;cases h:C2 r q with
 |some x=>simp[h]
 |none=>
  simp only[Option.isSome_none,AR,if_false,Option.getD_none];unfold C2 at h ⊢;rw[List.find?_append];cases h2:r.find? λp=>Cg p.1==Cg q with
  |some x=>rw[h2]at h;cases h
  |none=>simp
noncomputable def FW(net seen:R2)(p:Nat):List Nat:=(C7 net p).filter λq=>(C2 seen q).isNone
noncomputable def Zk(late:Bool)(f:R2)(q p:Nat):R2:=if late then EJ f q p else f
noncomputable def IT(late:Bool)(p:Nat)(f:R2)(q:Nat):R2:=Ts (Zk late f q p) q p
noncomputable def LY(late:Bool)(net seen:R2)(f:R2)(p:Nat):R2:=(FW net seen p).foldl (IT late p) f
noncomputable def GL(late:Bool)(net seen:R2)(lvl:BY):R2:=lvl.foldl (LY late net seen) []
noncomputable abbrev TH:=List (Nat×List Nat×Option Nat)
noncomputable def CR(th:TH):List Nat:=th.map (·.1)
noncomputable def G8(near:D9)(p:Nat):List Nat:=(near.lookup p).getD []
noncomputable def D3(near:D9)(th:TH)(lvl:BY):R2:=lvl.flatMap λp=>((G8 near p).filter λq=>!(CR th).contains (Cg q)).map λq=>(Cg q,p)
noncomputable def NK(late:Bool)(pairs:R2):R2:=(pairs.zipIdx.filter λx=>!((if late then pairs.drop (x.2+1)else pairs.take x.2).map (·.1)).contains x.1.1).map (·.1)
noncomputable def Gk(f:R2):R2:=f.map λr=>(Cg r.1,(C2 f r.1).getD 0)
noncomputable def Hs(th:TH)(p:Nat):List Nat:=((th.lookup p).map (·.1)).getD []
noncomputable def Ft(th:TH)(x:Nat×Nat):TH:=th++[(x.1,Hs th x.2++[x.1],some x.2)]
structure St where
 lvl:List Nat
 seen:R2
 th:TH
noncomputable def IW(late:Bool)(net:R2)(near:D9)(s:St):Option St:=
 let f:=GL late net s.seen s.lvl;let told:=Gk f;if told=NK late (D3 near s.th s.lvl)/\(CR s.th++told.map (·.1)).Nodup/\(∀x∈told,x.2∈CR s.th)/\(∀x∈told,x.1∈lows/\x.2∈lows)/\(∀x∈told,(near.lookup x.1).isSome=true)/\told.length<=4/\(CR s.th++told.map (·.1)).length<=20/\f.length<=100/\(s.seen++told).length<=100/\(D3 near s.th s.lvl).length<=100 then
  some ⟨told.map (·.1),s.seen++told,told.foldl Ft s.th⟩
 else none
noncomputable def runN(late:Bool)(net:R2)(near:D9):Nat->St->Option St
 |0,s=>some s
 |n+1,s=>(IW late net near s).bind (runN late net near n)
theorem cA{late:Bool}{net:R2}{near:D9}{n:Nat}{s:St}:runN late net near (n+1) s=(IW late net near s).bind (runN late net near n):=rfl
noncomputable def Ib(th:TH)(p:Nat):List Nat:=(th.filter λx=>x.2.2==some p).map (·.1)
structure Dc(L:Cz)(th:TH):Prop where
 same:L.map (λt=>(t.tag,t.way,t.above))=th
 nd:(CR th).Nodup
 kids:∀t∈L,DA L t.kids (Ib th t.tag)
 ab:∀x∈th,∀a,x.2.2=some a->a∈CR th
theorem Dc.tags{L:Cz}{th:TH}(I:Dc L th):L.map (·.tag)=CR th:=by
 unfold CR;rw[<- I.same,AB];rfl
theorem Dc.len{L:Cz}{th:TH}(I:Dc L th):L.length=th.length:=by rw[<- I.same,AA]
theorem DA.mono{L L':Cz}(h:∀t∈L,∃t'∈L',t'.f=t.f/\t'.tag=t.tag):∀ {as:List Addr}{bs:BY},DA L as bs->DA L' as bs:=by
 intro as bs k;induction k with
 |nil=>exact .nil
 |cons a b ih=>exact .cons (EI a λt ht e1 e2=>EI (h t ht) λt' h1 h2 h3=>⟨t',h1,h2.trans e1,h3.trans e2⟩) ih
theorem DA.snoc{L:Cz}{b:Nat}(h:∃t∈L,t.f=a/\t.tag=b):∀ {as:List Addr}{bs:BY},DA L as bs->DA L (as++[a]) (bs++[b]):=by
 intro as bs k;induction k with
 |nil=>exact .cons h .nil
 |cons x y ih=>exact .cons x ih
theorem DA.len{L:Cz}:∀ {as:List Addr}{bs:BY},DA L as bs->as.length=bs.length:=by
 intro as bs k;induction k with
 |nil=>rfl
 |cons x y ih=>exact congrArg Nat.succ ih
theorem YF(th:TH)(p:Nat):(Ib th p).length<=th.length:=by unfold Ib;rw[AA];exact AV _ _
theorem TN{th:TH}(nd:(CR th).Nodup){x:Nat×List Nat×Option Nat}(hx:x∈th):th.lookup x.1=some x.2:=by
 induction th with
 |nil=>cases hx
 |cons y th ih=>
  unfold CR at nd;rw[AI,List.nodup_cons]at nd;rw[AK];rcases AJ.mp hx with e|h1
  .rw [e];simp
  .have Hj:(x.1==y.1)=false:=by
    rw[Av];intro e;exact nd.1 (e▸Ab (f:=(·.1)) h1)
   rw[Hj];exact ih nd.2 h1
theorem Dc.get{L:Cz}{th:TH}(I:Dc L th){p:Nat}(hp:p∈CR th):∃t∈L,t.tag=p:=by
 rw[<- I.tags]at hp;refine Bh (AF.mp hp) ?_;intro t ht e;exact⟨t,ht,e⟩
theorem Dc.way{L:Cz}{th:TH}(I:Dc L th){t:Th}(ht:t∈L):Hs th t.tag=t.way:=by
 have hx:(t.tag,t.way,t.above)∈th:=by rw[<- I.same];exact Ab (f:=λt:Th=>(t.tag,t.way,t.above)) ht
 have:=TN I.nd hx;dsimp only at this;unfold Hs;rw[this];rfl
theorem Wm{L:Cz}{th:TH}(I:Dc L th){p t:Th}{q:Nat}(hp:p∈L)(hq:q∉CR th)(e1:t.tag=q)(e2:t.way=p.way++[q])(e3:t.above=some p.tag)(e4:t.kids=[]):Dc (CW L p.tag t.f++[t]) (Ft th (q,p.tag)):=by
 have qK:p.tag∈CR th:=by rw[<- I.tags];exact Ab (f:=(·.tag)) hp
 have et:CR (Ft th (q,p.tag))=CR th++[q]:=by unfold CR Ft;rw[Af];rfl
 have mono:∀x∈L,∃x'∈CW L p.tag t.f++[t],x'.f=x.f/\x'.tag=x.tag:=λx hx=>by
  refine⟨_,List.mem_append_left _ (Ab hx),?_⟩;split<;>exact⟨rfl,rfl⟩
 have kd:∀a,Ib (Ft th (q,p.tag)) a=Ib th a++if p.tag=a then[q]else[]:=λa=>by
  unfold Ib Ft;rw[List.filter_append,Af];congr 1;by_cases h:p.tag=a
  .simp [h]
  .have:¬a=p.tag:=λe=>h e.symm;simp[h]
 refine⟨?_,?_,λx hx=>?_,λx hx a ha=>?_⟩
 .rw [Af];have:(CW L p.tag t.f).map (λt=>(t.tag,t.way,t.above))=th:=by
   rw[<- I.same];unfold CW;rw[AB];apply AW;intro x V;dsimp only[Function.comp];split<;>rfl
  rw[this];congr 1;simp only[AI,List.map_nil,e1,e2,e3,I.way hp]
 .rw [et,List.nodup_append];exact⟨I.nd,by simp,λa ha b hb e=>by rw[AG.mp hb]at e;exact hq (e▸ha)⟩
 .rcases Ar.mp hx with hx|hx
  .refine Bh (AF.mp hx) ?_;rintro x0 h0 rfl;by_cases h:x0.tag=p.tag
   .simp only[h,if_true];rw[kd,if_pos rfl];have k0:=(I.kids x0 h0).mono mono;rw[h]at k0;exact DA.snoc ⟨t,by simp,rfl,e1⟩ k0
   .simp only[h,if_false];rw[kd,if_neg λe=>h e.symm,List.append_nil];exact(I.kids x0 h0).mono mono
  .rw [AG.mp hx,e4,e1,kd];have Hj:¬p.tag=q:=λe=>hq (e▸qK);rw[if_neg Hj,List.append_nil];have:Ib th q=[]:=by
    unfold Ib;rw[List.map_eq_nil_iff,List.filter_eq_nil_iff];intro x hx hb;exact hq (I.ab x hx q (by simpa using hb))
   rw[this];exact .nil
 .rw [et];rcases Ar.mp hx with hx|hx
  .exact List.mem_append_left _ (I.ab x hx a ha)
  .rw [AG.mp hx]at ha;cases ha;exact List.mem_append_left _ qK
theorem Tw:∀(l:R2) (th:TH),CR (l.foldl Ft th)=CR th++l.map (·.1):=by
 intro l;induction l with
 |nil=>exact λth=>by simp
 |cons x l ih=>
  intro th;rw[As,ih];unfold CR Ft;rw[Af];simp
theorem Ov:∀(l:R2) (th:TH),(l.foldl Ft th).length=th.length+l.length
 |[],th=>by simp
 |x::l,th=>by
  rw[As,Ov l];unfold Ft;simp;exact Nat.succ_add_eq_add_succ (List.length th) l.length
theorem Qn{late:Bool}{p:Nat}(hp:p∈Bp):∀(qs:BY) (f:R2),(∀q∈qs,q∈Bp)->RL f->RL (qs.foldl (IT late p) f):=by
 intro l;induction l with
 |nil=>exact λf V h=>h
 |cons q qs ih=>
  intro f hq h;rw[As];refine ih _ (λx hx=>hq x (.tail _ hx)) ?_;have h1:=hq q (.head _);cases late
  .exact Qq h h1 hp
  .exact Qq (SG h h1 hp) h1 hp
theorem HI{net seen:R2}(h:RL net){p q:Nat}(hq:q∈FW net seen p):q∈Bp:=by
 refine CB (Az.mp hq) ?_;intro h1 V;refine Bh (AF.mp h1) ?_;rintro x hx rfl;exact(h x (Az.mp hx).1).2
theorem Wa(late:Bool)(p:Nat)(f:R2)(q:Nat):(IT late p f q).length<=f.length+2:=by
 unfold IT Zk;cases late
 .have:=N4 f q p;simp only[AR,if_false];exact Nat.le_succ_of_le this
 .have h1:=PM f q p;have h2:=N4 (EJ f q p) q p;simp only[if_true];lia
theorem N3(late:Bool)(p:Nat):∀(qs:BY) (f:R2),(qs.foldl (IT late p) f).length<=f.length+2*qs.length
 |[],f=>by simp
 |q::qs,f=>by
  rw[As];have h1:=N3 late p qs (IT late p f q);have h2:=Wa late p f q;rw[AZ];lia
theorem Sq(as bs:Cr):(D.list as).eqv (.list bs)=PyData.eqvAll (D.KJ as) (D.KJ bs):=by
 show PyData.eqv (.list _) (.list _)=_;rw[PyData.eqv]
theorem Kg[DecidableEq α]{f:α->D}(hf:∀a b,(f a).eqv (f b)=decide (a=b)):∀l m:List α,PyData.eqvAll (D.KJ (l.map f)) (D.KJ (m.map f))=decide (l=m)
 |[],[]=>by
  show PyData.eqvAll [] []=_;rw[PyData.eqvAll];rfl
 |[],b::m=>by
  show PyData.eqvAll [] (_::_)=_;rw[PyData.eqvAll];rfl;all_goals simp
 |a::l,[]=>by
  show PyData.eqvAll (_::_) []=_;rw[PyData.eqvAll];rfl;all_goals simp
 |a::l,b::m=>by
  show PyData.eqvAll ((f a).py::D.KJ (l.map f)) ((f b).py::D.KJ (m.map f))=_;rw[PyData.eqvAll,Kg hf l m];have:=hf a b;unfold D.eqv at this;rw[this];by_cases h1:a=b<;>by_cases h2:l=m<;>simp[h1,h2]
theorem ED[DecidableEq α]{f:α->D}(hf:∀a b,(f a).eqv (f b)=decide (a=b))(l m:List α):(D.list (l.map f)).eqv (.list (m.map f))=decide (l=m):=by rw[Sq,Kg hf]
theorem Us(l m:List (Nat×Nat)):(D.list (l.map B7)).eqv (.list (m.map B7))=decide (l=m):=ED OS l m
theorem Fr.NU{G:Res}{x dx l:Addr}{rows:Ch}(F:Fr (c.on X' (G.star (Bb x dx l rows))) J h)(nw:∀b,(Bb x dx l rows).fp b->c.h0.get? b=none):Fr (c.on (λb=>X' b/\¬(Bb x dx l rows).fp b) (G.star (CI x dx l rows))) J h:=by
 have F':Fr (c.on (λb=>X' b/\¬(Bb x dx l rows).fp b) G) J h:=F.Ln nw λb o V e=>e;exact F'.star (T:=CI x dx l rows) ⟨Res.CC F.g.2.1 λb z=>z.1,λz=>z.2 (.inl rfl),λz=>z.2 (.inr (.inl rfl)),λz=>z.2 (.inr (.inr rfl))⟩ λb z=>z.elim
theorem Ex.serialize{np ap GD:Pos}{e2:Expr}{n:Nat}{L:Cz}{kd:Nat->List Nat}{t:Th}{la:Addr}{G2:Res}(ro:¬c.ro)(hL:∀t∈L,DA L t.kids (kd t.tag))(sz:∀m ≤n,∀t∈L,(CP kd m t.tag).length<=500)(ht:t∈L)(hd:deep kd n t.tag=true)(gP:t.tl=some d)(Jm:d=.none\/∃y,d=.str y/\y.length<=1000)(mY:∀w X h,c.G.P w X h->(Bl L).P w X h)(tG:∀b,(Bl L).fp b->c.G.fp b/\b≠la)(u:Upd c.G (Bk la []) (Bk la (Cv (CP kd n t.tag)++tailD d)) G2)(hk:n+1<=c.k)(f:Ev c J (.Name (S "_serialize_text") np) (.obj (.ref 209)))(a:Ev c J o (.obj (.ref la)))(y2:Ev c J e2 (.obj (.ref t.f)))(hint:interactive c.env=false)(tn:autoParam (eval (.Attribute o (Str.ofString "append") ap) c.env=(do
   let o' <- eval o c.env;standAt ap.atName;let r <- holding [o'] (getAttr o' (Str.ofString "append") true);letTemporaryGo o o' r;pure r)) Dy)(he:autoParam (starEach [.Attribute o (Str.ofString "append") ap,e2] c.env=(false,eval (.Attribute o (Str.ofString "append") ap) c.env)::starEach [e2] c.env) Bc)(Jn:autoParam (D8 c e2 []) Bc)(hs:autoParam (swapsWith (.Call (.Name (S "_serialize_text") np) [.Attribute o (Str.ofString "append") ap,e2] [] pos) none GD.line c.env=pure false) Bc) :
  Ex c J (.Expr (.Call (.Name (S "_serialize_text") np) [.Attribute o (Str.ofString "append") ap,e2] [] pos) GD) (Fr (c.on c.X G2) J) R:=λs F Q E nn r=>
 wpAny_Expr_any (wpAny_Call_NameR (f s F _ _ λv h1 t1 l1 r1=>by
  cases r1;have F1:Fr c J h1:=F.le l1;refine BG (o:=Et (BZ 15) (S "_serialize_text") .none Kk (.ref 208)) (fd:=EV (BZ 15) (S "_serialize_text") .none Kk (.ref 208)) rfl (wpAny_items_cons (BQ (a {s with heap:=h1,toks:=t1} F1 _ _ λv' h2 t2 l2 r2=>?_) tn) he) he;cases r2;have E0:Le h1 h2:=l2;have F2:Fr c J h2:=F1.le E0;refine EI (u.has _ _ _ F2.g) ?_;intro T8 Tb Yk nt;refine JF (s:={s with heap:=h2,toks:=t2}) Tb ?_;have l3:Le h2 (h2.push (Io la)):=Le.push _ _;have e3:(h2.push (Io la)).get? h2.objs.size=some (Io la):=AH _ rfl;have n3:=Bm h2;have b3:=B6 F2.base;dsimp only;generalize wa:h2.objs.size=bm at *;generalize jn:h2.push (Io la)=h3 at *;have F3:Fr c J h3:=F2.le l3;refine wpAny_items_cons (y2 {s with heap:=h3,toks:=t2+1} F3 _ _ λv4 h4 t4 l4 r4=>wpAny_items_nil ?_) Jn;cases r4;have UD:Le h3 h4:=l4;have F4:Fr c J h4:=F3.le UD;refine⟨F4.base.k _ _ (ZG.here _),?_⟩;have gL:=mY _ _ _ F4.g;refine EI (u.has _ _ _ F4.g) ?_;intro w6 vO vd V;cases vd;have lx:c.X la:=(F4.gx la (u.fp la rfl)).1.1;let X0:Addr->Prop:=λb=>c.X b/\¬(Bl L).fp b;have vE:¬(Bl L).fp la:=λz=>(tG la z).2 rfl;have iM:bm≠TP:=Cp b3;have u6:¬c.X bm:=λz=>by
   obtain⟨_,o,e⟩:=F2.Cj bm z;rw[n3]at e;cases e
  refine Mo (FK (gL.1 t ht)) ?_;intro V V V V V V V zt;have g0:(((JY L).star (OK bm la)).star (Bk la [])).P c.w X0 h4:=by
   refine⟨⟨λx hx=>⟨?_,λz=>z.2 ⟨x,hx,.inl rfl⟩,λz=>z.2 ⟨x,hx,.inr rfl⟩⟩,⟨λz=>u6 z.1,iM,UD.keep _ _ iM id e3⟩,λb z=>z.elim⟩,⟨[],vO,.nil,nt⟩,λb z=>z.elim (λz=>z.elim) λz=>z.elim⟩;refine Mo (gL.1 x hx) ?_;intro fa fi ck ct tk av m z;exact⟨fa,fi,ck,ct,tk,av,m,z.mv λb o V V e=>⟨e,λn z=>n z.1⟩⟩
  refine(mJ c.w n n (Ad _) L kd hL sz t ht hd zt.nf.2 gP Jm bm la) c.A X0 {s with heap:=h4,toks:=t4} [.ref bm,.ref t.f] (F4.ok.CC hk) F4.base (λb z=>F4.Cj b z.1) (.cons (.obj _) (.cons (.obj _) .nil)) g0 (λb z=>z.elim (λz=>z.elim (λz=>z.elim) λz=>z.elim) λz=>by
   have z':b=la:=z;rw[z'];exact⟨lx,vE⟩) _ _ λv5 h5 t5 l5 r5=>?_
  have j1:Bt (Bk la []).fp h4 h5:=l5.any λb z=>z.elim (λz=>z.elim (λz=>z.elim) λz=>z.elim) id;refine EI r5.2.2.1 ?_;intro rO oQ vf V;refine nn h5 t5 (F4.upd ro u j1 ⟨rO,oQ,vf.flat λd' Xx=>?_,nt⟩);rcases Ar.mp Xx with z|z
  .refine Bh (AF.mp z) ?_;rintro x V rfl;rfl
  .unfold tailD at z;split at z
   .rw [AG.mp z];rcases Jm with rfl|⟨y,rfl,_⟩<;>rfl
   .cases z)) hint hs
section
variable {c cc:Cx}{J J' KR J0:B3}{N:Em}{R:Cs}{h h':Heap}{Z:Addr->Heap->Prop}
theorem Ex.jH{body:Dx}{hd:ExceptHandler}(y:Bd c J [body] N R):Ex c J (.Try body [hd] [] [] pos) N R:=λs F Q E n r=>
 wpAny_Try_except (wpAny_mono (y s F (λf s'=>match f with|.next=>Q .next s'|f=>Q f s') _ n λv h' tk z=>r v h' tk z) (λf s' k=>by
  cases f with
  |next=>exact wpAny_execs_nil k
  |_=>exact k) λV V k=>k)
theorem Ex.T5{body:Dx}{tx n:Str}{np sp ep cp xp ap hp:Pos}{msg:Str}{l:List Env}(Sk:DZ c l)(ow:∀x,c.own x)(ro:¬c.ro)(sub:∀b∈Bj l,c.X b)(y:Dg c J [body] λea h'=>∃h1,Fr c J h1/\EN (c.env::l) h1 h' ea msg)(kv:c.env.kindOf (S "ValueError")=some .globalImplicit)(ks:c.env.kindOf (S "str")=some .globalImplicit)(kn:c.env.kindOf n=some .local)(kt:Nm c tx)(pn:Cm n)(nn:n≠tx)(hJ:(J.map (·.1)).contains n=false)(hs:swapsWith (.Call (.Name (S "str") sp) [.Name n ep] [] cp) (some (.Name tx xp)) ap.line c.env=pure false) :
  Ex c J (.Try body [.ExceptHandler (some (.Name (S "ValueError") np)) (some n) [.Assign [.Name tx xp] (.Call (.Name (S "str") sp) [.Name n ep] [] cp) ap] hp] [] [] pos) (λh=>∃D6,Q6 l c.h0 D6/\DZ {c with h0:=D6} l/\Fr {c with h0:=D6} (Hq J tx (.str msg)) h) R:=λs F Q E nx r=>by
 refine wpAny_Try_except (wpAny_mono (y s F (λf s'=>match f with|.next=>wpAny (model prog c.w) c.A (execs [] c.env) Q E s'|f=>Q f s') _ λe h4 tk zz=>?_) (λf s' k=>by cases f<;>exact k) λV V k=>k);obtain⟨h1,F1,B,t,u,k1,k2,k3,k4,k5,k6⟩:=zz;refine wpAny_looks_onW (s:={s with heap:=h4,toks:=tk}) Sk.fr Sk.own k3 λh5 fz vj=>?_;refine wpAny_landsW (s:={s with heap:=h5,toks:=tk}) fz λh6 aM vm=>?_;have cN:h4.UpToSlots h6:=vj.trans vm;have nd:∀b∈Bj (c.env::l),∀o,h1.get? b=some o->∀vs,o.data≠.fields vs:=λb m o e=>by
  obtain⟨_,o',e',n'⟩:=(F1.Lu Sk).mem m;rw[e]at e';cases e';exact n'
 have ub:∀b∈Bj (c.env::l),∀o,h1.get? b=some o->∃sl,h6.get? b=some {o with slots:=sl}:=λb m o e=>by
  refine B5 (k6 b m o e) ?_;intro sl z;refine B5 (cN b _ z (nd b m o e)) ?_;intro ix z2;exact⟨ix,z2⟩
 refine EI (F1.land Sk ow ro sub k1 k2 aM (k4.of_slots cN) k5 ub) ?_;intro wX V Fa V;have hv:S "ValueError"=S "ValueError":=rfl;refine wpAny_handleBy_builtin_as (X:="ValueError") (T:="ValueError") (b:=true) (by rw[isSubtype_type];kernel_rfl) (by rw[isSubtype_type];kernel_rfl) (by rw[isSubtype_type];kernel_rfl) (wpAny_Name (GS (c:=c) Fa.base F.kind F.glob F.blt kv (lookup_mem (by rfl)) (by rfl) (by decide) ⟨rfl,(by refine Dt aM.first ?_;intro o V e z V;exact⟨o,e,z⟩),?_⟩) (by decide));rw[if_pos rfl];refine lands_againW aM λh7 mB vn=>?_;have iy:h4.UpToSlots h7:=cN.trans vn;have uc:∀b∈Bj (c.env::l),∀o,h1.get? b=some o->∃sl,h7.get? b=some {o with slots:=sl}:=λb m o e=>by
  refine B5 (k6 b m o e) ?_;intro sl z;refine B5 (iy b _ z (nd b m o e)) ?_;intro ix z2;exact⟨ix,z2⟩
 refine EI (F1.land Sk ow ro sub k1 k2 mB (k4.of_slots iy) k5 uc) ?_;intro D6 st F7 S7;let c7:Cx:=({c with h0:=D6}:Cx).on c.X (c.G.star (Kl e t msg u));refine Fr.store (c:=c7) (s:={s with heap:=h7,toks:=tk}) (J':=Hq J n (.obj (.ref e))) (d:=.obj (.ref e)) F7 pn (.inl kn) (.obj _) (DF.of rfl) λh8 t8 l8 F8=>?_;refine Bh (F8.names n (.obj (.ref e)) (.head _)) ?_;intro v H rv;cases rv;have hu:(c.A.mark (some (.ref e))).units+2<cLine:=by
  have:=F.ok.units;show c.A.units+2<9900;lia
 refine Ao (wpAny_Assign_Name (wpAny_Call_NameR (wpAny_Name (GS (c:=c) F8.base F.kind F.glob F.blt ks (lookup_mem (by rfl)) (by rfl) (by decide) ?_) (by decide))) hs);refine Ax (wpAny_items_cons (wpAny_Name (D1 H F.kind ?_) H.1.1) (by rfl)) (by rfl) (by rfl);refine wpAny_items_nil ?_;have X8:(Kl e t msg u).P c.w c.X h8:=F8.g.2.1;refine P.str_of_exc_one (s:={s with heap:=h8,toks:=t8}) PySem.F.excStr_ValueError hu X8.2.1 X8.2.2 ?_;refine Fr.store (c:=c7) (s:={s with heap:=h8,toks:=t8}) (J':=Hq (Hq J n (.obj (.ref e))) tx (.str msg)) (d:=.str msg) F8 kt.plain kt.slot (.str _ _) (DF.of rfl) λh9 t9 l9 F9=>?_;refine wpAny_execs_nil ?_;refine Fr.mO (c:=c7) (s:={s with heap:=h9,toks:=t9}) (J':=Hq J tx (.str msg)) F9 kn (λp hp=>?_) λdC vy rY=>nx dC vy ⟨D6,st,S7,?_⟩
 .unfold Hq at hp ⊢;rcases AJ.mp hp with rfl|hp
  .exact ⟨.head _,λz=>nn z.symm⟩
  .refine CB (Az.mp hp) ?_;intro h1 h2;have Hj:p.1≠n:=λz=>by
    have:(J.map (·.1)).contains n=true:=by rw[List.contains_iff_mem,<- z];exact Ab h1
    rw[hJ]at this;cases this
   exact⟨.tail _ (Az.mpr ⟨.tail _ (Az.mpr ⟨h1,by simpa using Hj⟩),h2⟩),Hj⟩
 .exact Fr.less (c:={c with h0:=D6}) (X:=c.X) (G:=c.G.star (Kl e t msg u)) rY (λw X h z=>z.1) λb z=>.inl z
end
noncomputable def KD:Stmt->List Stmt
 |.For _ _ b _ _=>b
 |_=>[]
noncomputable def Q1(i:Nat):Stmt:=(KD ((Br (BZ 26))[3]?.getD (.Pass ⟨0,0,0,0⟩)))[i]?.getD (.Pass ⟨0,0,0,0⟩)
noncomputable def DR(near:D9):List (Str×D):=near.map λp=>(sg p.1,.list (Cv p.2))
noncomputable def FL(nx:Addr)(near:D9)(r:Nat)(d:D)(late:Bool):List (Str×D):=[(S "net",.obj (.ref nx)),(S "near",.dict (DR near)),(S "root",.str (sg r)),(S "tail",d),(S "late",.bool late)]
noncomputable def D0(sx la td:Addr)(lvl:BY)(A:B3):List (Str×D):=(S "level",.list (Cv lvl))::(S "seen",.obj (.ref sx))::(S "line",.obj (.ref la))::(S "things",.obj (.ref td))::A
theorem jE{K:Res}{nx ndx nl sx sdx sl fx fdx fl la td:Addr}{net seen:R2}{near:D9}{lvl:BY}{r:Nat}{late:Bool}(E:Bi c w (BX (BZ 26)) k)(hk:3<=c.k)(hG:c.G=K.star (Bb fx fdx fl (Bf [])))(m7:∀X h,K.P w X h->(CI nx ndx nl (Bf net)).P w X h)(gN:∀X h,K.P w X h->(Bb sx sdx sl (Bf seen)).P w X h)(f1:fl≠fx)(f2:fl≠fdx)(ln:net.length<=100)(ls:seen.length<=100)(Rn:RL net)(Rs:RL seen)(jr:∀a∈lvl,a∈lows)(ll:lvl.length<=4) :
  Ex c ((S "fresh",.obj (.ref fx))::D0 sx la td lvl (FL nx near r d late)) (Q1 1) (λh=>∃X',(∀b,c.X b->X' b)/\Fr (c.on X' (K.star (Bb fx fdx fl (Bf (GL late net seen lvl))))) ((S "fresh",.obj (.ref fx))::D0 sx la td lvl (FL nx near r d late)) h) R:=by
 let R0:List (Str×D):=(S "fresh",.obj (.ref fx))::D0 sx la td lvl (FL nx near r d late);let fr:Nat->R2:=λi=>(lvl.take i).foldl (LY late net seen) [];have hw:c.w=w:=E.hw;have hint:interactive c.env=false:=E.quiet rfl;have mF:∀i,RL (fr i):=λi=>by
  have key:∀(l:BY) (f:R2),(∀a∈l,a∈lows)->RL f->RL (l.foldl (LY late net seen) f):=λl=>by
   induction l with
   |nil=>intro f V h;exact h
   |cons p l ih=>
    intro f hl h;rw[As];exact ih _ (λa ha=>hl a (.tail _ ha)) (Qn (CA p (hl p (.head _))).1 _ _ (λq hq=>HI Rn hq) h)
  exact key _ _ (λa ha=>jr a (Ay ha)) (λp hp=>by cases hp)
 have Y9:∀p,(FW net seen p).length<=100:=λp=>by
  unfold FW C7;refine AD (AV _ _) ?_;rw[AA];exact AD (AV _ _) ln
 have Xr:∀i,i<=4->(fr i).length<=i*200:=λi hi=>by
  have key:∀(l:BY) (f:R2),(l.foldl (LY late net seen) f).length<=f.length+l.length*200:=λl=>by
   induction l with
   |nil=>intro f;simp
   |cons p l ih=>
    intro f;rw[As];have h1:=ih (LY late net seen f p);have h2:=N3 late p (FW net seen p) f;have h3:=Y9 p;have h4:(LY late net seen f p).length<=f.length+200:=by unfold LY;lia
    rw[AZ];lia
  have:=key (lvl.take i) [];have h2:(lvl.take i).length<=i:=List.length_take_le _ _;show((lvl.take i).foldl (LY late net seen) []).length<=_;have h3:(lvl.take i).length*200<=i*200:=Nat.mul_le_mul_right _ h2;simp at this;(clear ll;lia)
 refine(Ex.for (ds:=Cv lvl) E.ro (λi=>K.star (Bb fx fdx fl (Bf (fr i)))) (λV=>R0) hG rfl (Ba.list Ev.n) (λi d0 Gx X1 T1 OC=>?_)).imp (λh zz=>Bh zz λX' a b=>⟨X',a,?_⟩) λv h z=>z
 .unfold Cv at Gx;rw[AL,AS]at Gx;refine Bh Gx ?_;clear Gx;rintro p hp rfl;have pm:=AQ hp;have oR:=jr p pm;refine FO (CA p oR) ?_;intro MD w2 V;have il:i<4:=Ai (AP.mp hp).1 ll;let R1:List (Str×D):=(S "p",.str (sg p))::R0;let c1:Cx:=c.on X1 ((K.star (Bb fx fdx fl (Bf (fr i)))).star T1);have E1:Bi c1 w (BX (BZ 26)) k:=E.on;have fM:fr (i+1)=LY late net seen (fr i) p:=by
   show(lvl.take (i+1)).foldl _ _=_;rw[A3,hp,BH];rfl
  let Ks:Nat->R2:=λj=>((FW net seen p).take j).foldl (IT late p) (fr i);refine⟨R1,Bind.n,?_⟩;have ZU:∀X h,c1.G.P c1.w X h->(CI nx ndx nl (Bf net)).P c1.w X h:=λX h z=>by
   have z1:K.P c.w X h:=z.1.1;rw[hw]at z1;show(CI nx ndx nl (Bf net)).P c.w X h;rw[hw];exact m7 X h z1
  have bA:∀X h,c1.G.P c1.w X h->(Bb sx sdx sl (Bf seen)).P c1.w X h:=λX h z=>by
   have z1:K.P c.w X h:=z.1.1;rw[hw]at z1;show(Bb sx sdx sl (Bf seen)).P c.w X h;rw[hw];exact gN X h z1
  refine Bd.cons (Ex.for (ds:=Cv (FW net seen p)) E1.ro (λj=>(K.star (Bb fx fdx fl (Bf (Ks j)))).star T1) (λV=>R1) rfl rfl (Ba.list (CE.ev (CE.eq (CE.C0 (C7 net p) (λq=>.str (sg q)) (λq=>(C2 seen q).isNone) (λq=>.str (sg q)) (J0:=[(S "seen",.obj (.ref sx))]) E1.co
   (Ba.eq (Ba.list (Ev.JT (f:=128) (k:=2) (G:=CI nx ndx nl (Bf net)) (ds:=[.str (sg p)]) (d:=.list ((C7 net p).map λq=>.str (sg q))) Ev.n (.cons Ev.n .nil) ?_ ?_ ZU (DH.ro ZU) I7 ⟨_,_,_,_,_,H5⟩)) ?_) (λq=>[(S "q",.str (sg q)),(S "seen",.obj (.ref sx))]) (λV V h=>.tail _ h) (λV V V sc=>Bind.n) (λq hq cc sc=>CL.one ?_) (λq V V cc sc=>Ev.n) ?_) ?_))) (λj d1 Oh X2 T2 Hi=>?_)) ?_
  .have g:=CS.ro (NV c1.w 0 nx ndx nl (Bf net) (sg p) (by rw[DC];exact lb ln rfl) (EZ Rn) (AE rfl) (EU MD) (EF p MD));rw[MZ Rn MD,AB]at g;exact g
  .exact AD (by decide) hk
  .rfl
  .have Ga:q∈Bp:=by
    unfold C7 at hq;refine Bh (AF.mp hq) ?_;rintro x hx rfl;exact(Rn x (Az.mp hx).1).2
   have QM:∀X h,cc.G.P cc.w X h->(Bb sx sdx sl (Bf seen)).P cc.w X h:=λX h z=>by rw[sc.w];exact bA X h (sc.g X h z)
   have g:=CS.rw (VI cc.w 0 sx sdx sl (Bf seen) (sg q) (by rw[DC];exact lb ls rfl) (EZ Rs) (AE rfl) (EU Ga) (EF q Ga)) (JA _ _);refine CK.cmp (Bg.isNone (d:=EW (Bf seen) (sg q)) (Ev.JT (f:=136) (k:=2) (G:=Bb sx sdx sl (Bf seen)) Ev.n (.cons Ev.n .nil) g (by rw[sc.k];exact AD (by decide) hk) QM (DH.res QM) Kz ⟨_,_,_,_,_,MU⟩) _ λh v rv=>?_);rw[NY Rs Ga]at rv;cases hf:C2 seen q with
   |none=>rw[hf]at rv;cases rv;rfl
   |some x=>rw[hf]at rv;cases rv;rfl
  .have:(C7 net p).length<=net.length:=by unfold C7;rw[AA];exact AV _ _
   exact lb (AD this ln) rfl
  .rfl
  .unfold Cv at Oh;rw[AL,AS]at Oh;refine Bh Oh ?_;clear Oh;rintro q hq rfl;have Ga:q∈Bp:=HI Rn (AQ hq);have jl:j<100:=Ai (AP.mp hq).1 (Y9 p);have Xn:RL (Ks j):=Qn MD _ _ (λx hx=>HI Rn (Ay hx)) (mF i);have pT:(Ks j).length<=1000-3:=by
    have h1:=N3 late p ((FW net seen p).take j) (fr i);have h2:((FW net seen p).take j).length<=j:=List.length_take_le _ _;have h3:=Xr i (by exact A5 il);have h4:i*200<=3*200:=Nat.mul_le_mul_right _ (by exact Nat.le_of_lt_succ il);show(((FW net seen p).take j).foldl (IT late p) (fr i)).length<=_;lia
   have Uu:Ks (j+1)=Ts (Zk late (Ks j) q p) q p:=by
    show((FW net seen p).take (j+1)).foldl _ _=_;rw[A3,hq,BH];rfl
   let R2:List (Str×D):=(S "q",.str (sg q))::R1;let GX:Mine.R2->Res:=λf=>((K.star (Bb fx fdx fl (Bf f))).star T1).star T2;have uX:∀f f':Mine.R2,Upd (GX f) (Bb fx fdx fl (Bf f)) (Bb fx fdx fl (Bf f')) (GX f'):=λf f'=>Upd.lf (Upd.lf (Upd.rt (Upd.self λb=>Iff.rfl)));have rest:∀f':Mine.R2,RL f'->f'.length<=999->Ts f' q p=Ks (j+1)->Bd (c1.on X2 (GX f')) R2 [((KD (((KD (Q1 1))[0]?).getD (.Pass ⟨0,0,0,0⟩))).drop 1)] (λh=>∃X',(∀b,c1.X b->X' b)/\Fr (c1.on X' (((K.star (Bb fx fdx fl (Bf (Ks (j+1))))).star T1).star T2)) R1 h) R:=λf' rl len fD=>by
    have E2:Bi (c1.on X2 (GX f')) w (BX (BZ 26)) k:=E1.on;have k3:3<=(c1.on X2 (GX f')).k:=hk;have u1:Upd (c1.on X2 (GX f')).G (Bb fx fdx fl (Bf f')) (Bb fx fdx fl (Ew (Bf f') (sg q) (sg p))) (GX (Ks (j+1))):=by
     rw[S3 rl Ga,fD];exact uX f' _
    have pf:∀X h,(GX (Ks (j+1))).P c.w X h->(Bb fx fdx fl (Bf (Ks (j+1)))).P c.w X h:=λX h z=>z.1.1.2.1;have kF:RL (Ks (j+1)):=by rw[<- fD];exact Qq rl Ga MD
    have Ou:(Ks (j+1)).length<=1000:=by rw[<- fD];exact AD (N4 _ _ _) (by exact Nat.succ_le_succ len)
    have sl:=Wf q Ga;have g:=CS.rw (VI c.w 0 fx fdx fl (Bf (Ks (j+1))) (sg (My q)) (by rw[DC];exact Ou) (EZ kF) (AE rfl) (EU sl.1) (EF _ sl.1)) (JA _ _);have ev:EW (Bf (Ks (j+1))) (sg (My q))=.str (FE (Bf f') (sg q) (sg p)):=by
     rw[NY kF sl.1,VZ rl Ga,<- fD,U5 sl.2,Xo]
    refine Bd.Va (c:=c1.on X2 (GX f')) (rows:=Bf f') (n:=sg q) (v:=sg p) E2.ro (by rw[DC];exact Nat.le_succ_of_le len) f1 f2 (EZ rl) (DI Ga true) (DI MD false) (AE rfl) (EU Ga) (EF q Ga) k3 u1 Ev.n Ev.n Ev.n
     (Ev.eq (Ev.JT (f:=136) (k:=2) (G:=Bb fx fdx fl (Bf (Ks (j+1)))) (ds:=[.str (sg (My q))]) Ev.n (.cons (Ev.eq (Ev.swapcase Ev.n (AE rfl)) (by rw[Yt q Ga])) .nil) g (AD (by decide) hk) pf (DH.res (dx:=fdx) (l:=fl) (rows:=Bf (Ks (j+1))) pf) Kz ⟨_,_,_,_,_,MU⟩) ev) ?_
    exact Bd.nil (Bd.nil (Bd.done λh Fh=>⟨X2,Hi,Fh.sub λp hp=>.tail _ hp⟩))
   have E2:Bi (c1.on X2 (((K.star (Bb fx fdx fl (Bf (Ks j)))).star T1).star T2)) w (BX (BZ 26)) k:=E1.on;refine⟨R2,Bind.n,?_⟩;refine Bd.if (b:=late) (CK.val (d:=.bool late) Ev.n trivial) (λhl=>?_) (λhl=>?_)
   .refine Bd.EL (X':=X2) (G':=GX (EJ (Ks j) q p)) (Ex.cG (c:=c1.on X2 (GX (Ks j))) (rows:=Bf (Ks j)) (n:=sg q) (v:=sg p) E2.ro (by rw[DC];lia) f1 f2 (EZ Xn) (DI Ga true) (DI MD false) (AE rfl) (EU Ga) (EF q Ga) hk (by rw[bB Xn Ga];exact uX _ _) Ev.n Ev.n Ev.n) ?_;refine Bd.nil (rest (EJ (Ks j) q p) (SG Xn Ga MD) (AD (PM _ _ _) (by lia)) ?_);rw[Uu];unfold Zk;rw[if_pos hl]
   .refine Bd.nil (rest (Ks j) Xn (by omega) ?_);rw[Uu];unfold Zk;rw[if_neg (by rw[hl];decide)]
  .intro h2 Cq;refine Bh Cq ?_;intro X2 Hi F2;have ef:Ks (Cv (FW net seen p)).length=fr (i+1):=by
    rw[fM];unfold Cv;rw[AA];show((FW net seen p).take _).foldl _ _=_;rw[BF];rfl
   rw[ef]at F2;exact⟨c1.on X2 ((K.star (Bb fx fdx fl (Bf (fr (i+1))))).star T1),R1,⟨rfl,rfl,rfl⟩,F2,Bd.nil (Bd.done λh Fh=>⟨X2,λb z=>Hi b (OC b z),Fh.sub λp hp=>.tail _ hp⟩)⟩
 .have ef:fr (Cv lvl).length=GL late net seen lvl:=by
   unfold Cv;rw[AA];show(lvl.take _).foldl _ _=_;rw[BF];rfl
  rw[ef]at b;exact b
theorem Xk(L:Cz)(a:Nat):((J8 L).lookup (sg a)).isSome=(L.map (·.tag)).contains a:=by
 induction L with
 |nil=>rfl
 |cons t L ih=>
  unfold J8;rw[AI,AI,AK,List.contains_cons];by_cases h:a=t.tag
  .subst h;simp
  .have h1:(sg a==sg t.tag)=false:=by rw[Av];exact λe=>h (Eh e)
   have h2:(a==t.tag)=false:=by rw[Av];exact h
   rw[h1,h2,Bool.false_or];exact ih
theorem TU{near:D9}{p:Nat}{l:BY}(h:near.lookup p=some l):(DR near).lookup (sg p)=some (.list (Cv l)):=by
 unfold DR;rw[FH sg (λV V=>Eh) (λl:List Nat=>D.list (Cv l)) p near,h];rfl
theorem U6{f:R2}{r:Nat×Nat}(hr:r∈f):∃v,C2 f r.1=some v:=by
 unfold C2;cases h:f.find? λp=>Cg p.1==Cg r.1 with
 |none=>
  have:=List.find?_eq_none.mp h r hr;simp at this
 |some x=>exact⟨_,rfl⟩
theorem jF{nx sx fx fdx fl la td:Addr}{L:Cz}{th:TH}{f:R2}{near:D9}{lvl:BY}{r:Nat}{late:Bool}{rest:Dx}{ls:List (List Stmt)}(E:Bi c w (BX (BZ 26)) k)(hk:3<=c.k)(mX:∀X h,c.G.P c.w X h->(Bv td (J8 L)).P c.w X h)(Og:∀X h,c.G.P c.w X h->(CI fx fdx fl (Bf f)).P c.w X h)(et:L.map (·.tag)=CR th)(Rg:∀p∈lvl,near.lookup p=some (G8 near p)/\(G8 near p).length<=100/\∀q∈G8 near p,q∈Bp)(jr:∀a∈lvl,a∈lows)(ll:lvl.length<=100)(Rf:RL f)(lf:f.length<=100)(lp:(D3 near th lvl).length<=100)(he:Gk f=NK late (D3 near th lvl))(ht:∀x∈Gk f,x.1∈lows/\x.2∈lows)(x:Bd c ((S "told",.list ((Gk f).map B7))::(S "due",.list ((NK late (D3 near th lvl)).map B7))::(S "pairs",.list ((D3 near th lvl).map B7))::(S "fresh",.obj (.ref fx))::D0 sx la td lvl (FL nx near r d late)) (rest::ls) N R) :
  Bd c ((S "fresh",.obj (.ref fx))::D0 sx la td lvl (FL nx near r d late)) ((Q1 2::Q1 3::Q1 4::Q1 5::rest)::ls) N R:=by
 let R0:List (Str×D):=(S "fresh",.obj (.ref fx))::D0 sx la td lvl (FL nx near r d late);let pr:=D3 near th lvl;have rC:∀p∈pr,p.1<128/\p.2<128:=λp hp=>by
  refine Bh (Am.mp hp) ?_;intro a ha hp;refine Bh (AF.mp hp) ?_;rintro b hb rfl;have h1:=(Rg a ha).2.2 b (Az.mp hb).1;exact⟨GR _ (CA _ (Rr b h1)).1,GR _ (CA a (jr a ha)).1⟩
 refine Bd.step (J':=(S "pairs",.list (pr.map B7))::R0) (Ex.sc E (d:=.list (pr.map B7)) (CE.ev (CE.eq (CE.OO lvl (λp=>.str (sg p)) (λp=>G8 near p) (λV q=>.str (sg q)) (λV q=>!(CR th).contains (Cg q)) (λp q=>B7 (Cg q,p)) (J0:=[(S "things",.obj (.ref td)),(S "near",.dict (DR near))]) E.co
  (Ba.list Ev.n) (λp=>[(S "p",.str (sg p)),(S "things",.obj (.ref td)),(S "near",.dict (DR near))]) (λV V h=>.tail _ h) (λV V V sc=>Bind.n) (λp hp cc sc=>Ba.list (Ev.CQ (d:=.list (Cv (G8 near p))) Ev.n Ev.n (TU (Rg p hp).1)))
  (λp q=>[(S "q",.str (sg q)),(S "p",.str (sg p)),(S "things",.obj (.ref td)),(S "near",.dict (DR near))]) (λV V V h=>.tail _ h) (λV V V V V sc=>Bind.n) (λp hp q hq cc sc=>CL.one (CK.cmp (Bg.eq (Bg.YW (a:=td) (es:=J8 L) (λX h z=>?_) (Ev.eq (Ev.lower Ev.n (AE rfl)) (congrArg D.str (GA q ((Rg p hp).2.2 q hq)))) Ev.n) ?_)))
  (λp hp q hq V cc sc=>Ev.tp (.cons (Ev.eq (Ev.lower Ev.n (AE rfl)) (congrArg D.str (GA q ((Rg p hp).2.2 q hq)))) (.cons Ev.n .nil))) ?_) ?_))) ?_
 .rw [sc.w];exact mX X h (sc.g X h z)
 .rw [Xk,et]
 .have e:(lvl.flatMap λp=>((G8 near p).filter λq=>!(CR th).contains (Cg q)).map λq=>B7 (Cg q,p))=pr.map B7:=by
   show _=(lvl.flatMap _).map B7;rw[BP];congr 1;funext p;rw[AB];rfl
  rw[e,AA];exact AD lp (by decide)
 .show D.list _=D.list ((lvl.flatMap _).map B7);rw[BP];congr 2;funext p;rw[AB];rfl
 .let du:=NK late pr;refine Bd.step (J':=(S "due",.list (du.map B7))::(S "pairs",.list (pr.map B7))::R0) (Ex.cL E (d:=.list (du.map B7)) (CE.eq (CE.C0 pr.zipIdx (λx=>.tup [.int (x.2:Nat),B7 x.1]) (λx=>!((if late then pr.drop (x.2+1)else pr.take x.2).map (·.1)).contains x.1.1) (λx=>B7 x.1) (J0:=[(S "pairs",.list (pr.map B7)),(S "late",.bool late)]) E.co
   (Ba.eq (Ba.enum Ev.b Ev.n) (Fw _ _)) (λx=>[(S "p",.str (sg x.1.2)),(S "q",.str (sg x.1.1)),(S "k",.int (x.2:Nat)),(S "pairs",.list (pr.map B7)),(S "late",.bool late)]) (λV V h=>.tail _ (.tail _ (.tail _ h))) (λV V V sc=>Bind.tup (.cons Bind.n (.cons (Bind.tup (.cons Bind.n (.cons Bind.n .nil))) .nil)))
   (λx hx cc sc=>CL.one (CK.cmp (Bg.V5 (x:=x.1.1) (os:=(if late then pr.drop (x.2+1)else pr.take x.2).map (·.1)) Ev.n (CE.ev (CE.eq (CE.C0 (if late then pr.drop (x.2+1)else pr.take x.2) B7 (λV=>true) (λy=>.str (sg y.1)) (J0:=[]) sc.co (Ba.list (Ev.K5 (d:=.list ((if late then pr.drop (x.2+1)else pr.take x.2).map B7)) (CK.val (d:=.bool late) Ev.n trivial) (λhl=>Ev.eq (Ev.EH Ev.n (Part.int (Ev.Ij Ev.n Ev.cInt)) Part.no ?_) ?_) (λhl=>Ev.eq (Ev.EH Ev.n Part.no (Part.int Ev.n) ?_) ?_)))
    (λy=>[(S "by",.str (sg y.2)),(S "one",.str (sg y.1))]) (λV V h=>by cases h) (λV V V sc=>Bind.tup (.cons Bind.n (.cons Bind.n .nil))) (λV V V V=>CL.nil) (λV V V cc sc=>Ev.n) ?_) ?_)) ?_ ?_))) (λx V V cc sc=>Ev.tp (.cons Ev.n (.cons Ev.n .nil))) ?_) ?_)) ?_
  .rw [AA];exact AD lp (by decide)
  .have mu:late=true:=hl;have e1:((x.2:Nat):Int)+1=((x.2+1:Nat):Int):=by lia
   rw[if_pos mu,e1,Di,List.map_drop]
  .rw [AA];exact AD lp (by decide)
  .have mu:late=false:=hl;rw[if_neg (by rw[mu];decide),NI,List.map_take]
  .have h1:(pr.drop (x.2+1)).length<=pr.length:=by rw[AM];(clear hk ll lf lp;omega)
   have h2:(pr.take x.2).length<=pr.length:=by rw[Ae];(clear h1;lia)
   have h3:pr.length<=100:=lp;cases late<;>simp only[AR,if_false,if_true]<;>lia
  .rw [Bx,AB];rfl
  .exact (rC _ (mem_zipIdx hx).2.1).1
  .intro a ha;refine Bh (AF.mp ha) ?_;rintro y hy rfl;refine(rC y ?_).1;cases late
   .exact Ay hy
   .exact Aj hy
  .rw [List.length_zipIdx];exact AD lp (by decide)
  .show D.list _=D.list ((List.map _ _).map B7);rw[AB];rfl
  .let to:=Gk f;refine Bd.step (J':=(S "told",.list (to.map B7))::(S "due",.list (du.map B7))::(S "pairs",.list (pr.map B7))::R0) (Ex.cL E (d:=.list (to.map B7)) (CE.eq (CE.C0 f (λr=>.str (sg r.1)) (λV=>true) (λr=>B7 (Cg r.1,(C2 f r.1).getD 0)) (J0:=[(S "fresh",.obj (.ref fx))]) E.co
    (Ba.list (Ev.eq (Ev.UT (f:=141) (k:=1) (G:=CI fx fdx fl (Bf f)) (d:=.list ((Bf f).map λr=>.str r.1)) Ev.n (CS.ro (fV c.w 0 fx fdx fl (Bf f) (by rw[DC];exact lb lf rfl))) (AD (by decide) hk) Og (DH.ro Og) Xz ⟨_,_,_,_,_,U1⟩) ?_)) (λr=>[(S "q",.str (sg r.1)),(S "fresh",.obj (.ref fx))]) (λV V h=>.tail _ h) (λV V V sc=>Bind.n) (λV V V V=>CL.nil)
    (λr hr V cc sc=>Ev.tp (.cons (Ev.eq (Ev.lower Ev.n (AE rfl)) (congrArg D.str (GA r.1 (Rf r hr).1))) (.cons ?_ .nil))) ?_) ?_)) ?_
   .unfold Bf;rw[AB];rfl
   .have PF:=(Rf r hr).1;have qE:∀X h,cc.G.P cc.w X h->(CI fx fdx fl (Bf f)).P cc.w X h:=λX h z=>by rw[sc.w];exact Og X h (sc.g X h z)
    have g:=CS.ro (VI cc.w 0 fx fdx fl (Bf f) (sg r.1) (by rw[DC];exact lb lf rfl) (EZ Rf) (AE rfl) (EU PF) (EF _ PF));refine Ev.eq (Ev.JT (f:=136) (k:=2) (G:=CI fx fdx fl (Bf f)) (ds:=[.str (sg r.1)]) Ev.n (.cons Ev.n .nil) g (by rw[sc.k];exact AD (by decide) hk) qE (DH.ro qE) Kz ⟨_,_,_,_,_,MU⟩) ?_;rw[NY Rf PF];refine B5 (U6 hr) ?_;intro v hv;rw[hv];rfl
   .exact lb lf rfl
   .rw [Bx];show D.list _=D.list ((List.map _ f).map B7);rw[AB];rfl
   .have tl:∀p∈to,p.1<128/\p.2<128:=λp hp=>⟨GR _ (CA _ (ht p hp).1).1,GR _ (CA _ (ht p hp).2).1⟩;have dl:∀p∈du,p.1<128/\p.2<128:=λp hp=>tl p (by show p∈Gk f;rw[he];exact hp);have s9:(!(D.list (to.map B7)).eqv (.list (du.map B7)))=false:=by
     rw[Us];have:to=du:=he;simp[this]
    refine Bd.if (b:=false) (CK.cmp (Bg.eq (Bg.W7 (n:=2) (m:=2) Ev.n Ev.n (H6 tl) (H6 dl)) s9)) (λh=>by cases h) λV=>Bd.nil ?_
    exact x
theorem Ev.RC{t:Th}(hG:∀X h,c.G.P c.w X h->Lx c.w X h t)(x:Ev c J o (.obj (.ref t.f)))(he:autoParam (eval (.Attribute o (Str.ofString "attrib") pos) c.env=(do
   let o' <- eval o c.env;standAt pos.atName;let r <- holding [o'] (getAttr o' (Str.ofString "attrib") true);letTemporaryGo o o' r;pure r)) Dy):Ev c J (.Attribute o (Str.ofString "attrib") pos) (.dict (Ia t.way t.above)):=λs F Q E q=>
 BQ (x s F _ _ λv' h1 t1 l1 r1=>by
  cases r1;have F1:=F.le l1;refine Mo (FK (hG _ _ F1.g)) ?_;intro m fa fi ck ct tk av z;have rv:=z.av;have hh:handedOut av=pure av:=by cases rv;rfl
  exact GK I0 z.fn.kM z.ms.at_ hh (q _ h1 _ l1 rv)) he
noncomputable def KC(G0:Res)(td la sx sdx sl:Addr)(L:Cz)(rows:R2):Res:=((G0.star (Ge td L)).star (Bk la [])).star (Bb sx sdx sl (Bf rows))
def JL(L:Cz)(r:Nat)(d:D):Prop:=∃t∈L,t.tag=r/\t.tl=some d
theorem WN{L:Cz}{r:Nat}(h:JL L r d)(a:Nat)(kf:Addr)(t':Th):JL (CW L a kf++[t']) r d:=by
 refine EI h ?_;clear h;intro t ht e1 e2;refine⟨_,List.mem_append_left _ (Ab ht),?_⟩;split<;>exact⟨e1,e2⟩
theorem jG{G0 T Z:Res}{td la sx sdx sl:Addr}{L:Cz}{th:TH}{seen told:R2}{r:Nat}{A:B3}(E:Bi c w (BX (BZ 26)) k)(hk:3<=c.k)(hG:c.G=((KC G0 td la sx sdx sl L seen).star T).star Z)(I:Dc L th)(hr:JL L r d)(s1:sl≠sx)(s2:sl≠sdx)(Rs:RL seen)(nd:(CR th++told.map (·.1)).Nodup)(hp:∀x∈told,x.2∈CR th)(K0:∀x∈told,x.1∈lows/\x.2∈lows)(len:(CR th++told.map (·.1)).length<=20)(ls:(seen++told).length<=100)(tO:A.lookup (S "told")=some (.list (told.map B7)))(mS:A.lookup (S "things")=some (.obj (.ref td)))(tN:A.lookup (S "seen")=some (.obj (.ref sx)))(tL:(A.map (·.1)).contains (S "p")=false)(tM:(A.map (·.1)).contains (S "q")=false){B:Nat}(hB:B<=800)(gQ:∀t∈L,t.way.length<=B) :
  Ex c A (Q1 6) (λh=>∃L' X',Dc L' (told.foldl Ft th)/\JL L' r d/\(∀t∈L',t.way.length<=B+20)/\(∀b,c.X b->X' b)/\Fr (c.on X' (((KC G0 td la sx sdx sl L' (seen++told)).star T).star Z)) A h) R:=by
 have hint:interactive c.env=false:=E.quiet rfl;refine(Ex.fK (ds:=told.map B7) E.ro (λj G J=>∃L,Dc L ((told.take j).foldl Ft th)/\JL L r d/\(∀t∈L,t.way.length<=B+j)/\G=((KC G0 td la sx sdx sl L (seen++told.take j)).star T).star Z/\J=A) ⟨L,by simpa using I,hr,gQ,by simpa using hG,rfl⟩ (Ba.list (Ev.n (h:=tO))) (λj d1 Oh G J1 hI X1 T1 OC=>?_)).imp (λh zz=>?_) λv h z=>z
 .refine W8 hI ?_;clear hI;intro L1 I1 r1 w1 e1 e2;subst e1 J1;rw[AL,AS]at Oh;refine Bh Oh ?_;clear Oh;rintro x hx rfl;obtain⟨q,p⟩:=x;have xm:=AQ hx;refine CB (K0 _ xm) ?_;intro ql pl;dsimp only at ql pl;refine FO (CA q ql) ?_;intro Ga V V;refine FO (CA p pl) ?_;intro MD V V;have tg:CR ((told.take j).foldl Ft th)=CR th++(told.take j).map (·.1):=Tw _ _;have pin:p∈CR ((told.take j).foldl Ft th):=by rw[tg];exact List.mem_append_left _ (hp _ xm)
  refine Bh (I1.get pin) ?_;intro t ht et;have ia:q∉CR ((told.take j).foldl Ft th):=by
   rw[tg];have e:told.map (·.1)=(told.take j).map (·.1)++q::(told.drop (j+1)).map (·.1):=by
    have hj:=(AP.mp hx)
    refine B5 hj ?_;clear hj;intro Dw uV;conv=>lhs;rw[<- List.take_append_drop j told,List.drop_eq_getElem_cons Dw,uV]
    rw[Af,AI]
   rw[e,<- List.append_assoc,List.nodup_append]at nd;intro z;exact nd.2.2 q z q (.head _) rfl
  have jl:j<told.length:=(AP.mp hx).1;rw[Ac,AA]at len;rw[Ac]at ls;have w4:(told.take j).length<=j:=List.length_take_le _ _;have Y7:L1.length<=1000:=by
   rw[I1.len,Ov];have:(CR th).length=th.length:=AA _;lia
  have kl:t.kids.length<=1000:=by
   rw[(I1.kids t ht).len];refine AD (YF _ _) ?_;rw[<- I1.len];exact Y7
  subst et;have dY:(L1.map (·.tag)).Nodup:=by rw[I1.tags];exact I1.nd
  have wl:t.way.length<=900:=by have:=w1 t ht;(clear len;lia)
  let KA:List Th->Res:=λL'=>(((((Bv td (J8 L')).star (Bl L')).star (Bk la [])).star (Bb sx sdx sl (Bf (seen++told.take j)))).star T).star Z;let A':List (Str×D):=(S "p",.str (sg t.tag))::(S "q",.str (sg q))::A;let c1:Cx:=c.on X1 ((((KC G0 td la sx sdx sl L1 (seen++told.take j)).star T).star Z).star T1);have E1:Bi c1 w (BX (BZ 26)) k:=E.on;have mR:(((S "q",D.str (sg q))::A).map (·.1)).contains (S "p")=false:=by
   rw[AI,List.contains_cons,tL];rfl
  have kp:A'.lookup (S "things")=some (.obj (.ref td)):=by
   show((S "p",D.str (sg t.tag))::(S "q",D.str (sg q))::A).lookup _=_;rw[AK,AK,mS];rfl
  have ks:A'.lookup (S "seen")=some (.obj (.ref sx)):=by
   show((S "p",D.str (sg t.tag))::(S "q",D.str (sg q))::A).lookup _=_;rw[AK,AK,tN];rfl
  have hT:∀X h,c1.G.P c1.w X h->(Ge td L1).P c1.w X h:=λX h z=>z.1.1.1.1.1.2.1;refine⟨A',Bind.tup (.cons (Bind.n (h:=tM)) (.cons (Bind.n (h:=mR)) .nil)),?_⟩;have F:=λX h (z:c1.G.P c1.w X h)=>z.1.1.1.1.1.2.1;refine Bd.cons (Ex.cI (p:=t) (q:=q) (a:=t.tag) (way':=t.way++[q]) (td:=td) (L:=L1)
   (G1:=λt'=>(((((G0.star ((Bv td (J8 L1)).star (Bl (CW L1 t.tag t'.f++[t'])))).star (Bk la [])).star (Bb sx sdx sl (Bf (seen++told.take j)))).star T).star Z).star T1)
   (G':=λt'=>(((KC G0 td la sx sdx sl (CW L1 t.tag t'.f++[t']) (seen++told.take j)).star T).star Z).star T1)
   (N:=λh=>∃(t':Th) (X':CF),t'.tag=q/\t'.way=t.way++[q]/\t'.above=some t.tag/\t'.kids=[]/\(∀b,c1.X b->X' b)/\Fr (c1.on X' ((((KC G0 td la sx sdx sl (CW L1 t.tag t'.f++[t']) (seen++told.take j)).star T).star Z).star T1)) A' h)
   E1.ro dY ht kl (by rw[I1.tags];exact ia) Y7 hk
   (λt' V=>Gq.lf (Gq.lf (Gq.lf (Gq.lf (Gq.lf (Gq.rt (Gq.self ?_)))))))
   (λt' V=>Upd.lf (Upd.lf (Upd.lf (Upd.lf (Upd.lf (Upd.rt (Upd.lf (Upd.self λb=>Iff.rfl))))))))
   Ev.g (Ev.G5 (λX h z=>(hT X h z).1) (Ev.n (h:=kp)) Ev.n (J9 dY ht)) Ev.n
   (Ev.RC (λX h z=>?_) (Ev.G5 (λX h z=>(hT X h z).1) (Ev.n (h:=kp)) Ev.n (J9 dY ht)))
   (Ev.eq (Ev.d9 (a:=tx t.way) (b:=sg q) (Ev.CQ (Ev.RC (λX h z=>?_) (Ev.G5 (λX h z=>(hT X h z).1) (Ev.n (h:=kp)) Ev.n (J9 dY ht))) Ev.cStr ?_) Ev.n ?_) ?_)
   Ev.n (λV V=>Ev.n (h:=kp)) (λV V=>Ev.n)
   (λt' X' h e1 e2 e3 e4 e5 hX F=>⟨t',X',e1,e2,e3,e4,hX,F⟩)) ?_
  .intro b z;rcases z with z|z
   .exact .inl (.inl z)
   .rcases HX.mp z with y|y
    .exact .inl (.inr ((Ik L1 t.tag t'.f b).mp y))
    .exact .inr y
  .exact (hT X h z).2.1.1 t ht
  .exact (hT X h z).2.1.1 t ht
  .unfold Ia;cases t.above<;>rfl
  .have:(tx t.way).length=t.way.length:=rfl;rw[this];show t.way.length+1<=_;omega
  .rw [show sg q=tx [q]from rfl,Wq]
  .intro h2 Cq;refine V6 Cq ?_;intro t' X' e1 e2 e3 e4 Sx F2;have I2:=Wm I1 ht ia e1 e2 e3 e4;have e5:(told.take (j+1)).foldl Ft th=Ft ((told.take j).foldl Ft th) (q,t.tag):=by
    rw[A3,hx,BH];rfl
   have e6:seen++told.take (j+1)=(seen++told.take j)++[(q,t.tag)]:=by
    rw[A3,hx,List.append_assoc];rfl
   have rl:RL (seen++told.take j):=λp hp=>by
    rcases Ar.mp hp with hp|hp
    .exact Rs p hp
    .have:=K0 p (Ay hp);exact⟨(CA _ this.1).1,(CA _ this.2).1⟩
   let c2:Cx:=c1.on X' ((((KC G0 td la sx sdx sl (CW L1 t.tag t'.f++[t']) (seen++told.take j)).star T).star Z).star T1);have E2:Bi c2 w (BX (BZ 26)) k:=E1.on;refine⟨c2,A',⟨rfl,rfl,rfl⟩,F2,?_⟩;refine Bd.EL (X':=X') (G':=(((KC G0 td la sx sdx sl (CW L1 t.tag t'.f++[t']) (seen++told.take (j+1))).star T).star Z).star T1) (J':=A') (Ex.Ii (c:=c2) (rows:=Bf (seen++told.take j)) (n:=sg q) (v:=sg t.tag) E2.ro (by rw[DC,Ac];lia) s1 s2 (DI Ga true) (DI MD false) (AE rfl) (AD (by decide) hk) ?_ (Ev.n (h:=ks)) Ev.n Ev.n (E2.quiet rfl)) ?_
   .have e7:Bf (seen++told.take j)++[(sg q,sg t.tag)]=Bf (seen++told.take (j+1)):=by
     rw[e6];unfold Bf;rw[Af (l₁:=seen++told.take j)];rfl
    rw[e7];exact Upd.lf (Upd.lf (Upd.lf (Upd.rt (Upd.self λb=>Iff.rfl))))
   .refine Bd.nil (Bd.done λh3 F3=>⟨_,A,X',⟨CW L1 t.tag t'.f++[t'],?_,WN r1 _ _ _,λx QN=>?_,rfl,rfl⟩,λb z=>Sx b (OC b z),F3.sub λp hp=>.tail _ (.tail _ hp)⟩)
    .rw [e5];exact I2
    .rcases Ar.mp QN with QN|QN
     .refine Bh (AF.mp QN) ?_;rintro x0 h0 rfl;have:=w1 x0 h0;split<;>(first|lia|(show x0.way.length<=_;lia))
     .rw [AG.mp QN,e2,Ac];have:=w1 t ht;simp only[AZ,BS];lia
 .refine Mn zz ?_;clear zz;intro G J1 X1 Du OC F1;refine W8 Du ?_;intro L1 I1 r1 w1 e1 e2;have e3:(told.map B7).length=told.length:=AA _;rw[e3,BF]at I1 e1;rw[e3]at w1;rw[Ac,AA]at len;subst e1 J1;exact⟨L1,X1,I1,r1,λt ht=>AD (w1 t ht) (by lia),OC,F1⟩
theorem Bd.weak{ls:List (List Stmt)}(s:∀p∈J',p∈J)(x:Bd c J' ls N R):Bd c J ls N R:=λt F Q E n r=>x t (F.sub s) Q E n r
theorem Qy{A B C:Res}(z:(A.star (B.star C)).P w X h):((A.star B).star C).P w X h:=
 ⟨⟨z.1,z.2.1.1,λb x y=>z.2.2 b x (.inl y)⟩,z.2.1.2.1,λb x y=>x.elim (λx=>z.2.2 b x (.inr y)) λx=>z.2.1.2.2 b x y⟩
theorem cO{A:Res}(z:(A.star Res.emp).P w X h):A.P w X h:=z.1
def Q9(w:World)(X:CF)(nm:BY)(d:D)(th:TH)(v:Value)(h:Heap):Prop:=
 ∃TT:TT,TT.map (λt=>(t.1,t.2.2))=th/\B8 X w h v (.tup [.dict (Lk TT),.list (Cv nm++tailD d)])/\(HG TT).P w X h
structure Pm(near:D9):Prop where
 row:∀p l,near.lookup p=some l->l.length<=100/\∀q∈l,q∈Bp
theorem T7{late:Bool}{net:R2}{near:D9}{s s':St}(e:IW late net near s=some s'):∃f told,f=GL late net s.seen s.lvl/\told=Gk f/\told=NK late (D3 near s.th s.lvl)/\(CR s.th++told.map (·.1)).Nodup/\(∀x∈told,x.2∈CR s.th)/\(∀x∈told,x.1∈lows/\x.2∈lows)/\(∀x∈told,(near.lookup x.1).isSome=true)/\told.length<=4/\(CR s.th++told.map (·.1)).length<=20/\f.length<=100/\(s.seen++told).length<=100/\(D3 near s.th s.lvl).length<=100/\s'=⟨told.map (·.1),s.seen++told,told.foldl Ft s.th⟩:=by
 unfold IW at e;dsimp only at e;split at e
 .rename_i z;exact⟨_,_,rfl,rfl,z.1,z.2.1,z.2.2.1,z.2.2.2.1,z.2.2.2.2.1,z.2.2.2.2.2.1,z.2.2.2.2.2.2.1,z.2.2.2.2.2.2.2.1,z.2.2.2.2.2.2.2.2.1,z.2.2.2.2.2.2.2.2.2,(Option.some.inj e).symm⟩
 .cases e
theorem Oa{late:Bool}{net seen:R2}(h:RL net):∀(l:BY) (f:R2),(∀a∈l,a∈lows)->RL f->RL (l.foldl (LY late net seen) f)
 |[],f,_,h1=>h1
 |p::l,f,hl,h1=>by
  rw[As];exact Oa h l _ (λa ha=>hl a (.tail _ ha)) (Qn (CA p (hl p (.head _))).1 _ _ (λq hq=>HI h hq) h1)
theorem Yx{l:R2}(h:∀x∈l,x.1∈lows/\x.2∈lows):RL l:=λx hx=>⟨(CA _ (h x hx).1).1,(CA _ (h x hx).2).1⟩
structure UP(near:D9)(r:Nat)(d:D)(i:Nat)(st:St)(L:Cz):Prop where
 tree:Dc L st.th
 root:JL L r d
 way:∀t∈L,t.way.length<=20*i
 lvl:∀a∈st.lvl,a∈lows/\(near.lookup a).isSome=true
 four:st.lvl.length<=4
 seen:RL st.seen
 Iy:st.seen.length<=100
theorem U3:B9 273 (BZ 26) (S "_law_tree") 272 .none CX:=⟨λP=>rfl,λP=>⟨_,_,_,rfl,rfl,rfl⟩,rfl,rfl,rfl⟩
theorem Wk{T1:Res}{nx ndx nl td la sx sdx sl:Addr}{L:Cz}{net:R2}{near:D9}{r:Nat}{late:Bool}{i:Nat}{st Lv:St}(E:Bi c w (BX (BZ 26)) k)(hk:3<=c.k)(hG:c.G=(KC (CI nx ndx nl (Bf net)) td la sx sdx sl L st.seen).star T1)(I:UP near r d i st L)(hi:i<=10)(s1:sl≠sx)(s2:sl≠sdx)(Rn:RL net)(ln:net.length<=100)(No:Pm near)(ht:IW late net near st=some Lv) :
  Bd c (D0 sx la td st.lvl (FL nx near r d late)) [Q1 0::Q1 1::Q1 2::Q1 3::Q1 4::Q1 5::Q1 6::Q1 7::[]] (λh=>∃L' X',UP near r d (i+1) Lv L'/\(∀b,c.X b->X' b)/\Fr (c.on X' ((KC (CI nx ndx nl (Bf net)) td la sx sdx sl L' Lv.seen).star T1)) (D0 sx la td Lv.lvl (FL nx near r d late)) h) R:=by
 obtain⟨f,told,ef,et,lV,nd,hp,K0,uQ,l4,len,lf,ls,lp,tB⟩:=T7 ht;let R0:=D0 sx la td st.lvl (FL nx near r d late);have hint:interactive c.env=false:=E.quiet rfl;refine Bd.cons (Ex.KN (N:=λh=>∃fx fdx fl X',fl≠fx/\fl≠fdx/\(∀b,c.X b->X' b)/\(∀b,(Bb fx fdx fl []).fp b->Gg c b X')/\Fr (c.on X' (c.G.star (Bb fx fdx fl (Bf [])))) ((S "fresh",.obj (.ref fx))::R0) h) (FN.Gx Ev.g hk) (E.nm (.inr rfl)) (by rfl) λd1 T h X' zz hX nw F1=>?_) ?_
 .refine V7 zz ?_;clear zz;intro fx fdx fl e1 e2 n1 n2;subst e1 e2;exact⟨fx,fdx,fl,X',n1,n2,hX,nw,F1⟩
 .intro h1 Cq;refine kA Cq ?_;intro fx fdx fl X2 n1 n2 Hi nw F2;let c2:Cx:=c.on X2 (c.G.star (Bb fx fdx fl (Bf [])));have E2:Bi c2 w (BX (BZ 26)) k:=E.on;have hw:c.w=w:=E.hw;refine⟨c2,_,⟨rfl,rfl,rfl⟩,F2,?_⟩;refine Bd.cons (jE (c:=c2) (K:=c.G) (net:=net) (seen:=st.seen) (near:=near) (lvl:=st.lvl) (nx:=nx) (ndx:=ndx) (nl:=nl) (sx:=sx) (sdx:=sdx) (sl:=sl) (d:=d) (r:=r) (late:=late) E2 hk rfl (λX h z=>?_) (λX h z=>?_) n1 n2 ln I.Iy Rn I.seen (λa ha=>(I.lvl a ha).1) I.four) ?_
  .rw [hG]at z;exact z.1.1.1.1
  .rw [hG]at z;exact z.1.2.1
  .intro h3 Du;refine Bh Du ?_;intro X3 ZN F3;rw[<- ef]at F3;have rZ:=Fr.NU (c:=c2) (G:=c.G) (x:=fx) (dx:=fdx) (l:=fl) (rows:=Bf f) F3 λb z=>(nw b z).old;let X4:Addr->Prop:=λb=>X3 b/\¬(Bb fx fdx fl (Bf f)).fp b;have mW:∀b,c.X b->X4 b:=λb z=>⟨ZN b (Hi b z),λy=>(nw b y).out z⟩;let c3:Cx:=c2.on X4 (c.G.star (CI fx fdx fl (Bf f)));have E3:Bi c3 w (BX (BZ 26)) k:=E2.on;refine⟨c3,_,⟨rfl,rfl,rfl⟩,rZ,?_⟩;have tD:RL f:=by rw[ef];exact Oa Rn _ _ (λa ha=>(I.lvl a ha).1) λp hp=>by cases hp
   rw[et]at K0;refine jF (c:=c3) (L:=L) (th:=st.th) (f:=f) E3 hk (td:=td) (fx:=fx) (fdx:=fdx) (fl:=fl) (λX h z=>?_) (λX h z=>z.2.1) I.tree.tags (λp hp=>?_) (λa ha=>(I.lvl a ha).1) (AD I.four (by decide)) tD lf lp (et▸lV) K0 ?_
   .have z1:=z.1;rw[hG]at z1;exact z1.1.1.1.2.1.1
   .refine B5 (A6.mp (I.lvl p hp).2) ?_;intro l hl;have e:G8 near p=l:=by unfold G8;rw[hl];rfl
    rw[e];exact⟨hl,No.row p l hl⟩
   .rw [<- et]at K0 ⊢;let R3:List (Str×D):=(S "told",.list (told.map B7))::(S "due",.list ((NK late (D3 near st.th st.lvl)).map B7))::(S "pairs",.list ((D3 near st.th st.lvl).map B7))::(S "fresh",.obj (.ref fx))::R0;refine Bd.cons (jG (c:=c3) (G0:=CI nx ndx nl (Bf net)) (T:=T1) (Z:=CI fx fdx fl (Bf f)) (td:=td) (la:=la) (sx:=sx) (sdx:=sdx) (sl:=sl) (L:=L) (th:=st.th) (seen:=st.seen) (told:=told) (r:=r) (d:=d) (A:=R3) E3 hk (by show c.G.star _=_;rw[hG]) I.tree I.root s1 s2 I.seen nd hp K0 len ls rfl rfl rfl rfl rfl (B:=20*i) (hO hi rfl) I.way) ?_;intro h5 HU;refine Qe HU ?_;intro L' X5 It Ir Iw tU F5;let c5:Cx:=c3.on X5 (((KC (CI nx ndx nl (Bf net)) td la sx sdx sl L' (st.seen++told)).star T1).star (CI fx fdx fl (Bf f)));have E5:Bi c5 w (BX (BZ 26)) k:=E3.on;refine⟨c5,R3,⟨rfl,rfl,rfl⟩,F5,?_⟩;refine Bd.step (J':=(S "level",.list (Cv (told.map (·.1))))::(S "told",.list (told.map B7))::(S "due",.list ((NK late (D3 near st.th st.lvl)).map B7))::(S "pairs",.list ((D3 near st.th st.lvl).map B7))::(S "fresh",.obj (.ref fx))::(S "seen",.obj (.ref sx))::(S "line",.obj (.ref la))::(S "things",.obj (.ref td))::FL nx near r d late) (Ex.cL E5 (d:=.list (Cv (told.map (·.1)))) (CE.eq (CE.C0 told B7 (λV=>true) (λy=>.str (sg y.1)) (J0:=[]) E5.co (Ba.list Ev.n) (λy=>[(S "p",.str (sg y.2)),(S "q",.str (sg y.1))]) (λV V h=>by cases h) (λV V V sc=>Bind.tup (.cons Bind.n (.cons Bind.n .nil))) (λV V V V=>CL.nil) (λV V V cc sc=>Ev.n) ?_) ?_)) ?_
    .exact lb l4 rfl
    .rw [Bx];unfold Cv;rw[AB];rfl
    .refine Bd.nil (Bd.done λh6 F6=>?_);subst tB;refine⟨L',X5,⟨It,Ir,λt ht=>by have:=Iw t ht;exact(λ{i₁ i₂}=>String.Pos.Raw.mk_le_mk.mp) (Iw t ht),λa ha=>?_,?_,?_,?_⟩,λb z=>tU b (mW b z),(F6.less (c:=c) (X:=X5) (G:=c5.G) (λw X h z=>z.1) (λb z=>.inl z)).sub λp hp=>?_⟩
     .refine Bh (AF.mp ha) ?_;rintro x hx rfl;exact⟨(K0 x hx).1,uQ x hx⟩
     .rw [AA];exact l4
     .intro p hp;rcases Ar.mp hp with hp|hp
      .exact I.seen p hp
      .exact Yx K0 p hp
     .exact ls
     .cases hp with
      |head=>exact .head _
      |tail _ hp=>exact .tail _ (.tail _ (.tail _ (.tail _ (.tail _ hp))))
theorem fX(w:World)(k:Nat){nx ndx nl:Addr}{net:R2}{near:D9}{r:Nat}{late:Bool}{stF:St}{n:Nat}(hn:n<=k)(Rn:RL net)(ln:net.length<=100)(No:Pm near)(dR:near.length<=10)(hr:r∈lows)(nG:(near.lookup r).isSome=true)(Jm:d=.none\/∃y,d=.str y/\y.length<=1000)(az:runN late net near near.length ⟨[r],[(r,r)],[(r,[],none)]⟩=some stF)(VW:deep (Ib stF.th) n r=true)(L7:∀m ≤n,∀a∈CR stF.th,(CP (Ib stF.th) m a).length<=500)(ok:E7 (k+4) A)(B:CV w s.heap)(xk:FT X s.heap)(rv:Be X w s.heap vs [.obj (.ref nx),.dict (DR near),.str (sg r),d,.bool late])(g:(CI nx ndx nl (Bf net)).P w X s.heap) :
  Run w A Hu (call (.ref 273) vs) s (Q9 w X (CP (Ib stF.th) n r) d stF.th):=by
 refine MW U3 ok B xk (G:=CI nx ndx nl (Bf net)) g (λb z=>z.elim) (names:=[S "net",S "near",S "root",S "tail",S "late"]) (ds:=[.obj (.ref nx),.dict (DR near),.str (sg r),d,.bool late]) (λQ E q=>?_) (.of (by decide +kernel)) λc h0 l0 FA=>?_
 .have e:=rv.length;refine iP (gz e) ?_;rintro v1 v2 v3 v4 v5 rfl;have eb:bindArgs (EV (BZ 26) (S "_law_tree") .none CX (.ref 272)) ⟨[v1,v2,v3,v4,v5],[]⟩=pure ([S "net",S "near",S "root",S "tail",S "late"].zip [v1,v2,v3,v4,v5]):=rfl;rw[eb];exact wpAny_pure (q s.heap s.toks _ (.refl _) rv rfl)
 .have E:=FA.env;have hw:c.w=w:=E.hw;have hint:interactive c.env=false:=E.quiet rfl;have hk:3<=c.k:=by rw[FA.hk];exact A1 3 k
  let A0:=FL nx near r d late;refine Bd.cons (Ex.setTR (N:=λh=>∃td la t X',t.tag=r/\t.way=[]/\t.above=none/\t.kids=[]/\t.tl=none/\(∀b,c.X b->X' b)/\(∀b,(((Bv td [(sg r,D.obj (.ref t.f))]).star (Bl [t])).star (Bk la [])).fp b->Gg c b X')/\Fr (c.on X' (c.G.star (((Bv td [(sg r,D.obj (.ref t.f))]).star (Bl [t])).star (Bk la [])))) ((S "line",.obj (.ref la))::(S "things",.obj (.ref td))::A0) h)
   (FN.cW (FN.tab (tag:=r) (way:=[]) (ab:=none) Ev.n (λfp=>?_)) (λd T X' V V=>FN.bV)) (λd T X' zz hX nw=>?_) (hw:=by unfold swappedStores Env.blockKind Env.kindOf;rw[E.hs];rfl)) ?_
  .have Ep:Bi (c.plus fp) w (BX (BZ 26)) (k+3):=E.on (X:=DG c.X fp) (G:=c.G);exact FN.i8 Ev.g Ev.n (Ev.eY Ev.cStr Ev.cStr rfl) (AD (by decide) hk)
  .refine YZ zz ?_;clear zz;intro d1 d2 T1 T2 e1 e2 Cq Du;refine j8 Cq ?_;intro td t e3 e4 a1 a2 a3 a4 a5;refine Bh Du ?_;intro la e5 e6;subst e1 e2 e3 e4 e5 e6;have E1:Bi (c.on X' (c.G.star (((Bv td [(sg r,D.obj (.ref t.f))]).star (Bl [t])).star (Bk la [])))) w (BX (BZ 26)) (k+3):=E.on;exact⟨_,Bind.tup (.cons (Bind.n) (.cons Bind.n .nil)),λh F=>⟨td,la,t,X',a1,a2,a3,a4,a5,hX,nw,F⟩⟩
  .intro h1 HU;refine q6 HU ?_;intro td la t X1 a1 a2 a3 a4 a5 OC iN F1;rw[FA.hG]at F1;let H0:Res:=CI nx ndx nl (Bf net);let t':Th:={t with tl:=some d}
   let G1:Th->Res:=λt=>(H0.star ((Bv td [(sg r,D.obj (.ref t.f))]).star (Bl [t]))).star (Bk la []);have kU:=F1.less (G':=G1 t) (λw X h z=>Qy z) (λb z=>z.elim (λz=>z.elim .inl λz=>.inr (.inl z)) λz=>.inr (.inr z));let c1:Cx:=c.on X1 (G1 t);have E1:Bi c1 w (BX (BZ 26)) (k+3):=E.on;refine⟨c1,_,⟨rfl,rfl,rfl⟩,kU,?_⟩;have fl:d.flat=true:=by rcases Jm with rfl|⟨y,rfl,_⟩<;>rfl
   refine Bd.EL (X':=X1) (G':=G1 t') (Ex.Yp (c:=c1) (t:=t) (d:=d) E1.ro a5 fl (λX w h v rr X' w' h'=>?_) (Upd.lf (Upd.rt (Upd.rt (Upd.self λb=>?_)))) (Ev.G5 (λX h z=>z.1.2.1.1) Ev.n Ev.n (by simp)) Ev.n) ?_
   .rcases Jm with rfl|⟨y,rfl,_⟩
    .cases rr;exact .none
    .cases rr;exact .str _ _
   .unfold Bl;simp
   .let c2:Cx:=c1.on X1 (G1 t');have E2:Bi c2 w (BX (BZ 26)) (k+3):=E1.on;have PF:=(CA r hr).1;refine Bd.cons (Ex.setTR (c:=c2) (N:=λh=>∃sx sdx sl X',sl≠sx/\sl≠sdx/\(∀b,c2.X b->X' b)/\(∀b,(Bb sx sdx sl (Bf [(r,r)])).fp b->Gg c2 b X')/\Fr (c2.on X' ((G1 t').star (Bb sx sdx sl (Bf [(r,r)])))) (D0 sx la td [r] A0) h)
     (FN.cW (FN.Oh (rows:=Bf [(r,r)]) (λx hx=>?_) Ev.g (FN.hF (FP.cons (Ev.tp (FP.cons Ev.n (.cons Ev.n .nil))) .nil) (AE rfl)) hk) (λd T X' V V=>FN.pure (d:=.list (Cv [r])) (Ev.ls (FP.cons Ev.n .nil)))) (λd T X' zz hX nw=>?_) (hw:=by unfold swappedStores Env.blockKind Env.kindOf;rw[E2.hs];rfl)) ?_
    .cases AG.mp hx;exact⟨DI PF true,DI PF false⟩
    .refine YZ zz ?_;clear zz;intro d1 d2 T1 T2 e1 e2 Jh Wz;refine V7 Jh ?_;intro sx sdx sl e3 e4 n1 n2;refine CB Wz ?_;intro e5 e6;subst e1 e2 e3 e4 e5 e6;have E3:Bi (c2.on X' (c2.G.star ((Bb sx sdx sl (Bf [(r,r)])).star Res.emp))) w (BX (BZ 26)) (k+3):=E2.on;exact⟨_,Bind.tup (.cons (Bind.n) (.cons Bind.n .nil)),λh F=>⟨sx,sdx,sl,X',n1,n2,hX,λb z=>nw b (.inl z),F.less (λw X h z=>cO (Qy z)) (λb z=>z.elim .inl λz=>.inr (.inl z))⟩⟩
    .intro h3 jL;refine kA jL ?_;intro sx sdx sl X3 n1 n2 ZN oA F3;have e0:(G1 t').star (Bb sx sdx sl (Bf [(r,r)]))=KC H0 td la sx sdx sl [t'] [(r,r)]:=by
      show _=((H0.star ((Bv td [(sg t.tag,D.obj (.ref t.f))]).star (Bl [t']))).star (Bk la [])).star (Bb sx sdx sl (Bf [(r,r)]));rw[a1]
     rw[e0]at F3;let c3:Cx:=c2.on X3 (KC H0 td la sx sdx sl [t'] [(r,r)]);have E3:Bi c3 w (BX (BZ 26)) (k+3):=E2.on;refine⟨c3,_,⟨rfl,rfl,rfl⟩,F3,?_⟩;refine Bd.cons (Ex.fK (c:=c3) E3.ro (λi G J=>∃st L,runN late net near (near.length-i) st=some stF/\UP near r d i st L/\G=KC H0 td la sx sdx sl L st.seen/\J=D0 sx la td st.lvl A0) ⟨⟨[r],[(r,r)],[(r,[],none)]⟩,[t'],az,?_,rfl,rfl⟩ (Ba.keys Ev.n) (λi dd fy G J1 zz Xi Ti dF=>?_)) ?_
     .refine ⟨⟨by rw[<- a1];show[(t.tag,t.way,t.above)]=_;rw[a2,a3],by simp[CR],λx hx=>?_,λx hx a ha=>?_⟩,⟨t',.head _,a1,rfl⟩,λx hx=>?_,λa ha=>?_,AE rfl,λp hp=>?_,AE rfl⟩
      .cases AG.mp hx;show DA _ t.kids _;rw[a4];exact .nil
      .rw [AG.mp hx]at ha;cases ha
      .cases AG.mp hx;show t.way.length<=_;rw[a2];exact Al _
      .rw [AG.mp ha];exact⟨hr,nG⟩
      .rw [AG.mp hp];exact⟨PF,PF⟩
     .refine de zz ?_;clear zz;intro st L run I eG eJ;subst eG eJ;have hi:i<near.length:=by
       have:=(AP.mp fy).1;unfold DR at this;simpa using this
      obtain⟨m,em⟩:∃m,near.length-i=m+1:=⟨_,XI hi⟩
      rw[em]at run;obtain⟨Lv,t1,run'⟩:∃Lv,IW late net near st=some Lv/\runN late net near m Lv=some stF:=by
       have z:(IW late net near st).bind (runN late net near m)=some stF:=run;refine Bh (Option.bind_eq_some_iff.mp z) ?_;intro a b c;exact⟨a,b,c⟩
      have E4:Bi (c3.on Xi ((KC H0 td la sx sdx sl L st.seen).star Ti)) w (BX (BZ 26)) (k+3):=E3.on;refine⟨(S "_",dd)::D0 sx la td st.lvl A0,Bind.n,Bd.weak (λp hp=>.tail _ hp) ((Wk (c:=c3.on Xi ((KC H0 td la sx sdx sl L st.seen).star Ti)) (T1:=Ti) E4 hk rfl I (by lia) n1 n2 Rn ln No t1).imp (λh zz=>Dt zz λL' X' I' Sx F'=>⟨KC H0 td la sx sdx sl L' Lv.seen,_,X',⟨Lv,L',?_,I',rfl,rfl⟩,λb z=>Sx b (dF b z),F'⟩) λv h z=>z)⟩;rw[k9 em];exact run'
     .intro h4 rQ;refine Mn rQ ?_;clear rQ;rintro G4 J4 X4 ⟨st,L,run,I,eG,eJ⟩ mW F4;subst eG eJ;have el:(List.map (λp:Str×D=>D.str p.1) (DR near)).length=near.length:=by unfold DR;simp
      rw[el,Nat.sub_self]at run;obtain rfl:st=stF:=Option.some.inj run;let c4:Cx:=c3.on X4 (KC H0 td la sx sdx sl L st.seen);have E4:Bi c4 w (BX (BZ 26)) (k+3):=E3.on;refine⟨c4,_,⟨rfl,rfl,rfl⟩,F4,?_⟩;refine EI I.root ?_;intro t4 qL cS wK;let ds:List D:=Cv (CP (Ib st.th) n t4.tag)++tailD d;have dY:(L.map (·.tag)).Nodup:=by rw[I.tree.tags];exact I.tree.nd
      have ee:=J9 dY qL;rw[cS]at ee;refine Bd.EL (X':=X4) (G':=((H0.star (Ge td L)).star (Bk la ds)).star (Bb sx sdx sl (Bf st.seen))) (Ex.serialize (c:=c4) (n:=n) (L:=L) (kd:=Ib st.th) (t:=t4) (d:=d) (la:=la) E4.ro I.tree.kids (λm hm t ht=>L7 m hm _ ?_) qL ?_ wK Jm (λw X h z=>z.1.1.2.1.2.1) (λb z=>⟨.inl (.inl (.inr (.inr z))),λe=>F4.g.1.2.2 b (.inr (.inr z)) e⟩) (Upd.lf (Upd.rt (Upd.self λb=>Iff.rfl))) ?_ Ev.g Ev.n (Ev.G5 (λX h z=>z.1.1.2.1.1) Ev.n Ev.n ee) (E4.quiet rfl)) ?_
      .rw [<- I.tree.tags];exact Ab ht
      .rw [cS];exact VW
      .have e:c4.k=k+3:=E4.hk;rw[e];lia
      .let c5:Cx:=c4.on X4 (((H0.star (Ge td L)).star (Bk la ds)).star (Bb sx sdx sl (Bf st.seen)));have E5:Bi c5 w (BX (BZ 26)) (k+3):=E4.on;refine Bd.ret (c:=c5) (λs' F' Q E' nn rr=>wpAny_Return_some ((Ev.tp (c:=c5) (FP.cons Ev.n (.cons Ev.n .nil)):Ev c5 _ _ (.tup [.obj (.ref td),.obj (.ref la)])) s' F' _ _ λv h5 t5 l5 r5=>rr v h5 t5 ?_));have F5:=F'.le l5;have iV:Bt c.M c.h0 h5:=F5.old;rw[FA.hM,FA.hh]at iV;have xx:∀b,X b->c5.X b:=λb z=>mW b (ZN b (OC b (FA.hX b z)));have bu:∀b,c.h0.get? b=none->¬X b:=λb e z=>by
        obtain⟨_,o,eo⟩:=xk b z;have:=l0.keep b o (λe=>xk.nt (e▸z)) id eo;rw[FA.hh,this]at e;cases e
       have rX:B8 X w h5 v (.tup [.obj (.ref td),.obj (.ref la)]):=by
        have e:c5.w=w:=hw;rw[e]at r5;exact r5.move (Cc xx)
       have g5:(((H0.star (Ge td L)).star (Bk la ds)).star (Bb sx sdx sl (Bf st.seen))).P w c5.X h5:=by
        have z:(((H0.star (Ge td L)).star (Bk la ds)).star (Bb sx sdx sl (Bf st.seen))).P c.w c5.X h5:=F5.g;rw[hw]at z;exact z
       refine UG g5.1.1.2.1.1 ?_;intro kvs pd rd Pk nu;refine EI g5.1.2.1 ?_;intro rO oQ vY n8;have oq:¬X td:=bu td (iN td (.inl (.inl rfl))).old;have ui:¬X la:=bu la (iN la (.inr rfl)).old;refine⟨iV,L.map λt=>(t.tag,Value.ref t.f,t.way,t.above),?_,?_,λp hp=>?_⟩
       .rw [AB];exact I.tree.same
       .refine Qe (B8.M1 rX) ?_;rintro V V rfl nx nt p rl;refine Dt (Be.Bo rl) ?_;rintro V V rfl ra rl;refine Dt (Be.Bo rl) ?_;rintro V V rfl rb rl;cases rl;cases ra;cases rb;refine .tup nx nt p (.cons (.dict oq Pk nu pd ?_) (.cons (.list ui n8 oQ ?_) .nil))
        .have e:Lk (L.map λt=>(t.tag,Value.ref t.f,t.way,t.above))=J8 L:=by unfold Lk;rw[AB];rfl
         rw[e];exact rd.move (Cc xx)
        .have z:=vY.move (Cc xx);rw[show ds=Cv (CP (Ib st.th) n r)++tailD d by show Cv (CP (Ib st.th) n t4.tag)++_=_;rw[cS]]at z;exact z
       .rw [AB]at hp;refine Bh (AF.mp hp) ?_;rintro t ht rfl;refine Mo (FK (g5.1.1.2.1.2.1.1 t ht)) ?_;intro m fa fi ck ct tk av z;have ra:B8 X w h5 av (.dict (Ia t.way t.above)):=z.av.move (Cc xx);have e0:c.h0.get? t.dd=none:=by
         have:=(F5.gx t.dd (.inl (.inl (.inr (.inr ⟨t,ht,.inl rfl⟩))))).1.2;rcases this with y|y|y
         .exact (FA.ro y).elim
         .have y':c.M t.dd:=y;rw[FA.hM]at y';exact y'.elim
         .exact y
        have sd:=z.ms.at_;refine V6 (B8.Iq ra) ?_;rintro V V rfl q1 q2 q3 q4 q5;exact⟨t.f,t.dd,m,_,rfl,⟨λy=>z.nf.1 (xx _ y),z.nf.2⟩,⟨bu _ e0,z.nd⟩,z.fn,sd,.dict q1 q2 q3 q4 q5⟩
section
variable {c cc:Cx}{J J' KR J0:B3}{N:Em}{R:Cs}{h h':Heap}{Z:Addr->Heap->Prop}
theorem Dg.Ii{e1 e2:Expr}{apos GD:Pos}{rest:Dx}{ls:List (List Stmt)}{x dx l:Addr}{rows:Ch}{n v:Str}{fr:List Env}(hn:Dj n=true)(m4:1<=n.length)(m5:n.length<=1000000)(hv:CD false v)(hk:2<=c.k)(Sk:DZ c fr)(hG:∀X h,c.G.P c.w X h->(Bb x dx l rows).P c.w X h)(a:Ev c J o (.obj (.ref x)))(y1:Ev c J e1 (.str n))(y2:Ev c J e2 (.str v))(hint:interactive c.env=false)(he:autoParam (D8 c e1 [e2]) Bc)(Jn:autoParam (D8 c e2 []) Bc)(hb:autoParam (attributeBase o "add_header" c.env (eval o c.env)=eval o c.env) Bc)(Dv:autoParam (((backTo pos (starEach [e1,e2] c.env)).all (λx=>!x.1)&&(backToKw pos (keywordEach [] c.env)).all (λx=>x.1.isSome)
   && decide ([e1,e2].length+([]:List Keyword).length+(if(backToKw pos (keywordEach [] c.env)).isEmpty then 0 else 1)<30))=true) Bc)(Na:autoParam (J6 apos pos) Bc)(hs:autoParam (swapsWith (.Call (.Attribute o "add_header" apos) [e1,e2] [] pos) none GD.line c.env=pure false) Bc) :
  Dg c J ((.Expr (.Call (.Attribute o "add_header" apos) [e1,e2] [] pos) GD::rest)::ls) λea h'=>∃h1,Fr c J h1/\EN (c.env::fr) h1 h' ea FC:=λs F Q E n=>
 Ao (wpAny_Expr_any (by
  refine Ey (f:=186) a F (DH.res (dx:=dx) (l:=l) (rows:=rows) hG) (by decide) VS ⟨_,_,_,_,_,JX⟩ hb Dv Na λs1 F1 l1 e0=>?_;rw[he];refine PySem.Calls.evalArgs_plain ?_;have z:=λQ q=>(FP.cons y1 (.cons y2 .nil Jn) he:FP c J [e1,e2] _) pos s1 F1 Q E q;rw[he]at z;refine z _ λvs h2 t2 l2 r2=>?_;have F2:Fr c J h2:=F1.le l2;refine⟨F2.base,?_⟩;have H:=hG _ _ F2.g;exact oU c.w 0 (s:={s1 with heap:=h2,toks:=t2}) (X:=λb=>c.X b/\¬(Bb x dx l rows).fp b) hn m4 m5 hv (F2.ok.CC hk) F2.base (λb z=>F2.Cj b z.1) ((Be.cons (.obj _) r2:Be c.X c.w h2 _ _).move (Cc λb z=>z.1))
   ⟨Res.CC H λb z=>z.1,λz=>z.2 (.inl rfl),λz=>z.2 (.inr (.inl rfl)),λz=>z.2 (.inr (.inr rfl))⟩ Sk.fr (F2.Lu Sk) λea h3 t3 T=>by
    rw[e0];exact n ea h3 t3 ⟨h2,F2,T⟩) hint hs)
noncomputable def GY(P:P2)(x:Nat):Str:=Txt.join (S "") (Cy P x)
noncomputable def MC(P:P2)(x:Nat):Bool:=!Dj (GY P x)
noncomputable def Jw(P:P2)(rows:Ch)(x:Nat):List (Str×Str):=if MC P x then rows++[(GY P x,sg x)]else rows
theorem Iv:B9 295 (BZ 30) (S "_law_book") 294 .none CX:=⟨λP=>rfl,λP=>⟨_,_,_,rfl,rfl,rfl⟩,rfl,rfl,rfl⟩
noncomputable def pG:List Stmt:=KD ((Br (BZ 30))[1]?.getD (.Pass ⟨0,0,0,0⟩))
noncomputable def KX(ls:BY)(G:W2)(P:P2):List (Str×D):=[(S "line",.list (Cv ls)),(S "signs",.dict (dW G)),(S "pieces",.dict (dP P))]
noncomputable def GI(la bx:Addr)(ls:BY)(G:W2)(P:P2):List (Str×D):=(S "laid",.obj (.ref la))::(S "book",.obj (.ref bx))::KX ls G P
noncomputable def KY(G0:Res)(bx Hb bl la:Addr)(rows:Ch):Res:=(G0.star (Bb bx Hb bl rows)).star (Bk la (Bq rows))
structure UK(P:P2)(x:Nat):Prop where
 len:1<=(GY P x).length/\(GY P x).length<=1000
 sz:((Cy P x).map (·.length)).sum<=1000
 ctl:(((Str.chars (GY P x)).filter λs=>Txt.contains (S "\t\n\r") s).isEmpty)=MC P x
theorem US{G0 T1:Res}{bx Hb bl la:Addr}{rows:Ch}{ls:BY}{G:W2}{P:P2}{x:Nat}{fr:List Env}(E:Bi c w (BX (BZ 30)) k)(hk:2<=c.k)(hG:c.G=(KY G0 bx Hb bl la rows).star T1)(Sk:DZ c fr)(ow:∀x,c.own x)(sub:∀b∈Bj fr,c.X b)(hx:x∈lows)(hP:x∈P.map (·.1))(hl:rows.length<=900)(s1:bl≠bx)(s2:bl≠Hb)(O:UK P x) :
  Bd c ((S "x",.str (sg x))::GI la bx ls G P) [pG] (λh=>∃D6,Q6 fr c.h0 D6/\DZ (c.re D6) fr/\Fr ((c.re D6).on c.X ((KY G0 bx Hb bl la (Jw P rows x)).star T1)) (GI la bx ls G P) h) R:=by
 have hint:interactive c.env=false:=E.quiet rfl;let R1:List (Str×D):=(S "x",.str (sg x))::GI la bx ls G P;have jK:=(CA x hx).1;refine Bd.step (J':=(S "name",.str (GY P x))::(S "told",.str (S ""))::R1) (Ex.SK (n1:=S "name") (n2:=S "told") (d1:=.str (GY P x)) (d2:=.str (S "")) (Ev.tp (.cons (Ev.join Ev.cStr (Ev.CQ (d:=.list ((Cy P x).map .str)) Ev.n Ev.n (EO hP)) ?_) (.cons Ev.cStr .nil))) ⟨by decide,by decide⟩ ⟨by decide,by decide⟩ (E.nm (.inl rfl)).slot (E.nm (.inl rfl)).slot (DF.of (by rfl)) (DF.of (by rfl)) (by unfold swappedStores Env.blockKind Env.kindOf;rw[E.hs];rfl)) ?_
 .show (List.map _ _).sum+(Cy P x).length*0<=_;have:=O.sz;omega
 .let R2:List (Str×D):=(S "name",.str (GY P x))::(S "told",.str (S ""))::R1;have tail:∀ {c:Cx} (told:Str),Bi c w (BX (BZ 30)) k->told=(if MC P x then S "" else FC)->∀ {N:Em},(∀h,Fr c (GI la bx ls G P) h->N h)->Bd c ((S "told",.str told)::(S "name",.str (GY P x))::R1) [pG.drop 2] N R:=λ{c} told E et N hN=>by
   have Cl:(Str.chars (GY P x)).length=(GY P x).length:=by unfold Str.chars;rw[AA];rfl
   have nl:=O.len.2;have iS:PyData.strOk (if MC P x then S "" else FC)=true:=by split<;>decide +kernel
   refine Bd.if (b:=false) (CK.cmp (Bg.eq (Bg.W7 (n:=0) (m:=0) (b:=.str (if MC P x then S "" else FC)) Ev.n (Ev.K5 (a:=!MC P x) (CK.eq (CK.val (CE.ev (CE.C0 (Str.chars (GY P x)) .str (λs=>Txt.contains (S "\t\n\r") s) .str (J0:=[]) E.co (Ba.str Ev.n) (λs=>[(S "sign",.str s)]) (λV V h=>by cases h) (λV V V sc=>Bind.n) (λV V cc sc=>CL.one (CK.cmp (Bg.nQ Ev.n Ev.cStr))) (λV V V cc sc=>Ev.n) ?_)) ?_) ?_) (λh=>?_) (λh=>?_)) ?_ ?_) ?_)) (λh=>by cases h) λV=>Bd.nil ?_
   .exact Jc Cl nl rfl
   .show (List.map _ _).length<=1000000;rw[AA];exact AD (AV _ _) (Jc Cl nl rfl)
   .show (!(List.map _ _).isEmpty)=_;rw[List.isEmpty_map,O.ctl]
   .have h1:MC P x=false:=by simpa using h
    rw[h1];exact Ev.cStr
   .have h1:MC P x=true:=by simpa using h
    rw[h1];exact Ev.cStr
   .rw [et];exact .str iS
   .exact .str iS
   .rw [et,DJ];simp
   .exact Bd.nil (Bd.done λh F=>hN h (F.sub λp hp=>.tail _ (.tail _ (.tail _ hp))))
  cases ho:MC P x with
  |true=>
   have hc:Dj (GY P x)=false:=by unfold MC at ho;simpa using ho
   have er:Jw P rows x=rows++[(GY P x,sg x)]:=by unfold Jw;rw[ho];rfl
   have e1:Bq rows++[.tup [.str (GY P x),.str (sg x)]]=Bq (rows++[(GY P x,sg x)]):=by unfold Bq;rw[Af];rfl
   rw[er];let G1:Res:=((G0.star (Bb bx Hb bl (rows++[(GY P x,sg x)]))).star (Bk la (Bq rows))).star T1;let G2:Res:=(KY G0 bx Hb bl la (rows++[(GY P x,sg x)])).star T1;have E1:Bi (c.on c.X G1) w (BX (BZ 30)) k:=E.on;have E2:Bi (c.on c.X G2) w (BX (BZ 30)) k:=E.on;refine Bd.cons (N':=Fr (c.on c.X G2) R2) (Ex.jH (Bd.EL (X':=c.X) (G':=G1) (Ex.Ii (rows:=rows) (n:=GY P x) (v:=sg x) E.ro (AD hl (by decide)) s1 s2 (.name hc O.len.1 (AD O.len.2 (by decide))) (DI jK false) (AE rfl) hk (by rw[hG];exact Upd.lf (Upd.lf (Upd.rt (Upd.self λb=>Iff.rfl)))) Ev.n Ev.n Ev.n hint) (Bd.cons (Ex.append (c:=c.on c.X G1) (l:=la) (ds:=Bq rows) (d:=.tup [.str (GY P x),.str (sg x)]) E1.ro (by unfold Bq;rw[AA];exact lb hl rfl) (Upd.lf (Upd.rt (Upd.self λb=>Iff.rfl))) Ev.n (Ev.tp (.cons Ev.n (.cons Ev.n .nil))) hint) λh F=>?_))) λh F=>⟨c.on c.X G2,_,⟨rfl,rfl,rfl⟩,F.sub (J':=(S "told",.str (S ""))::(S "name",.str (GY P x))::R1) λp hp=>?_,tail (S "") E2 (by rw[ho];rfl) λh F=>⟨c.h0,.refl _ _,Sk,F⟩⟩
   .rw [e1]at F;exact⟨c.on c.X G2,R2,⟨rfl,rfl,rfl⟩,F,Bd.nil (Bd.done λh F=>F)⟩
   .rcases hp with _|⟨_,_|⟨_,hp⟩⟩
    .exact .tail _ (.head _)
    .exact .head _
    .exact .tail _ (.tail _ hp)
  |false=>
   have hc:Dj (GY P x)=true:=by unfold MC at ho;simpa using ho
   have er:Jw P rows x=rows:=by unfold Jw;rw[ho];rfl
   rw[er];refine Bd.cons (Ex.T5 (n:=S "error") (tx:=S "told") (l:=fr) Sk ow E.ro sub (Dg.Ii (x:=bx) (dx:=Hb) (l:=bl) (rows:=rows) hc O.len.1 (AD O.len.2 (by decide)) (DI jK false) hk Sk (λX h z=>by rw[hG]at z;exact z.1.1.2.1) Ev.n Ev.n Ev.n hint) (E.kind rfl) (E.kind rfl) (E.kind rfl) (E.nm (.inl rfl)) ⟨by decide,by decide⟩ (by decide) (by rfl) (by rfl)) λh zz=>?_;refine EI zz ?_;clear zz;intro D6 rb S' F;refine⟨c.re D6,_,⟨rfl,rfl,rfl⟩,F,tail (c:=c.re D6) FC ⟨E.hw,E.hs,E.hk,E.ro,E.slot⟩ (by rw[ho];rfl) λh F=>⟨D6,rb,S',?_⟩⟩;have F':Fr ((c.re D6).on c.X c.G) (GI la bx ls G P) h:=F;rw[hG]at F';exact F'
end
section
variable {c cc:Cx}{J J' KR J0:B3}{N:Em}{R:Cs}{h h':Heap}{Z:Addr->Heap->Prop}
noncomputable def HE(G:W2)(x:Nat):List Bool:=(Bn G x).map GP
noncomputable def Cu(P:P2)(ls:BY):List (Str×Str):=(ls.filter (MC P)).map λx=>(GY P x,sg x)
noncomputable def jX(P:P2)(x:Nat):D:=.tup [.str (GY P x),.str (sg x)]
noncomputable def E9(P:P2)(G:W2)(ls:BY)(x:Nat):List Nat:=(ls.filter (MC P)).filter λy=>HE G y==HE G x
structure KO(P:P2)(G:W2)(ls:BY):Prop where
 low:∀x∈ls,x∈lows
 nd:ls.Nodup
 Iy:ls.length<=10
 keyP:∀x∈ls,x∈P.map (·.1)
 keyG:∀x∈ls,x∈G.map (·.1)
 signs:∀x∈ls,(Bn G x).length<=100
 name:∀x∈ls,UK P x
 conv:∀x∈ls,MC P x=true->CD true (Txt.lower (Txt.swapcase (GY P x)))/\PyData.strOk (Txt.lower (Txt.swapcase (GY P x)))=true/\PyData.strOk (Txt.lower (GY P x))=true/\PyData.strOk (GY P x)=true/\(Txt.swapcase (GY P x)).length<=1000000
 same:∀x∈ls,MC P x=true->HM (Cu P ls) (Txt.swapcase (GY P x))=(E9 P G ls x).map sg
theorem LZ(P:P2):∀(l:BY) (r:Ch),l.foldl (Jw P) r=r++Cu P l:=by
 intro l;induction l with
 |nil=>exact λr=>by simp[Cu]
 |cons x l ih=>
  intro r;rw[As,ih];unfold Jw Cu;rw[A8];cases MC P x<;>simp
theorem Ms(P:P2)(l:BY):(Cu P l).length<=l.length:=by unfold Cu;rw[AA];exact AV _ _
theorem KM(P:P2)(l:BY):Bq (Cu P l)=(l.filter (MC P)).map (jX P):=by unfold Bq Cu;rw[AB];rfl
theorem Xj(p q:Str×Str):(D.tup [.str p.1,.str p.2]).eqv (.tup [.str q.1,.str q.2])=decide (p=q):=by
 rw[Ki,DJ,DJ];obtain⟨a,b⟩:=p;obtain⟨x,y⟩:=q;by_cases h1:a=x<;>by_cases h2:b=y<;>simp[h1,h2]
theorem So(l m:List Bool):(D.list (l.map .bool)).eqv (.list (m.map .bool))=decide (l=m):=ED (λa b=>by rw[Kh];cases a<;>cases b<;>rfl) l m
theorem NM(l m:BY):(D.list (Cv l)).eqv (.list (Cv m))=decide (l=m):=ED Hf l m
noncomputable def Gd(G:W2)(ls:BY):List (Str×D):=ls.map λx=>(sg x,.list ((HE G x).map .bool))
theorem WR{f:Nat->D}{ls:BY}{x:Nat}(h:x∈ls):(ls.map λx=>(sg x,f x)).lookup (sg x)=some (f x):=by
 induction ls with
 |nil=>cases h
 |cons y ls ih=>
  rw[AI,AK];by_cases e:x=y
  .rw [e];simp
  .have:(sg x==sg y)=false:=by rw[Av];exact λz=>e (Eh z)
   rw[this];exact ih ((AJ.mp h).resolve_left e)
theorem Lf{G:W2}{ls:BY}{x:Nat}(h:x∈ls):(Gd G ls).lookup (sg x)=some (.list ((HE G x).map .bool)):=WR h
theorem IS{f:Nat->D}{ls:BY}(nd:ls.Nodup):DB [] (ls.map λx=>(sg x,f x))=ls.map λx=>(sg x,f x):=by
 rw[MR _ _ ?_,BT];rw[AB,List.map_nil,BT];exact nd.map _ λa b n e=>n (Eh e)
theorem fF(l:List Bool):Gl 1 (.list (l.map .bool)):=.list λd hd=>by
 refine Bh (AF.mp hd) ?_;rintro b V rfl;exact .bool
theorem RR{a b:Str}(ha:PyData.strOk a=true)(hb:PyData.strOk b=true):Gl 1 (.tup [.str a,.str b]):=.tup λd hd=>by
 rcases AJ.mp hd with rfl|hd
 .exact .str ha
 .rw [AG.mp hd];exact .str hb
theorem L3[BEq α][LawfulBEq α][DecidableEq α](a b:α):decide (a=b)=(a==b):=by by_cases h:a=b<;>simp[h]
theorem XM{bx Hb bl:Addr}{ls:BY}{G:W2}{P:P2}(E:Bi c w (BX (BZ 30)) k)(hk:2<=c.k)(hG:c.G=Res.emp.star (CI bx Hb bl (Cu P ls)))(O:KO P G ls) :
  Bd c ((S "laid",.list (Bq (Cu P ls)))::(S "book",.obj (.ref bx))::KX ls G P) [(Br (BZ 30)).drop 2] (λV=>False) (λv h=>v=.bool true/\∃J,Fr c J h):=by
 have hint:interactive c.env=false:=E.quiet rfl;have Iy:=O.Iy;let R0:List (Str×D):=(S "laid",.list (Bq (Cu P ls)))::(S "book",.obj (.ref bx))::KX ls G P;let ok:=ls.filter (MC P);have dh:∀x∈ok,x∈ls/\MC P x=true:=λx hx=>Az.mp hx;have oN:ok.length<=10:=AD (AV _ _) Iy;refine Bd.step (J':=(S "stars",.dict (Gd G ls))::R0) (Ex.sc E (d:=.dict (Gd G ls)) (CE.ev (CE.eq (CE.Kb ls (λx=>.str (sg x)) (λV=>true) (λx=>sg x) (λx=>.list ((HE G x).map .bool)) (J0:=[(S "signs",.dict (dW G))]) E.co (Ba.list Ev.n) (λx=>[(S "x",.str (sg x)),(S "signs",.dict (dW G))]) (λV V h=>.tail _ h) (λV V V sc=>Bind.n) (λV V V V=>CL.nil)
  (λx hx V cc sc=>⟨Ev.n,CE.ev (CE.eq (CE.C0 (Bn G x) (λa=>.str (sg a)) (λV=>true) (λa=>.bool (GP a)) (J0:=[]) sc.co (Ba.eq (Ba.str (Ev.CQ (d:=.str (tx (Bn G x))) Ev.n Ev.n ?_)) ?_) (λa=>[(S "sign",.str (sg a))]) (λV V h=>by cases h) (λV V V sc=>Bind.n) (λV V V V=>CL.nil) (λa V V cc sc=>Ev.isalpha Ev.n) ?_) ?_)⟩) ?_) ?_))) ?_
 .exact CM (O.keyG x hx)
 .rw [Ka,AB];rfl
 .have:=O.signs x hx;exact lb this rfl
 .rw [Bx];unfold HE;rw[AB];rfl
 .exact lb Iy rfl
 .rw [Bx,IS O.nd];rfl
 .refine Bd.step (J':=(S "alike",.list (ok.map λx=>.list (Cv (E9 P G ls x))))::(S "stars",.dict (Gd G ls))::R0) (Ex.cL E (d:=.list (ok.map λx=>.list (Cv (E9 P G ls x)))) (CE.eq (CE.C0 ok (jX P) (λV=>true) (λx=>.list (Cv (E9 P G ls x))) (J0:=[(S "stars",.dict (Gd G ls)),(S "laid",.list (Bq (Cu P ls)))]) E.co (Ba.eq (Ba.list Ev.n) (KM P ls)) (λx=>[(S "x",.str (sg x)),(S "name",.str (GY P x)),(S "stars",.dict (Gd G ls)),(S "laid",.list (Bq (Cu P ls)))]) (λV V h=>.tail _ (.tail _ h)) (λV V V sc=>Bind.tup (.cons Bind.n (.cons Bind.n .nil))) (λV V V V=>CL.nil)
   (λx hx V cc sc=>CE.ev (CE.eq (CE.C0 ok (jX P) (λy=>HE G y==HE G x) (λy=>.str (sg y)) (J0:=[(S "x",.str (sg x)),(S "stars",.dict (Gd G ls))]) sc.co (Ba.eq (Ba.list Ev.n) (KM P ls)) (λy=>[(S "y",.str (sg y)),(S "other",.str (GY P y)),(S "x",.str (sg x)),(S "stars",.dict (Gd G ls))]) (λV V h=>.tail _ (.tail _ h)) (λV V V sc=>Bind.tup (.cons Bind.n (.cons Bind.n .nil)))
    (λy hy cc sc=>CL.one (CK.cmp (Bg.eq (Bg.UA (n:=1) (m:=1) (Ev.CQ Ev.n Ev.n (Lf (dh y hy).1)) (Ev.CQ Ev.n Ev.n (Lf (dh x hx).1)) ?_ ?_) ?_))) (λy V V cc sc=>Ev.n) ?_) ?_)) ?_) ?_)) ?_
  .exact fF _
  .exact fF _
  .rw [So];exact L3 (α:=List Bool) _ _
  .exact lb oN rfl
  .rfl
  .exact lb oN rfl
  .rw [Bx]
  .let R1:List (Str×D):=(S "alike",.list (ok.map λx=>.list (Cv (E9 P G ls x))))::(S "stars",.dict (Gd G ls))::R0;have hB:∀X h,c.G.P c.w X h->(CI bx Hb bl (Cu P ls)).P c.w X h:=λX h z=>by rw[hG]at z;exact z.2.1
   have rl:(Cu P ls).length<=10:=AD (Ms P ls) Iy;have fG:Gl 2 (.list (Bq (Cu P ls))):=.list λd hd=>by
    rw[KM]at hd;refine Bh (AF.mp hd) ?_;rintro x hx rfl;refine CB (dh x hx) ?_;intro h1 h2;exact RR (O.conv x h1 h2).2.2.2.1 (DS (GR _ (CA _ (O.low x h1)).1))
   have fE:Gl 2 (.list (ok.map λx=>.list (Cv (E9 P G ls x)))):=.list λd hd=>by
    refine Bh (AF.mp hd) ?_;rintro x hx rfl;refine KB λa ha=>?_;exact GR _ (CA _ (O.low a (dh a (Az.mp ha).1).1)).1
   refine Bd.ret (λs F Q E' n r=>wpAny_Return_some ((Ev.eq (Ev.Y8 (a:=true) (b:=true) (Ev.cmp (Bg.eq (Bg.UA (n:=2) (m:=2) (Ev.UT (f:=153) (k:=1) (G:=CI bx Hb bl (Cu P ls)) (d:=.list (Bq (Cu P ls))) Ev.n (CS.ro (aU c.w 0 bx Hb bl (Cu P ls) (lb rl rfl))) (AD (by decide) hk) hB (DH.ro hB) VT ⟨_,_,_,_,_,RM⟩) Ev.n ?_ ?_) ?_))
    (λV=>Ev.cmp (Bg.eq (Bg.UA (n:=2) (m:=2) (a:=.list (ok.map λx=>.list (Cv (E9 P G ls x)))) (CE.ev (CE.eq (CE.C0 ok (jX P) (λV=>true) (λx=>.list (Cv (E9 P G ls x))) (J0:=[(S "book",.obj (.ref bx))]) E.co (Ba.eq (Ba.list Ev.n) (KM P ls)) (λx=>[(S "x",.str (sg x)),(S "name",.str (GY P x)),(S "book",.obj (.ref bx))]) (λV V h=>.tail _ (.tail _ h)) (λV V V sc=>Bind.tup (.cons Bind.n (.cons Bind.n .nil))) (λV V V V=>CL.nil)
     (λx hx V cc sc=>?_) ?_) ?_)) Ev.n ?_ ?_) ?_))) (rfl:_=D.bool true):Ev c R1 _ (.bool true)) s F _ _ λv h1 t1 l1 r1=>r v h1 t1 ⟨?_,_,F.le l1⟩))
   .exact fG
   .exact fG
   .have e:=ED (f:=λp:Str×Str=>D.tup [.str p.1,.str p.2]) Xj (Cu P ls) (Cu P ls);rw[decide_eq_true rfl]at e;exact e
   .have af:∀X h,cc.G.P cc.w X h->(CI bx Hb bl (Cu P ls)).P cc.w X h:=λX h z=>by rw[sc.w];exact hB X h (sc.g X h z)
    refine CB (dh x hx) ?_;intro h1 h2;refine oB (O.conv x h1 h2) ?_;intro c1 c2 c3 c4 c5;have g:=CS.ro (NV cc.w 0 bx Hb bl (Cu P ls) (Txt.swapcase (GY P x)) (lb rl rfl) (λr hr=>?_) c5 c1 c2)
    .rw [O.same x h1 h2,AB]at g;exact Ev.JT (f:=128) (k:=2) (G:=CI bx Hb bl (Cu P ls)) (ds:=[.str (Txt.swapcase (GY P x))]) Ev.n (.cons (Ev.swapcase Ev.n (AD (O.name x h1).len.2 (by decide))) .nil) g (by rw[sc.k];exact hk) af (DH.ro af) I7 ⟨_,_,_,_,_,H5⟩
    .refine Bh (AF.mp hr) ?_;rintro y hy rfl;refine CB (dh y hy) ?_;intro h1 h2;exact⟨AD (O.name y h1).len.2 (by decide),(O.conv y h1 h2).2.2.1⟩
   .exact lb oN rfl
   .rw [Bx]
   .exact fE
   .exact fE
   .have e:=ED (f:=λl:List Nat=>D.list (Cv l)) NM (ok.map (E9 P G ls)) (ok.map (E9 P G ls));rw[decide_eq_true rfl,AB]at e;exact e
   .cases r1;rfl
end
section
variable {c cc:Cx}{J J' KR J0:B3}{N:Em}{R:Cs}{h h':Heap}{Z:Addr->Heap->Prop}
theorem fN(w:World)(k:Nat){ls:BY}{G:W2}{P:P2}(O:KO P G ls){fr:List Env}(ok:E7 (k+4) A)(B:CV w s.heap)(xk:FT X s.heap)(rv:Be X w s.heap vs [.list (Cv ls),.dict (dW G),.dict (dP P)])(ha:A.frames=some fr)(fs:Lr s.heap fr)(sub:∀b∈Bj fr,X b){E':CG}(q:∀h' tk,Step fr s.heap h'->Q (.bool true) {s with heap:=h',toks:=tk}):wpAny (model prog w) A (call (.ref 295) vs) Q E' s:=by
 refine wpAny_call ?_;refine Mn (Iv.code w.params) ?_;intro oc vc tc ec dc qc;refine A7 (o:=Et (BZ 30) (S "_law_book") .none CX (.ref 294)) (fd:=EV (BZ 30) (S "_law_book") .none CX (.ref 294)) ok.room (B.k _ _ (Iv.here w.params)) rfl Iv.plain.1 Iv.plain.2 rfl ⟨294,oc,vc,tc,rfl,B.k _ _ ec,dc,qc⟩ ?_;have hb:bindArgs (EV (BZ 30) (S "_law_book") .none CX (.ref 294)) ⟨vs,[]⟩=pure ([S "line",S "signs",S "pieces"].zip vs):=by
  have e:=rv.length;refine bg (Ou e) ?_;rintro v1 v2 v3 rfl;rfl
 rw[hb];refine wpAny_pure (HL Iv ok B xk (G:=Res.emp) trivial (λV z=>z.elim) (ds:=[.list (Cv ls),.dict (dW G),.dict (dP P)]) rv rv.length.symm (.of (by decide +kernel)) λc h1 t1 FA hA zz V F=>CB zz λfl ow=>?_)
 .have E:=FA.env;have Sk:=O9 FA hA fl ha fs λb z=>z;have hk:3<=c.k:=by rw[FA.hk];exact A1 3 k
  have hM:∀b,¬c.M b:=Sk.mOff;have hX:∀b∈Bj fr,c.X b:=λb m=>FA.hX b (sub b m);have body:Bd c (KX ls G P) [Br (BZ 30)] (λV=>False) (λv h=>v=.bool true/\∃D6,Q6 fr c.h0 D6/\Le D6 h):=by
   refine Bd.cons (Ex.setTR (N:=λh=>∃bx Hb bl la X',bl≠bx/\bl≠Hb/\(∀b,c.X b->X' b)/\(∀b,((Bb bx Hb bl []).star (Bk la [])).fp b->Gg c b X')/\Fr (c.on X' (KY Res.emp bx Hb bl la [])) (GI la bx ls G P) h)
    (FN.cW (FN.Gx Ev.g hk) (λd T X' V V=>FN.bV)) (λd T X' zz hX nw=>?_) (hw:=by unfold swappedStores Env.blockKind Env.kindOf;rw[E.hs];rfl)) ?_
   .refine YZ zz ?_;clear zz;intro d1 d2 T1 T2 e1 e2 Cq Du;refine V7 Cq ?_;intro bx Hb bl e3 e4 n1 n2;refine Bh Du ?_;intro la e5 e6;subst e1 e2 e3 e4 e5 e6;have E1:Bi (c.on X' (c.G.star ((Bb bx Hb bl []).star (Bk la [])))) w (BX (BZ 30)) (k+3):=E.on;refine⟨_,Bind.tup (.cons Bind.n (.cons Bind.n .nil)),λh F=>⟨bx,Hb,bl,la,X',n1,n2,hX,nw,?_⟩⟩;rw[FA.hG]at F;exact F.less (λw X h z=>Qy z) (λb z=>z.elim (λz=>z.elim .inl λz=>.inr (.inl z)) λz=>.inr (.inr z))
   .intro h2 HU;obtain⟨bx,Hb,bl,la,X2,n1,n2,Hi,nw,F2⟩:=HU;let c2:Cx:=c.on X2 (KY Res.emp bx Hb bl la []);have E2:Bi c2 w (BX (BZ 30)) (k+3):=E.on;let dm:Nat->List (Str×Str):=λi=>(ls.take i).foldl (Jw P) [];refine⟨c2,_,⟨rfl,rfl,rfl⟩,F2,?_⟩;refine Bd.cons (Ex.fJ (c:=c2) E2.ro (λi h0 G' J=>Q6 fr c.h0 h0/\DZ (c.re h0) fr/\G'=KY Res.emp bx Hb bl la (dm i)/\J=GI la bx ls G P) ⟨.refl _ _,Sk,rfl,rfl⟩ (λz b e=>z.1.none b e) (Ba.list Ev.n) (λi d hd h0 G' J1 zz Xi Ti dF=>?_)) ?_
    .refine Ht zz ?_;clear zz;intro rb jT eG eJ;subst eG eJ;unfold Cv at hd;rw[AL,AS]at hd;refine Bh hd ?_;clear hd;rintro x hx rfl;have xm:=AQ hx;let c3:Cx:=(c2.re h0).on Xi ((KY Res.emp bx Hb bl la (dm i)).star Ti);have E3:Bi c3 w (BX (BZ 30)) (k+3):=⟨E.hw,E.hs,E.hk,E.ro,E.slot⟩
     have es:dm (i+1)=Jw P (dm i) x:=by
      show(ls.take (i+1)).foldl (Jw P) []=_;rw[A3,hx,BH];rfl
     have rl:(dm i).length<=900:=by
      show((ls.take i).foldl (Jw P) []).length<=_;rw[LZ,BT];have:=Ms P (ls.take i);have h2:(ls.take i).length<=ls.length:=by rw[Ae];(clear es;lia)
      have:=O.Iy;lia
     refine⟨_,Bind.n,(US (c:=c3) E3 (AD (by decide) hk) rfl ⟨jT.fr,jT.own,jT.Lu,jT.mOff⟩ ow (λb m=>dF b (Hi b (hX b m))) (O.low x xm) (O.keyP x xm) rl n1 n2 (O.name x xm)).imp (λh zz=>EI zz λD6 vW jS F'=>⟨D6,_,_,Xi,⟨rb.trans vW,⟨jS.fr,jS.own,jS.Lu,jS.mOff⟩,rfl,rfl⟩,dF,?_⟩) λv h z=>z⟩;rw[es];exact F'
    .intro h3 Jh;refine iO Jh ?_;clear Jh;rintro h0 G3 J3 X3 ⟨rb,wN,eG,eJ⟩ ZN F3;subst eG eJ;have er:dm (List.length (Cv ls))=Cu P ls:=by
      show(ls.take _).foldl (Jw P) []=_;unfold Cv;rw[AA,BF,LZ,BT]
     rw[er]at F3;have new:∀b,((Bb bx Hb bl []).star (Bk la [])).fp b->(c2.re h0).h0.get? b=none:=λb z=>rb.none b (nw b z).old;have F4:Fr ((c2.re h0).on (λb=>X3 b/\¬b=la) (Res.emp.star (Bb bx Hb bl (Cu P ls)))) ((S "laid",.list (Bq (Cu P ls)))::(S "book",.obj (.ref bx))::KX ls G P) h3:=Fr.RW (c:=c2.re h0) (ds:=Bq (Cu P ls)) F3 (new la (.inr rfl)) λp hp=>by
      cases hp with
      |head=>exact .inr ⟨rfl,.head _⟩
      |tail _ hp=>exact .inl (.tail _ hp)
     have F5:=Fr.NU (c:=c2.re h0) (G:=Res.emp) F4 λb z=>new b (.inl z);let c5:Cx:=(c2.re h0).on (λb=>(X3 b/\¬b=la)/\¬(Bb bx Hb bl (Cu P ls)).fp b) (Res.emp.star (CI bx Hb bl (Cu P ls)));refine⟨c5,_,⟨rfl,rfl,rfl⟩,F5,(XM (c:=c5) (k:=k+3) ⟨E.hw,E.hs,E.hk,E.ro,E.slot⟩ (AD (by decide) hk) rfl O).imp (λV z=>z) λv h ⟨e,J,F6⟩=>⟨e,h0,rb,?_⟩⟩;exact Bt.any F6.old λb z=>hM b z
  have hw:c.w=w:=E.hw;have z:=body {s with heap:=h1,toks:=t1} F (λf s'=>Q (match f with|.ret v=>v|_=>.none) s') (λe s'=>wpAny (model prog c.w) c.A (leaving c.env e) (λV Gb=>E' e Gb) (λe' Gb=>E' e' Gb) s') (λV V z=>z.elim) λv h' tk ⟨e,D6,rb,l⟩=>(by
   subst e;rw[FA.hh]at rb;exact q h' tk (rb.step.trans (.le l fs.nt)))
  exact wpAny_mono z (λf s' k=>by cases f<;>exact k) λV V k=>k
end
theorem Ys:∀ {vs:DV}{ss:B1},Be X w h vs (ss.map .str)->StrsAre vs ss:=by
 intro vs ss r;induction ss generalizing vs with
 |nil=>cases r;exact .nil
 |cons s ss ih=>
  refine Dt (Be.Bo r) ?_;rintro V V rfl a b;cases a;exact .cons _ _ (ih b)
theorem Yg:∀ {vs:DV}{ss:B1},StrsAre vs ss->Be X w h vs (ss.map .str):=by
 intro vs ss s;induction s with
 |nil=>exact .nil
 |cons y t r ih=>exact .cons (.str y t) ih
theorem Yf:∀ {vs:DV}{ds:Cr},vs.length=ds.length->(∀(j:Nat) v,vs[j]? = some v->∃d,ds[j]? = some d/\B8 X w h v d)->Be X w h vs ds:=by
 intro vs;induction vs with
 |nil=>intro ds e k;cases ds with
  |nil=>exact .nil
  |cons=>cases e
 |cons v vs ih=>intro ds e k;cases ds with
  |nil=>cases e
  |cons d ds=>exact .cons (Bh (k 0 v rfl) λd' e1 r=>by cases e1;exact r) (ih (Nat.succ.inj e) λj v hj=>k (j+1) v hj)
theorem Ev.sorted{np:Pos}{ss ts:B1}(f:Ev c J (.Name x np) (.obj (.builtin "sorted")))(y:Ev c J e (.list (ss.map .str)))(hl:ss.length<64)(ht:∀Yq:List Str,Yq.Perm ss->sortedS Yq=true->Yq=ts)(he:autoParam (D8 c e []) Bc):Ev c J (.Call (.Name x np) [e] [] pos) (.list (ts.map .str)):=
 .OM f (.cons y .nil he) (λvs s F r Q E q=>by
  cases r with|cons a r=>
  cases r;refine Qe (B8.Hl a) ?_;rintro ad us rfl nx nt p rr;have hv:=rr.length;rw[AA]at hv;refine B5 p ?_;clear p;intro n0 e0;refine sorted_strs ⟨_,e0,rfl,_,rfl⟩ (Ys rr) (by rw[hv];exact hl) λout Yq a1 a2 a3=>?_;refine B5 (sortedAll_at s.heap us out) ?_;intro n e1;have l:Le s.heap (sortedAll s.heap us out):=Le.of λb o=>sortedAll_old;have fr:s.heap.get? (s.heap.objs.size+1)=none:=Heap.get?_none_of_le (Nat.le_succ _);rw[<- ht Yq a2 a3]at q;refine q _ _ s.toks l (.list (λz=>?_) (λz=>?_) ⟨n,e1⟩ (Yg a1))
  .obtain ⟨_,o,eo⟩:=F.Cj _ z;rw[fr]at eo;cases eo
  .refine Bh F.base.tab ?_;intro ps ep V;rw[<- z,fr]at ep;cases ep) he
theorem Ev.listS{np:Pos}(f:Ev c J (.Name x np) (.obj (.type "list")))(y:Ev c J e (.str (tx cs)))(hl:cs.length<=1000)(he:autoParam (D8 c e []) Bc):Ev c J (.Call (.Name x np) [e] [] pos) (.list (Cv cs)):=
 .RD f (.cons y .nil he) (λvs s F r Q E q=>by
  refine Dt (Be.Bo r) ?_;rintro V V rfl a r;cases r;cases a;refine call_list_str F.ok.handled _ _ (λh' tk acc c' k e1 it=>?_) (by rw[sizeLine_eq];show cs.toArray.size<=_;simp;exact lb hl rfl);have l:Le s.heap h':=Le.of k;have fr:s.heap.get? s.heap.objs.size=none:=Bm _;refine q _ h' tk l (.list (vs:=acc.toList) (λz=>?_) (B4 F.base.tab) ⟨c',by rw[Array.toArray_toList];exact e1⟩ (Yf (by rw[Array.length_toList,it.1];unfold Cv;simp[tx]) λj v hj=>?_))
  .obtain ⟨_,o,eo⟩:=F.Cj _ z;rw[fr]at eo;cases eo
  .refine Fp (it.2 j v (by simpa using hj)) ?_;rintro a u ea rfl;exact⟨.str (sg a),by unfold Cv;rw[AL,(by simpa[tx]using ea:cs[j]? = some a)];rfl,.str _ _⟩) he
theorem Ev.iA(x:Ev c J l (.list ds))(y:Ev c J r (.int 2))(hl:ds.length<=1000):Ev c J (.BinOp l .Mult r pos) (.list (ds++ds)):=
 .bin x y λV V s F ra rb Q E q=>by
  cases rb;cases ra with|list nx nt p rr=>
  rename_i u ad vs;refine B5 p ?_;clear p;intro n0 e0;have hv:=rr.length;refine wpAny_binaryOp_repeat_ref (T:="list") (U:="int") (by decide) ⟨_,e0,rfl⟩ (λs'=>typeIs_int s' 2 u) noFill_list_mul PySem.F.fills_int_mul PySem.F.slot_int_rmul repeat_list PySem.F.slot_int_index.lookup
   (PySem.call_meets PySem.F.slot_int_rmul (typeIs_int s 2 u) PySem.F.entry_int_rmul (PySem.F.args_int_rmul_2 _ _) (int___rmul___int_list 2 u ad vs.toArray n0)
    ⟨e0,rfl,⟨_,e0,rfl⟩,PySem.call_meets PySem.F.slot_list_mul ⟨_,e0,rfl⟩ PySem.F.entry_list_mul (PySem.F.args_list_mul_2 _ _)
     (AutoListH.list___mul___list_int_3 ad vs.toArray n0 2 u (by simp[Builtin.List.listFitsIndex]) (by rw[AY];show ¬vs.length*2>_;omega) (by simp[Builtin.List.listTooLong,sizeLine];omega))
     ⟨e0,?_⟩⟩)
  have hf:List.foldl (λx1 x2=>x1++x2) #[] (List.replicate (if vs.toArray.isEmpty=true then 0 else Int.toNat 2) vs.toArray)=(vs++vs).toArray:=by
   cases vs with
   |nil=>rfl
   |cons a l=>simp[List.replicate]
  refine q _ _ s.toks (Le.push _ _) (.list (fresh_ne F.Cj) (B4 F.base.tab) ⟨0,?_⟩ ((rr.append rr).le (Le.push _ _)))
  .rw [<- hf];exact AH _ rfl
theorem Ev.eX:Ev c J (.Dict [] [] pos) (.dict []):=λs F Q E q=>by
 have e1:(s.heap.push {cls:=.type "dict",data:=.dict #[]}).get? s.heap.objs.size=some {cls:=.type "dict",data:=.dict #[]}:=AH _ rfl;refine wpAny_Dict_empty (q _ _ s.toks (Le.push _ _) (.dict (fresh_ne F.Cj) (B4 F.base.tab) ?_ (C3 e1) .nil));have:=B6 F.base;rw[Av];intro z;rw[z]at this;exact absurd this (by decide)
theorem Pz{b:Addr}{ka kb:Dh}(na:(a==sysModules)=false)(nb:(b==sysModules)=false)(da:s.heap.DictOf (KS w) a ka)(db:s.heap.DictOf (KS w) b kb)(hu:A.units<cLine)(hn:ka.length≠kb.length)(q:Q (.bool false) s):wpAny (model prog w) A (compareOp .Eq (.ref a) (.ref b)) Q E s:=by
 have ta:=da.typeIs;have tb:=db.typeIs;refine Ze da ?_;clear da;intro oa xs ea ga V sU V pa V;refine Ze db ?_;clear db;intro ob ys eb gb V sV V pb V;have la:=pa.length;have lb:=pb.length;rw[Array.length_toList]at la lb;have ne:¬xs.size=ys.size:=λe=>hn (by rw[<- la,<- lb,e]);refine wpAny_richCompare_same_room (op:=.Eq) ta tb PySem.F.slot_dict_eq (wpAny_call_entry PySem.F.slot_dict_eq ta PySem.F.entry_dict_eq ?_ (PySem.F.args_dict_eq_2 _ _)) hu;refine wpAny_bind (wpAny_bind (wpAny_notOrdered_dict ta (wpAny_pure (wpAny_bind (wpAny_isInstance (T:="dict") tb PySem.F.sub_dict_dict ?_)))));rw[if_neg (by decide)];refine wpAny_bind (wpAny_pure (wpAny_bind (wpAny_pure (wpAny_bind ?_))));unfold Builtin.Dict.samePairs Builtin.Dict.showsAll;rw[na,nb];refine wpAny_bind (wpAny_pure (wpAny_bind (wpAny_pure (wpAny_bind (wpAny_dictEntries ga sU (wpAny_bind (wpAny_dictEntries gb sV ?_)))))));rw[if_pos (by simpa using ne)];exact wpAny_bind (wpAny_rule (wpAny_pure (wpAny_pure ⟨_,rfl,(λz=>by cases z),q⟩)))
theorem Bg.lZ(x:Ev c J l (.dict es))(y:Ev c J r (.dict []))(hn:es≠[])(hm:autoParam (behindInMarks .Eq r=false) Dy):Bg c J l .Eq r false:=
 Bg.of x y (λV V s F ra rb Q E q=>by
  refine V6 (B8.Iq ra) ?_;rintro V V rfl n1 t1 s1 p1 r1;refine V6 (B8.Iq rb) ?_;rintro V V rfl n2 t2 s2 p2 r2;cases r2;have hl:=Cb.length r1;refine Pz s1 s2 p1 p2 (BA (Nat.le_add_right _ 64) F.ok.line) (λe=>?_) (q _ s.heap s.toks (.refl _) (.bool _));rw[hl]at e;exact(hn (List.eq_nil_of_length_eq_zero e)).elim) hm
section
variable {c cc:Cx}{J J' KR J0:B3}{N:Em}{R:Cs}{h h':Heap}{Z:Addr->Heap->Prop}
theorem HK:B9 305 (BZ 32) (S "_law_holds") 304 .none CX:=⟨λP=>rfl,λP=>⟨_,_,_,rfl,rfl,rfl⟩,rfl,rfl,rfl⟩
noncomputable def hS(i:Nat):Stmt:=(Br (BZ 32))[i]?.getD (.Pass ⟨0,0,0,0⟩)
noncomputable def T6(cs:BY)(a b:Nat):R2:=(SP cs.length a b).map λp=>(cs.getD p.1 0,cs.getD p.2 0)
noncomputable def Dk(ts:R2):R2:=ts.flatMap λt=>[(t.1,t.2),(El t.2,El t.1)]
noncomputable def CU(ts:R2)(p:Nat):List Nat:=(ts.filter λt=>decide (p=t.1)||decide (p=t.2)).map λt=>if p=t.1 then t.2 else El t.1
noncomputable def C6(ts:R2)(cs:BY):List (Nat×List Nat):=cs.map λp=>(p,CU ts p)
structure KT(cs:BY)(ts:R2):Prop where
 low:∀a∈cs,a∈lows
 nd:cs.Nodup
 Iy:1<=cs.length/\cs.length<=5
 tl:ts.length<=10
 J5:∀t∈ts,t.1∈lows/\t.2∈lows
 get:∀p∈cs,∃a l,CU ts p=a::l/\C2 (Dk ts) (El p)=some a/\C7 (Dk ts) (El p)=a::l
theorem Ca:∀a∈lows,El a∈Bp/\a<128:=by decide
theorem E6{a:Nat}(h:a∈lows):Txt.upper (sg a)=sg (El a):=Pb a h
theorem Ry{ts:R2}(h:∀t∈ts,t.1∈lows/\t.2∈lows):RL (Dk ts):=λp hp=>by
 refine Bh (Am.mp hp) ?_;intro t ht hp;refine CB (h t ht) ?_;intro h1 h2;rcases AJ.mp hp with rfl|hp
 .exact ⟨(CA _ h1).1,(CA _ h2).1⟩
 .rw [AG.mp hp];exact⟨(Ca _ h2).1,(Ca _ h1).1⟩
theorem LK(ts:R2):(Dk ts).length=2*ts.length:=by
 induction ts with
 |nil=>rfl
 |cons t ts ih=>unfold Dk at ih ⊢;rw[AX,Ac,ih];simp;lia
theorem Rw(ts:R2)(cs:BY):DR (C6 ts cs)=cs.map λp=>(sg p,.list (Cv (CU ts p))):=by unfold DR C6;rw[AB];rfl
noncomputable def Jb(cs:BY)(σ:BY):List (Str×D):=[(S "sums",.list (σ.map λa=>.int (a:Nat))),(S "names",.str (tx cs))]
theorem O2{ts:R2}(O:KT cs ts)(p:Nat):∀q∈CU ts p,q∈Bp/\q<128:=λq hq=>by
 refine Bh (AF.mp hq) ?_;rintro t ht rfl;refine CB (O.J5 t (Az.mp ht).1) ?_;intro l1 l2;split
 .exact ⟨(CA _ l2).1,(Ca _ l2).2⟩
 .exact ⟨(Ca _ l1).1,GR _ (Ca _ l1).1⟩
theorem Rx{ts:R2}(O:KT cs ts):Gl 3 (.list (cs.map λp=>.tup [.str (sg ((CU ts p).headD 0)),.list (Cv (CU ts p))])):=.list λd hd=>by
 refine Bh (AF.mp hd) ?_;rintro p hp rfl;refine Fp (O.get p hp) ?_;intro a0 l0 e0 V;have nl:=O2 O p;refine .tup λd hd=>?_;rcases AJ.mp hd with rfl|hd
 .rw [e0];exact .str (DS (nl a0 (by rw[e0];exact .head _)).2)
 .rw [AG.mp hd];exact KB λq hq=>(nl q hq).2
theorem ar{ts:R2}{a b:Nat}{σ:BY}{rest:Dx}(E:Bi c w (BX (BZ 32)) k)(hk:3<=c.k)(O:KT cs ts)(mA:T6 cs a b=ts)(hσ:σ.length<=10)(y:∀nx ndx nl X',(∀b,c.X b->X' b)->Bd (c.on X' (c.G.star (CI nx ndx nl (Bf (Dk ts))))) ((S "near",.dict (DR (C6 ts cs)))::(S "net",.obj (.ref nx))::(S "ties",.list (ts.map B7))::Jb cs (a::b::σ)) [rest] N R) :
  Bd c (Jb cs (a::b::σ)) [hS 0::hS 1::hS 2::hS 3::hS 4::rest] N R:=by
 have hint:interactive c.env=false:=E.quiet rfl;have hw:c.w=w:=E.hw;let R0:List (Str×D):=(S "ties",.list (ts.map B7))::Jb cs (a::b::σ);have lK:=O.Iy;refine Bd.step (J':=R0) (Ex.sc E (d:=.list (ts.map B7)) (Ev.eq (Ev.FV (fa:=256) (k:=1) (ds:=[.str (tx cs),.int (a:Nat),.int (b:Nat)]) Ev.g (.cons Ev.n (.cons (Ev.FG Ev.n Ev.cInt (by decide) rfl ?_) (.cons (Ev.FG Ev.n Ev.cInt (by decide) rfl ?_) .nil))) (fW c.w 0 cs a b O.Iy.1 O.Iy.2 λx hx=>(Ca x (O.low x hx)).2) (AD (by decide) hk) ⟨_,_,_,_,_,U2⟩) ?_)) ?_
 .simp;exact lb hσ rfl
 .simp;exact lb hσ rfl
 .rw [<- mA];unfold T6;rw[AB];rfl
 .refine Bd.cons (Ex.KN (N:=λh=>∃nx ndx nl X',nl≠nx/\nl≠ndx/\(∀b,c.X b->X' b)/\(∀b,(Bb nx ndx nl []).fp b->Gg c b X')/\Fr (c.on X' (c.G.star (Bb nx ndx nl []))) ((S "net",.obj (.ref nx))::R0) h) (FN.Gx Ev.g hk) (E.nm (.inr rfl)) (by rfl) λd1 T h X' zz hX nw F1=>?_) ?_
  .refine V7 zz ?_;clear zz;intro nx ndx nl e1 e2 n1 n2;subst e1 e2;exact⟨nx,ndx,nl,X',n1,n2,hX,nw,F1⟩
  .intro h1 Cq;refine kA Cq ?_;intro nx ndx nl X1 n1 n2 OC nw F1;let c1:Cx:=c.on X1 (c.G.star (Bb nx ndx nl []));have E1:Bi c1 w (BX (BZ 32)) k:=E.on;let R1:List (Str×D):=(S "net",.obj (.ref nx))::R0;refine⟨c1,R1,⟨rfl,rfl,rfl⟩,F1,?_⟩;refine Bd.cons (Ex.for (c:=c1) (ds:=ts.map B7) E1.ro (λi=>c.G.star (Bb nx ndx nl (Bf (Dk (ts.take i))))) (λV=>R1) rfl rfl (Ba.list Ev.n) (λi d hd Xi Ti dF=>?_)) ?_
   .rw [AL,AS]at hd;refine Bh hd ?_;clear hd;rintro t ht rfl;refine CB (O.J5 t (AQ ht)) ?_;intro l1 l2;let r:=Dk (ts.take i);have er:Dk (ts.take (i+1))=(r++[(t.1,t.2)])++[(El t.2,El t.1)]:=by
     rw[A3,ht];show Dk (ts.take i++[t])=_;unfold r Dk;rw[List.flatMap_append];simp
    have rl:r.length<=20:=by
     show(Dk (ts.take i)).length<=20;rw[LK];have:=O.tl;have:(ts.take i).length<=ts.length:=by rw[Ae];exact A9 _ _
     lia
    let ci:Cx:=c1.on Xi ((c.G.star (Bb nx ndx nl (Bf r))).star Ti);have Ei:Bi ci w (BX (BZ 32)) k:=E.on;let cj:Cx:=c1.on Xi ((c.G.star (Bb nx ndx nl (Bf (r++[(t.1,t.2)])))).star Ti);have Ej:Bi cj w (BX (BZ 32)) k:=E.on;have snoc:∀(r:R2) (p:Nat×Nat),Bf r++[(sg p.1,sg p.2)]=Bf (r++[p]):=λr p=>by unfold Bf;rw[Af];rfl
    refine⟨(S "y",.str (sg t.2))::(S "x",.str (sg t.1))::R1,Bind.tup (.cons Bind.n (.cons Bind.n .nil)),?_⟩;refine Bd.EL (X':=Xi) (G':=(c.G.star (Bb nx ndx nl (Bf (r++[(t.1,t.2)])))).star Ti) (Ex.Ii (c:=ci) (rows:=Bf r) (n:=sg t.1) (v:=sg t.2) Ei.ro (by rw[DC];exact lb rl rfl) n1 n2 (DI (CA _ l1).1 true) (DI (CA _ l2).1 false) (AE rfl) (AD (by decide) hk) (by rw[snoc r (t.1,t.2)];exact Upd.lf (Upd.rt (Upd.self λb=>Iff.rfl))) Ev.n Ev.n Ev.n (Ei.quiet rfl)) ?_;refine Bd.EL (X':=Xi) (G':=(c.G.star (Bb nx ndx nl (Bf (Dk (ts.take (i+1)))))).star Ti) (Ex.Ii (c:=cj) (rows:=Bf (r++[(t.1,t.2)])) (n:=sg (El t.2)) (v:=sg (El t.1)) Ej.ro (by rw[DC,Ac];simp;exact lb rl rfl) n1 n2 (DI (Ca _ l2).1 true) (DI (Ca _ l1).1 false) (AE rfl) (AD (by decide) hk) (by rw[snoc _ (El t.2,El t.1),er];exact Upd.lf (Upd.rt (Upd.self λb=>Iff.rfl))) Ev.n (Ev.eq (Ev.upper Ev.n (AE rfl)) (congrArg D.str (E6 l2))) (Ev.eq (Ev.upper Ev.n (AE rfl)) (congrArg D.str (E6 l1))) (Ej.quiet rfl)) ?_;exact Bd.nil (Bd.done λh F=>⟨Xi,dF,F.sub λp hp=>.tail _ (.tail _ hp)⟩)
   .intro h2 Du;refine Bh Du ?_;intro X2 Hi F2;rw[AA,BF]at F2;have F3:=Fr.NU (c:=c1) (G:=c.G) F2 λb z=>(nw b z).old;let X3:Addr->Prop:=λb=>X2 b/\¬(Bb nx ndx nl (Bf (Dk ts))).fp b;have ZN:∀b,c.X b->X3 b:=λb z=>⟨Hi b (OC b z),λq=>(nw b q).out z⟩;let c3:Cx:=c.on X3 (c.G.star (CI nx ndx nl (Bf (Dk ts))));have E3:Bi c3 w (BX (BZ 32)) k:=E.on;have hB:∀X h,c3.G.P c3.w X h->(CI nx ndx nl (Bf (Dk ts))).P c3.w X h:=λX h z=>z.2.1;refine⟨c3,R1,⟨rfl,rfl,rfl⟩,F3,?_⟩;refine Bd.step (c:=c3) (J':=(S "near",.dict (DR (C6 ts cs)))::R1) (Ex.sc E3 (d:=.dict (DR (C6 ts cs))) (CE.ev (CE.eq (CE.Kb cs (λp=>.str (sg p)) (λV=>true) (λp=>sg p) (λp=>.list (Cv (CU ts p))) (J0:=[(S "ties",.list (ts.map B7))]) E3.co (Ba.tx Ev.n) (λp=>[(S "p",.str (sg p)),(S "ties",.list (ts.map B7))]) (λV V h=>.tail _ h) (λV V V sc=>Bind.n) (λV V V V=>CL.nil)
     (λp hp V cc sc=>⟨Ev.n,CE.ev (CE.eq (CE.C0 ts B7 (λt=>decide (p=t.1)||decide (p=t.2)) (λt=>.str (sg (if p=t.1 then t.2 else El t.1))) (J0:=[(S "p",.str (sg p))]) sc.co (Ba.list Ev.n) (λt=>[(S "y",.str (sg t.2)),(S "x",.str (sg t.1)),(S "p",.str (sg p))]) (λV V h=>.tail _ (.tail _ h)) (λV V V sc=>Bind.tup (.cons Bind.n (.cons Bind.n .nil))) (λt ht cc sc=>CL.one (CK.cmp (Bg.eq (Bg.uZ (n:=0) (m:=1) Ev.n (Ev.tp (.cons Ev.n (.cons Ev.n .nil))) ?_ ?_) ?_)))
      (λt ht V cc sc=>Ev.K5 (CK.cmp (Bg.lh Ev.n Ev.n ?_ ?_)) (λh=>?_) (λh=>?_)) ?_) ?_)⟩) ?_) ?_))) ?_
    .exact .str (DS (Ca p (O.low p hp)).2)
    .exact RR (DS (Ca _ (O.J5 t ht).1).2) (DS (Ca _ (O.J5 t ht).2).2)
    .show D.L0 [D.str (sg t.1),D.str (sg t.2)] (.str (sg p))=_;unfold D.L0;rw[List.any_cons,List.any_cons,List.any_nil,Hf,Hf,Bool.or_false];congr 1<;>exact decide_eq_decide.mpr ⟨Eq.symm,Eq.symm⟩
    .exact (Ca p (O.low p hp)).2
    .exact (Ca _ (O.J5 t ht).1).2
    .rw [if_pos (of_decide_eq_true h)];exact Ev.n
    .rw [if_neg (of_decide_eq_false h)];exact Ev.eq (Ev.upper Ev.n (AE rfl)) (congrArg D.str (E6 (O.J5 t ht).1))
    .have:=O.tl;exact lb this rfl
    .unfold CU Cv;rw[AB];rfl
    .exact lb lK.2 rfl
    .rw [Bx,IS O.nd,Rw]
    .let R2:List (Str×D):=(S "near",.dict (DR (C6 ts cs)))::R1;have nd:∀p∈cs,(DR (C6 ts cs)).lookup (sg p)=some (.list (Cv (CU ts p))):=λp hp=>by
      rw[Rw];exact WR hp
     refine Bd.if (b:=false) (CK.cmp (Bg.eq (Bg.W7 (n:=3) (m:=3) (a:=.list (cs.map λp=>.tup [.str (sg ((CU ts p).headD 0)),.list (Cv (CU ts p))])) (b:=.list (cs.map λp=>.tup [.str (sg ((CU ts p).headD 0)),.list (Cv (CU ts p))]))
      (CE.ev (CE.eq (CE.C0 cs (λp=>.str (sg p)) (λV=>true) (λp=>.tup [.str (sg ((CU ts p).headD 0)),.list (Cv (CU ts p))]) (J0:=[(S "net",.obj (.ref nx))]) E3.co (Ba.tx Ev.n) (λp=>[(S "p",.str (sg p)),(S "net",.obj (.ref nx))]) (λV V h=>.tail _ h) (λV V V sc=>Bind.n) (λV V V V=>CL.nil) (λp hp V cc sc=>?_) ?_) ?_))
      (CE.ev (CE.eq (CE.C0 cs (λp=>.str (sg p)) (λV=>true) (λp=>.tup [.str (sg ((CU ts p).headD 0)),.list (Cv (CU ts p))]) (J0:=[(S "near",.dict (DR (C6 ts cs)))]) E3.co (Ba.tx Ev.n) (λp=>[(S "p",.str (sg p)),(S "near",.dict (DR (C6 ts cs)))]) (λV V h=>.tail _ h) (λV V V sc=>Bind.n) (λV V V V=>CL.nil) (λp hp V cc sc=>?_) ?_) ?_)) ?_ ?_) ?_)) (λh=>by cases h) λV=>Bd.nil (y nx ndx nl X3 ZN)
     .refine Dt (O.get p hp) ?_;intro a0 l0 e0 e1 e2;have ul:=(Ca p (O.low p hp)).1;have af:∀X h,cc.G.P cc.w X h->(CI nx ndx nl (Bf (Dk ts))).P cc.w X h:=λX h z=>by rw[sc.w];exact hB X h (sc.g X h z)
      have rl:(Bf (Dk ts)).length<=1000:=by rw[DC,LK];have:=O.tl;exact hO this rfl
      have RN:=Ry O.J5;have g1:=CS.ro (VI cc.w 0 nx ndx nl (Bf (Dk ts)) (sg (El p)) rl (EZ RN) (AE rfl) (EU ul) (EF _ ul));have g2:=CS.ro (NV cc.w 0 nx ndx nl (Bf (Dk ts)) (sg (El p)) rl (EZ RN) (AE rfl) (EU ul) (EF _ ul));rw[NY RN ul,e1]at g1;rw[MZ RN ul,e2,AB]at g2;have UB:2<=cc.k:=by rw[sc.k];exact AD (by decide) hk
      rw[e0];exact Ev.tp (.cons (Ev.JT (f:=136) (k:=2) (G:=CI nx ndx nl (Bf (Dk ts))) (ds:=[.str (sg (El p))]) Ev.n (.cons (Ev.eq (Ev.upper Ev.n (AE rfl)) (congrArg D.str (E6 (O.low p hp)))) .nil) g1 UB af (DH.ro af) Kz ⟨_,_,_,_,_,MU⟩)
       (.cons (Ev.JT (f:=128) (k:=2) (G:=CI nx ndx nl (Bf (Dk ts))) (ds:=[.str (sg (El p))]) Ev.n (.cons (Ev.eq (Ev.upper Ev.n (AE rfl)) (congrArg D.str (E6 (O.low p hp)))) .nil) g2 UB af (DH.ro af) I7 ⟨_,_,_,_,_,H5⟩) .nil))
     .exact lb lK.2 rfl
     .rw [Bx]
     .refine Dt (O.get p hp) ?_;intro a0 l0 e0 e1 e2;have ls:(CU ts p).length<=10:=by unfold CU;rw[AA];exact AD (AV _ _) O.tl
      exact Ev.tp (.cons (Ev.FG (Ev.CQ Ev.n Ev.n (nd p hp)) Ev.cInt (by decide) (by rw[e0];rfl) (by unfold Cv;rw[AA];exact lb ls rfl)) (.cons (Ev.CQ Ev.n Ev.n (nd p hp)) .nil))
     .exact lb lK.2 rfl
     .rw [Bx]
     .exact Rx O
     .exact Rx O
     .have e:=ED (f:=λq:Nat×List Nat=>D.tup [.str (sg q.1),.list (Cv q.2)]) (λp q=>?_) (cs.map λp=>((CU ts p).headD 0,CU ts p)) (cs.map λp=>((CU ts p).headD 0,CU ts p))
      .rw [decide_eq_true rfl,AB]at e;exact congrArg (!·) e
      .rw [Ki,Hf,NM];obtain⟨a,b⟩:=p;obtain⟨x,y⟩:=q;by_cases h1:a=x<;>by_cases h2:b=y<;>simp[h1,h2]
end
theorem VM:∀(l:BY) (acc:Array Nat),(l.map sg).foldl (λacc p=>acc++(S "").cps++p.cps) acc=acc++l.toArray:=by
 intro l;induction l with
 |nil=>exact λacc=>by simp
 |cons a l ih=>
  intro acc;rw[AI,As,ih];show acc++#[]++#[a]++l.toArray=_;simp
theorem Ve:∀l:List Nat,Txt.join (S "") (l.map sg)=tx l
 |[]=>rfl
 |a::l=>by
  show(⟨(l.map sg).foldl (λacc p=>acc++(S "").cps++p.cps) (sg a).cps⟩:Str)=_;rw[VM];show(⟨#[a]++l.toArray⟩:Str)=⟨(a::l).toArray⟩;simp
noncomputable def jJ(s:Str):Nat:=s.cps.getD 0 0
theorem Vv(a b:Nat):PySem.Spec.ltCps (sg b).cps.toList (sg a).cps.toList=decide (b<a):=by
 show PySem.Spec.ltCps [b] [a]=_;simp[PySem.Spec.ltCps]
theorem Tp:∀(l:BY) (p:Nat),risingS (sg p) (l.map sg)=true->(p::l).Pairwise (·<=·):=by
 intro l;induction l with
 |nil=>exact λp V=>by simp
 |cons a l ih=>
  intro p h;rw[AI]at h;unfold risingS at h;rw[Vv,Bool.and_eq_true]at h;refine CB h ?_;clear h;intro h1 h2;have pa:p<=a:=by simpa using h1
  have ih:=ih a h2;refine .cons (λb hb=>?_) ih;rcases AJ.mp hb with rfl|hb
  .exact pa
  .exact AD pa (List.rel_of_pairwise_cons ih hb)
theorem Qw{nm:BY}(hp:nm.Perm cs)(asc:cs.Pairwise (· < ·))(ss:B1)(h:ss.Perm (nm.map sg))(hs:sortedS ss=true):ss=cs.map sg:=by
 have e1:ss=(ss.map jJ).map sg:=by
  rw[AB];conv=>lhs;rw[<- List.map_id ss]
  apply AW;intro s hs;refine Bh (AF.mp (h.mem_iff.mp hs)) ?_;rintro a V rfl;rfl
 have h2:(ss.map jJ).Perm cs:=by
  have:=h.map jJ;rw[AB]at this;have e:nm.map (jJ∘sg)=nm:=by
   conv=>rhs;rw[<- List.map_id nm]
   rfl
  rw[e]at this;exact this.trans hp
 rw[e1]at hs ⊢;congr 1;refine h2.eq_of_pairwise (le:=(·<=·)) (λa b V V h1 h2=>Nat.le_antisymm h1 h2) ?_ (asc.imp A4);cases hq:ss.map jJ with
 |nil=>exact .nil
 |cons a l=>rw[hq]at hs;exact Tp l a hs
section
variable {c cc:Cx}{J J' KR J0:B3}{N:Em}{R:Cs}{h h':Heap}{Z:Addr->Heap->Prop}
def Zq(nm:BY)(d:D)(th:TH)(d':D)(T:Res):Prop:=∃TT:TT,TT.map (λt=>(t.1,t.2.2))=th/\d'=.tup [.dict (Lk TT),.list (Cv nm++tailD d)]/\T=HG TT
theorem FN.tree{np:Pos}{es:Cw}{G:Res}{nm:BY}{th:TH}(f:Ev c J (.Name x np) (.obj (.ref 273)))(y:FP c J (e::es) ds)(g:∀(A:Around) (X:CF) (s:Shared) (vs:DV),E7 k A->CV c.w s.heap->FT X s.heap->Be X c.w s.heap vs ds->G.P c.w X s.heap->Run c.w A Hu (call (.ref 273) vs) s (Q9 c.w X nm d th))(hk:k<=c.k)(hG:∀X h,c.G.P c.w X h->G.P c.w X h)(he:autoParam (D8 c e es) Bc):FN c J (.Call (.Name x np) (e::es) [] pos) (Zq nm d th):=
 λs F Q E q=>wpAny_Call_NameR (f s F _ _ λv h1 t1 l1 r1=>by
  cases r1;have Eb:Le s.heap h1:=l1;refine BG (o:=Et (BZ 26) (S "_law_tree") .none CX (.ref 272)) (fd:=EV (BZ 26) (S "_law_tree") .none CX (.ref 272)) rfl (y pos _ (F.le Eb) _ _ λvs h2 t2 l2 r2=>?_) he;have F2:=(F.le Eb).le l2;have no:∀(L:TT) (b:Addr),DG c.X (HG L).fp b->c.X b:=λL b z=>z.elim id λz=>z.elim;exact⟨F2.base.k _ _ (U3.here _),g c.A c.X _ vs (F.ok.CC hk) F2.base F2.Cj r2 (hG _ _ F2.g) _ _ λv h3 t3 l3 zz=>by refine EI zz ?_;clear zz;intro L e1 rv p;exact q v h3 t3 _ (HG L) ⟨L,e1,rfl,rfl⟩ (Bt.trans (Bt.trans l1 l2) l3) (λb z=>z.elim) (Res.CC p (no L)) (rv.move (Cc (no L)))⟩)
noncomputable def Zm(i:Nat):D:=[D.str (S ""),.str (S "."),.none].getD i .none
noncomputable def wordOf(th:TH)(nm:BY)(x:Nat):List Nat:=(nm.drop 1).map λy=>if(Hs th x).contains y then El y else y
noncomputable def CZ(th:TH)(nm:BY):W2:=nm.map λx=>(x,wordOf th nm x)
structure M8(cs:BY)(ts:R2)(r:Nat)(d:D)(late:Bool)(th:TH)(nm:BY):Prop where
 run:∃stF n,stF.th=th/\n<=10/\runN late (Dk ts) (C6 ts cs) cs.length ⟨[r],[(r,r)],[(r,[],none)]⟩=some stF/\deep (Ib th) n r=true/\(∀m ≤n,∀a∈CR th,(CP (Ib th) m a).length<=500)/\CP (Ib th) n r=nm
 len:nm.length=cs.length
 perm:nm.Perm cs
 asc:cs.Pairwise (· < ·)
 ways:∀x∈nm,∃w a,th.lookup x=some (w,a)
theorem au{G0:Res}{nx ndx nl:Addr}{ts:R2}{a b m l:Nat}{r:Nat}{th:TH}{nm:BY}{rest:Dx}(E:Bi c w (BX (BZ 32)) k)(hk:20<=c.k)(hG:c.G=G0.star (CI nx ndx nl (Bf (Dk ts))))(O:KT cs ts)(hr:cs[m%cs.length]? = some r)(T:M8 cs ts r (Zm (m/cs.length%3)) (decide (m/cs.length/3%2=1)) th nm)(y:∀(L:TT) X',(∀b,c.X b->X' b)->L.map (λt=>(t.1,t.2.2))=th->Bd (c.on X' (c.G.star (HG L))) ((S "line",.list (Cv nm))::(S "things",.dict (Lk L))::(S "count",.int (cs.length:Nat))::(S "tail",Zm (m/cs.length%3))::(S "near",.dict (DR (C6 ts cs)))::(S "net",.obj (.ref nx))::(S "ties",.list (ts.map B7))::Jb cs [a,b,m,l]) [rest] N R) :
  Bd c ((S "near",.dict (DR (C6 ts cs)))::(S "net",.obj (.ref nx))::(S "ties",.list (ts.map B7))::Jb cs [a,b,m,l]) [hS 5::hS 6::hS 7::hS 8::rest] N R:=by
 have hint:interactive c.env=false:=E.quiet rfl;let R0:List (Str×D):=(S "near",.dict (DR (C6 ts cs)))::(S "net",.obj (.ref nx))::(S "ties",.list (ts.map B7))::Jb cs [a,b,m,l];let n:=cs.length;have n5:=O.Iy;let tl:=Zm (m/n%3);let R1:List (Str×D):=(S "count",.int (n:Nat))::(S "tail",tl)::R0;have hdiv:((m:Int)/(n:Int))=((m/n:Nat):Int):=(Int.natCast_ediv m n).symm;have len:∀ {c:Cx}{J:B3}{x:Str}{np:Pos}{e:Expr}{p:Pos},Ev c J (.Name x np) (.obj (.builtin "len"))->Ev c J e (.str (tx cs))->starEach [e] c.env=(false,eval e c.env)::starEach [] c.env->Ev c J (.Call (.Name x np) [e] [] p) (.int (n:Nat)):=λf y he=>Ev.eq (Ev.Nl f y (by rw[DX];exact lb n5.2 rfl) he) (by rw[DX]);refine Bd.step (J':=R1) (Ex.SK (n1:=S "count") (n2:=S "tail") (d1:=.int (n:Nat)) (d2:=tl) (Ev.tp (.cons (len Ev.b Ev.n rfl) (.cons (Ev.FG (ds:=[D.str (S ""),.str (S "."),.none]) (i:=((m/n%3:Nat):Int)) (d:=tl) (Ev.ls (.cons Ev.cStr (.cons Ev.cStr (.cons Ev.OL .nil)))) (Ev.eq (Ev.MA (Ev.Sl (Ev.FG Ev.n Ev.cInt (by decide) rfl (AE rfl)) (len Ev.b Ev.n rfl) ?_) Ev.cInt (by decide)) ?_) ?_ ?_) .nil))) ⟨by decide,by decide⟩ ⟨by decide,by decide⟩ (E.nm (.inl rfl)).slot (E.nm (.inl rfl)).slot (DF.of (by rfl)) (DF.of (by rfl)) (by unfold swappedStores Env.blockKind Env.kindOf;rw[E.hs];rfl)) ?_
 .show 0<(cs.length:Int)/\(cs.length:Int)<2^29;omega
 .rw [hdiv];rfl
 .exact BD _
 .show [D.str (S ""),.str (S "."),.none][m/n%3]? = some tl;have h3:m/n%3<3:=Nat.mod_lt _ (by decide);unfold tl Zm;match m/n%3,h3 with
  |0,_=>rfl
  |1,_=>rfl
  |2,_=>rfl
 .have Jm:tl=.none\/∃y,tl=.str y/\y.length<=1000:=by
   have h3:m/n%3<3:=Nat.mod_lt _ (by decide);unfold tl Zm;match m/n%3,h3 with
   |0,_=>exact .inr ⟨_,rfl,by decide⟩
   |1,_=>exact .inr ⟨_,rfl,by decide⟩
   |2,_=>exact .inl rfl
  refine V6 T.run ?_;intro stF dp lu lO az VW L7 lY;have rF:r∈cs:=AQ hr;have No:Pm (C6 ts cs):=⟨λp q hq=>by
   have:=AF.mp (lookup_mem hq);refine Bh this ?_;clear this;intro p' V e;cases e.symm;exact⟨by unfold CU;rw[AA];exact AD (AV _ _) (AD O.tl (by decide)),λq hq=>(O2 O p q hq).1⟩⟩
  have nG:((C6 ts cs).lookup r).isSome=true:=by
   refine B5 (GU (W:=C6 ts cs) (x:=r) (by unfold C6;rw[AB];exact AF.mpr ⟨r,rF,rfl⟩)) ?_;intro v e;rw[e];rfl
  have iI:(C6 ts cs).length=cs.length:=by unfold C6;rw[AA]
  have g:=λA X s vs ok B xk rv G=>fX c.w 16 (nx:=nx) (ndx:=ndx) (nl:=nl) (net:=Dk ts) (near:=C6 ts cs) (r:=r) (d:=tl) (late:=decide (m/n/3%2=1)) (stF:=stF) (n:=dp) (lb lO rfl) (Ry O.J5) (by rw[LK];have:=O.tl;exact hO this rfl) No (by rw[iI];exact lb n5.2 rfl) (O.low r rF) nG Jm (by rw[iI];exact az) (by rw[lu];exact VW) (by rw[lu];exact L7) (A:=A) (X:=X) (s:=s) (vs:=vs) ok B xk rv G;rw[lu,lY]at g;refine Bd.cons (Ex.setTR (N:=λh=>∃(L:TT) (X':CF),(∀b,c.X b->X' b)/\L.map (λt=>(t.1,t.2.2))=th/\Fr (c.on X' (c.G.star (HG L))) ((S "line",.list (Cv nm++tailD tl))::(S "things",.dict (Lk L))::R1) h)
   (FN.tree (d:=tl) (nm:=nm) (th:=th) (ds:=[.obj (.ref nx),.dict (DR (C6 ts cs)),.str (sg r),tl,.bool (decide (m/n/3%2=1))]) Ev.g (.cons Ev.n (.cons Ev.n (.cons (Ev.Ol (i:=m%n) (a:=r) Ev.n (Ev.eq (Ev.MA (Ev.FG Ev.n Ev.cInt (by decide) rfl (AE rfl)) Ev.n ?_) ?_) hr (lb n5.2 rfl) λx hx=>(Ca x (O.low x hx)).2) (.cons Ev.n (.cons (Ev.eq (Ev.cmp (Bg.dA (Ev.MA (Ev.Sl (Ev.Sl (Ev.FG Ev.n Ev.cInt (by decide) rfl (AE rfl)) Ev.n ?_) Ev.cInt (by decide)) Ev.cInt (by decide)) Ev.cInt)) ?_) .nil))))) g hk (λX h z=>by rw[hG]at z;exact z.2.1))
   (λd T X' zz hX nw=>?_)) ?_
  .lia
  .rfl
  .show 0<(cs.length:Int)/\(cs.length:Int)<2^29;omega
  .rw [hdiv];show D.bool (decide (((m/n/3%2:Nat):Int)=((1:Nat):Int)))=_;rw[decide_eq_decide.mpr Int.natCast_inj]
  .refine EI zz ?_;clear zz;intro L e1 e2 e3;subst e2 e3;have E1:Bi (c.on X' (c.G.star (HG L))) w (BX (BZ 32)) k:=E.on;exact⟨_,Bind.tup (.cons Bind.n (.cons Bind.n .nil)),λh F=>⟨L,X',hX,e1,F⟩⟩
  .intro h2 Cq;refine Dt Cq ?_;intro L X2 Hi eL F2;let c2:Cx:=c.on X2 (c.G.star (HG L));have E2:Bi c2 w (BX (BZ 32)) k:=E.on;let R2:List (Str×D):=(S "line",.list (Cv nm++tailD tl))::(S "things",.dict (Lk L))::R1;refine⟨c2,R2,⟨rfl,rfl,rfl⟩,F2,?_⟩;have nl:=T.len;have t1:tailD tl=[]\/tailD tl=[D.str (S ".")]:=by
    have h3:m/n%3<3:=Nat.mod_lt _ (by decide);unfold tl Zm;match m/n%3,h3 with
    |0,_=>exact .inl rfl
    |1,_=>exact .inr rfl
    |2,_=>exact .inl rfl
   have jD:(Cv nm++tailD tl).length<=10:=by
    unfold Cv;rcases t1 with e|e<;>rw[e]<;>simp<;>(exact Jc nl n5.2 rfl)
   have kJ:(Cv nm).length=n:=by unfold Cv;rw[AA];exact nl
   have eW:cut (Cv nm++tailD tl) none (some (n:Nat))=Cv nm:=by rw[NI,List.take_append_of_le_length (by exact BM (id (Eq.symm kJ))),List.take_of_length_le (by exact BM kJ)]
   have lL:cut (Cv nm++tailD tl) (some (n:Nat)) none=tailD tl:=by rw[Di,List.drop_append_of_le_length (by exact BM (id (Eq.symm kJ))),List.drop_of_length_le (by exact BM kJ),BT]
   have O4:∀a∈nm,a∈cs:=λa ha=>T.perm.mem_iff.mp ha;have f1:Gl 1 (.list (Cv cs)):=KB λa ha=>(Ca a (O.low a ha)).2;have f2:Gl 1 (.list (tailD tl)):=by
    rcases t1 with e|e<;>rw[e]
    .exact .list λd hd=>by cases hd
    .exact .list λd hd=>by rw[AG.mp hd];exact .str (by decide +kernel)
   have sm:tl.small:=by
    rcases Jm with e|⟨y,e,hy⟩<;>rw[e]
    .trivial
    .show y.length<=_;exact lb hy rfl
   have vo:∀Yq:List Str,Yq.Perm (nm.map sg)->sortedS Yq=true->Yq=cs.map sg:=Qw T.perm T.asc;refine Bd.if (b:=false) ?_ (λh=>by cases h) λV=>Bd.nil ?_
   .refine CK.W9 (a:=false) (b:=false) ?_ λV=>?_
    .refine CK.cmp (Bg.eq (Bg.W7 (n:=1) (m:=1) (a:=.list (Cv cs)) (b:=.list (Cv cs)) (Ev.eq (Ev.sorted (ss:=nm.map sg) (ts:=cs.map sg) Ev.b (Ev.eq (Ev.EH Ev.n Part.no (Part.int Ev.n) (by omega)) ?_) (by rw[AA];lia) vo) ?_) (Ev.listS Ev.b Ev.n (by omega)) f1 f1) ?_)
     .rw [eW];unfold Cv;rw[AB];rfl
     .unfold Cv;rw[AB];rfl
     .rw [NM];simp
    .refine CK.cmp (Bg.eq (Bg.W7 (n:=1) (m:=1) (a:=.list (tailD tl)) (b:=.list (tailD tl)) (Ev.eq (Ev.EH Ev.n (Part.int Ev.n) Part.no (lb jD rfl)) ?_)
      (CE.ev (CE.eq (CE.C0 [tl] id D.Ll id (J0:=[]) E2.co (Ba.list (Ev.ls (.cons Ev.n .nil))) (λd=>[(S "one",d)]) (λV V h=>by cases h) (λV V V sc=>Bind.n) (λd hd cc sc=>CL.one (CK.val Ev.n ?_)) (λd V V cc sc=>Ev.n) ?_) ?_)) f2 f2) ?_)
     .rw [lL]
     .rw [AG.mp hd];exact sm
     .exact AE rfl
     .unfold tailD;rw[A8];cases tl.Ll<;>rfl
     .rcases t1 with e|e<;>rw[e]
      .exact congrArg (!·) (ED (f:=D.str) DJ [] [])
      .exact congrArg (!·) (ED (f:=D.str) DJ [S "."] [S "."])
   .refine Bd.step (c:=c2) (J':=(S "line",.list (Cv nm))::(S "things",.dict (Lk L))::R1) (Ex.sc E2 (d:=.list (Cv nm)) (Ev.eq (Ev.EH Ev.n Part.no (Part.int Ev.n) (lb jD rfl)) (by rw[eW]))) (y L X2 Hi eL)
end
section
variable {c cc:Cx}{J J' KR J0:B3}{N:Em}{R:Cs}{h h':Heap}{Z:Addr->Heap->Prop}
theorem Q2{L:TT}{th:TH}(e:L.map (λt=>(t.1,t.2.2))=th){x:Nat}{w:BY}{a:Option Nat}(h:th.lookup x=some (w,a)):∃v,L.lookup x=some (v,w,a):=by
 subst e;induction L with
 |nil=>cases h
 |cons t L ih=>
  obtain⟨b,v,q⟩:=t;rw[AI,AK]at h;rw[AK];dsimp only at h ⊢;cases hb:x==b with
  |true=>rw[hb]at h;exact⟨v,by rw[Option.some.inj h]⟩
  |false=>rw[hb]at h;exact ih h
structure UJ(nm:BY)(W:W2)(A:A2):Prop where
 has:∀x∈nm,∀y∈nm,EC A (x,y)
 signs:∀x∈nm,(Bn W x).length<=100/\∀a∈Bn W x,a∈By
 same:∀x∈nm,∀y∈nm,(Bn W x).length=(Bn W y).length
 je:∀p∈CJ nm,Es W nm.length p=(unlike (Bn W p.1) (Bn W p.2):Int)
 small:∀p∈CJ nm,unlike (Bn W p.1) (Bn W p.2)<30
 some:Ef nm W A≠[]
noncomputable def NX(nx:Addr)(cs:BY)(ts:R2)(a b m l:Nat)(nm:BY)(L:TT):List (Str×D):=(S "line",.list (Cv nm))::(S "things",.dict (Lk L))::(S "count",.int (cs.length:Nat))::(S "tail",Zm (m/cs.length%3))::(S "near",.dict (DR (C6 ts cs)))::(S "net",.obj (.ref nx))::(S "ties",.list (ts.map B7))::Jb cs [a,b,m,l]
theorem LC{β:Type}{f:Nat->β}{ls:BY}{x:Nat}(h:x∈ls):(ls.map λx=>(x,f x)).lookup x=some (f x):=by
 induction ls with
 |nil=>cases h
 |cons y ls ih=>
  rw[AI,AK];by_cases e:x=y
  .rw [e];simp
  .rw [show(x==y)=false by simpa using e];exact ih ((AJ.mp h).resolve_left e)
theorem GF{f:Nat->List Nat}{ls:BY}{x:Nat}(h:x∈ls):Bn (ls.map λx=>(x,f x)) x=f x:=by
 unfold Bn;rw[LC h];rfl
theorem aw{ts:R2}{a b m l:Nat}{nx:Addr}{r:Nat}{late:Bool}{th:TH}{nm:BY}{L:TT}{rest:Dx}(E:Bi c w (BX (BZ 32)) k)(hk:20<=c.k)(hG:∀X h,c.G.P c.w X h->(HG L).P c.w X h)(O:KT cs ts)(T:M8 cs ts r d late th nm)(eL:L.map (λt=>(t.1,t.2.2))=th)(K:UJ nm (CZ th nm) (Ce cs ts))(y:Bd c ((S "lacks",.dict (dI (Ef nm (CZ th nm) (Ce cs ts))))::(S "steps",.dict (dI (Ce cs ts)))::(S "words",.dict (dW (CZ th nm)))::NX nx cs ts a b m l nm L) [rest] N R) :
  Bd c (NX nx cs ts a b m l nm L) [hS 9::hS 10::hS 11::hS 12::rest] N R:=by
 have hint:interactive c.env=false:=E.quiet rfl;let R0:=NX nx cs ts a b m l nm L;have n5:=O.Iy;have nl:=T.len;have O4:∀a∈nm,a∈lows:=λa ha=>O.low a (T.perm.mem_iff.mp ha);have j7:nm.Nodup:=T.perm.nodup_iff.mpr O.nd;refine Bd.step (J':=(S "words",.dict (dW (CZ th nm)))::R0) (Ex.cD E (d:=.dict (dW (CZ th nm))) (CE.eq (CE.Kb nm (λx=>.str (sg x)) (λV=>true) (λx=>sg x) (λx=>.str (tx (wordOf th nm x))) (J0:=[(S "line",.list (Cv nm)),(S "things",.dict (Lk L))]) E.co (Ba.list Ev.n) (λx=>[(S "x",.str (sg x)),(S "line",.list (Cv nm)),(S "things",.dict (Lk L))]) (λV V h=>.tail _ h) (λV V V sc=>Bind.n) (λV V V V=>CL.nil)
  (λx hx V sG cC=>⟨Ev.n,Ev.eq (Ev.join (ys:=(wordOf th nm x).map sg) Ev.cStr (CE.ev (CE.eq (CE.C0 (nm.drop 1) (λy=>.str (sg y)) (λV=>true) (λy=>.str (sg (if(Hs th x).contains y then El y else y))) (J0:=[(S "x",.str (sg x)),(S "things",.dict (Lk L))]) cC.co (Ba.eq (Ba.list (Ev.EH Ev.n (Part.int Ev.cInt) Part.no ?_)) ?_) (λy=>[(S "y",.str (sg y)),(S "x",.str (sg x)),(S "things",.dict (Lk L))]) (λV V h=>.tail _ h) (λV V V sc=>Bind.n) (λV V V V=>CL.nil)
   (λy hy V cc sc=>?_) ?_) ?_)) ?_) ?_⟩) ?_) ?_)) ?_
 .unfold Cv;rw[AA];exact Jc nl n5.2 rfl
 .show cut (Cv nm) (some ((1:Nat):Int)) none=_;rw[Di];unfold Cv;rw[List.map_drop]
 .refine MB (T.ways x hx) ?_;intro wx ax ex;refine B5 (Q2 eL ex) ?_;intro v ev;have ew:Hs th x=wx:=by unfold Hs;rw[ex];rfl
  have yl:y∈lows:=O4 y (Aj hy);rw[ew];have dD:∀X h,cc.G.P cc.w X h->OG cc.w X h v (Ia wx ax):=λX h z=>by rw[sc.w,cC.w];exact PZ ev (hG X h (cC.g X h (sc.g X h z)))
  refine Ev.eq (Ev.Gz (d:=.str (sg (El y))) (d':=.str (sg y)) (CK.cmp (Bg.qR (cs:=wx) Ev.n (Ev.CQ (es:=Ia wx ax) (Ev.Ps dD (Ev.CQ Ev.n Ev.n (N8 ev))) Ev.cStr (by rfl)))) (λV=>Ev.eq (Ev.upper Ev.n (AE rfl)) (congrArg D.str (E6 yl))) λV=>Ev.n) ?_;cases wx.contains y<;>rfl
 .rw [AM];omega
 .rw [Bx];unfold wordOf;rw[AB,AB];rfl
 .have e:(((wordOf th nm x).map sg).map (·.length)).sum=(wordOf th nm x).length:=by
   generalize wordOf th nm x=l;induction l with
   |nil=>rfl
   |cons a l ih=>rw[AI,AI,BC,ih];show 1+l.length=l.length+1;omega
  have wl:(wordOf th nm x).length<=10:=by unfold wordOf;rw[AA,AM];omega
  rw[e];show _+_*0<=_;omega
 .rw [Ve]
 .exact Jc nl n5.2 rfl
 .rw [Bx,IS j7];unfold CZ dW;rw[AB];rfl
 .let R1:List (Str×D):=(S "words",.dict (dW (CZ th nm)))::R0;have lH:∀a∈cs,a<128:=λa ha=>(Ca a (O.low a ha)).2;refine Bd.step (J':=(S "steps",.dict (dI (Ce cs ts)))::R1) (Ex.sn (Ev.FV (fa:=261) (k:=1) (ds:=[.str (tx cs),.list (ts.map B7)]) Ev.g (.cons Ev.n (.cons Ev.n .nil)) (aX c.w 0 cs ts (lb n5.2 rfl) lH O.nd λp hp=>⟨(Ca _ (O.J5 p hp).1).2,(Ca _ (O.J5 p hp).2).2⟩) (AD (by decide) hk) ⟨_,_,_,_,_,RP⟩)) ?_;refine Bd.step (J':=(S "lacks",.dict (dI (Ef nm (CZ th nm) (Ce cs ts))))::(S "steps",.dict (dI (Ce cs ts)))::R1) (Ex.sc E (Ev.FV (fa:=283) (k:=3) (ds:=[.list (Cv nm),.dict (dW (CZ th nm)),.dict (dI (Ce cs ts))]) Ev.g (.cons Ev.n (.cons Ev.n (.cons Ev.n .nil))) (aV c.w 0 nm (CZ th nm) (Ce cs ts) (Jc nl n5.2 rfl) (λa ha=>(Ca a (O4 a ha)).2) (λx hx=>by unfold CZ;rw[AB];exact AF.mpr ⟨x,hx,rfl⟩) K.has K.signs K.same K.je K.small) (AD (by decide) hk) ⟨_,_,_,_,_,RO⟩)) ?_;exact Bd.if (b:=false) (CK.cmp (Bg.lZ Ev.n Ev.eX λz=>K.some (by unfold dI at z;exact List.map_eq_nil_iff.mp z))) (λh=>by cases h) λV=>Bd.nil y
end
noncomputable def MI(c:Nat)(z:BY)(a:Nat):List Nat:=if a=c then z else[a]
theorem Li(c:Nat)(z:BY):∀l:List Nat,c∉l->l.flatMap (MI c z)=l:=by
 intro l;induction l with
 |nil=>exact λV=>rfl
 |cons k r ih=>
  intro h;rw[AX,ih λm=>h (.tail _ m)];unfold MI;have hk:¬k=c:=λe=>h (by rw[e];exact .head _);rw[if_neg hk];rfl
theorem PW(c:Nat)(z:Str):∀parts:List Str,(∀p∈parts,c∉p.cps.toList)->(Str.join ⟨#[c]⟩ parts).cps.toList.flatMap (MI c z.cps.toList)=(Str.join z parts).cps.toList
 |[],_=>rfl
 |[p],h=>Li c _ _ (h p (.head _))
 |p::q::r,h=>by
  have ih:=PW c z (q::r) λa ha=>h a (.tail _ ha);show(p++⟨#[c]⟩++Str.join ⟨#[c]⟩ (q::r)).cps.toList.flatMap _=(p++z++Str.join z (q::r)).cps.toList;simp only[Str.cps_append,Array.toList_append,List.flatMap_append];rw[ih,Li c _ _ (h p (.head _))];simp[MI]
theorem PE(l:BY)(c:Nat)(z:Str):Txt.replace (tx l) (sg c) z=tx (l.flatMap (MI c z.cps.toList)):=by
 have h:(Txt.replace (tx l) (sg c) z).cps.toList=l.flatMap (MI c z.cps.toList):=by
  have e:=PW c z _ (StrLaws.split_free (tx l) c);rw[StrLaws.join_split]at e;rw[show sg c=⟨#[c]⟩from rfl,StrLaws.replace_one,<- e];rfl
 generalize Txt.replace (tx l) (sg c) z=r at h;obtain⟨⟨m⟩⟩:=r;have e:m=l.flatMap (MI c z.cps.toList):=h;rw[e];rfl
theorem H4(l:BY)(c:Nat)(z:Str):BW (tx l) (sg c) z=tx (l.flatMap (MI c z.cps.toList)):=by
 unfold BW;split
 .exact PE l c z
 .rename_i h;rw[JV]at h;rw[Li];simpa using h
noncomputable def Jk(cz:List (Nat×Str))(l:BY):List Nat:=cz.foldl (λl p=>l.flatMap (MI p.1 p.2.cps.toList)) l
theorem MS:∀(cz:List (Nat×Str)) (l:BY),Jk cz l=l.flatMap λa=>Jk cz [a]:=by
 intro l;induction l with
 |nil=>exact λl=>by unfold Jk;simp
 |cons p cz ih=>
  intro l;show Jk cz (l.flatMap _)=_;rw[ih,List.flatMap_assoc];congr 1;funext a;show _=Jk cz ([a].flatMap _);rw[AX,List.flatMap_nil,List.append_nil,ih (MI _ _ a)]
theorem Ut{cz:List (Nat×Str)}{ss:BY}(h:∀a∈By,(Jk cz [a]).length<=10)(hs:∀a∈ss,a∈By)(hl:ss.length<=20):(tx (Jk cz ss)).length<=1000:=by
 rw[DX,MS];have:(ss.flatMap λa=>Jk cz [a]).length<=ss.length*10:=by
  clear hl;induction ss with
  |nil=>simp
  |cons a ss ih=>
   rw[AX,Ac,AZ];have:=h a (hs a (.head _));have:=ih λb hb=>hs b (.tail _ hb);lia
 lia
noncomputable def sL:List (Nat×Str):=[(38,ch "&amp;"),(60,ch "&lt;"),(62,ch "&gt;")]
noncomputable def sM:List (Nat×Str):=[(38,ch "&amp;"),(60,ch "&lt;"),(62,ch "&gt;"),(34,ch "&quot;"),(13,ch "&#13;"),(10,ch "&#10;"),(9,ch "&#09;")]
noncomputable def sN:List (Nat×Str):=[(38,ch "&amp;"),(62,ch "&gt;"),(34,ch "&quot;")]
noncomputable def sO:List (Nat×Str):=[(38,ch "&amp;"),(60,ch "&lt;"),(62,ch "&gt;"),(13,ch "&#xD;")]
noncomputable def sP:List (Nat×Str):=[(38,ch "&amp;"),(60,ch "&lt;"),(34,ch "&quot;"),(9,ch "&#x9;"),(10,ch "&#xA;"),(13,ch "&#xD;")]
noncomputable def jY(i:Nat):List (Nat×Str):=[sM,sN,sL,sO,sP].getD i []
theorem XY:∀i<5,∀n<8,∀a∈By,(Jk ((jY i).take n) [a]).length<=10:=by decide +kernel
theorem Sj:∀i<5,∀a∈By,Jk (jY i) [a]=(CN i a).cps.toList:=by decide +kernel
noncomputable def Ek(i:Nat):Addr:=[230,237,223,244,251].getD i 0
noncomputable def Ja(l:B1):Str:=Txt.join (S "") l
theorem Oc(l:B1):Ja l=tx (l.flatMap λs=>s.cps.toList):=by
 have key:∀(l:B1) (acc:Array Nat),l.foldl (λacc p=>acc++(S "").cps++p.cps) acc=acc++(l.flatMap λs=>s.cps.toList).toArray:=λl=>by
  induction l with
  |nil=>intro acc;simp
  |cons s l ih=>
   intro acc;rw[As,ih,AX];show acc++#[]++s.cps++_=_;apply Array.toList_inj.mp;simp[List.append_assoc]
 cases l with
 |nil=>rfl
 |cons s l=>
  show(⟨l.foldl (λacc p=>acc++(S "").cps++p.cps) s.cps⟩:Str)=_;rw[key,AX];show _=(⟨(s.cps.toList++_).toArray⟩:Str);simp
theorem Xw{i:Nat}(hi:i<5){ss:BY}(hs:∀a∈ss,a∈By):tx (Jk (jY i) ss)=Ja (ss.map (CN i)):=by
 rw[Oc,MS,List.flatMap_map];congr 1;induction ss with
 |nil=>rfl
 |cons a ss ih=>rw[AX,AX,ih λb hb=>hs b (.tail _ hb),Sj i hi a (hs a (.head _))]
theorem VQ{i n:Nat}(hi:i<5)(hn:n<8){ss:BY}(hs:∀a∈ss,a∈By)(hl:ss.length<=20):(tx (Jk ((jY i).take n) ss)).length<=1000:=Ut (XY i hi n hn) hs hl
theorem Ub:ch "&"=sg 38:=rfl
theorem Uc:ch "<"=sg 60:=rfl
theorem Ud:ch ">"=sg 62:=rfl
theorem Ua:ch "\""=sg 34:=rfl
theorem UZ:ch "\r"=sg 13:=rfl
theorem UY:ch "\n"=sg 10:=rfl
theorem eR:ch "\t"=sg 9:=rfl
theorem fU(w:World)(i:Nat)(hi:i<5)(ss:BY)(hs:∀a∈ss,a∈By)(hl:ss.length<=20):C9 w (Ek i) 1 [.str (tx ss)] (.str (Ja (ss.map (CN i)))):=by
 rw[<- Xw hi hs];have H:=λn hn=>VQ (n:=n) hi hn hs hl;revert H;refine nY hi ?_ ?_ ?_ ?_ ?_
 .intro H;have g:=fP w 0 (tx ss);unfold e9 at g;simp only[Ub,Uc,Ud,Ua,UZ,UY,eR,H4]at g;exact g (H 0 (by decide)) (H 1 (by decide)) (H 2 (by decide)) (H 3 (by decide)) (H 4 (by decide)) (H 5 (by decide)) (H 6 (by decide))
 .intro H;have g:=fQ w 0 (tx ss);unfold fA at g;simp only[Ub,Uc,Ud,Ua,UZ,UY,eR,H4]at g;exact g (H 0 (by decide)) (H 1 (by decide)) (H 2 (by decide))
 .intro H;have g:=fO w 0 (tx ss);unfold aL at g;simp only[Ub,Uc,Ud,Ua,UZ,UY,eR,H4]at g;exact g (H 0 (by decide)) (H 1 (by decide)) (H 2 (by decide))
 .intro H;have g:=fR w 0 (tx ss);unfold fB at g;simp only[Ub,Uc,Ud,Ua,UZ,UY,eR,H4]at g;exact g (H 0 (by decide)) (H 1 (by decide)) (H 2 (by decide)) (H 3 (by decide))
 .intro H;have g:=fS w 0 (tx ss);unfold fC at g;simp only[Ub,Uc,Ud,Ua,UZ,UY,eR,H4]at g;exact g (H 0 (by decide)) (H 1 (by decide)) (H 2 (by decide)) (H 3 (by decide)) (H 4 (by decide)) (H 5 (by decide))
section
variable {c cc:Cx}{J J' KR J0:B3}{N:Em}{R:Cs}{h h':Heap}{Z:Addr->Heap->Prop}
noncomputable def Pn(th:TH)(y:Nat):Nat:=((th.lookup y).bind (·.2)).getD 0
noncomputable def FJ(th:TH)(nm:BY)(B:A2)(t:Nat):W2:=nm.map λx=>(x,EB B x (nm.drop 1) (Hs th x) (Pn th) t)
noncomputable def Dz(nm:BY)(G:W2)(i:Nat):P2:=nm.map λx=>(x,(Bn G x).map (CN i))
theorem YR(cs:BY):Txt.mul (tx cs) 2=tx (cs++cs):=by
 unfold Txt.mul;rw[if_neg (by decide)];by_cases h:cs=[]
 .subst h;rfl
 .rw [if_neg (by rw[DX];simpa using h)];show(⟨(List.replicate 2 cs.toArray).foldl (·++·) #[]⟩:Str)=⟨(cs++cs).toArray⟩;simp[List.replicate]
theorem U0(i:Nat)(h:i<5):∃st qual code dflt mod,B9 (Ek i) st qual code dflt mod:=by
 exact nY h ⟨_,_,_,_,_,Uw⟩ ⟨_,_,_,_,_,Ux⟩ ⟨_,_,_,_,_,Uv⟩ ⟨_,_,_,_,_,Uy⟩ ⟨_,_,_,_,_,Uz⟩
theorem Xv{l:B1}(h:∀s∈l,PyData.strOk s=true):PyData.strOk (Ja l)=true:=by
 have key:∀(l:B1) (acc:Array Nat),(∀s∈l,PyData.strOk s=true)->acc.all (· < 0x110000)=true->(l.foldl (λacc p=>acc++(S "").cps++p.cps) acc).all (· < 0x110000)=true:=λl=>by
  induction l with
  |nil=>exact λacc V h=>h
  |cons s l ih=>
   intro acc hs ha;refine ih _ (λs h=>hs s (.tail _ h)) ?_;have h1:s.cps.all (· < 0x110000)=true:=hs s (.head _);show(acc++#[]++s.cps).all (· < 0x110000)=true;rw[Array.append_empty,Array.all_append,ha,h1];rfl
 cases l with
 |nil=>decide +kernel
 |cons a l=>exact key l a.cps (λs hs=>h s (.tail _ hs)) (h a (.head _))
theorem WW:∀i<5,∀a∈By,PyData.strOk (CN i a)=true/\(CN i a).length<=10:=by decide +kernel
structure UN(th:TH)(nm:BY)(B:A2)(t:Nat):Prop where
 above:∀y∈nm.drop 1,∃wy,th.lookup y=some (wy,some (Pn th y))
 has:∀x∈nm,∀y∈nm.drop 1,EC B (x,y)/\EC B (x,Pn th y)
 signs:∀x∈nm,∀a∈Bn (FJ th nm B t) x,a∈By
noncomputable def Py(nx:Addr)(cs:BY)(ts:R2)(a b m l:Nat)(th:TH)(nm:BY)(L:TT):List (Str×D):=(S "lacks",.dict (dI (Ef nm (CZ th nm) (Ce cs ts))))::(S "steps",.dict (dI (Ce cs ts)))::(S "words",.dict (dW (CZ th nm)))::NX nx cs ts a b m l nm L
theorem ay{ts:R2}{a b m l:Nat}{nx:Addr}{r:Nat}{late:Bool}{th:TH}{nm:BY}{L:TT}{rest:Dx}(E:Bi c w (BX (BZ 32)) k)(hk:20<=c.k)(hG:∀X h,c.G.P c.w X h->(HG L).P c.w X h)(O:KT cs ts)(T:M8 cs ts r d late th nm)(eL:L.map (λt=>(t.1,t.2.2))=th){B:A2}(eB:B=Ef nm (CZ th nm) (Ce cs ts)){G:W2}(eG:G=FJ th nm B (l%7)){i:Nat}(ei:i=l/7%5){P:P2}(eP:P=Dz nm G i)(K:UN th nm B (l%7))(HD:∀ss:List Nat,(∀a∈ss,a∈By)->ss.length<=20->C9 c.w (Ek i) 1 [.str (tx ss)] (.str (Ja (ss.map (CN i)))))(y:Bd c ((S "pieces",.dict (dP P))::(S "signs",.dict (dW G))::(S "hand",.obj (.ref (Ek i)))::(S "number",.int (i:Nat))::Py nx cs ts a b m l th nm L) [rest] N R) :
  Bd c (Py nx cs ts a b m l th nm L) [hS 13::hS 14::hS 15::hS 16::hS 17::rest] N R:=by
 have hint:interactive c.env=false:=E.quiet rfl;let R0:=Py nx cs ts a b m l th nm L;have n5:=O.Iy;have nl:=T.len;have i5:i<5:=by rw[ei];exact Nat.mod_lt _ (by decide)
 have O4:∀a∈nm,a∈lows:=λa ha=>O.low a (T.perm.mem_iff.mp ha);have j7:nm.Nodup:=T.perm.nodup_iff.mpr O.nd;have gl:∀x∈nm,Bn G x=EB B x (nm.drop 1) (Hs th x) (Pn th) (l%7):=λx hx=>by rw[eG];exact GF hx
 have ff:∀x∈nm,(Bn G x).length<=5:=λx hx=>by rw[gl x hx];unfold EB;rw[AA,List.length_zipIdx,AM];lia
 have gs:∀x∈nm,∀a∈Bn G x,a∈By:=λx hx=>by rw[eG];exact K.signs x hx
 refine Bd.step (J':=(S "number",.int (i:Nat))::R0) (Ex.sc E (d:=.int (i:Nat)) (Ev.eq (Ev.MA (Ev.Sl (Ev.FG Ev.n Ev.cInt (by decide) rfl (AE rfl)) Ev.cInt (by decide)) Ev.cInt (by decide)) (by rw[ei];rfl))) ?_;refine Bd.step (J':=(S "hand",.obj (.ref (Ek i)))::(S "number",.int (i:Nat))::R0) (Ex.sc E (d:=.obj (.ref (Ek i))) (Ev.FG (ds:=[.obj (.ref 230),.obj (.ref 237),.obj (.ref 223),.obj (.ref 244),.obj (.ref 251)]) (i:=((i:Nat):Int)) (Ev.ls (.cons Ev.g (.cons Ev.g (.cons Ev.g (.cons Ev.g (.cons Ev.g .nil)))))) Ev.n (BD _) ?_)) ?_
 .show [D.obj (.ref 230),.obj (.ref 237),.obj (.ref 223),.obj (.ref 244),.obj (.ref 251)][i]? = _;exact nY i5 rfl rfl rfl rfl rfl
 .let R1:List (Str×D):=(S "hand",.obj (.ref (Ek i)))::(S "number",.int (i:Nat))::R0;refine Bd.step (J':=(S "signs",.dict (dW G))::R1) (Ex.sc E (d:=.dict (dW G)) (CE.ev (CE.eq (CE.Kb nm (λx=>.str (sg x)) (λV=>true) (λx=>sg x) (λx=>.str (tx (Bn G x))) (J0:=[(S "lacks",.dict (dI B)),(S "line",.list (Cv nm)),(S "things",.dict (Lk L)),(S "sums",.list ([a,b,m,l].map λa=>.int (a:Nat)))]) (eB▸E.co) (Ba.list Ev.n) (λx=>[(S "x",.str (sg x)),(S "lacks",.dict (dI B)),(S "line",.list (Cv nm)),(S "things",.dict (Lk L)),(S "sums",.list ([a,b,m,l].map λa=>.int (a:Nat)))]) (λV V h=>.tail _ h) (λV V V sc=>Bind.n) (λV V V V=>CL.nil) (λx hx V cc sc=>⟨Ev.n,?_⟩) ?_) ?_))) ?_
  .rw [gl x hx];refine MB (T.ways x hx) ?_;intro wx ax ex;refine B5 (Q2 eL ex) ?_;intro v ev;have ew:Hs th x=wx:=by unfold Hs;rw[ex];rfl
   rw[ew];have dD:∀X h,cc.G.P cc.w X h->(HG L).P cc.w X h:=λX h z=>by rw[sc.w];exact hG X h (sc.g X h z)
   refine Ev.eQ (fa:=290) (k:=1) (G:=HG L) (ds:=[.str (sg x),.list ((nm.drop 1).map λa=>.str (sg a)),.dict (Lk L),.dict (dI B),.int (l%7:Nat)]) Ev.g (.cons Ev.n (.cons (Ev.eq (Ev.EH Ev.n (Part.int Ev.cInt) Part.no ?_) ?_) (.cons Ev.n (.cons Ev.n (.cons (Ev.eq (Ev.MA (Ev.FG Ev.n Ev.cInt (by decide) rfl (AE rfl)) Ev.cInt (by decide)) ?_) .nil)))))
    (VG cc.w 0 x (nm.drop 1) L B (l%7) wx (Pn th) ax v ?_ ?_ ?_ ev ?_ (K.has x hx) (Nat.mod_lt _ (by decide))) ?_ dD (λb z=>z) ⟨_,_,_,_,_,MT⟩
   .unfold Cv;rw[AA];exact Jc nl n5.2 rfl
   .show D.list (cut (Cv nm) (some ((1:Nat):Int)) none)=_;rw[Di];unfold Cv;rw[List.map_drop]
   .rfl
   .rw [AM];lia
   .exact (Ca x (O4 x hx)).2
   .exact λa ha=>(CA a (O4 a (Aj ha))).2.2
   .intro y hy;refine B5 (K.above y hy) ?_;intro wy ey;refine B5 (Q2 eL ey) ?_;intro v2 tC;exact⟨v2,wy,tC⟩
   .rw [sc.k];exact AD (by decide) hk
  .exact Jc nl n5.2 rfl
  .rw [Bx,IS (f:=λx=>.str (tx (Bn G x))) j7];have e:G=nm.map λx=>(x,Bn G x):=by
    rw[eG];unfold FJ;apply AW;intro x hx;rw[GF hx]
   conv=>rhs;rw[e]
   unfold dW;rw[AB];rfl
  .let R2:List (Str×D):=(S "signs",.dict (dW G))::R1;have kG:∀x∈nm,x∈G.map (·.1):=λx hx=>by rw[eG];unfold FJ;rw[AB];exact AF.mpr ⟨x,hx,rfl⟩
   have kP:∀x∈nm,x∈P.map (·.1):=λx hx=>by rw[eP];unfold Dz;rw[AB];exact AF.mpr ⟨x,hx,rfl⟩
   have pg:∀x∈nm,Cy P x=(Bn G x).map (CN i):=λx hx=>by
    rw[eP];unfold Cy Dz;rw[LC (f:=λx=>(Bn G x).map (CN i)) hx];rfl
   refine Bd.step (J':=(S "pieces",.dict (dP P))::R2) (Ex.sc E (d:=.dict (dP P)) (CE.ev (CE.eq (CE.Kb nm (λx=>.str (sg x)) (λV=>true) (λx=>sg x) (λx=>.list ((Cy P x).map .str)) (J0:=[(S "signs",.dict (dW G)),(S "hand",.obj (.ref (Ek i)))]) E.co (Ba.list Ev.n) (λx=>[(S "x",.str (sg x)),(S "signs",.dict (dW G)),(S "hand",.obj (.ref (Ek i)))]) (λV V h=>.tail _ h) (λV V V sc=>Bind.n) (λV V V V=>CL.nil)
    (λx hx V sG cC=>⟨Ev.n,CE.ev (CE.eq (CE.C0 (Bn G x) (λs=>.str (sg s)) (λV=>true) (λs=>.str (CN i s)) (J0:=[(S "hand",.obj (.ref (Ek i)))]) cC.co (Ba.tx (Ev.CQ (d:=.str (tx (Bn G x))) Ev.n Ev.n (CM (kG x hx)))) (λs=>[(S "sign",.str (sg s)),(S "hand",.obj (.ref (Ek i)))]) (λV V h=>.tail _ h) (λV V V sc=>Bind.n) (λV V V V=>CL.nil)
     (λs hs V cc sc=>Ev.FV (fa:=Ek i) (k:=1) (ds:=[.str (sg s)]) Ev.n (.cons Ev.n .nil) (by rw[sc.w,cC.w];exact HD [s] (λa ha=>by rw[AG.mp ha];exact gs x hx s hs) (AE rfl)) (by rw[sc.k,cC.k];exact AD (by decide) hk) (U0 i i5)) ?_) ?_)⟩) ?_) ?_))) ?_
   .have:=ff x hx;exact lb this rfl
   .rw [Bx,pg x hx,AB];rfl
   .exact Jc nl n5.2 rfl
   .rw [Bx,IS (f:=λx=>.list ((Cy P x).map .str)) j7];have e:P=nm.map λx=>(x,Cy P x):=by
     have:∀x∈nm,(x,Cy P x)=(x,(Bn G x).map (CN i)):=λx hx=>by rw[pg x hx]
     conv=>lhs;rw[eP]
     unfold Dz;exact(AW this).symm
    conv=>rhs;rw[e]
    unfold dP;rw[AB];rfl
   .refine Bd.if (b:=false) (CK.eq (CK.val (d:=.list []) (CE.ev (CE.eq (CE.C0 nm (λx=>.str (sg x)) (λV=>false) (λx=>.str (sg x)) (J0:=[(S "pieces",.dict (dP P)),(S "signs",.dict (dW G)),(S "hand",.obj (.ref (Ek i))),(S "number",.int (i:Nat))]) E.co (Ba.list Ev.n) (λx=>[(S "x",.str (sg x)),(S "pieces",.dict (dP P)),(S "signs",.dict (dW G)),(S "hand",.obj (.ref (Ek i))),(S "number",.int (i:Nat))]) (λV V h=>.tail _ h) (λV V V sc=>Bind.n) (λx hx cc sc=>CL.one ?_) (λx V h cc sc=>by cases h) ?_) ?_)) (Al _)) rfl) (λh=>by cases h) λV=>Bd.nil y
    .have px:=pg x hx;have g5:=ff x hx;have sp:∀s∈Cy P x,PyData.strOk s=true/\s.length<=10:=λs hs=>by
      rw[px]at hs;refine Bh (AF.mp hs) ?_;rintro a ha rfl;exact WW i i5 a (gs x hx a ha)
     have pl:(Cy P x).length<=5:=by rw[px,AA];exact g5
     have f1:Gl 1 (.list ((Cy P x).map .str)):=.list λd hd=>by
      refine Bh (AF.mp hd) ?_;rintro s hs rfl;exact .str (sp s hs).1
     let q:Str:=Ja (Cy P x++Cy P x);have rE:PyData.strOk q=true:=Xv λs hs=>(sp s (by rcases Ar.mp hs with h|h<;>exact h)).1;refine CK.W9 (a:=false) (b:=false) ?_ λV=>?_
     .refine CK.cmp (Bg.eq (Bg.W7 (n:=1) (m:=1) (a:=.list ((Cy P x).map .str)) (b:=.list ((Cy P x).map .str)) (Ev.CQ Ev.n Ev.n (EO (kP x hx))) (Ev.eq (Ev.FV (fa:=278) (k:=1) (ds:=[.str (tx (Bn G x)),.int (i:Nat)]) Ev.g (.cons (Ev.CQ Ev.n Ev.n (CM (kG x hx))) (.cons Ev.n .nil)) (VJ cc.w 0 (Bn G x) i i5 (gs x hx) (lb g5 rfl)) (by rw[sc.k];exact AD (by decide) hk) ⟨_,_,_,_,_,MV⟩) ?_) f1 f1) ?_)
      .rw [px,AB];rfl
      .rw [ED (f:=D.str) DJ];simp
     .refine CK.cmp (Bg.eq (Bg.W7 (n:=0) (m:=0) (a:=.str q) (b:=.str q) (Ev.eq (Ev.FV (fa:=Ek i) (k:=1) (ds:=[.str (tx (Bn G x++Bn G x))]) Ev.n (.cons (Ev.eq (Ev.bR (n:=2) (Ev.CQ Ev.n Ev.n (CM (kG x hx))) Ev.cInt ?_) ?_) .nil) (by rw[sc.w];exact HD (Bn G x++Bn G x) (λa ha=>gs x hx a (by rcases Ar.mp ha with h|h<;>exact h)) (by rw[Ac];exact gp g5 g5 rfl)) (by rw[sc.k];exact AD (by decide) hk) (U0 i i5)) ?_)
       (Ev.join (ys:=Cy P x++Cy P x) Ev.cStr (Ev.eq (Ev.iA (Ev.CQ Ev.n Ev.n (EO (kP x hx))) Ev.cInt ?_) ?_) ?_) (.str rE) (.str rE)) ?_)
      .rw [DX];exact⟨lb g5 rfl,by decide⟩
      .rw [YR]
      .rw [Af,<- px]
      .rw [AA];exact lb pl rfl
      .rw [Af]
      .have sm:∀l:List Str,(∀s∈l,s.length<=10)->(l.map (·.length)).sum<=10*l.length:=λl=>by
        induction l with
        |nil=>intro V;simp
        |cons s l ih=>
         intro h;rw[AI,BC,AZ];have:=h s (.head _);have:=ih λs hs=>h s (.tail _ hs);lia
       have h1:=sm (Cy P x++Cy P x) λs hs=>(sp s (by rcases Ar.mp hs with h|h<;>exact h)).2;rw[Ac]at h1;show _+_*0<=_;omega
      .rw [DJ];simp
    .exact Jc nl n5.2 rfl
    .rw [List.filter_eq_nil_iff.mpr (λx V h=>by cases h)];rfl
end
section
variable {c cc:Cx}{J J' KR J0:B3}{N:Em}{R:Cs}{h h':Heap}{Z:Addr->Heap->Prop}
theorem Ex.Yj{y:Str}{np mp cp dp bp:Pos}{es es':Cw}{ls:BY}{G:W2}{P:P2}{fr:List Env}(Sk:DZ c fr)(ow:∀x,c.own x)(ro:¬c.ro)(sub:∀b∈Bj fr,c.X b)(hk:4<=c.k)(O:KO P G ls)(f:Ev c J (.Name x np) (.obj (.ref 295)))(a:FP c J (e::es) [.list (Cv ls),.dict (dW G),.dict (dP P)])(g:∀D6,Ev (c.re D6) J (.Call (.Name y mp) es' [] dp) (.bool true))(he:autoParam (D8 c e es) Bc):Ex c J (.Return (some (.BoolOp .And [.Call (.Name x np) (e::es) [] cp,.Call (.Name y mp) es' [] dp] bp)) pos) N (λv h=>v=.bool true/\∃D6,Q6 fr c.h0 D6/\Bt c.M D6 h):=λs F Q E n r=>
 wpAny_Return_some (wpAny_And2 (wpAny_Call_NameR (f s F _ _ λv h1 t1 l1 r1=>by
  cases r1;have Eb:Le s.heap h1:=l1;refine BG (o:=Et (BZ 30) (S "_law_book") .none CX (.ref 294)) (fd:=EV (BZ 30) (S "_law_book") .none CX (.ref 294)) rfl (a cp _ (F.le Eb) _ _ λvs h2 t2 l2 r2=>?_) he;have F2:=(F.le Eb).le l2;have SY:∀b∈Bj (c.env::fr),c.X b:=λb m=>(Sk.DP.mp m).elim (λe=>e▸F2.loc.1) (sub b);refine⟨F2.base.k _ _ (Iv.here _),fN c.w 0 (s:={s with heap:=h2,toks:=t2}) O (F.ok.CC hk) F2.base F2.Cj r2 Sk.fr (F2.Lu Sk) SY λh3 t3 st=>?_⟩;refine EI (F2.rebase Sk ow ro sub st) ?_;intro D6 rb F3 V;refine wpAny_truthy_bool ?_;refine g D6 {s with heap:=h3,toks:=t3} F3 _ _ λv h4 t4 l4 r4=>?_;cases r4;exact r _ h4 t4 ⟨rfl,D6,rb,(F3.le l4).old⟩)))
structure KQ(cs:BY)(a b m l:Nat)(ts:R2)(r:Nat)(th:TH)(nm:BY)(B:A2)(G:W2)(P:P2):Prop where
 net:KT cs ts
 mA:T6 cs a b=ts
 root:cs[m%cs.length]? = some r
 tree:M8 cs ts r (Zm (m/cs.length%3)) (decide (m/cs.length/3%2=1)) th nm
 Oq:UJ nm (CZ th nm) (Ce cs ts)
 eB:B=Ef nm (CZ th nm) (Ce cs ts)
 eG:G=FJ th nm B (l%7)
 eP:P=Dz nm G (l/7%5)
 sign:UN th nm B (l%7)
 book:KO P G nm
 head:∃hd,nm.head? = some hd/\∀k y,nm[k]? = some y->∀x∈nm.take k,M4 (Ce cs ts) G P hd k y x
 good:∀x∈nm,∀s∈Cy P x,FD s
 long:∀x∈nm,(Bn G x).length+1=nm.length
def M3(w:World):Prop:=∀i<5,∀ss:List Nat,(∀a∈ss,a∈By)->ss.length<=20->C9 w (Ek i) 1 [.str (tx ss)] (.str (Ja (ss.map (CN i))))
theorem handOk(w:World):M3 w:=λi hi ss hs hl=>fU w i hi ss hs hl
theorem aT(w:World){a b m l:Nat}{ts:R2}{r:Nat}{th:TH}{nm:BY}{B:A2}{G:W2}{P:P2}(H:KQ cs a b m l ts r th nm B G P)(HD:M3 w){fr:List Env}(ok:E7 24 A)(Bs:CV w s.heap)(xk:FT X s.heap)(rv:Be X w s.heap vs [.list ([a,b,m,l].map λa=>.int (a:Nat)),.str (tx cs)])(ha:A.frames=some fr)(fs:Lr s.heap fr)(sub:∀b∈Bj fr,X b){E':CG}(q:∀h' tk,Step fr s.heap h'->Q (.bool true) {s with heap:=h',toks:=tk}):wpAny (model prog w) A (call (.ref 305) vs) Q E' s:=by
 refine wpAny_call ?_;refine Mn (HK.code w.params) ?_;intro oc vc tc ec dc qc;refine A7 (o:=Et (BZ 32) (S "_law_holds") .none CX (.ref 304)) (fd:=EV (BZ 32) (S "_law_holds") .none CX (.ref 304)) ok.room (Bs.k _ _ (HK.here w.params)) rfl HK.plain.1 HK.plain.2 rfl ⟨304,oc,vc,tc,rfl,Bs.k _ _ ec,dc,qc⟩ ?_;have hb:bindArgs (EV (BZ 32) (S "_law_holds") .none CX (.ref 304)) ⟨vs,[]⟩=pure ([S "sums",S "names"].zip vs):=by
  have e:=rv.length;refine MB (Ot e) ?_;rintro v1 v2 rfl;rfl
 rw[hb];refine wpAny_pure (HL (k:=23) HK ok Bs xk (G:=Res.emp) trivial (λV z=>z.elim) (ds:=[.list ([a,b,m,l].map λa=>.int (a:Nat)),.str (tx cs)]) rv rv.length.symm (.of (by decide +kernel)) λc h1 t1 FA hA zz V F=>CB zz λfl ow=>?_)
 .have E:=FA.env;have Sk:=O9 FA hA fl ha fs λb z=>z;have hk:20<=c.k:=by rw[FA.hk];decide
  have hX:∀b∈Bj fr,c.X b:=λb m=>FA.hX b (sub b m);have hw:c.w=w:=E.hw;have nl:=H.tree.len;have n5:=H.net.Iy;have O4:∀x∈nm,x∈lows:=λx hx=>H.net.low x (H.tree.perm.mem_iff.mp hx);refine Bh H.head ?_;intro hd f5 nD;have body:Bd c (Jb cs [a,b,m,l]) [Br (BZ 32)] (λV=>False) (λv h=>v=.bool true/\∃D6,Q6 fr c.h0 D6/\Bt c.M D6 h):=by
   refine ar (rest:=[hS 5,hS 6,hS 7,hS 8,hS 9,hS 10,hS 11,hS 12,hS 13,hS 14,hS 15,hS 16,hS 17,hS 18]) E (AD (by decide) hk) H.net H.mA (AE rfl) λnx ndx nl X1 OC=>?_;refine au (c:=c.on X1 (c.G.star (CI nx ndx nl (Bf (Dk ts))))) (rest:=[hS 9,hS 10,hS 11,hS 12,hS 13,hS 14,hS 15,hS 16,hS 17,hS 18]) E.on hk rfl H.net H.root H.tree λL X2 Hi eL=>?_;let c2:Cx:=c.on X2 ((c.G.star (CI nx ndx nl (Bf (Dk ts)))).star (HG L));have E2:Bi c2 w (BX (BZ 32)) 23:=E.on;refine aw (c:=c2) (rest:=[hS 13,hS 14,hS 15,hS 16,hS 17,hS 18]) E2 hk (λX h z=>z.2.1) H.net H.tree eL H.Oq ?_;refine ay (c:=c2) (rest:=[hS 18]) E2 hk (λX h z=>z.2.1) H.net H.tree eL H.eB H.eG rfl H.eP H.sign (λss h1 h2=>by rw[E2.hw];exact HD _ (Nat.mod_lt _ (by decide)) ss h1 h2) ?_;have kG:∀x∈nm,x∈G.map (·.1):=λx hx=>by rw[H.eG];unfold FJ;rw[AB];exact AF.mpr ⟨x,hx,rfl⟩
   have kP:∀x∈nm,x∈P.map (·.1):=λx hx=>by rw[H.eP];unfold Dz;rw[AB];exact AF.mpr ⟨x,hx,rfl⟩
   have pg:∀x∈nm,Cy P x=(Bn G x).map (CN (l/7%5)):=λx hx=>by
    rw[H.eP];unfold Cy Dz;rw[LC (f:=λx=>(Bn G x).map (CN (l/7%5))) hx];rfl
   have g:=Xt c.w 0 nm hd (Ce cs ts) G P (by lia) (λa ha=>(Ca a (O4 a ha)).2) f5 kG kP H.Oq.has (λx hx=>⟨H.long x hx,λa ha=>H.sign.signs x hx a (by rw[<- H.eG];exact ha)⟩) (λx hx=>⟨by rw[pg x hx,AA];have:=H.long x hx;lia,H.good x hx⟩) nD;refine Bd.ret (Ex.Yj (c:=c2) (ls:=nm) (G:=G) (P:=P) ⟨Sk.fr,Sk.own,Sk.Lu,Sk.mOff⟩ ow E2.ro (λb m=>Hi b (OC b (hX b m))) (AD (by decide) hk) H.book Ev.g (.cons Ev.n (.cons Ev.n (.cons Ev.n .nil))) λD6=>?_);have E3:Bi (c2.re D6) w (BX (BZ 32)) 23:=⟨E.hw,E.hs,E.hk,E.ro,E.slot⟩
   exact Ev.FV (c:=c2.re D6) (fa:=300) (k:=3) (ds:=[.list (Cv nm),.dict (dW G),.dict (dP P),.dict (dI (Ce cs ts))]) Ev.g (.cons Ev.n (.cons Ev.n (.cons Ev.n (.cons Ev.n .nil)))) g (AD (by decide) hk) ⟨_,_,_,_,_,OT⟩
  have z:=body {s with heap:=h1,toks:=t1} F (λf s'=>Q (match f with|.ret v=>v|_=>.none) s') (λe s'=>wpAny (model prog c.w) c.A (leaving c.env e) (λV Gb=>E' e Gb) (λe' Gb=>E' e' Gb) s') (λV V z=>z.elim) λv h' tk ⟨e,D6,rb,l⟩=>(by
   subst e;rw[FA.hh]at rb;exact q h' tk (rb.step.trans (.le (Bt.any l λb z=>Sk.mOff b z) fs.nt)))
  exact wpAny_mono z (λf s' k=>by cases f<;>exact k) λV V k=>k
end
noncomputable def QQ(k:Nat->Int)(st:LS)(i:Nat):LS:=
 let sub:=st.dist+k i;let d:=st.row.getD i 0;let r:=min (min st.res d+2) sub;⟨d,r,if r<st.mn then r else st.mn,st.row.set i r⟩
noncomputable def JC(k:Nat->Int)(st:LS):Nat->LS
 |0=>st
 |n+1=>QQ k (JC k st n) n
noncomputable def LP(la:Nat)(K:Nat->Nat->Int):Nat->List Int×Int
 |0=>(Jv la,0)
 |j+1=>let st:=JC (λi=>K i j) (DO j (LP la K j).1) la;(st.row,st.res)
noncomputable def j5(la:Nat)(K:Nat->Nat->Int)(j:Nat):Int:=(JC (λi=>K i j) (DO j (LP la K j).1) la).mn
noncomputable def Zh(la lb:Nat)(K:Nat->Nat->Int)(m:Int):Int:=if(List.range lb).any (λj=>decide (m<j5 la K j))then m+1 else(LP la K lb).2
noncomputable def SN(la lb:Nat)(K:Nat->Nat->Int)(m:Int):Int:=if m<((lb:Int)-la)*2 then m+1 else Zh la lb K m
noncomputable def bO(la lb:Nat)(K:Nat->Nat->Int)(m:Int):Int:=
 if la=0\/lb=0 then 2*((la:Int)+lb)
 else if 40<la\/40<lb then m+1
 else if lb<la then SN lb la (λi j=>K j i) m else SN la lb K m
noncomputable def PC(f:Nat->Bool):Nat->Nat
 |0=>0
 |n+1=>if f 0 then PC (λi=>f (i+1)) n+1 else 0
noncomputable def QX(la lb:Nat)(K:Nat->Nat->Int)(m:Int):Int:=
 let p:=PC (λi=>decide (K i i=0)) (min la lb);let q:=PC (λi=>decide (K (la-1-i) (lb-1-i)=0)) (min la lb-p);if la=lb/\p=la then 0 else bO (la-p-q) (lb-p-q) (λi j=>K (p+i) (p+j)) m
theorem jv{p q:Prop}[Decidable p][Decidable q]{x y u v:α}(h:p↔q)(e1:x=u)(e2:y=v):ite p x y=ite q u v:=by
 by_cases hp:p
 .rw [if_pos hp,if_pos (h.mp hp),e1]
 .rw [if_neg hp,if_neg λz=>hp (h.mpr z),e2]
theorem Md(bc:Str)(a:B1)(st:LS)(k:Nat->Int):∀n ≤a.length,(∀i<n,k i=DD bc (a.getD i ⟨#[]⟩))->JC k st n=C4 bc a st n:=by
 intro l;induction l with
 |zero=>exact λV V=>rfl
 |succ n ih=>
  intro h e;show QQ k (JC k st n) n=inner bc a (C4 bc a st n) n;rw[ih (by exact A5 h) λi hi=>e i (by exact Nat.lt_add_right 1 hi)];unfold QQ inner;rw[e n (by exact Nat.lt_add_one n)]
theorem JI(a b:B1)(K:Nat->Nat->Int)(e:∀i<a.length,∀j<b.length,K i j=DD (b.getD j ⟨#[]⟩) (a.getD i ⟨#[]⟩)):∀j ≤b.length,LP a.length K j=CY a b j
 |0,_=>rfl
 |j+1,h=>by
  show(let st:=JC (λi=>K i j) (DO j (LP a.length K j).1) a.length;(st.row,st.res))=(let st:=C4 (b.getD j ⟨#[]⟩) a (DO j (CY a b j).1) a.length;(st.row,st.res));rw[JI a b K e j (by exact A5 h),Md (b.getD j ⟨#[]⟩) a _ (λi=>K i j) _ (Ad _) λi hi=>e i hi j (by exact Nat.lt_of_succ_le h)]
theorem PI(a b:B1)(K:Nat->Nat->Int)(m:Int)(e:∀i<a.length,∀j<b.length,K i j=DD (b.getD j ⟨#[]⟩) (a.getD i ⟨#[]⟩)):SN a.length b.length K m=ER a b m:=by
 have h1:∀j<b.length,j5 a.length K j=Qb a b j:=λj hj=>by
  unfold j5 Qb;rw[JI a b K e j (by exact A5 hj),Md (b.getD j ⟨#[]⟩) a _ (λi=>K i j) _ (Ad _) λi hi=>e i hi j hj]
 have h2:(List.range b.length).any (λj=>decide (m<j5 a.length K j))=(List.range b.length).any (λj=>decide (m<Qb a b j)):=by
  rw[Bool.eq_iff_iff,Aq,Aq];exact exists_congr λj=>and_congr_right λhj=>by rw[h1 j (BB.mp hj)]
 unfold SN ER Zh Fc;rw[h2,JI a b K e _ (Ad _)]
theorem La(a b:Str):DD a b=DD b a:=jv eq_comm rfl (jv eq_comm rfl rfl)
theorem YQ(a b:B1)(K:Nat->Nat->Int)(m:Int)(e:∀i<a.length,∀j<b.length,K i j=DD (a.getD i ⟨#[]⟩) (b.getD j ⟨#[]⟩)):bO a.length b.length K m=Eg a b m:=by
 unfold bO Eg;rw[PI b a (λi j=>K j i) m λi hi j hj=>e j hj i hi,PI a b K m λi hi j hj=>(e i hi j hj).trans (La _ _)];exact jv (or_congr List.length_eq_zero_iff List.length_eq_zero_iff) rfl rfl
theorem b6{f:Nat->Bool}{n:Nat}:PC f (n+1)=if f 0 then PC (λi=>f (i+1)) n+1 else 0:=rfl
theorem Nx:∀(a b:B1) (f:Nat->Bool) (n:Nat),n=min a.length b.length->(∀i<n,f i=decide (a.getD i ⟨#[]⟩=b.getD i ⟨#[]⟩))->PC f n=Bz a b
 |[],b,f,n,h,e=>by rw[h,BS,Nat.zero_min];cases b<;>rfl
 |x::a,[],f,n,h,e=>by rw[h,BS,Nat.min_zero];rfl
 |x::a,y::b,f,n,h,e=>by
  have hn:n=min a.length b.length+1:=by rw[h,AZ,AZ];exact Nat.add_min_add_right a.length b.length 1
  rw[hn,b6,Hp];have e0:=e 0 (by exact Nat.lt_of_sub_eq_succ hn);rw[List.getD_cons_zero,List.getD_cons_zero]at e0;rw[e0,Nx a b (λi=>f (i+1)) (min a.length b.length) rfl λi hi=>by
   have:=e (i+1) (hn▸Nat.succ_lt_succ hi);rw[List.getD_cons_succ,List.getD_cons_succ]at this;exact this]
  by_cases hxy:x=y<;>simp[hxy]
theorem Lb(a b:Str):(DD a b=0)=(a=b):=by
 unfold DD;by_cases h:a=b
 .simp [h]
 .rw [if_neg h];by_cases h2:Txt.lower a=Txt.lower b<;>simp[h,h2]
theorem PB:∀(a b:B1),(a=b)↔(a.length=b.length/\Bz a b=a.length)
 |[],[]=>⟨λV=>⟨rfl,rfl⟩,λV=>rfl⟩
 |[],y::b=>by simp
 |x::a,[]=>by simp
 |x::a,y::b=>by
  rw[Hp,List.cons.injEq,PB a b];by_cases h:x=y<;>simp[h]
theorem Ob(l:B1)(p q i:Nat)(h:i<l.length-p-q):((l.drop p).take ((l.drop p).length-q)).getD i ⟨#[]⟩=l.getD (p+i) ⟨#[]⟩:=by
 rw[AN,AN,List.getElem?_take,if_pos (by rw[AM];exact Nat.lt_of_succ_le h),List.getElem?_drop]
theorem Nn(a b:B1)(K:Nat->Nat->Int)(m:Int)(e:∀i<a.length,∀j<b.length,K i j=DD (a.getD i ⟨#[]⟩) (b.getD j ⟨#[]⟩)):Go a b m=QX a.length b.length K m:=by
 have hp:PC (λi=>decide (K i i=0)) (min a.length b.length)=Bz a b:=Nx a b _ _ rfl λi hi=>by
  rw[e i (Nat.lt_min.mp hi).1 i (Nat.lt_min.mp hi).2,decide_eq_decide,Lb]
 have wz:=HN a b;have rv:∀(l:B1) i,i<l.length-Bz a b->((l.drop (Bz a b)).reverse).getD i ⟨#[]⟩=l.getD (l.length-1-i) ⟨#[]⟩:=λl i hi=>by
  rw[AN,AN,List.getElem?_reverse (by rw[AM];exact hi),List.getElem?_drop,AM];congr 2;exact pB hi
 have hq:PC (λi=>decide (K (a.length-1-i) (b.length-1-i)=0)) (min a.length b.length-Bz a b)=Bz (a.drop (Bz a b)).reverse (b.drop (Bz a b)).reverse:=Nx _ _ _ _ (by rw[Au,Au,AM,AM];exact Eq.symm (Nat.sub_min_sub_right a.length b.length (Bz a b))) λi hi=>by
  rw[e _ (pC (rx hi)) _ (pC (ry hi)),decide_eq_decide,Lb,rv a i (rz hi),rv b i (r7 hi)]
 have vS:=HN (a.drop (Bz a b)).reverse (b.drop (Bz a b)).reverse;rw[Au,Au,AM,AM]at vS;unfold Go QX;dsimp only;rw[hp,hq];refine jv (PB a b) rfl ?_
 .have l1:(mid a b).length=a.length-Bz a b-Bz (a.drop (Bz a b)).reverse (b.drop (Bz a b)).reverse:=by unfold mid;rw[Ae,AM,jV]
  have l2:(Jq a b).length=b.length-Bz a b-Bz (a.drop (Bz a b)).reverse (b.drop (Bz a b)).reverse:=by unfold Jq;rw[Ae,AM,jV]
  rw[<- l1,<- l2];refine(YQ (mid a b) (Jq a b) _ m λi hi j hj=>?_).symm;rw[l1]at hi;rw[l2]at hj;rw[e _ (pD hi) _ (pD hj)];unfold mid Jq;have bl:(b.drop (Bz a b)).length-Bz (a.drop (Bz a b)).reverse (b.drop (Bz a b)).reverse=(b.drop (Bz a b)).length-Bz (a.drop (Bz a b)).reverse (b.drop (Bz a b)).reverse:=rfl;rw[Ob a _ _ i hi,Ob b _ _ j hj]
noncomputable def Lo:Nat->List (List Nat)
 |0=>[[]]
 |n+1=>(Lo n).flatMap λv=>[0::v,1::v,2::v]
noncomputable def Hy(v:BY)(i j:Nat):Int:=if Nat.beq i j then(v.getD i 0:Nat)else 2
noncomputable def PQ(k j:Nat):Nat:=if Nat.blt j k then j else j+1
noncomputable def RG(v:BY)(k i j:Nat):Int:=Hy v i (PQ k j)
noncomputable def HT(v:BY):Int:=(v.sum:Nat)
noncomputable def PX(v:BY)(k:Nat):Int:=((v.eraseIdx k).sum+2:Nat)
noncomputable def kC(n:Nat)(v:BY):Bool:=
 let s:=HT v;QX n n (Hy v) s==s&&QX n n (Hy v) (2*(n+1:Nat))==s&&decide (s<=QX n n (Hy v) (s-1))
noncomputable def kB(n:Nat)(v:BY)(k:Nat):Bool:=
 let s:=PX v k;QX n (n-1) (RG v k) s==s&&decide (2<=QX (n-1) n (λi j=>RG v k j i) 1)
theorem oJ:(Lo 3).all (kC 3)=true:=by decide +kernel
theorem oK:(Lo 4).all (kC 4)=true:=by decide +kernel
theorem oH:(Lo 3).all (λv=>(List.range 3).all (kB 3 v))=true:=by decide +kernel
theorem oI:(Lo 4).all (λv=>(List.range 4).all (kB 4 v))=true:=by decide +kernel
theorem Pc:∀v:List Nat,(∀d∈v,d<=2)->v∈Lo v.length
 |[],_=>.head _
 |d::v,h=>by
  refine Am.mpr ⟨v,Pc v λe he=>h e (.tail _ he),?_⟩;have:=h d (.head _);match d,this with
  |0,_=>exact .head _
  |1,_=>exact .tail _ (.head _)
  |2,_=>exact .tail _ (.tail _ (.head _))
theorem iU{n:Nat}(hn:n=3\/n=4){v:BY}(h:v∈Lo n):kC n v=true:=by
 rcases hn with rfl|rfl
 .exact Ah.mp oJ v h
 .exact Ah.mp oK v h
theorem iT{n:Nat}(hn:n=3\/n=4){v:BY}(h:v∈Lo n)(hk:k<n):kB n v k=true:=by
 rcases hn with rfl|rfl
 .exact Ah.mp (Ah.mp oH v h) k (BB.mpr hk)
 .exact Ah.mp (Ah.mp oI v h) k (BB.mpr hk)
theorem Vr{n:Nat}(hn:n=3\/n=4){a b:B1}{v:BY}(la:a.length=n)(lb:b.length=n)(hv:v∈Lo n)(hK:∀i<n,∀j<n,Hy v i j=DD (a.getD i ⟨#[]⟩) (b.getD j ⟨#[]⟩)) :
  Go a b (HT v)=HT v/\Go a b (2*(n+1:Nat))=HT v/\HT v<=Go a b (HT v-1):=by
 have e:=λm=>Nn a b (Hy v) m (by rw[la,lb];exact hK);rw[la,lb]at e;have h:=iU hn hv;unfold kC at h;simp only[Bool.and_eq_true,beq_iff_eq,decide_eq_true_eq]at h;rw[e,e,e];exact⟨h.1.1,h.1.2,h.2⟩
theorem PR(b:B1)(k j:Nat)(hk:k<b.length):(b.take k++b.drop (k+1)).getD j ⟨#[]⟩=b.getD (PQ k j) ⟨#[]⟩:=by
 rw[AN,AN,List.getElem?_append,Ae,Nat.min_eq_left (by exact A5 hk)];unfold PQ;by_cases h:j<k
 .rw [if_pos h,show Nat.blt j k=true by rw[Nat.blt_eq];exact h,List.getElem?_take,if_pos h];rfl
 .rw [if_neg h,show Nat.blt j k=false by rw[Bool.eq_false_iff];intro z;rw[Nat.blt_eq]at z;exact h z,List.getElem?_drop,show k+1+(j-k)=j+1 by rw[Nat.add_right_comm,Nat.add_sub_cancel' (Nat.le_of_not_lt h)]];rfl
theorem TK{n:Nat}(hn:n=3\/n=4){a b:B1}{v:BY}(la:a.length=n)(lb:b.length=n)(hv:v∈Lo n)(hk:k<n)(hK:∀i<n,∀j<n,Hy v i j=DD (a.getD i ⟨#[]⟩) (b.getD j ⟨#[]⟩)) :
  Go a (b.take k++b.drop (k+1)) (PX v k)=PX v k/\2<=Go (b.take k++b.drop (k+1)) a 1:=by
 have lc:(b.take k++b.drop (k+1)).length=n-1:=by rw[Ac,Ae,AM,lb,Nat.min_eq_left (A4 hk)];exact kz hk
 have sk:∀j<n-1,PQ k j<n:=λj hj=>by
  unfold PQ;cases Nat.blt j k
  .show j+1<n;exact Nat.add_lt_of_lt_sub hj
  .show j<n;exact Nat.lt_of_lt_pred hj
 have e1:=Nn a (b.take k++b.drop (k+1)) (RG v k) (PX v k) (by
  rw[la,lc];intro i hi j hj;rw[PR b k j (by exact BE hk (id (Eq.symm lb)))];exact hK i hi _ (sk j hj))
 have e2:=Nn (b.take k++b.drop (k+1)) a (λi j=>RG v k j i) 1 (by
  rw[la,lc];intro i hi j hj;rw[PR b k i (by exact BE hk (id (Eq.symm lb))),La];exact hK j hj _ (sk i hi))
 rw[la,lc]at e1 e2;have h:=iT hn hv hk;unfold kB at h;simp only[Bool.and_eq_true,beq_iff_eq,decide_eq_true_eq]at h;rw[e1,e2];exact h
theorem JJ:∀(a b:B1) (i:Nat),i<a.length->i<b.length->a.getD i ⟨#[]⟩≠b.getD i ⟨#[]⟩->Bz a b<=i
 |x::a,y::b,0,_,_,h=>by
  have h':x≠y:=h;rw[Hp,if_neg h'];exact Ad 0
 |x::a,y::b,i+1,h1,h2,h=>by
  rw[Hp];by_cases e:x=y
  .rw [if_pos e];exact Nat.succ_le_succ (JJ a b i (Nat.lt_of_succ_lt_succ h1) (Nat.lt_of_succ_lt_succ h2) h)
  .rw [if_neg e];exact Al _
theorem Vq{a b:B1}{n m:Nat}(la:a.length=n)(lb:b.length=n)(h1:k<n)(h2:m<n)(e1:a.getD k ⟨#[]⟩≠b.getD k ⟨#[]⟩)(e2:a.getD (n-1-m) ⟨#[]⟩≠b.getD (n-1-m) ⟨#[]⟩)(hl:k+m+41<=n)(c:Int):Go a b c=c+1:=by
 have p1:=JJ a b k (by exact BE h1 (id (Eq.symm la))) (by exact BE h1 (id (Eq.symm lb))) e1;have p2:Bz (a.drop (Bz a b)).reverse (b.drop (Bz a b)).reverse<=m:=by
  refine JJ _ _ m (by rw[Au,AM];exact XG hl p1 la) (by rw[Au,AM];exact XG hl p1 lb) ?_;have rv:∀l:List Str,l.length=n->((l.drop (Bz a b)).reverse).getD m ⟨#[]⟩=l.getD (n-1-m) ⟨#[]⟩:=λl hn=>by
   rw[AN,AN,List.getElem?_reverse (by rw[AM];exact XG hl p1 hn),List.getElem?_drop,AM];congr 2;rw[hn];exact pB (XG hl p1 rfl)
  rw[rv a la,rv b lb];exact e2
 have Hj:a≠b:=λz=>e1 (by rw[z]);unfold Go;rw[if_neg Hj];have l1:(mid a b).length=n-Bz a b-Bz (a.drop (Bz a b)).reverse (b.drop (Bz a b)).reverse:=by unfold mid;rw[Ae,AM,jV,la]
 have l2:(Jq a b).length=n-Bz a b-Bz (a.drop (Bz a b)).reverse (b.drop (Bz a b)).reverse:=by unfold Jq;rw[Ae,AM,jV,lb]
 unfold Eg;have g1:=eF hl p1 p2 l1;have g2:=eF hl p1 p2 l2;rw[if_neg (λz=>z.elim (λz=>Nat.not_lt_zero 40 (by rw[z]at g1;exact g1)) λz=>Nat.not_lt_zero 40 (by rw[z]at g2;exact g2)),if_pos (.inl g1)]
theorem Yi(c:BY):(Df c).length=20*c.length:=by unfold Df;rw[List.length_flatten,List.map_replicate,List.sum_replicate_nat]
theorem Yh(c:BY)(i j:Nat)(hi:i<c.length)(hj:j<20):(Df c)[j*c.length+i]? = c[i]?:=by
 unfold Df;generalize 20=N at hj;induction N generalizing j with
 |zero=>exact absurd hj (Nat.not_lt_zero _)
 |succ N ih=>
  rw[List.replicate_succ,List.flatten_cons];cases j with
  |zero=>rw[Nat.zero_mul,Nat.zero_add,List.getElem?_append_left hi]
  |succ j=>
   rw[List.getElem?_append_right k7,k8];exact ih j (Nat.lt_of_succ_lt_succ hj)
theorem YN{x y:BY}{n i:Nat}(hn:n=3\/n=4)(lx:x.length=n)(ly:y.length=n)(hi:i<n)(Hj:x.getD i 0≠y.getD i 0):Jp (Df x) (Df y) 200=201:=by
 have lr:∀c:List Nat,c.length=n->((Df c).map sg).length=20*n:=λc hc=>by rw[AA,Yi,hc]
 have gt:∀c:List Nat,c.length=n->∀j<20,((Df c).map sg).getD (j*n+i) ⟨#[]⟩=sg (c.getD i 0):=λc hc j hj=>by
  have:=Yh c i j (by exact BE hi (id (Eq.symm hc))) hj;rw[hc]at this;rw[AN,AL,this,AN,AU (by exact BE hi (id (Eq.symm hc)))];rfl
 have ne:∀j<20,((Df x).map sg).getD (j*n+i) ⟨#[]⟩≠((Df y).map sg).getD (j*n+i) ⟨#[]⟩:=λj hj=>by
  rw[gt x lx j hj,gt y ly j hj];exact λz=>Hj (Eh z)
 have n0:=ne 0 (by decide);have n1:=ne 19 (by decide);rw[Nat.zero_mul,Nat.zero_add]at n0;refine Vq (k:=i) (m:=n-1-i) (lr x lx) (lr y ly) (XH hn hi).1 (XH hn hi).2.1 n0 ?_ (XH hn hi).2.2.1 200;rw[(XH hn hi).2.2.2];exact n1
noncomputable def bi(b:Bool)(t e:α):α:=@Bool.rec (λV=>α) e t b
noncomputable def QZ(a:Nat):Nat:=bi (Nat.ble 97 a) a (Nat.add a 32)
noncomputable def IG(a b:Nat):Bool:=Nat.beq (QZ a) (QZ b)
noncomputable def Fl{β:Type}(f:α->β)(l:List α):List β:=@List.rec α (λV=>List β) [] (λa V ih=>f a::ih) l
noncomputable def Sr(p:α->Bool)(l:List α):List α:=@List.rec α (λV=>List α) [] (λa V ih=>bi (p a) (a::ih) ih) l
noncomputable def anyF(p:α->Bool)(l:List α):Bool:=@List.rec α (λV=>Bool) false (λa V ih=>bi (p a) true ih) l
noncomputable def Gs(p:α->Bool)(l:List α):Bool:=@List.rec α (λV=>Bool) true (λa V ih=>bi (p a) ih false) l
noncomputable def Gu(l m:List α):List α:=@List.rec α (λV=>List α) m (λa V ih=>a::ih) l
noncomputable def OY{β:Type}(f:β->α->β)(l:List α)(b:β):β:=@List.rec α (λV=>β->β) (λb=>b) (λa V ih b=>ih (f b a)) l b
noncomputable def Kq{β:Type}(f:α->List β)(l:List α):List β:=@List.rec α (λV=>List β) [] (λa V ih=>Gu (f a) ih) l
noncomputable def IF(l:List α):Nat:=@List.rec α (λV=>Nat) 0 (λV V ih=>Nat.succ ih) l
theorem Dd(b:Bool)(t e:α):bi b t e=if b=true then t else e:=by cases b<;>rfl
theorem DL{β:Type}(f:α->β)(l:List α):Fl f l=l.map f:=by
 induction l with
 |nil=>rfl
 |cons a l ih=>exact congrArg (f a::·) ih
theorem NN(p:α->Bool)(l:List α):Sr p l=l.filter p:=by
 induction l with
 |nil=>rfl
 |cons a l ih=>
  show bi (p a) (a::Sr p l) (Sr p l)=_;rw[ih,A8,Dd]
theorem HH(p:α->Bool)(l:List α):anyF p l=l.any p:=by
 induction l with
 |nil=>rfl
 |cons a l ih=>
  show bi (p a) true (anyF p l)=_;rw[ih,List.any_cons];cases p a<;>rfl
theorem Eo(p:α->Bool)(l:List α):Gs p l=l.all p:=by
 induction l with
 |nil=>rfl
 |cons a l ih=>
  show bi (p a) (Gs p l) false=_;rw[ih,List.all_cons];cases p a<;>rfl
theorem Hw(l m:List α):Gu l m=l++m:=by
 induction l with
 |nil=>rfl
 |cons a l ih=>exact congrArg (a::·) ih
theorem Gw{β:Type}(f:β->α->β):∀(l:List α) (b:β),OY f l b=l.foldl f b
 |[],_=>rfl
 |a::l,b=>Gw f l (f b a)
theorem H7{β:Type}(f:α->List β)(l:List α):Kq f l=l.flatMap f:=by
 induction l with
 |nil=>rfl
 |cons a l ih=>show Gu (f a) (Kq f l)=_;rw[ih,Hw,AX]
theorem GQ(l:List α):IF l=l.length:=by
 induction l with
 |nil=>rfl
 |cons a l ih=>exact congrArg Nat.succ ih
theorem IJ(a:Nat):QZ a=Cg a:=by
 unfold QZ Cg;rw[Dd];by_cases h:a<97
 .rw [if_pos h,if_neg (by rw[Nat.ble_eq];exact Nat.not_le_of_lt h)]
 .rw [if_neg h,if_pos (by rw[Nat.ble_eq];exact Nat.le_of_not_lt h)]
theorem HS(a b:Nat):Nat.beq a b=(a==b):=by rw[Bool.eq_iff_iff,Nat.beq_eq];simp
theorem II(a b:Nat):IG a b=(Cg a==Cg b):=by unfold IG;rw[IJ,IJ,HS]
noncomputable def VL(net:R2)(q:Nat):List Nat:=@List.rec (Nat×Nat) (λV=>List Nat) [] (λp V ih=>bi (IG p.1 q) (p.2::ih) ih) net
theorem RZ(net:R2)(q:Nat):VL net q=C7 net q:=by
 induction net with
 |nil=>rfl
 |cons p l ih=>
  show bi (IG p.1 q) (p.2::VL l q) (VL l q)=_;rw[ih,II,Dd];unfold C7;rw[A8];split<;>rfl
noncomputable def aO(r:R2)(q:Nat):Option Nat:=@List.rec (Nat×Nat) (λV=>Option Nat) none (λp V ih=>bi (IG p.1 q) (some p.2) ih) r
theorem Xp(r:R2)(q:Nat):aO r q=C2 r q:=by
 induction r with
 |nil=>rfl
 |cons p l ih=>
  show bi (IG p.1 q) (some p.2) (aO l q)=_;rw[ih,II,Dd];unfold C2;rw[List.find?_cons];split
  .next h=>rw[h];rfl
  .next h=>rw[Bool.eq_false_iff.mpr h]
noncomputable def Og(r:R2)(q:Nat):Bool:=anyF (λp=>IG p.1 q) r
theorem Ra(r:R2)(q:Nat):Og r q=(C2 r q).isSome:=by
 unfold Og;rw[HH];unfold C2;rw[Option.isSome_map,Bool.eq_iff_iff,List.find?_isSome,Aq];simp only[II]
noncomputable def Yn(r:R2)(q v:Nat):R2:=@List.rec (Nat×Nat) (λV=>R2) [(q,v)] (λp V ih=>bi (IG p.1 q) ih (p::ih)) r
theorem Yo(r:R2)(q v:Nat):Yn r q v=EJ r q v:=by
 induction r with
 |nil=>rfl
 |cons p l ih=>
  show bi (IG p.1 q) (Yn l q v) (p::Yn l q v)=_;rw[ih,II,Dd];unfold EJ;rw[A8];cases Cg p.1==Cg q<;>rfl
noncomputable def oY(r:R2)(q v:Nat):R2:=bi (Og r q) r (Gu r [(q,v)])
theorem cE(r:R2)(q v:Nat):oY r q v=Ts r q v:=by unfold oY Ts;rw[Dd,Ra,Hw]
noncomputable def QE(late:Bool)(net seen:R2)(lvl:BY):R2:=
 OY (λf p=>OY (λf q=>oY (bi late (Yn f q p) f) q p) (Sr (λq=>bi (Og seen q) false true) (VL net p)) f) lvl []
theorem Sv(late:Bool)(net seen:R2)(lvl:BY):QE late net seen lvl=GL late net seen lvl:=by
 unfold QE GL;rw[Gw];congr 1;funext f p;unfold LY FW;rw[Gw,NN,RZ];congr 1
 .funext f q;unfold IT Zk;rw[cE,Yo,Dd]
 .congr 1;funext q;rw[Dd,Ra];cases C2 seen q<;>rfl
noncomputable def Wi(f:R2):R2:=Fl (λr=>(QZ r.1,@Option.rec Nat (λV=>Nat) 0 (λv=>v) (aO f r.1))) f
theorem Wj(f:R2):Wi f=Gk f:=by
 unfold Wi Gk;rw[DL];congr 1;funext r;rw[IJ,Xp];cases C2 f r.1<;>rfl
noncomputable def GV(l:BY)(a:Nat):Bool:=anyF (λx=>Nat.beq a x) l
theorem GW(l:BY)(a:Nat):GV l a=l.contains a:=by
 unfold GV;rw[HH];induction l with
 |nil=>rfl
 |cons x l ih=>rw[List.any_cons,List.contains_cons,ih,HS]
noncomputable def V3(near:D9)(p:Nat):List Nat:=@List.rec (Nat×List Nat) (λV=>List Nat) [] (λx V ih=>bi (Nat.beq p x.1) x.2 ih) near
theorem V4(near:D9)(p:Nat):V3 near p=G8 near p:=by
 induction near with
 |nil=>rfl
 |cons x l ih=>
  show bi (Nat.beq p x.1) x.2 (V3 l p)=_;rw[ih,Dd];obtain⟨a,b⟩:=x;unfold G8;rw[AK,HS];cases p==a<;>rfl
noncomputable def Qg(near:D9)(tags:BY)(lvl:BY):R2:=
 Kq (λp=>Fl (λq=>(QZ q,p)) (Sr (λq=>bi (GV tags (QZ q)) false true) (V3 near p))) lvl
theorem bi_not(b:Bool):bi b false true=!b:=by cases b<;>rfl
theorem TZ(near:D9)(th:TH)(lvl:BY):Qg near (CR th) lvl=D3 near th lvl:=by
 unfold Qg D3;rw[H7];congr 1;funext p;rw[DL,NN,V4];congr 1
 .funext q;rw[IJ]
 .congr 1;funext q;rw[bi_not,GW,IJ]
noncomputable def Sw(l:R2)(a:Nat):Bool:=anyF (λx=>Nat.beq a x.1) l
theorem RX(l:R2)(a:Nat):Sw l a=(l.map (·.1)).contains a:=by
 rw[<- GW];unfold Sw GV;rw[HH,HH,List.any_map];rfl
noncomputable def Xb(l:R2):R2:=@List.rec (Nat×Nat) (λV=>R2) [] (λx tl ih=>bi (Sw tl x.1) ih (x::ih)) l
noncomputable def Xd(l:R2):R2->R2:=@List.rec (Nat×Nat) (λV=>R2->R2) (λV=>[]) (λx V ih pre=>bi (Sw pre x.1) (ih (x::pre)) (x::ih (x::pre))) l
theorem Xc(all:R2):∀(l:R2) (n:Nat),all.drop n=l->Xb l=((l.zipIdx n).filter λx=>!((all.drop (x.2+1)).map (·.1)).contains x.1.1).map (·.1):=by
 intro l;induction l with
 |nil=>exact λV V=>rfl
 |cons x l ih=>
  intro n h;have h2:all.drop (n+1)=l:=by rw[<- List.drop_drop,h];rfl
  show bi (Sw l x.1) (Xb l) (x::Xb l)=_;rw[List.zipIdx_cons,A8,ih (n+1) h2,Dd,RX];dsimp only;rw[h2];cases(l.map (·.1)).contains x.1<;>rfl
theorem Xe(all:R2):∀(l:R2) (n:Nat) (pre:R2),all.drop n=l->(∀a,(pre.map (·.1)).contains a=((all.take n).map (·.1)).contains a)->Xd l pre=((l.zipIdx n).filter λx=>!((all.take x.2).map (·.1)).contains x.1.1).map (·.1):=by
 intro l;induction l with
 |nil=>exact λV V V V=>rfl
 |cons x l ih=>
  intro n pre h hp;have h2:all.drop (n+1)=l:=by rw[<- List.drop_drop,h];rfl
  have hx:all[n]? = some x:=by rw[<- List.head?_drop,h];rfl
  show bi (Sw pre x.1) (Xd l (x::pre)) (x::Xd l (x::pre))=_;rw[List.zipIdx_cons,A8,ih (n+1) (x::pre) h2 λa=>by
   rw[A3,hx,AI,List.contains_cons,hp,Af,List.contains_append,Bool.or_comm];congr 1;show(a==x.1)=(a==x.1||false);rw[Bool.or_false],Dd,RX,hp]
  dsimp only;cases((all.take n).map (·.1)).contains x.1<;>rfl
noncomputable def aJ(late:Bool)(l:R2):R2:=bi late (Xb l) (Xd l [])
theorem Xf(late:Bool)(l:R2):aJ late l=NK late l:=by
 unfold aJ NK;cases late with
 |true=>exact Xc l l 0 rfl
 |false=>exact Xe l l 0 [] rfl λa=>by simp
noncomputable def lg:R2->R2->Bool:=λa=>@List.rec (Nat×Nat) (λV=>R2->Bool) (λb=>@List.rec (Nat×Nat) (λV=>Bool) true (λV V V=>false) b) (λx V ih b=>@List.rec (Nat×Nat) (λV=>Bool) false (λy tl V=>bi (Nat.beq x.1 y.1) (bi (Nat.beq x.2 y.2) (ih tl) false) false) b) a
theorem Uq:∀(a b:R2),lg a b=true->a=b
 |[],[],_=>rfl
 |[],_::_,h=>by cases h
 |_::_,[],h=>by cases h
 |x::a,y::b,h=>by
  have h':bi (Nat.beq x.1 y.1) (bi (Nat.beq x.2 y.2) (lg a b) false) false=true:=h;rw[Dd,Dd]at h';split at h'
  .next h1=>
   split at h'
   .next h2=>rw[Uq a b h',Prod.ext (BL h1) (BL h2)]
   .cases h'
  .cases h'
noncomputable def j6(l:BY):Bool:=@List.rec Nat (λV=>Bool) true (λa tl ih=>bi (GV tl a) false ih) l
theorem V1:∀l:List Nat,j6 l=true->l.Nodup:=by
 intro l;induction l with
 |nil=>exact λV=>.nil
 |cons a l ih=>
  intro h;have h':bi (GV l a) false (j6 l)=true:=h;rw[Dd,GW]at h';split at h'
  .cases h'
  .next h1=>exact List.nodup_cons.mpr ⟨by simpa using h1,ih h'⟩
theorem FI(l:BY)(a:Nat):GV l a=true↔a∈l:=by rw[GW];exact List.contains_iff_mem
noncomputable def bq(tags keys:BY)(x:Nat×Nat):Bool:=bi (GV tags x.2) (bi (GV lows x.1) (bi (GV lows x.2) (GV keys x.1) false) false) false
noncomputable def br(tags keys:BY)(seen told pairs:R2):Bool:=
 bi (j6 (Gu tags (Fl (·.1) told))) (bi (Gs (bq tags keys) told) (bi (Nat.ble (IF told) 4) (bi (Nat.ble (IF tags) 16) (bi (Nat.ble (IF seen) 96) (Nat.ble (IF pairs) 100) false) false) false) false) false
theorem bi_and{b c:Bool}(h:bi b c false=true):b=true/\c=true:=by cases b<;>cases c<;>first|exact⟨rfl,rfl⟩|cases h
noncomputable def Pa(late:Bool)(net:R2)(near:D9)(keys:BY)(s:St):Option St:=
 (λtags told pairs=>bi (lg told (aJ late pairs)) (bi (br tags keys s.seen told pairs) (some ⟨Fl (·.1) told,Gu s.seen told,OY Ft told s.th⟩) none) none) (Fl (·.1) s.th) (Wi (QE late net s.seen s.lvl)) (Qg near (Fl (·.1) s.th) s.lvl)
theorem lookup_isSome{β:Type}:∀(near:List (Nat×β)) (a:Nat),a∈near.map (·.1)->(near.lookup a).isSome=true:=λnear a h=>by
 refine B5 (GU (W:=near) h) ?_;intro v hv;rw[hv];rfl
theorem Wn{late:Bool}{net:R2}{near:D9}{keys:BY}(hk:keys=near.map (·.1)){s s':St}(h:Pa late net near keys s=some s'):IW late net near s=some s':=by
 unfold Pa at h;dsimp only at h;have et:Fl (·.1) s.th=CR s.th:=DL _ _;rw[et,Wj,Sv,TZ,Xf,Dd,Dd,DL,Hw,Gw]at h;unfold IW;split at h
 .next h1=>
  split at h
  .next h2=>
   have e1:=Uq _ _ h1;refine CB (bi_and h2) ?_;intro a1 h2;refine CB (bi_and h2) ?_;intro a2 h2;refine CB (bi_and h2) ?_;intro a3 h2;refine CB (bi_and h2) ?_;intro a4 h2;refine CB (bi_and h2) ?_;intro a5 a6;have a1:=V1 _ a1;rw[Hw,DL]at a1;rw[Eo,Ah]at a2;rw[GQ,Nat.ble_eq]at a3 a4 a5 a6;have jU:∀x∈Gk (GL late net s.seen s.lvl),x.2∈CR s.th/\x.1∈lows/\x.2∈lows/\x.1∈keys:=λx hx=>by
    refine CB (bi_and (a2 x hx)) ?_;intro b1 b;refine CB (bi_and b) ?_;intro b2 b;refine CB (bi_and b) ?_;intro b3 b4;exact⟨(FI _ _).mp b1,(FI _ _).mp b2,(FI _ _).mp b3,(FI _ _).mp b4⟩
   dsimp only;have fl:(GL late net s.seen s.lvl).length=(Gk (GL late net s.seen s.lvl)).length:=by unfold Gk;rw[AA]
   rw[if_pos ⟨e1,a1,λx hx=>(jU x hx).1,λx hx=>⟨(jU x hx).2.1,(jU x hx).2.2.1⟩,λx hx=>lookup_isSome near x.1 (hk▸(jU x hx).2.2.2),a3,by rw[Ac,AA];exact gp a4 a3 rfl,(Jc fl a3 rfl),by rw[Ac];exact gp a5 a3 rfl,a6⟩];exact h
  .cases h
 .cases h
noncomputable def Yl(late:Bool)(net:R2)(near:D9)(keys:BY)(n:Nat):St->Option St:=
 @Nat.rec (λV=>St->Option St) some (λV ih s=>@Option.rec St (λV=>Option St) none ih (Pa late net near keys s)) n
theorem SF{late:Bool}{net:R2}{near:D9}{keys:BY}(hk:keys=near.map (·.1)):∀ {n:Nat}{s s':St},Yl late net near keys n s=some s'->runN late net near n s=some s'
 |0,_,_,h=>h
 |n+1,s,s',h=>by
  have h' : @Option.rec St (λV=>Option St) none (Yl late net near keys n) (Pa late net near keys s)=some s':=h;rw[cA];cases e:Pa late net near keys s with
  |none=>rw[e]at h';cases h'
  |some s1=>
   rw[e]at h';rw[Wn hk e];exact SF hk h'
noncomputable def bH(th:TH)(p:Nat):List Nat:=@List.rec (Nat×List Nat×Option Nat) (λV=>List Nat) [] (λx V ih=>@Option.rec Nat (λV=>List Nat) ih (λa=>bi (Nat.beq a p) (x.1::ih) ih) x.2.2) th
theorem Vf(th:TH)(p:Nat):bH th p=Ib th p:=by
 induction th with
 |nil=>rfl
 |cons x l ih=>
  obtain⟨a,w,b⟩:=x;unfold Ib at ih ⊢;rw[A8];cases b with
  |none=>exact ih
  |some b=>
   show bi (Nat.beq b p) (a::bH l p) (bH l p)=_;rw[ih,Dd,HS];show _=List.map _ (if(b==p)=true then _ else _);cases b==p<;>rfl
noncomputable def SU(th:TH)(n:Nat):Nat->List Nat:=@Nat.rec (λV=>Nat->List Nat) (λV=>[]) (λV ih a=>a::Kq ih (bH th a)) n
theorem Wv(th:TH):∀(n a:Nat),SU th n a=CP (Ib th) n a:=by
 intro l;induction l with
 |zero=>exact λV=>rfl
 |succ n ih=>
  intro a;show a::Kq (SU th n) (bH th a)=_;rw[SV,H7,Vf,show SU th n=CP (Ib th) n from funext (ih)]
noncomputable def MQ(th:TH)(n:Nat):Nat->Bool:=@Nat.rec (λV=>Nat->Bool) (λV=>false) (λV ih a=>Gs ih (bH th a)) n
theorem OQ(th:TH):∀(n a:Nat),MQ th n a=deep (Ib th) n a
 |0,_=>rfl
 |n+1,a=>by
  show Gs (MQ th n) (bH th a)=_;rw[aI,Eo,Vf,show MQ th n=deep (Ib th) n from funext (OQ th n)]
theorem Q4(kd:Nat->List Nat)(h:∀a,(kd a).length<=4):∀m ≤5,∀a,(CP kd m a).length<=500:=by
 have step:∀m L,(∀a,(CP kd m a).length<=L)->∀a,(CP kd (m+1) a).length<=1+4*L:=λm L hL a=>by
  rw[SV,AZ];have key:∀l:List Nat,(l.flatMap (CP kd m)).length<=l.length*L:=λl=>by
   induction l with
   |nil=>simp
   |cons x l ih=>
    rw[AX,Ac,AZ,Nat.succ_mul];have:=hL x;lia
  have h1:=key (kd a);have h2:=Nat.mul_le_mul_right L (h a);lia
 have h0:∀a,(CP kd 0 a).length<=0:=λa=>Ad 0;have h1:=step 0 0 h0;have h2:=step 1 _ h1;have h3:=step 2 _ h2;have h4:=step 3 _ h3;have h5:=step 4 _ h4;intro m hm a;exact ux (Nat.lt_succ_of_le hm) (lb (h0 a) rfl) (lb (h1 a) rfl) (lb (h2 a) rfl) (lb (h3 a) rfl) (lb (h4 a) rfl) (lb (h5 a) rfl)
noncomputable def EY(x y:Nat):Nat:=Nat.add (Nat.mul (Nat.sub x 98) 5) (Nat.sub y 98)
noncomputable def Fo(M p:Nat):Nat:=Nat.mod (Nat.div M (Nat.pow 8 p)) 8
noncomputable def ofD(l:BY):Nat:=@List.rec Nat (λV=>Nat) 0 (λd V ih=>Nat.add d (Nat.mul 8 ih)) l
theorem R5:∀(l:BY) (p:Nat),(∀d∈l,d<8)->Fo (ofD l) p=l.getD p 0
 |[],p,_=>by show 0/8^p%8=0;rw[Nat.zero_div]
 |d::l,0,h=>by
  show(d+8*ofD l)/8^0%8=d;rw[Nat.pow_zero,Nat.div_one,Nat.add_mul_mod_self_left,Nat.mod_eq_of_lt (h d (.head _))]
 |d::l,p+1,h=>by
  have ih:=R5 l p λe he=>h e (.tail _ he);have hd:=h d (.head _);show(d+8*ofD l)/8^(p+1)%8=l.getD p 0;rw[<- ih,Nat.pow_succ',<- Nat.div_div_eq_div_mul,show(d+8*ofD l)/8=ofD l by rw[Nat.add_mul_div_left _ _ (by decide),Nat.div_eq_of_lt hd,Nat.zero_add]];rfl
theorem Xa(M p d:Nat)(h:d<=Fo M p)(q:Nat):Fo (M-d*8^p) q=if q=p then Fo M p-d else Fo M q:=by
 have hM:M=(M/8^(p+1)*8+Fo M p)*8^p+M%8^p:=by
  show M=(M/8^(p+1)*8+M/8^p%8)*8^p+M%8^p;rw[Nat.pow_succ,<- Nat.div_div_eq_div_mul,Nat.div_add_mod',Nat.div_add_mod']
 have Dw:Fo M p<8:=Nat.mod_lt _ (by decide);have QL:0<8^p:=Nat.pow_pos (by decide);have hL:M%8^p<8^p:=Nat.mod_lt _ QL;generalize M/8^(p+1)=H at hM;generalize Fo M p=o at *;generalize M%8^p=L at *;have hN:M-d*8^p=(H*8+(o-d))*8^p+L:=by
  rw[hM,Nat.add_mul,Nat.add_mul,Nat.sub_mul];exact lB (Nat.mul_le_mul_right (8^p) h)
 have gen:∀v<8,∀q,Fo ((H*8+v)*8^p+L) q=if q=p then v else if q<p then L/8^q%8 else H/8^(q-p-1)%8:=λv hv q=>by
  show((H*8+v)*8^p+L)/8^q%8=_;rcases Nat.lt_trichotomy q p with h1|h1|h1
  .rw [if_neg (by exact Nat.ne_of_lt h1),if_pos h1];obtain⟨e,rfl⟩:∃e,p=q+(e+1):=⟨p-q-1,by rw[<- XI h1];exact(Nat.add_sub_of_le (A4 h1)).symm⟩
   rw[Nat.pow_add,Nat.pow_succ,show(H*8+v)*(8^q*(8^e*8))=8^q*((H*8+v)*8^e*8)by rw[Nat.mul_left_comm,Nat.mul_assoc],Nat.mul_add_div (Nat.pow_pos (by decide)),Nat.add_comm,Nat.add_mul_mod_self_right]
  .rw [if_pos h1,h1,Nat.mul_comm,Nat.mul_add_div QL,Nat.div_eq_of_lt hL,Nat.add_zero,Nat.mul_comm,Nat.mul_add_mod,Nat.mod_eq_of_lt hv]
  .rw [if_neg (by exact Nat.ne_of_lt' h1),if_neg (by exact Nat.not_lt_of_gt h1)];obtain⟨e,rfl⟩:∃e,q=p+(1+e):=⟨q-p-1,by rw[Nat.add_comm 1,<- XI h1];exact(Nat.add_sub_of_le (A4 h1)).symm⟩
   rw[Nat.pow_add,<- Nat.div_div_eq_div_mul,Nat.mul_comm,Nat.mul_add_div QL,Nat.div_eq_of_lt hL,Nat.add_zero,Nat.pow_add,<- Nat.div_div_eq_div_mul,show(H*8+v)/8^1=H by rw[Nat.pow_one,Nat.mul_comm,Nat.mul_add_div (by decide),Nat.div_eq_of_lt hv,Nat.add_zero],show p+(1+e)-p-1=e by rw[Nat.add_sub_cancel_left,Nat.add_sub_cancel_left]]
 rw[hN,gen (o-d) (by exact Nat.sub_lt_of_lt Dw) q];by_cases e:q=p
 .rw [if_pos e,if_pos e]
 .rw [if_neg e,if_neg e,hM,gen o Dw q,if_neg e]
noncomputable def SJ(M:Nat)(t:Nat×Nat×Nat):Nat:=
 (λo v=>bi (Nat.ble o v) M (Nat.sub M (Nat.mul (Nat.sub o v) (Nat.pow 8 (EY t.2.1 t.2.2))))) (Fo M (EY t.2.1 t.2.2)) (Nat.add (Fo M (EY t.2.1 t.1)) (Fo M (EY t.1 t.2.2)))
theorem Im(A:A2)(k k':Nat×Nat)(v:Int)(h:EC A k'):DW (GH A k v) k'=if k'=k then v else DW A k':=by
 unfold GH;by_cases hk:A.any (λp=>decide (p.1=k))=true
 .rw [if_pos hk];unfold DW;induction A with
  |nil=>cases h
  |cons p A ih=>
   obtain⟨a,b⟩:=p;rw[AI];by_cases e:k'=a
   .subst e;rw[AK];by_cases e2:k'=k
    .rw [if_pos e2,if_pos e2];dsimp only;rw[beq_self_eq_true];rfl
    .rw [if_neg e2,if_neg e2,AK];dsimp only;rw[beq_self_eq_true]
   .have he:(k'==a)=false:=by simpa using e
    have hb:EC A k':=(AJ.mp h).resolve_left e;have tl:∀w:Int,(List.lookup k' ((if a=k then(a,v)else(a,b))::A.map λp=>if p.1=k then(p.1,v)else p))=List.lookup k' (A.map λp=>if p.1=k then(p.1,v)else p):=λw=>by
     split<;>(rw[AK,he])
    dsimp only;rw[tl 0,AK,he];dsimp only;by_cases hA:A.any (λp=>decide (p.1=k))=true
    .exact ih hb hA
    .have hn:∀p∈A,p.1≠k:=λp hp z=>hA (Aq.mpr ⟨p,hp,by simpa using z⟩);have ek:k'≠k:=λz=>by
      refine Bh (AF.mp hb) ?_;intro p hp e;exact hn p hp (e.trans z)
     rw[if_neg ek];congr 2;conv=>rhs;rw[<- List.map_id A]
     exact AW λp hp=>if_neg (hn p hp)
 .rw [if_neg hk,if_neg (λz=>by
   refine Bh (AF.mp h) ?_;intro p hp e;exact hk (Aq.mpr ⟨p,hp,by simpa using e.trans z⟩))]
  unfold DW;have:∀A:A2,EC A k'->(A++[(k,v)]).lookup k'=A.lookup k':=λA=>by
   induction A with
   |nil=>intro h;cases h
   |cons p A ih=>
    intro h;obtain⟨a,b⟩:=p;rw[List.cons_append,AK,AK];by_cases e:k'=a
    .rw [show(k'==a)=true by simpa using e]
    .rw [show(k'==a)=false by simpa using e];exact ih ((AJ.mp h).resolve_left e)
  rw[this A h]
theorem WA:∀x∈lows,∀y∈lows,∀x'∈lows,∀y'∈lows,x*5+y-588=x'*5+y'-588->x=x'/\y=y':=by decide +kernel
theorem R7:∀x∈lows,∀y∈lows,EY x y=x*5+y-588:=by decide +kernel
def SX(cs:BY)(A:A2)(M:Nat):Prop:=GG cs A/\∀x∈cs,∀y∈cs,DW A (x,y)=Fo M (EY x y)
theorem WZ(hc:∀x∈cs,x∈lows){A:A2}{M:Nat}(T:SX cs A M){t:Nat×Nat×Nat}(ht:t∈EM cs):SX cs (HF A t) (SJ M t):=by
 refine FO (HQ ht) ?_;intro h1 h2 h3;refine⟨PV T.1 h2 h3,λx hx y hy=>?_⟩;unfold HF;rw[Im _ _ _ _ (T.1.2 x hx y hy),T.2 x hx y hy,T.2 _ h2 _ h3,T.2 _ h2 _ h1,T.2 _ h1 _ h3];have ep:((x,y)=(t.2.1,t.2.2))↔EY x y=EY t.2.1 t.2.2:=by
  refine⟨λe=>by rw[(Prod.mk.inj e).1,(Prod.mk.inj e).2],λe=>?_⟩;rw[R7 x (hc x hx) y (hc y hy),R7 _ (hc _ h2) _ (hc _ h3)]at e;refine CB (WA x (hc x hx) y (hc y hy) _ (hc _ h2) _ (hc _ h3) e) ?_;intro a b;rw[a,b]
 unfold SJ;dsimp only;rw[Dd];generalize EY x y=p at *;generalize EY t.2.1 t.2.2=q at *;generalize EY t.2.1 t.1=q1 at *;generalize EY t.1 t.2.2=q2 at *;by_cases hle:Nat.ble (Fo M q) (Nat.add (Fo M q1) (Fo M q2))=true
 .rw [if_pos hle];have X9:Fo M q<=Fo M q1+Fo M q2:=AE hle;split
  .next e=>rw[ep.mp e];exact Int.min_eq_left (Int.ofNat_le.mpr X9)
  .rfl
 .rw [if_neg hle];have X9:Fo M q1+Fo M q2<Fo M q:=Nat.lt_of_not_le λz=>hle (Nat.ble_eq_true_of_le z);show _=((Fo (M-(Fo M q-(Fo M q1+Fo M q2))*8^q) p:Nat):Int);rw[Xa _ _ _ (by exact BN (Fo M q) (Fo M q1+Fo M q2))];by_cases e:(x,y)=(t.2.1,t.2.2)
  .rw [if_pos e,if_pos (ep.mp e),Nat.sub_sub_self (A4 X9)];exact Int.min_eq_right (Int.ofNat_le.mpr (A4 X9))
  .rw [if_neg e,if_neg λz=>e (ep.mpr z)]
theorem Mu(hc:∀x∈cs,x∈lows):∀(l:List (Nat×Nat×Nat)) (A:A2) (M:Nat),(∀t∈l,t∈EM cs)->SX cs A M->SX cs (l.foldl HF A) (l.foldl SJ M)
 |[],_,_,_,T=>T
 |t::l,A,M,h,T=>Mu hc l _ _ (λq hq=>h q (.tail _ hq)) (WZ hc T (h t (.head _)))
noncomputable def Yv(ts:R2)(x y:Nat):Bool:=anyF (λt=>bi (Nat.beq x t.1) (Nat.beq y t.2) (bi (Nat.beq y t.1) (Nat.beq x t.2) false)) ts
noncomputable def Su(n:Nat)(k:Nat->α):α:=@Nat.rec (λV=>α) (k 0) (λm V=>k (Nat.succ m)) n
noncomputable def Xr(l:BY):(List Nat->α)->α:=@List.rec Nat (λV=>(List Nat->α)->α) (λk=>k []) (λa V ih k=>Su a λa=>ih λl=>k (a::l)) l
noncomputable def mD(o:Option Nat)(k:Option Nat->α):α:=@Option.rec Nat (λV=>α) (k none) (λa=>Su a λa=>k (some a)) o
noncomputable def mE(l:R2):(R2->α)->α:=@List.rec (Nat×Nat) (λV=>(R2->α)->α) (λk=>k []) (λa V ih k=>Su a.1 λa1=>Su a.2 λa2=>ih λl=>k ((a1,a2)::l)) l
noncomputable def fL(l:D9):(List (Nat×List Nat)->α)->α:=@List.rec (Nat×List Nat) (λV=>(List (Nat×List Nat)->α)->α) (λk=>k []) (λa V ih k=>Su a.1 λa1=>Xr a.2 λa2=>ih λl=>k ((a1,a2)::l)) l
noncomputable def mG(l:TH):(TH->α)->α:=@List.rec (Nat×List Nat×Option Nat) (λV=>(TH->α)->α) (λk=>k []) (λa V ih k=>Su a.1 λa1=>Xr a.2.1 λa2=>mD a.2.2 λa3=>ih λl=>k ((a1,a2,a3)::l)) l
theorem Hg(n:Nat)(k:Nat->α):Su n k=k n:=by cases n<;>rfl
theorem NT:∀(l:BY) (k:List Nat->α),Xr l k=k l
 |[],_=>rfl
 |a::l,k=>by
  show Su a (λa=>Xr l λl=>k (a::l))=_;rw[Hg,NT]
theorem aR(o:Option Nat)(k:Option Nat->α):mD o k=k o:=by
 cases o with
 |none=>rfl
 |some a=>exact Hg a λa=>k (some a)
theorem VE:∀(l:R2) (k:R2->α),mE l k=k l
 |[],_=>rfl
 |a::l,k=>by
  show Su a.1 (λa1=>Su a.2 λa2=>mE l λl=>k ((a1,a2)::l))=_;rw[Hg,Hg,VE]
theorem QD:∀(l:D9) (k:List (Nat×List Nat)->α),fL l k=k l
 |[],_=>rfl
 |a::l,k=>by
  show Su a.1 (λa1=>Xr a.2 λa2=>fL l λl=>k ((a1,a2)::l))=_;rw[Hg,NT,QD]
theorem VF:∀(l:TH) (k:TH->α),mG l k=k l
 |[],_=>rfl
 |a::l,k=>by
  show Su a.1 (λa1=>Xr a.2.1 λa2=>mD a.2.2 λa3=>mG l λl=>k ((a1,a2,a3)::l))=_;rw[Hg,NT,aR,VF]
noncomputable def hH(th:TH)(x:Nat):Option (List Nat×Option Nat):=@List.rec (Nat×List Nat×Option Nat) (λV=>Option (List Nat×Option Nat)) none (λt V ih=>bi (Nat.beq x t.1) (some t.2) ih) th
noncomputable def Wx(th:TH)(x:Nat):List Nat:=@Option.rec (List Nat×Option Nat) (λV=>List Nat) [] (λv=>v.1) (hH th x)
noncomputable def kj(th:TH)(x:Nat):Nat:=@Option.rec (List Nat×Option Nat) (λV=>Nat) 0 (λv=>@Option.rec Nat (λV=>Nat) 0 (λa=>a) v.2) (hH th x)
noncomputable def Eu:List Bool->List Bool->Nat:=λa=>@List.rec Bool (λV=>List Bool->Nat) (λV=>0) (λx V ih b=>@List.rec Bool (λV=>Nat) 0 (λy tl V=>bi x (bi y (ih tl) (Nat.succ (ih tl))) (bi y (Nat.succ (ih tl)) (ih tl))) b) a
noncomputable def uF(th:TH)(ys:BY)(x:Nat):List Bool:=Fl (λy=>GV (Wx th x) y) ys
noncomputable def dX(M:Nat)(th:TH)(ys:BY)(x z:Nat):Nat:=Nat.sub (Nat.add (Eu (uF th ys x) (uF th ys z)) 8) (Fo M (EY x z))
noncomputable def SI(M:Nat)(th:TH)(ys:BY)(x y:Nat)(later:Bool):Bool:=
 (λa b=>bi (Nat.beq a (Nat.add b 2)) true (bi (Nat.beq a (Nat.add b 1)) (bi (Nat.beq (Nat.mod a 2) 0) (bi later false true) later) false)) (dX M th ys x y) (dX M th ys x (kj th y))
noncomputable def Ip(M:Nat)(th:TH)(ys:BY)(x:Nat)(l:BY):List Nat:=
 @List.rec Nat (λV=>List Nat) [] (λy tl ih=>bi (GV (Wx th x) y) 1 (bi (SI M th ys x y (GV (y::tl) x)) 2 0)::ih) l
noncomputable def ND:List Nat->List Nat->Nat:=λa=>@List.rec Nat (λV=>List Nat->Nat) (λV=>0) (λx V ih b=>@List.rec Nat (λV=>Nat) 0 (λy tl V=>bi (Nat.beq (Nat.add x y) 1) (Nat.succ (ih tl)) (ih tl)) b) a
noncomputable def Nt(l:BY):Nat->Nat:=@List.rec Nat (λV=>Nat->Nat) (λV=>0) (λa V ih n=>@Nat.rec (λV=>Nat) a (λm V=>ih m) n) l
noncomputable def Ug(M:Nat)(k:Nat)(r0 row:Nat×List Nat):Bool:=
 bi (Nat.beq (Fo M (EY r0.1 row.1)) (ND r0.2 row.2)) (bi (Nat.beq (Nt row.2 (Nat.sub k 1)) 1) (bi (Nat.beq (Nt r0.2 (Nat.sub k 1)) 1) false true) false) false
noncomputable def XS(M:Nat)(rows:D9):List (Nat×List Nat)->Nat->Bool:=
 @List.rec (Nat×List Nat) (λV=>List (Nat×List Nat)->Nat->Bool) (λV V=>true) (λrow V ih pre k=>bi (Gs (λr0=>Ug M k r0 row) pre) (ih (row::pre) (Nat.succ k)) false) rows
noncomputable def Z7(cs:BY)(th:TH)(nm ys:BY):Bool:=
 bi (j6 nm) (bi (Nat.beq (IF nm) (IF cs)) (bi (Gs (GV cs) nm) (bi (Gs (GV (Fl (·.1) th)) nm) (Gs (λy=>@Option.rec (List Nat×Option Nat) (λV=>Bool) false (λv=>@Option.rec Nat (λV=>Bool) false (λa=>GV nm a) v.2) (hH th y)) ys) false) false) false) false
noncomputable def Z8(th:TH)(r:Nat):Bool:=
 @List.rec (Nat×List Nat×Option Nat) (λV=>Bool) false (λx l V=>@Option.rec Nat (λV=>Bool) (bi (Nat.ble (IF l) 4) (MQ th 5 r) false) (λV=>false) x.2.2) th
noncomputable def Z9(M:Nat)(cs:BY)(r:Nat)(th:TH):Bool:=
 bi (Z8 th r) (Xr (SU th 5 r) λnm=>@List.rec Nat (λV=>Bool) false (λV ys V=>bi (Z7 cs th nm ys) (fL (Fl (λx=>(x,Ip M th ys x ys)) nm) λrows=>XS M rows [] 0) false) nm) false
noncomputable def XV(M:Nat)(cs:BY)(net:R2)(near:D9)(r:Nat)(late:Bool):Bool:=
 @Option.rec St (λV=>Bool) false (λs=>mG s.th λth=>Z9 M cs r th) (Yl late net near cs (IF cs) ⟨[r],[(r,r)],[(r,[],none)]⟩)
noncomputable def iG(ts:R2):R2:=@List.rec (Nat×Nat) (λV=>R2) [] (λt V ih=>(t.1,t.2)::(Nat.sub t.2 32,Nat.sub t.1 32)::ih) ts
noncomputable def dZ(ts:R2)(p:Nat):List Nat:=@List.rec (Nat×Nat) (λV=>List Nat) [] (λt V ih=>bi (Nat.beq p t.1) (t.2::ih) (bi (Nat.beq p t.2) (Nat.sub t.1 32::ih) ih)) ts
noncomputable def lj:List Nat->List Nat->Bool:=λa=>@List.rec Nat (λV=>List Nat->Bool) (λb=>@List.rec Nat (λV=>Bool) true (λV V V=>false) b) (λx V ih b=>@List.rec Nat (λV=>Bool) false (λy tl V=>bi (Nat.beq x y) (ih tl) false) b) a
noncomputable def eU(net:R2)(near:D9):Bool:=
 Gs (λx=>@List.rec Nat (λV=>Bool) false (λa l V=>lj (VL net (Nat.sub x.1 32)) (a::l)) x.2) near
noncomputable def TR(cs:BY)(all:R2)(cV:List (Nat×Nat×Nat))(ts:R2):Nat:=
 OY SJ cV (ofD (Fl (λp=>bi (Nat.beq p.1 p.2) 0 (bi (Yv ts p.1 p.2) 1 (IF cs))) all))
noncomputable def i7(all:R2)(M:Nat):Bool:=Gs (λp=>Nat.beq (Fo M (EY p.1 p.2)) (Fo M (EY p.2 p.1))) all
noncomputable def XR(cs:BY)(all:R2)(cV:List (Nat×Nat×Nat))(ts:R2):Bool:=
 Su (TR cs all cV ts) λM=>mE (iG ts) λnet=>fL (Fl (λp=>(p,dZ ts p)) cs) λnear=>
  bi (i7 all M) (bi (eU net near) (Gs (λr=>bi (XV M cs net near r true) (XV M cs net near r false) false) cs) false) false
noncomputable def JM:R2->List Bool->R2:=λps=>@List.rec (Nat×Nat) (λV=>List Bool->R2) (λV=>[]) (λp V ih bs=>@List.rec Bool (λV=>R2) [] (λb tl V=>bi b (p::ih tl) (ih tl)) bs) ps
noncomputable def bl(n:Nat):List (List Bool):=@Nat.rec (λV=>List (List Bool)) [[]] (λV ih=>Gu (Fl (true::·) ih) (Fl (false::·) ih)) n
noncomputable def ne(n:Nat):List (List Bool):=Sr (anyF λb=>b) (bl n)
theorem YT(ts:R2):iG ts=Dk ts:=by
 induction ts with
 |nil=>rfl
 |cons t ts ih=>exact congrArg (λl=>(t.1,t.2)::(El t.2,El t.1)::l) ih
theorem bZ(ts:R2)(p:Nat):dZ ts p=CU ts p:=by
 induction ts with
 |nil=>rfl
 |cons t ts ih=>
  show bi (Nat.beq p t.1) (t.2::dZ ts p) (bi (Nat.beq p t.2) (El t.1::dZ ts p) (dZ ts p))=_;rw[ih,HS,HS];unfold CU;rw[A8];by_cases h1:p=t.1
  .subst h1;simp[bi]
  .by_cases h2:p=t.2
   .subst h2;simp[bi,h1,show(t.2==t.1)=false by simpa using h1]
   .simp [bi,h1,h2,show(p==t.1)=false by simpa using h1,show(p==t.2)=false by simpa using h2]
theorem Ur:∀(a b:BY),lj a b=true->a=b
 |[],[],_=>rfl
 |[],_::_,h=>by cases h
 |_::_,[],h=>by cases h
 |x::a,y::b,h=>by
  have h':bi (Nat.beq x y) (lj a b) false=true:=h;refine CB (bi_and h') ?_;intro h1 h2;rw[Ur a b h2,BL h1]
theorem U4(r:R2)(q:Nat):C2 r q=(C7 r q).head?:=by
 unfold C2 C7;rw[List.head?_map,List.head?_filter]
theorem Yb{nm:BY}:∀ {cs:BY},nm.Nodup->nm.length=cs.length->(∀a∈nm,a∈cs)->nm.Perm cs:=by
 induction nm with
 |nil=>intro cs V hl V;rw[List.length_eq_zero_iff.mp hl.symm]
 |cons a l ih=>
  intro cs nd hl hs;have ha:=hs a (.head _);refine CB (List.nodup_cons.mp nd) ?_;intro n1 n2;refine((ih n2 ?_ λb hb=>?_).cons a).trans (List.perm_cons_erase ha).symm
  .rw [List.length_erase_of_mem ha,<- hl];rfl
  .exact (List.mem_erase_of_ne λe=>n1 (by rw[<- e];exact hb)).mpr (hs b (.tail _ hb))
theorem QY(th:TH)(x:Nat):hH th x=th.lookup x:=by
 induction th with
 |nil=>rfl
 |cons t th ih=>
  show bi (Nat.beq x t.1) (some t.2) (hH th x)=_;obtain⟨a,b⟩:=t;rw[ih,AK,HS];dsimp only;cases x==a<;>rfl
theorem SW(th:TH)(x:Nat):Wx th x=Hs th x:=by
 unfold Wx Hs;rw[QY];cases th.lookup x<;>rfl
theorem Zs(th:TH)(x:Nat):kj th x=Pn th x:=by
 unfold kj Pn;rw[QY];cases th.lookup x with
 |none=>rfl
 |some v=>
  obtain⟨w,o⟩:=v;cases o<;>rfl
structure Q8(M:Nat)(cs:BY)(ts:R2)(r:Nat)(late:Bool)(th:TH)(nm:BY):Prop where
 run:∃stF,stF.th=th/\runN late (Dk ts) (C6 ts cs) cs.length ⟨[r],[(r,r)],[(r,[],none)]⟩=some stF
 deep:deep (Ib th) 5 r=true
 Iy:∀m ≤5,∀a∈CR th,(CP (Ib th) m a).length<=500
 walk:CP (Ib th) 5 r=nm
 perm:nm.Perm cs
 nd:nm.Nodup
 ways:∀x∈nm,∃w a,th.lookup x=some (w,a)
 above:∀y∈nm.drop 1,∃wy,th.lookup y=some (wy,some (Pn th y))/\Pn th y∈nm
 pairs:∀k y,nm[k]? = some y->∀x∈nm.take k,Fo M (EY x y)=ND (Ip M th (nm.drop 1) x (nm.drop 1)) (Ip M th (nm.drop 1) y (nm.drop 1))/\Nt (Ip M th (nm.drop 1) y (nm.drop 1)) (k-1)=1/\Nt (Ip M th (nm.drop 1) x (nm.drop 1)) (k-1)≠1
theorem XU{M:Nat}{r0 row:Nat×List Nat}(h:Ug M k r0 row=true):Fo M (EY r0.1 row.1)=ND r0.2 row.2/\Nt row.2 (k-1)=1/\Nt r0.2 (k-1)≠1:=by
 unfold Ug at h;refine CB (bi_and h) ?_;intro h1 h;refine CB (bi_and h) ?_;intro h2 h3;refine⟨BL h1,BL h2,λe=>?_⟩;have e':Nt r0.2 (Nat.sub k 1)=1:=e;rw[e']at h3;cases h3
theorem XT{M:Nat}:∀(rows pre:D9) (k:Nat),XS M rows pre k=true->∀j row,rows[j]? = some row->∀r0,(r0∈pre\/r0∈rows.take j)->Ug M (k+j) r0 row=true:=by
 intro l;induction l with
 |nil=>exact λV V V j row hj V V=>by cases hj
 |cons Jv rows ih=>
  intro pre k h j row hj r0 hr;have h':bi (Gs (λr0=>Ug M k r0 Jv) pre) (XS M rows (Jv::pre) (k+1)) false=true:=h;refine CB (bi_and h') ?_;intro h1 h2;rw[Eo,Ah]at h1;match j,hj with
  |0,hj=>
   cases hj;rcases hr with hr|hr
   .exact h1 r0 hr
   .cases hr
  |j+1,hj=>
   rw[show k+(j+1)=k+1+j by exact Eq.symm (Nat.succ_add_eq_add_succ k j)];refine ih (Jv::pre) (k+1) h2 j row hj r0 ?_;rcases hr with hr|hr
   .exact .inl (.tail _ hr)
   .rcases AJ.mp hr with rfl|hr
    .exact .inl (.head _)
    .exact .inr hr
theorem XW{M:Nat}{ts:R2}{r:Nat}{late:Bool}{s:St}(hs:runN late (Dk ts) (C6 ts cs) cs.length ⟨[r],[(r,r)],[(r,[],none)]⟩=some s)(h:Z9 M cs r s.th=true):∃nm,Q8 M cs ts r late s.th nm:=by
 unfold Z9 at h;refine CB (bi_and h) ?_;intro hB h;rw[NT,Wv]at h;generalize lY:CP (Ib s.th) 5 r=nm at h;match nm,h with
 |x0::ys,h=>
  have h':bi (Z7 cs s.th (x0::ys) ys) (fL (Fl (λx=>(x,Ip M s.th ys x ys)) (x0::ys)) λrows=>XS M rows [] 0) false=true:=h;refine CB (bi_and h') ?_;intro hA hP;rw[QD]at hP;unfold Z7 at hA;refine CB (bi_and hA) ?_;intro a1 hA;refine CB (bi_and hA) ?_;intro a2 hA;refine CB (bi_and hA) ?_;intro a3 hA;refine CB (bi_and hA) ?_;intro a4 a5;have a2:=BL a2;rw[GQ,GQ]at a2;rw[Eo,Ah]at a3 a4 a5;have nd:=V1 _ a1;refine⟨x0::ys,⟨s,rfl,hs⟩,?_,?_,lY,Yb nd a2 λa ha=>(FI _ _).mp (a3 a ha),nd,λx hx=>?_,λy hy=>?_,λk y hk x hx=>?_⟩
  .unfold Z8 at hB;generalize s.th=th at hB;match th,hB with
   |(a,w,none)::l,hB=>
    have mT:bi (Nat.ble (IF l) 4) (MQ ((a,w,none)::l) 5 r) false=true:=hB;have:=(bi_and mT).2;rwa [OQ]at this
  .unfold Z8 at hB;generalize s.th=th at hB;match th,hB with
   |(a,w,none)::l,hB=>
    have mT:bi (Nat.ble (IF l) 4) (MQ ((a,w,none)::l) 5 r) false=true:=hB;have hl:=AE (bi_and mT).1;rw[GQ]at hl;intro m hm b V;refine Q4 _ (λb=>?_) m hm b;show(List.map _ (List.filter _ ((a,w,none)::l))).length<=4;rw[AA,A8,if_neg (by simp)];exact AD (AV _ _) hl
  .have:=(FI _ _).mp (a4 x hx);rw[DL]at this;refine B5 (GU this) ?_;intro Cq e;obtain⟨w,a⟩:=Cq;exact⟨w,a,e⟩
  .have:=a5 y hy;unfold Pn;rw[QY]at this;cases e:s.th.lookup y with
   |none=>rw[e]at this;cases this
   |some v=>
    rw[e]at this;obtain⟨w,o⟩:=v;cases o with
    |none=>cases this
    |some a=>exact⟨w,rfl,(FI _ _).mp this⟩
  .have e1:(Fl (λx=>(x,Ip M s.th ys x ys)) (x0::ys))[k]? = some (y,Ip M s.th ys y ys):=by rw[DL,AL,hk];rfl
   have:=XT _ [] 0 hP k _ e1 (x,Ip M s.th ys x ys) (.inr (by rw[DL,<- List.map_take];exact AF.mpr ⟨x,hx,rfl⟩));rw[Nat.zero_add]at this;have q:=XU this;exact q
theorem oO{β:Type}(n:β)(f:α->β)(a:α) : @Option.rec α (λV=>β) n f (some a)=f a:=rfl
theorem RF{M:Nat}{ts:R2}{r:Nat}{late:Bool}(h:XV M cs (Dk ts) (C6 ts cs) r late=true):∃th nm,Q8 M cs ts r late th nm:=by
 unfold XV at h;cases e:Yl late (Dk ts) (C6 ts cs) cs (IF cs) ⟨[r],[(r,r)],[(r,[],none)]⟩with
 |none=>rw[e]at h;cases h
 |some s=>
  rw[e,oO false,VF]at h;rw[GQ]at e;refine B5 (XW (ts:=ts) (late:=late) (SF (by unfold C6;rw[AB];exact(List.map_id cs).symm) e) h) ?_;intro nm g;exact⟨s.th,nm,g⟩
structure d6(M:Nat)(cs:BY)(ts:R2):Prop where
 get:∀p∈cs,∃a l,CU ts p=a::l/\C2 (Dk ts) (El p)=some a/\C7 (Dk ts) (El p)=a::l
 tree:∀r∈cs,∀late,∃th nm,Q8 M cs ts r late th nm
 sym:∀x∈cs,∀y∈cs,Fo M (EY x y)=Fo M (EY y x)
theorem RE{all:R2}{cV:List (Nat×Nat×Nat)}{ts:R2}(ha:∀x∈cs,∀y∈cs,(x,y)∈all)(h:XR cs all cV ts=true):d6 (TR cs all cV ts) cs ts:=by
 have en:Fl (λp=>(p,dZ ts p)) cs=C6 ts cs:=by
  rw[DL];exact AW λp V=>congrArg (Prod.mk p) (bZ ts p)
 unfold XR at h;rw[Hg,VE,QD,YT,en]at h;generalize TR cs all cV ts=M at h ⊢;refine CB (bi_and h) ?_;intro h1 h;refine CB (bi_and h) ?_;intro h2 h3;unfold i7 at h1;unfold eU at h2;rw[Eo,Ah]at h1 h2 h3;refine⟨λp hp=>?_,λr hr late=>?_,λx hx y hy=>by
  have:=h1 (x,y) (ha x hx y hy);dsimp only at this;exact BL this⟩
 .have:=h2 (p,CU ts p) (AF.mpr ⟨p,hp,rfl⟩);dsimp only at this;rw[RZ]at this;cases e:CU ts p with
  |nil=>rw[e]at this;cases this
  |cons a l=>
   rw[e]at this;have e2:C7 (Dk ts) (El p)=a::l:=Ur _ _ this;exact⟨a,l,rfl,by rw[U4,e2];rfl,e2⟩
 .refine CB (bi_and (h3 r hr)) ?_;intro ht hf;cases late with
  |true=>exact RF ht
  |false=>exact RF hf
noncomputable def EK(a b:Nat):Nat:=if Nat.beq a b then 0 else if Nat.beq (lo1 a) (lo1 b)then 1 else 2
noncomputable def XA(h a:Nat):Str:=if Nat.blt h 5 then CN h a else sg a
theorem WX:∀h<6,∀a∈By,∀b∈By,DD (XA h a) (XA h b)=(EK a b:Nat):=by decide +kernel
noncomputable def Pg(c d:Nat):Nat:=if Nat.beq c d then 0 else if Nat.beq (c+d) 1 then 1 else 2
noncomputable def stN(t i:Nat):Nat:=DE.getD ((i+t)%7) 0
noncomputable def Ic(t:Nat)(p:Nat×Nat)(c:Nat):Nat:=if c=1 then El p.1 else if c=2 then stN t p.2 else p.1
theorem JN(t i:Nat):stN t i∈DE:=by
 unfold stN;have h:(i+t)%7<DE.length:=Nat.mod_lt _ (by decide);rw[AN,AU h];exact List.getElem_mem h
theorem WY:∀s∈DE,s∈By:=by decide
theorem Np:∀y∈lows,y∈By/\El y∈By:=by decide
theorem N5{t:Nat}{p:Nat×Nat}{c:Nat}(h:p.1∈lows):Ic t p c∈By:=by
 unfold Ic;split
 .exact (Np _ h).2
 .split
  .exact WY _ (JN _ _)
  .exact (Np _ h).1
theorem XX:∀y∈lows,∀z∈lows,y≠z->EK y z=2/\EK (El y) z=2/\EK y (El z)=2/\EK (El y) (El z)=2:=by decide
theorem aF:∀y∈lows,EK y y=0/\EK (El y) y=1/\EK y (El y)=1/\EK (El y) (El y)=0:=by decide
theorem NG:∀y∈lows,∀s∈DE,EK y s=2/\EK (El y) s=2/\EK s y=2/\EK s (El y)=2:=by decide
theorem RH:∀t<7,∀i<4,∀j<4,EK (stN t i) (stN t j)=if i=j then 0 else 2:=by decide +kernel
theorem three{c:Nat}(h:c<=2):c=0\/c=1\/c=2:=by lia
theorem OP{t:Nat}(ht:t<7){p q:Nat×Nat}(h1:p.1∈lows)(h2:q.1∈lows)(l1:p.2<4)(l2:q.2<4){c d:Nat}(hc:c<=2)(hd:d<=2) :
  (p.2≠q.2->p.1≠q.1->EK (Ic t p c) (Ic t q d)=2)/\(p=q->EK (Ic t p c) (Ic t q d)=Pg c d):=by
 have v0:∀p:Nat×Nat,Ic t p 0=p.1:=λp=>rfl;have v1:∀p:Nat×Nat,Ic t p 1=El p.1:=λp=>rfl;have v2:∀p:Nat×Nat,Ic t p 2=stN t p.2:=λp=>rfl;refine⟨λni nl=>?_,λe=>?_⟩
 .have a:=XX _ h1 _ h2 nl;have b:=NG _ h1 _ (JN t q.2);have b':=NG _ h2 _ (JN t p.2);have s:=RH t ht _ l1 _ l2;rw[if_neg ni]at s;rcases three hc with rfl|rfl|rfl<;>rcases three hd with rfl|rfl|rfl<;>simp only[v0,v1,v2]
  .exact a.1
  .exact a.2.2.1
  .exact b.1
  .exact a.2.1
  .exact a.2.2.2
  .exact b.2.1
  .exact b'.2.2.1
  .exact b'.2.2.2
  .exact s
 .subst e;have a:=aF _ h1;have b:=NG _ h1 _ (JN t p.2);have s:=RH t ht _ l1 _ l1;rw[if_pos rfl]at s;rcases three hc with rfl|rfl|rfl<;>rcases three hd with rfl|rfl|rfl<;>simp only[v0,v1,v2]
  .exact a.1
  .exact a.2.2.1
  .exact b.1
  .exact a.2.1
  .exact a.2.2.2
  .exact b.2.1
  .exact b.2.2.1
  .exact b.2.2.2
  .exact s
structure Places(ps:List (Nat×Nat)):Prop where
 len:ps.length=3\/ps.length=4
 low:∀p∈ps,p.1∈lows
 at':∀(i:Nat) (p:Nat×Nat),ps[i]? = some p->p.2=i
 diff:∀(i j:Nat) (p q:Nat×Nat),ps[i]? = some p->ps[j]? = some q->i≠j->p.1≠q.1
theorem Places.zip{ys:BY}(hl:ys.length=3\/ys.length=4)(K0:∀y∈ys,y∈lows)(nd:ys.Nodup):Places ys.zipIdx:=by
 have g:∀(i:Nat) (p:Nat×Nat),(ys.zipIdx)[i]? = some p->ys[i]? = some p.1/\p.2=i:=λi p h=>by
  rw[List.getElem?_zipIdx,AS]at h;refine Bh h ?_;clear h;rintro y hy rfl;exact⟨hy,Nat.zero_add i⟩
 refine⟨by rw[List.length_zipIdx];exact hl,λp hp=>?_,λi p h=>(g i p h).2,λi j p q h1 h2 ak e=>?_⟩
 .refine B5 (List.mem_iff_getElem?.mp hp) ?_;intro i hi;exact K0 _ (AQ (g i p hi).1)
 .have a:=(g i p h1).1;have b:=(g j q h2).1;rw[e]at a;exact ak ((List.getElem?_inj (AP.mp a).1 nd).mp (a.trans b.symm))
noncomputable def vec(ps:List (Nat×Nat))(f g:Nat×Nat->Nat):List Nat:=ps.map λp=>Pg (f p) (g p)
theorem UX(c d:Nat):Pg c d<=2:=by
 unfold Pg;split
 .decide
 .split<;>decide
theorem SS(ps:List (Nat×Nat))(f g:Nat×Nat->Nat):vec ps f g∈Lo ps.length:=by
 have:=Pc (vec ps f g) λd hd=>by
  refine Bh (AF.mp hd) ?_;rintro p V rfl;exact UX _ _
 rwa [show(vec ps f g).length=ps.length from AA _]at this
theorem MP{ps:List (Nat×Nat)}(P:Places ps){t h:Nat}(ht:t<7)(hh:h<6){f g:Nat×Nat->Nat}(hf:∀p,f p<=2)(hg:∀p,g p<=2):∀i<ps.length,∀j<ps.length,
  Hy (vec ps f g) i j=DD ((ps.map λp=>XA h (Ic t p (f p))).getD i ⟨#[]⟩) ((ps.map λp=>XA h (Ic t p (g p))).getD j ⟨#[]⟩):=λi hi j hj=>by
 have four:ps.length<=4:=by have:=P.len;(clear ht hh;lia)
 have e1:=AU hi;have e2:=AU hj;have a1:=P.at' i _ e1;have a2:=P.at' j _ e2;generalize ps[i]=p at *;generalize ps[j]=q at *;have l1:=P.low p (AQ e1);have l2:=P.low q (AQ e2);rw[AN,AN,AL,AL,e1,e2];show _=DD (XA h (Ic t p (f p))) (XA h (Ic t q (g q)));rw[WX h hh _ (N5 l1) _ (N5 l2)];have key:=OP ht l1 l2 (by lia) (by lia) (hf p) (hg q);unfold Hy;by_cases ak:i=j
 .subst ak;have pQ:p=q:=Option.some.inj (e1.symm.trans e2);rw[show Nat.beq i i=true from Nat.beq_refl i,if_pos rfl,key.2 pQ];unfold vec;rw[AN,AL,e1,pQ];rfl
 .rw [show Nat.beq i j=false by rw[Bool.eq_false_iff];exact λz=>ak (BL z),key.1 (by(clear hi;lia)) (P.diff i j p q e1 e2 ak)];rfl
noncomputable def Dq(t:Nat)(ps:List (Nat×Nat))(f:Nat×Nat->Nat):List Nat:=ps.map λp=>Ic t p (f p)
theorem SE{h:Nat}(h5:h<5)(t:Nat)(ps:List (Nat×Nat))(f:Nat×Nat->Nat):(Dq t ps f).map (CN h)=ps.map λp=>XA h (Ic t p (f p)):=by
 unfold Dq;rw[AB];refine AW λp V=>?_;show CN h _=XA h _;unfold XA;rw[if_pos (by rw[Nat.blt_eq];exact h5)]
theorem WO(t:Nat)(ps:List (Nat×Nat))(f:Nat×Nat->Nat):(Dq t ps f).map sg=ps.map λp=>XA 5 (Ic t p (f p)):=by
 unfold Dq;rw[AB];rfl
theorem JE{ps:List (Nat×Nat)}(P:Places ps){t:Nat}(ht:t<7){f g:Nat×Nat->Nat}(hf:∀p,f p<=2)(hg:∀p,g p<=2) :
  Jp (Dq t ps f) (Dq t ps g) (HT (vec ps f g))=HT (vec ps f g)/\Jp (Dq t ps f) (Dq t ps g) (2*(ps.length+1:Nat))=HT (vec ps f g)/\HT (vec ps f g)<=Jp (Dq t ps f) (Dq t ps g) (HT (vec ps f g)-1):=by
 unfold Jp;rw[WO,WO];exact Vr P.len (AA _) (AA _) (SS ps f g) (MP P ht (by decide) hf hg)
theorem TJ{ps:List (Nat×Nat)}(P:Places ps){t h:Nat}(ht:t<7)(h5:h<5){f g:Nat×Nat->Nat}(hf:∀p,f p<=2)(hg:∀p,g p<=2)(hk:k<ps.length) :
  Go ((Dq t ps f).map (CN h)) (((Dq t ps g).map (CN h)).take k++((Dq t ps g).map (CN h)).drop (k+1)) (PX (vec ps f g) k)=PX (vec ps f g) k/\2<=Go (((Dq t ps g).map (CN h)).take k++((Dq t ps g).map (CN h)).drop (k+1)) ((Dq t ps f).map (CN h)) 1:=by
 rw[SE h5,SE h5];exact TK P.len (AA _) (AA _) (SS ps f g) hk (MP P ht (by exact Nat.lt_succ_of_lt h5) hf hg)
theorem Ws(ps:List (Nat×Nat))(f g:Nat×Nat->Nat):vec ps f g=vec ps g f:=by
 unfold vec;refine AW λp V=>?_;unfold Pg;rw[Nat.add_comm,show Nat.beq (f p) (g p)=Nat.beq (g p) (f p)by rw[HS,HS];exact Bool.beq_comm]
noncomputable def Po:R2:=lows.flatMap λx=>lows.map λy=>(x,y)
noncomputable def LH:List Nat:=[98,99,100,101]
noncomputable def Tz(cs:BY):List (Nat×Nat×Nat):=Kq (λm=>Kq (λx=>Fl (λy=>(m,x,y)) cs) cs) cs
theorem Yy(cs:BY):Tz cs=EM cs:=by
 unfold Tz EM;rw[H7];congr 1;funext m;rw[H7];congr 1;funext x;exact DL _ _
theorem YO{β:Type}[BEq α][LawfulBEq α]{f:α->β}{ls:List α}{x:α}(h:x∈ls):(ls.map λx=>(x,f x)).lookup x=some (f x):=by
 induction ls with
 |nil=>cases h
 |cons y ls ih=>
  rw[AI,AK];by_cases e:x=y
  .rw [e,beq_self_eq_true]
  .rw [show(x==y)=false by simpa using e];exact ih ((AJ.mp h).resolve_left e)
theorem Yw(ts:R2){x y:Nat}(h:x≠y):Yv ts x y=(ts.contains (x,y)||ts.contains (y,x)):=by
 unfold Yv;rw[HH];induction ts with
 |nil=>rfl
 |cons t ts ih=>
  obtain⟨a,b⟩:=t;rw[List.any_cons,List.contains_cons,List.contains_cons,ih];have e1:((x,y)==(a,b))=(Nat.beq x a&&Nat.beq y b):=by rw[HS,HS];rfl
  have e2:((y,x)==(a,b))=(Nat.beq y a&&Nat.beq x b):=by rw[HS,HS];rfl
  rw[e1,e2];dsimp only;by_cases h1:x=a
  .subst h1;have:Nat.beq y x=false:=by rw[HS];simpa using λe:y=x=>h e.symm
   rw[this,show Nat.beq x x=true from Nat.beq_refl x];show(Nat.beq y b||_)=_;cases Nat.beq y b<;>cases ts.contains (x,y)<;>rfl
  .have:Nat.beq x a=false:=by rw[HS];simpa using h1
   rw[this];show(bi (Nat.beq y a) (Nat.beq x b) false||_)=_;cases Nat.beq y a<;>cases Nat.beq x b<;>cases ts.contains (x,y)<;>rfl
theorem Yc:∀x∈lows,∀y∈lows,Po[EY x y]? = some (x,y):=by decide +kernel
theorem YP(hc:∀x∈cs,x∈lows)(h5:cs.length<=5)(ts:R2):SX cs (Ce cs ts) (TR cs Po (Tz cs) ts):=by
 unfold TR;rw[Gw,Yy];refine Mu hc (EM cs) _ _ (λV h=>h) ⟨Mt cs ts,λx hx y hy=>?_⟩;have e1:DW (D4 cs ts) (x,y)=Lg cs ts (x,y):=by
  unfold DW D4;rw[YO (LR.mpr ⟨hx,hy⟩)];rfl
 rw[e1,R5,DL,AN,AL,Yc x (hc x hx) y (hc y hy)]
 .show Lg cs ts (x,y)=((bi (Nat.beq x y) 0 (bi (Yv ts x y) 1 (IF cs)):Nat):Int);unfold Lg;dsimp only;by_cases h:x=y
  .rw [if_pos h,h,Nat.beq_refl];rfl
  .rw [if_neg h,show Nat.beq x y=false by rw[HS];simpa using h,Yw ts h,GQ];show _=((bi _ 1 cs.length:Nat):Int);rw[Dd];split<;>rfl
 .intro d hd;rw[DL]at hd;refine Bh (AF.mp hd) ?_;rintro p V rfl;rw[Dd,Dd,GQ];split
  .decide
  .split
   .decide
   .exact uk h5 rfl
theorem Zx:∀l:List Bool,l∈bl l.length:=by
 intro l;induction l with
 |nil=>exact  .head _
 |cons b l ih=>
  show b::l∈Gu (Fl (true::·) (bl l.length)) (Fl (false::·) (bl l.length));rw[Hw,DL,DL,Ar];cases b with
  |true=>exact .inl (AF.mpr ⟨l,ih,rfl⟩)
  |false=>exact .inr (AF.mpr ⟨l,ih,rfl⟩)
theorem LJ(l:List Bool)(h:true∈l):l∈ne l.length:=by
 unfold ne;rw[NN,Az,HH,Aq];exact⟨Zx l,true,h,rfl⟩
theorem Ym(g:α->Nat×Nat)(f:α->Bool):∀l:List α,JM (l.map g) (l.map f)=(l.filter f).map g:=by
 intro l;induction l with
 |nil=>exact  rfl
 |cons a l ih=>
  show bi (f a) (g a::JM (l.map g) (l.map f)) (JM (l.map g) (l.map f))=_;rw[ih,Dd,A8];split<;>rfl
theorem Yd:(EG 4).zipIdx=[((0,1),0),((0,2),1),((1,2),2),((0,3),3),((1,3),4),((2,3),5)]:=by decide +kernel
theorem Ye:(EG 5).zipIdx=[((0,1),0),((0,2),1),((1,2),2),((0,3),3),((1,3),4),((2,3),5),((0,4),6),((1,4),7),((2,4),8),((3,4),9)]:=by decide +kernel
noncomputable def WB:R2:=[(98,99),(98,100),(99,100),(98,101),(99,101),(100,101)]
noncomputable def WC:R2:=[(98,99),(98,100),(99,100),(98,101),(99,101),(100,101),(98,102),(99,102),(100,102),(101,102)]
theorem i9(a b:Int)(k:Nat):FQ a b ((0,1),k)=true:=by
 unfold FQ;rw[Bool.or_eq_true];left;show decide ((0:Int)=a/1%1)=true;exact decide_eq_true (by exact Eq.symm (Int.emod_one (a/1)))
theorem jA(a b:Int)(k l:Nat):true∈[FQ a b ((0,2),k),FQ a b ((1,2),l)]:=by
 have e:∀i k,((i:Nat):Int)=a/1%2->FQ a b ((i,2),k)=true:=λi k h=>by
  unfold FQ;rw[Bool.or_eq_true];exact .inl (decide_eq_true h)
 have:a/1%2=0\/a/1%2=1:=by exact Int.emod_two_eq (a/1)
 rcases this with h|h
 .rw [e 0 k h.symm];exact .head _
 .rw [e 1 l h.symm];exact .tail _ (.head _)
theorem jB(a b:Int)(k l m:Nat):true∈[FQ a b ((0,3),k),FQ a b ((1,3),l),FQ a b ((2,3),m)]:=by
 have e:∀i k,((i:Nat):Int)=a/2%3->FQ a b ((i,3),k)=true:=λi k h=>by
  unfold FQ;rw[Bool.or_eq_true];exact .inl (decide_eq_true h)
 have:a/2%3=0\/a/2%3=1\/a/2%3=2:=by lia
 rcases this with h|h|h
 .rw [e 0 k h.symm];exact .head _
 .rw [e 1 l h.symm];exact .tail _ (.head _)
 .rw [e 2 m h.symm];exact .tail _ (.tail _ (.head _))
theorem ou(a b:Int)(k l m n:Nat):true∈[FQ a b ((0,4),k),FQ a b ((1,4),l),FQ a b ((2,4),m),FQ a b ((3,4),n)]:=by
 have e:∀i k,((i:Nat):Int)=a/6%4->FQ a b ((i,4),k)=true:=λi k h=>by
  unfold FQ;rw[Bool.or_eq_true];exact .inl (decide_eq_true h)
 have:a/6%4=0\/a/6%4=1\/a/6%4=2\/a/6%4=3:=by lia
 rcases this with h|h|h|h
 .rw [e 0 k h.symm];exact .head _
 .rw [e 1 l h.symm];exact .tail _ (.head _)
 .rw [e 2 m h.symm];exact .tail _ (.tail _ (.head _))
 .rw [e 3 n h.symm];exact .tail _ (.tail _ (.tail _ (.head _)))
theorem SQ(cs:BY)(a b:Nat):T6 cs a b=JM ((EG cs.length).zipIdx.map λp=>(cs.getD p.1.1 0,cs.getD p.1.2 0)) ((EG cs.length).zipIdx.map (FQ a b)):=by
 rw[Ym];unfold T6 SP;rw[AB];rfl
theorem Yz(a b:Nat):∃l2∈ne 2,∃l3∈ne 3,T6 LH a b=JM WB (true::Gu l2 l3):=by
 refine⟨_,LJ _ (jA a b 1 2),_,LJ _ (jB a b 3 4 5),?_⟩;rw[SQ,show LH.length=4 from rfl,Yd];show JM WB (FQ a b ((0,1),0)::_)=_;rw[i9];rfl
theorem Y0(a b:Nat):∃l2∈ne 2,∃l3∈ne 3,∃l4∈ne 4,T6 lows a b=JM WC (true::Gu l2 (Gu l3 l4)):=by
 refine⟨_,LJ _ (jA a b 1 2),_,LJ _ (jB a b 3 4 5),_,LJ _ (ou a b 6 7 8 9),?_⟩;rw[SQ,show lows.length=5 from rfl,Ye];show JM WC (FQ a b ((0,1),0)::_)=_;rw[i9];rfl
noncomputable def eS:Bool:=Gs (λl2=>Gs (λl3=>XR LH Po (Tz LH) (JM WB (true::Gu l2 l3))) (ne 3)) (ne 2)
noncomputable def NB(l3:List Bool):Bool:=Gs (λl2=>Gs (λl4=>XR lows Po (Tz lows) (JM WC (true::Gu l2 (Gu l3 l4)))) (ne 4)) (ne 2)
noncomputable def uN(b:Bool):Nat:=if b then 1 else 0
noncomputable def uL(b:Bool)(y:Nat):Nat:=if b=true then El y else y
theorem cX:∀y∈lows,(El y != y)=true/\(y != El y)=true/\(El y != El y)=false/\(y != y)=false:=by decide
theorem Kv(u w:Nat->Bool):∀ys:List Nat,(∀y∈ys,y∈lows)->unlike (ys.map λy=>uL (u y) y) (ys.map λy=>uL (w y) y)=Eu (ys.map u) (ys.map w)/\(ys.map λy=>Pg (uN (u y)) (uN (w y))).sum=Eu (ys.map u) (ys.map w):=by
 intro l;induction l with
 |nil=>exact λV=>⟨rfl,rfl⟩
 |cons y ys ih=>
  intro h;obtain⟨i1,i2⟩:=ih λz hz=>h z (.tail _ hz);refine Ht (cX y (h y (.head _))) ?_;intro n1 n2 n3 n4;unfold unlike at i1 ⊢;rw[AI,AI,AI,AI,AI,List.zip_cons_cons,A8,BC,i2];show _=bi (u y) (bi (w y) (Eu (ys.map u) (ys.map w)) (Nat.succ (Eu (ys.map u) (ys.map w)))) (bi (w y) (Nat.succ (Eu (ys.map u) (ys.map w))) (Eu (ys.map u) (ys.map w)))/\_=bi (u y) (bi (w y) (Eu (ys.map u) (ys.map w)) (Nat.succ (Eu (ys.map u) (ys.map w)))) (bi (w y) (Nat.succ (Eu (ys.map u) (ys.map w))) (Eu (ys.map u) (ys.map w)));rw[<- i1];have c0:Pg 0 0=0:=rfl;have c1:Pg 0 1=1:=rfl;have c2:Pg 1 0=1:=rfl;have c3:Pg 1 1=0:=rfl;cases u y<;>cases w y<;>simp[uL,uN,bi,n1,n2,c0,c1,c2,c3]<;>lia
theorem Ru(f:Nat->α)(ys:BY):(ys.zipIdx.map λp=>f p.1)=ys.map f:=by
 have:(ys.zipIdx.map λp=>f p.1)=(ys.zipIdx.map Prod.fst).map f:=by rw[AB];rfl
 rw[this,List.zipIdx_map_fst]
theorem PG(u:Nat->Bool)(t:Nat)(ys:BY):Dq t ys.zipIdx (λp=>uN (u p.1))=ys.map λy=>uL (u y) y:=by
 rw[<- Ru];unfold Dq;refine AW λp V=>?_;show Ic t p (uN (u p.1))=uL (u p.1) p.1;cases u p.1<;>rfl
theorem Wy{ys:BY}(P:Places ys.zipIdx)(hl:∀y∈ys,y∈lows)(u w:Nat->Bool):Jp (ys.map λy=>uL (u y) y) (ys.map λy=>uL (w y) y) (2*(ys.length+1:Nat))=(Eu (ys.map u) (ys.map w):Nat):=by
 have h:=(JE P (t:=0) (by decide) (f:=λp=>uN (u p.1)) (g:=λp=>uN (w p.1)) (λp=>by unfold uN;split<;>decide) (λp=>by unfold uN;split<;>decide)).2.1;rw[PG,PG,List.length_zipIdx]at h;rw[h];unfold HT vec;rw[Ru (λy=>Pg (uN (u y)) (uN (w y))),(Kv u w ys hl).2]
theorem VP(u w:Nat->Bool):∀ys:List Nat,Eu (ys.map u) (ys.map w)=Eu (ys.map w) (ys.map u):=by
 intro l;induction l with
 |nil=>exact  rfl
 |cons y ys ih=>
  show bi (u y) (bi (w y) (Eu (ys.map u) (ys.map w)) (Nat.succ (Eu (ys.map u) (ys.map w)))) (bi (w y) (Nat.succ (Eu (ys.map u) (ys.map w))) (Eu (ys.map u) (ys.map w)))=bi (w y) (bi (u y) (Eu (ys.map w) (ys.map u)) (Nat.succ (Eu (ys.map w) (ys.map u)))) (bi (u y) (Nat.succ (Eu (ys.map w) (ys.map u))) (Eu (ys.map w) (ys.map u)));rw[ih];cases u y<;>cases w y<;>rfl
theorem Sb(φ:Nat×Nat->Int):∀(os A:A2),(∀p∈os,p.2=φ p.1)->(∀k,EC A k->DW A k=φ k)->∀k,(EC A k\/k∈os.map (·.1))->EC (RB A os) k/\DW (RB A os) k=φ k:=by
 intro l;induction l with
 |nil=>
  intro A V hA k hk;rcases hk with hk|hk
  .exact ⟨hk,hA k hk⟩
  .cases hk
 |cons p os ih=>
  intro A ho hA k hk;have put_has:EC (GH A p.1 p.2) p.1:=by
   unfold GH;by_cases h:A.any (λq=>decide (q.1=p.1))=true
   .refine Bh (Aq.mp h) ?_;intro q hq e;have:EC A p.1:=AF.mpr ⟨q,hq,by simpa using e⟩;have:=KU A p.1 p.1 p.2 this;unfold GH at this;exact this
   .rw [if_neg h];exact AF.mpr ⟨p,List.mem_append_right _ (.head _),rfl⟩
  have get_self:DW (GH A p.1 p.2) p.1=p.2:=by
   by_cases h:EC A p.1
   .rw [Im _ _ _ _ h,if_pos rfl]
   .unfold GH;rw[if_neg λz=>h (by
     refine Bh (Aq.mp z) ?_;intro q hq e;exact AF.mpr ⟨q,hq,by simpa using e⟩)]
    unfold DW;have:∀A:A2,¬EC A p.1->(A++[(p.1,p.2)]).lookup p.1=some p.2:=λA=>by
     induction A with
     |nil=>intro V;rw[BT,AK,beq_self_eq_true]
     |cons q A ih=>
      intro h;obtain⟨a,b⟩:=q;rw[List.cons_append,AK,show(p.1==a)=false by simpa using λe=>h (AF.mpr ⟨_,.head _,e.symm⟩)];exact ih λz=>h (.tail _ z)
    rw[this A h];rfl
  refine ih (GH A p.1 p.2) (λq hq=>ho q (.tail _ hq)) (λk' Ma=>?_) k ?_
  .by_cases e:k'=p.1
   .rw [e,get_self];exact ho p (.head _)
   .have hb:EC A k':=by
     by_cases h:A.any (λq=>decide (q.1=p.1))=true
     .unfold EC GH at Ma;rw[if_pos h,AB]at Ma;refine Bh (AF.mp Ma) ?_;intro q hq e2;refine AF.mpr ⟨q,hq,?_⟩;rw[<- e2];show q.1=(if q.1=p.1 then(q.1,p.2)else q).1;split<;>rfl
     .unfold EC GH at Ma;rw[if_neg h,Af,Ar]at Ma;rcases Ma with Ma|Ma
      .exact Ma
      .exact absurd (AG.mp Ma) e
    rw[Im _ _ _ _ hb,if_neg e];exact hA k' hb
  .rcases hk with hk|hk
   .exact .inl (KU _ _ _ _ hk)
   .rcases AJ.mp hk with hk|hk
    .exact .inl (by rw[hk];exact put_has)
    .exact .inr hk
theorem Qh{nm:BY}{x y:Nat}(hx:x∈nm)(hy:y∈nm):(x,y)∈CJ nm\/(y,x)∈CJ nm:=by
 have mk:∀(i j a b:Nat),nm[i]? = some a->nm[j]? = some b->i<=j->(a,b)∈CJ nm:=λi j a b ha hb ak=>by
  unfold CJ;refine Am.mpr ⟨(a,i),?_,AF.mpr ⟨b,?_,rfl⟩⟩
  .exact List.mem_iff_getElem?.mpr ⟨i,by rw[List.getElem?_zipIdx,ha];simp⟩
  .exact List.mem_iff_getElem?.mpr ⟨j-i,by rw[List.getElem?_drop,show i+(j-i)=j by exact Nat.add_sub_of_le ak];exact hb⟩
 refine B5 (List.mem_iff_getElem?.mp hx) ?_;intro i hi;refine B5 (List.mem_iff_getElem?.mp hy) ?_;intro j hj;by_cases h:i<=j
 .exact .inl (mk i j x y hi hj h)
 .exact .inr (mk j i y x hj hi (by exact Nat.le_of_not_ge h))
theorem TC{nm:BY}{W:W2}{A:A2}(φ:Nat×Nat->Int)(h1:∀p∈CJ nm,Es W nm.length p-DW A (p.1,p.2)=φ p/\Es W nm.length p-DW A (p.2,p.1)=φ (p.2,p.1)){x y:Nat}(hx:x∈nm)(hy:y∈nm):EC (Ef nm W A) (x,y)/\DW (Ef nm W A) (x,y)=φ (x,y):=by
 refine Sb φ _ [] (λq hq=>?_) (λk hk=>by cases hk) (x,y) (.inr ?_)
 .refine Bh (Am.mp hq) ?_;intro p hp hq;rcases AJ.mp hq with rfl|hq
  .exact (h1 p hp).1
  .rw [AG.mp hq];exact(h1 p hp).2
 .rcases Qh hx hy with h|h
  .exact AF.mpr ⟨_,Am.mpr ⟨_,h,.head _⟩,rfl⟩
  .exact AF.mpr ⟨_,Am.mpr ⟨_,h,.tail _ (.head _)⟩,rfl⟩
section
variable {cs:BY}{ts:R2}{M r:Nat}{late:Bool}{th:TH}{nm:BY}
structure Ih(cs:BY)(ts:R2)(M:Nat)(r:Nat)(late:Bool)(th:TH)(nm:BY):Prop where
 low:∀x∈cs,x∈lows
 Iy:cs.length=4\/cs.length=5
 tab:SX cs (Ce cs ts) M
 sym:∀x∈cs,∀y∈cs,Fo M (EY x y)=Fo M (EY y x)
 tree:Q8 M cs ts r late th nm
theorem Ih.in(S:Ih cs ts M r late th nm){x:Nat}(h:x∈nm):x∈cs:=S.tree.perm.mem_iff.mp h
theorem Ih.len(S:Ih cs ts M r late th nm):nm.length=cs.length:=S.tree.perm.length_eq
theorem Ih.rR(S:Ih cs ts M r late th nm):(nm.drop 1).length=3\/(nm.drop 1).length=4:=by
 rw[AM,S.len];exact S.Iy.imp (λe=>by rw[e]) λe=>by rw[e]
theorem Ih.Pd(S:Ih cs ts M r late th nm):∀y∈nm.drop 1,y∈lows:=λy hy=>S.low y (S.in (Aj hy))
theorem Ih.pl(S:Ih cs ts M r late th nm):Places (nm.drop 1).zipIdx:=Places.zip S.rR S.Pd (S.tree.nd.sublist (List.drop_sublist 1 nm))
noncomputable def uT(th:TH)(x y:Nat):Bool:=(Hs th x).contains y
theorem Lp(x:Nat):wordOf th nm x=(nm.drop 1).map λy=>uL (uT th x y) y:=rfl
noncomputable def VO(th:TH)(nm:BY)(x z:Nat):Nat:=Eu ((nm.drop 1).map (uT th x)) ((nm.drop 1).map (uT th z))
theorem Ih.je(S:Ih cs ts M r late th nm){x z:Nat}(hx:x∈nm)(hz:z∈nm):Es (CZ th nm) nm.length (x,z)=(VO th nm x z:Nat)/\unlike (Bn (CZ th nm) x) (Bn (CZ th nm) z)=VO th nm x z:=by
 unfold Es CZ;dsimp only;rw[GF hx,GF hz,Lp,Lp];refine⟨?_,(Kv _ _ _ S.Pd).1⟩;have e:nm.length=(nm.drop 1).length+1:=by rw[AM,S.len];exact S.Iy.elim (λe=>by rw[e]) λe=>by rw[e]
 rw[e];exact Wy S.pl S.Pd _ _
noncomputable def K7(M:Nat)(th:TH)(nm:BY)(p:Nat×Nat):Int:=(VO th nm p.1 p.2:Nat)-(Fo M (EY p.1 p.2):Nat)
theorem Ih.Oq(S:Ih cs ts M r late th nm){x y:Nat}(hx:x∈nm)(hy:y∈nm):EC (Ef nm (CZ th nm) (Ce cs ts)) (x,y)/\DW (Ef nm (CZ th nm) (Ce cs ts)) (x,y)=K7 M th nm (x,y):=by
 refine TC (K7 M th nm) (λp hp=>?_) hx hy;refine CB (Ct hp) ?_;intro h1 h2;have f:=(S.je h1 h2).1;have t1:=S.tab.2 _ (S.in h1) _ (S.in h2);have t2:=S.tab.2 _ (S.in h2) _ (S.in h1);refine⟨?_,?_⟩
 .rw [show Es (CZ th nm) nm.length p=_ from f,t1];rfl
 .rw [show Es (CZ th nm) nm.length p=_ from f,t2];unfold K7 VO;rw[VP (uT th p.2) (uT th p.1)]
theorem Vu(x z:Nat):((dX M th (nm.drop 1) x z:Nat):Int)=K7 M th nm (x,z)+8:=by
 have h:Fo M (EY x z)<8:=Nat.mod_lt _ (by decide);have u:∀x,uF th (nm.drop 1) x=(nm.drop 1).map (uT th x):=λx=>by
  unfold uF;rw[DL];refine AW λy V=>?_;rw[SW,GW];rfl
 unfold dX K7 VO;rw[u,u];dsimp only;generalize Eu _ _=H;generalize Fo M (EY x z)=d at h;show((H+8-d:Nat):Int)=_;lia
noncomputable def Ui(B:A2)(x:Nat)(os wx:BY)(ab:Nat->Nat)(p:Nat×Nat):Nat:=if wx.contains p.1 then 1 else if Je B x os ab p then 2 else 0
theorem NC(B:A2)(x:Nat)(os wx:BY)(ab:Nat->Nat)(p:Nat×Nat):Ui B x os wx ab p<=2:=by
 unfold Ui;split
 .decide
 .split<;>decide
theorem UQ(B:A2)(x:Nat)(os wx:BY)(ab:Nat->Nat)(t:Nat):EB B x os wx ab t=Dq t os.zipIdx (Ui B x os wx ab):=by
 unfold EB Dq;refine AW λp V=>?_;unfold Il Ic Ui stN;by_cases h:wx.contains p.1=true
 .rw [if_pos h,if_pos h,if_pos rfl]
 .rw [if_neg h,if_neg h];by_cases h2:Je B x os ab p=true
  .rw [if_pos h2,if_pos h2];rfl
  .rw [if_neg h2,if_neg h2];rfl
noncomputable abbrev K8(cs:BY)(ts:R2)(th:TH)(nm:BY):A2:=Ef nm (CZ th nm) (Ce cs ts)
noncomputable def ON(cs:BY)(ts:R2)(th:TH)(nm:BY)(x:Nat):Nat×Nat->Nat:=Ui (K8 cs ts th nm) x (nm.drop 1) (Hs th x) (Pn th)
theorem Ih.row(S:Ih cs ts M r late th nm)(t:Nat){x:Nat}(hx:x∈nm):Bn (FJ th nm (K8 cs ts th nm) t) x=Dq t (nm.drop 1).zipIdx (ON cs ts th nm x):=by
 unfold FJ;rw[GF hx,UQ];rfl
theorem Ih.star(S:Ih cs ts M r late th nm){x y:Nat}(hx:x∈nm)(hy:y∈nm.drop 1)(i:Nat)(later:Bool)(hl:later=((nm.drop 1).drop i).contains x):SI M th (nm.drop 1) x y later=Je (K8 cs ts th nm) x (nm.drop 1) (Pn th) (y,i):=by
 refine Bh (S.tree.above y hy) ?_;intro wy V ha;have b1:=(S.Oq hx (Aj hy)).2;have b2:=(S.Oq hx ha).2;have k1:=Vu (M:=M) (th:=th) (nm:=nm) x y;have k2:=Vu (M:=M) (th:=th) (nm:=nm) x (Pn th y);unfold Je kN;dsimp only;rw[b1,b2,<- hl];unfold SI;rw[Zs];generalize dX M th (nm.drop 1) x y=a at *;generalize dX M th (nm.drop 1) x (Pn th y)=b at *;generalize K7 M th nm (x,y)=la at *;generalize K7 M th nm (x,Pn th y)=lb at *;have e1:Nat.beq a (Nat.add b 2)=decide (la-lb=2):=by
  rw[Bool.eq_iff_iff,Nat.beq_eq,decide_eq_true_eq];show a=b+2↔_;lia
 have e2:Nat.beq a (Nat.add b 1)=decide (la-lb=1):=by
  rw[Bool.eq_iff_iff,Nat.beq_eq,decide_eq_true_eq];show a=b+1↔_;lia
 have e3:Nat.beq (Nat.mod a 2) 0=decide (la%2=0):=by
  rw[Bool.eq_iff_iff,Nat.beq_eq,decide_eq_true_eq];show a%2=0↔_;lia
 dsimp only;rw[e1,e2,e3];cases decide (la-lb=2)<;>cases decide (la-lb=1)<;>cases decide (la%2=0)<;>(cases later with|false=>rfl|true=>rfl)
theorem Ih.cls(S:Ih cs ts M r late th nm){x:Nat}(hx:x∈nm):Ip M th (nm.drop 1) x (nm.drop 1)=(nm.drop 1).zipIdx.map (ON cs ts th nm x):=by
 have key:∀(l:BY) (k:Nat),(nm.drop 1).drop k=l->Ip M th (nm.drop 1) x l=(l.zipIdx k).map (ON cs ts th nm x):=λl=>by
  induction l with
  |nil=>intro k V;rfl
  |cons y l ih=>
   intro k hk;have UB:(nm.drop 1).drop (k+1)=l:=by rw[<- List.drop_drop,hk];rfl
   have hy:y∈nm.drop 1:=Aj (i:=k) (by rw[hk];exact .head _);rw[List.zipIdx_cons,AI,<- ih (k+1) UB];show bi (GV (Wx th x) y) 1 (bi (SI M th (nm.drop 1) x y (GV (y::l) x)) 2 0)::Ip M th (nm.drop 1) x l=_;congr 1;rw[S.star hx hy k _ (by rw[GW,hk]),SW,GW,Dd,Dd];rfl
 exact key _ 0 rfl
theorem Oj:∀y∈lows,GP y=true/\GP (El y)=true:=by decide +kernel
theorem S8:∀s∈DE,GP s=false:=by decide +kernel
theorem IE{t:Nat}{p:Nat×Nat}(h:p.1∈lows){c:Nat}(hc:c<=2):GP (Ic t p c)=!(Nat.beq c 2):=by
 rcases three hc with rfl|rfl|rfl
 .exact (Oj _ h).1
 .exact (Oj _ h).2
 .exact S8 _ (JN _ _)
theorem Zz:∀c ≤2,∀d ≤2,Pg c d=uN (Nat.beq (c+d) 1)+2*uN ((!(Nat.beq c 2)) != (!(Nat.beq d 2))):=by decide
theorem sum_rows(t:Nat){f g:Nat×Nat->Nat}(hf:∀p,f p<=2)(hg:∀p,g p<=2):∀ps:List (Nat×Nat),(∀p∈ps,p.1∈lows)->(vec ps f g).sum=ND (ps.map f) (ps.map g)+2*bP (Dq t ps f) (Dq t ps g):=by
 intro l;induction l with
 |nil=>exact λV=>rfl
 |cons p ps ih=>
  intro h;have ih:=ih λq hq=>h q (.tail _ hq);have a1:=IE (t:=t) (h p (.head _)) (hf p);have a2:=IE (t:=t) (h p (.head _)) (hg p);unfold vec Dq bP at ih ⊢;rw[AI,AI,AI,AI,AI,BC,List.zip_cons_cons,A8,ih];dsimp only;rw[a1,a2];have e1:ND (f p::ps.map f) (g p::ps.map g)=ND (ps.map f) (ps.map g)+uN (Nat.beq (f p+g p) 1):=by
   show bi (Nat.beq (f p+g p) 1) (Nat.succ (ND (ps.map f) (ps.map g))) (ND (ps.map f) (ps.map g))=_;cases Nat.beq (f p+g p) 1<;>rfl
  have e2:∀(b:Bool) (q:Nat×Nat) (L:List (Nat×Nat)),(if b=true then q::L else L).length=L.length+uN b:=λb q L=>by cases b<;>rfl
  rw[e1,e2,Zz _ (hf p) _ (hg p)];lia
theorem R4:∀(l:BY) (i:Nat),Nt l i=l.getD i 0
 |[],_=>rfl
 |a::l,0=>rfl
 |a::l,i+1=>R4 l i
theorem Mx:∀(v:BY) (k:Nat),k<v.length->v.sum=(v.eraseIdx k).sum+v.getD k 0
 |a::v,0,_=>by rw[List.eraseIdx_cons_zero,BC,List.getD_cons_zero];exact Nat.add_comm a v.sum
 |a::v,k+1,h=>by
  rw[List.eraseIdx_cons_succ,BC,BC,List.getD_cons_succ,Mx v k (Nat.lt_of_succ_lt_succ h)];exact Eq.symm (Nat.add_assoc a (v.eraseIdx k).sum (v.getD k 0))
theorem cP(v:BY)(h:∀d∈v,d<=2):v.sum<=2*v.length:=by
 induction v with
 |nil=>exact Ad 0
 |cons a v ih=>
  rw[BC,AZ];have:=h a (.head _);have:=ih λd hd=>h d (.tail _ hd);lia
end
section
variable {cs:BY}{ts:R2}{M r:Nat}{late:Bool}{th:TH}{nm:BY}
theorem Ih.fc(S:Ih cs ts M r late th nm){x i:Nat}(hx:x∈nm){p:Nat×Nat}(hp:(nm.drop 1).zipIdx[i]? = some p):Nt (Ip M th (nm.drop 1) x (nm.drop 1)) i=ON cs ts th nm x p:=by
 rw[S.cls hx,R4,AN,AL,hp];rfl
theorem Ih.iX(S:Ih cs ts M r late th nm){t h:Nat}(ht:t<7)(hh:h<5){G:W2}{P:P2}(eG:G=FJ th nm (K8 cs ts th nm) t)(eP:P=Dz nm G h){hd:Nat}{y:Nat}(hk:nm[k]? = some y){x:Nat}(hx:x∈nm.take k):M4 (Ce cs ts) G P hd k y x:=by
 have hy:=AQ hk;have dJ:=Ay hx;refine FO (S.tree.pairs k y hk x hx) ?_;intro c1 c2 c3;have k1:1<=k:=by
  cases k with
  |zero=>cases hx
  |succ k=>omega
 obtain⟨i,rfl⟩:∃i,k=i+1:=⟨k-1,by omega⟩
 rw[Nat.add_sub_cancel]at c2 c3;have uY:(nm.drop 1)[i]? = some y:=by rw[List.getElem?_drop,Nat.add_comm];exact hk
 have dH:(nm.drop 1).zipIdx[i]? = some (y,i):=by rw[List.getElem?_zipIdx,uY];simp
 have gR:i<(nm.drop 1).zipIdx.length:=(AP.mp dH).1;rw[S.fc hy dH]at c2;rw[S.fc dJ dH]at c3;rw[S.cls hy,S.cls dJ]at c1;let ps:=(nm.drop 1).zipIdx;let f:=ON cs ts th nm x;let g:=ON cs ts th nm y;have hf:∀p,f p<=2:=NC _ _ _ _ _;have hg:∀p,g p<=2:=NC _ _ _ _ _;have gx:Bn G x=Dq t ps f:=by rw[eG];exact S.row t dJ
 have gy:Bn G y=Dq t ps g:=by rw[eG];exact S.row t hy
 have pc:∀z∈nm,Cy P z=(Bn G z).map (CN h):=λz hz=>by
  rw[eP];unfold Cy Dz;rw[LC (f:=λx=>(Bn G x).map (CN h)) hz];rfl
 have PL:Places ps:=S.pl;have sum:=sum_rows t hf hg ps PL.low;have jd:EP (Ce cs ts) G x y=HT (vec ps f g):=by
  unfold EP HT;rw[gx,gy,S.tab.2 _ (S.in dJ) _ (S.in hy),c1,sum];show((ND (ps.map f) (ps.map g):Nat):Int)+_=_;exact(λ{a} {n}=>Int.mem_toNat?.mp) rfl
 have small:(vec ps f g).sum<=8:=by
  have h1:=cP (vec ps f g) λd hd=>by
   refine Bh (AF.mp hd) ?_;rintro p V rfl;exact UX _ _
  have h2:(vec ps f g).length=ps.length:=AA _;have:=PL.len;(clear ht gR sum;lia)
 have T1:=JE PL ht hf hg;have T2:=JE PL ht hg hf;have T3:=TJ PL ht hh hg hf gR;rw[Ws ps g f]at T2 T3;have vi:(vec ps f g).getD i 0=Pg (f (y,i)) 1:=by
  unfold vec;rw[AN,AL,dH];show Pg (f (y,i)) (g (y,i))=_;rw[show g (y,i)=1 from c2]
 have es:=Mx (vec ps f g) i (by rw[show(vec ps f g).length=ps.length from AA _];exact gR);rw[vi]at es;have Pd:y∈lows:=S.low y (S.in hy);have gi:(Bn G x).getD i 0=Ic t (y,i) (f (y,i)):=by
  rw[gx,AN];unfold Dq;rw[AL,dH];rfl
 have tK:(Bn G y).getD i 0=Ic t (y,i) 1:=by
  rw[gy,AN];unfold Dq;rw[AL,dH];show Ic t (y,i) (g (y,i))=_;rw[show g (y,i)=1 from c2]
 have s6:Ds (Ce cs ts) G x y (i+1)=PX (vec ps f g) i:=by
  unfold Ds PX;rw[Nat.add_sub_cancel,gi,IE Pd (hf _),jd];unfold HT;rcases three (hf (y,i))with e|e|e
  .rw [e]at es ⊢;rw[if_pos (by decide),show Pg 0 1=1 from rfl]at *;(clear sum;lia)
  .exact absurd e c3
  .rw [e]at es ⊢;rw[if_neg (by decide),show Pg 2 1=2 from rfl]at *;exact(λ{m n}=>Int.ofNat_inj.mpr) es
 have pS:∀z∈nm,Dm P z (i+1)=((Bn G z).map (CN h)).take i++((Bn G z).map (CN h)).drop (i+1):=λz hz=>by
  unfold Dm;rw[pc z hz,Nat.add_sub_cancel]
 refine⟨?_,?_,?_,λV=>?_,λV=>?_,λV=>?_⟩
 .rw [jd];unfold HT;(clear ht sum;lia)
 .rw [jd,gx,gy];exact T1.1
 .rw [s6,pc y hy,pS x dJ,gx,gy];exact T3.1
 .rw [jd,gx,gy];exact T2.2.2
 .rw [pc y hy,pS x dJ,gx,gy];exact T3.2
 .have lr:∀f,(Dq t ps f).length=ps.length:=λf=>AA _;refine YN (n:=ps.length) (i:=i) PL.len (by rw[gx];exact lr f) (by rw[gy];exact lr g) gR ?_;rw[gi,tK];intro z;have four:i<4:=by have h1:i<ps.length:=gR;have:=PL.len;lia
  have key:=(OP ht (p:=(y,i)) (q:=(y,i)) Pd Pd four four (hf (y,i)) (d:=1) (by decide)).2 rfl;rw[z]at key;rw[show EK (Ic t (y,i) 1) (Ic t (y,i) 1)=0 from by unfold EK;rw[Nat.beq_refl];rfl]at key;rcases three (hf (y,i))with e|e|e
  .rw [e]at key;cases key
  .exact c3 e
  .rw [e]at key;cases key
end
section
variable {cs:BY}{ts:R2}{M r:Nat}{late:Bool}{th:TH}{nm:BY}
theorem Mq{f:Nat->Nat->List Nat}{l:BY}{g:Nat->Nat}(h:∀i c,l[i]? = some c->f i c=[g c]):placed (tx l) f=(l.map g).toArray:=by
 unfold placed;apply Array.ext';rw[Array.toList_flatten,Array.toList_mapIdx];show(List.map Array.toList (List.mapIdx _ l)).flatten=l.map g;have e:List.mapIdx (λi c=>(f i c).toArray) l=l.map λc=>#[g c]:=by
  apply List.ext_getElem?;intro i;rw[List.getElem?_mapIdx,AL];cases hl:l[i]? with
  |none=>rfl
  |some c=>simp[h i c hl]
 rw[e,AB];clear h e;induction l with
 |nil=>rfl
 |cons a l ih=>rw[AI,List.flatten_cons,ih];rfl
noncomputable def Oy(c:Nat):Nat:=(Unicode.lowerOf c).headD c
noncomputable def rK(c:Nat):List Nat:=if Unicode.isUpper c then Unicode.lowerOf c else if Unicode.isLower c then Unicode.upperOf c else[c]
noncomputable def dn(c:Nat):Nat:=(rK c).headD c
theorem Fz:∀c<128,(c==0x3A3)=false/\Unicode.lowerOf c=[Oy c]/\Oy c<128/\De (Oy c)=De c:=by decide +kernel
theorem Lj:∀c<128,rK c=[dn c]/\dn c<128/\Oy (dn c)=Oy c/\De (dn c)=De c:=by decide +kernel
theorem Zb{l:BY}(h:∀a∈l,a<128){i c:Nat}(e:l[i]? = some c):Unicode.lowerAt (tx l).cps i=Unicode.lowerOf c:=by
 unfold Unicode.lowerAt;show(match l.toArray[i]? with|none=>_|some c=>_)=_;rw[BK,e];dsimp only;rw[(Fz c (h c (AQ e))).1];rfl
theorem LG{l:BY}(h:∀a∈l,a<128):Txt.lower (tx l)=tx (l.map Oy):=congrArg Str.mk (Mq λi c e=>by
 rw[Zb h e];exact(Fz c (h c (AQ e))).2.1)
theorem SM{l:BY}(h:∀a∈l,a<128):Txt.swapcase (tx l)=tx (l.map dn):=congrArg Str.mk (Mq λi c e=>by
 rw[Zb h e];exact(Lj c (h c (AQ e))).1)
theorem Px(l:BY):Dj (tx l)=l.any De:=List.any_toArray
theorem O8{l:BY}(h:∀a∈l,a<128):PyData.strOk (tx l)=true:=by
 show l.toArray.all _=true;rw[List.all_toArray,Ah];exact λa ha=>decide_eq_true (by have:=h a ha;exact j4 this rfl)
theorem any_map{l:BY}{g:Nat->Nat}(h:∀a∈l,De (g a)=De a):(l.map g).any De=l.any De:=by
 rw[List.any_map,Bool.eq_iff_iff,Aq,Aq];exact exists_congr λa=>and_congr_right λha=>by rw[Function.comp_apply,h a ha]
noncomputable def Tu(h a:Nat):List Nat:=(CN h a).cps.toList
theorem Lc:∀h<5,∀a∈By,1<=(Tu h a).length/\(Tu h a).length<=10/\∀c∈Tu h a,c<128/\Txt.contains (S "\t\n\r") (sg c)=De c:=by decide +kernel
theorem SH:∀h<5,∀y∈lows,(Tu h y).map Oy=[y]/\(Tu h (El y)).map Oy=[y]:=by decide +kernel
theorem WT:∀h<5,∀s∈DE,∀y∈lows,((Tu h s).map Oy).head?≠none/\((Tu h s).map Oy).head?≠some y:=by decide +kernel
noncomputable def bz(h t:Nat)(b:Bool)(p:Nat×Nat):List Nat:=if b then[p.1]else(Tu h (stN t p.2)).map Oy
theorem b0{h t:Nat}(hh:h<5){p:Nat×Nat}(hp:p.1∈lows){c:Nat}(hc:c<=2):(Tu h (Ic t p c)).map Oy=bz h t (GP (Ic t p c)) p:=by
 rw[IE hp hc];rcases three hc with rfl|rfl|rfl
 .exact (SH h hh _ hp).1
 .exact (SH h hh _ hp).2
 .rfl
theorem R6{h t:Nat}(hh:h<5)(u v:Nat×Nat->Bool):∀ps:List (Nat×Nat),(∀p∈ps,p.1∈lows)->((ps.flatMap λp=>bz h t (u p) p)=(ps.flatMap λp=>bz h t (v p) p)↔ps.map u=ps.map v)
 |[],_=>⟨λV=>rfl,λV=>rfl⟩
 |p::ps,hp=>by
  have ih:=R6 (t:=t) hh u v ps λq hq=>hp q (.tail _ hq);have st:=WT h hh _ (JN t p.2) p.1 (hp p (.head _));rw[AX,AX,AI,AI,List.cons.injEq,<- ih];have ne:∀X Y:List Nat,bz h t true p++X≠bz h t false p++Y:=λX Y z=>by
   have:=congrArg List.head? z;rw[List.head?_append,List.head?_append]at this;show False;unfold bz at this;rw[if_pos rfl,if_neg (by decide)]at this;generalize((Tu h (stN t p.2)).map Oy).head? = o at *;cases o with
   |none=>exact st.1 rfl
   |some c=>exact st.2 this.symm
  cases hu:u p<;>cases hv:v p
  .rw [List.append_cancel_left_eq];exact⟨λz=>⟨rfl,z⟩,λz=>z.2⟩
  .exact ⟨λz=>absurd z.symm (ne _ _),λz=>by cases z.1⟩
  .exact ⟨λz=>absurd z (ne _ _),λz=>by cases z.1⟩
  .rw [List.append_cancel_left_eq];exact⟨λz=>⟨rfl,z⟩,λz=>z.2⟩
noncomputable def FY(h:Nat)(l:BY):List Nat:=l.flatMap (Tu h)
theorem Ss{h:Nat}(hh:h<5):∀l:List Nat,(∀a∈l,a∈By)->l.length<=(FY h l).length/\(FY h l).length<=10*l.length:=by
 intro l;induction l with
 |nil=>exact λV=>⟨Ad _,Ad _⟩
 |cons a l ih=>
  intro hl;have ih:=ih λb hb=>hl b (.tail _ hb);have:=Lc h hh a (hl a (.head _));unfold FY at ih ⊢;rw[AX,Ac,AZ];lia
theorem I6{h:Nat}(hh:h<5){l:BY}(hl:∀a∈l,a∈By):∀c∈FY h l,c<128/\Txt.contains (S "\t\n\r") (sg c)=De c:=λc hc=>by
 refine Bh (Am.mp hc) ?_;intro a ha hc;exact(Lc h hh a (hl a ha)).2.2 c hc
theorem OW{h t:Nat}(hh:h<5){ps:List (Nat×Nat)}(hp:∀p∈ps,p.1∈lows){f:Nat×Nat->Nat}(hf:∀p,f p<=2):(FY h (Dq t ps f)).map Oy=ps.flatMap λp=>bz h t (GP (Ic t p (f p))) p:=by
 unfold FY Dq;rw[List.flatMap_map,BP];induction ps with
 |nil=>rfl
 |cons p ps ih=>rw[AX,AX,ih λq hq=>hp q (.tail _ hq),b0 hh (hp p (.head _)) (hf p)]
theorem Ih.book(S:Ih cs ts M r late th nm){t h:Nat}(hh:h<5){G:W2}{P:P2}(eG:G=FJ th nm (K8 cs ts th nm) t)(eP:P=Dz nm G h):KO P G nm/\(∀x∈nm,∀s∈Cy P x,FD s)/\(∀x∈nm,(Bn G x).length+1=nm.length)/\∀x∈nm,∀a∈Bn G x,a∈By:=by
 let ps:=(nm.drop 1).zipIdx;have PL:Places ps:=S.pl;have hf:∀x p,ON cs ts th nm x p<=2:=λx=>NC _ _ _ _ _;have gx:∀x∈nm,Bn G x=Dq t ps (ON cs ts th nm x):=λx hx=>by rw[eG];exact S.row t hx
 have pc:∀z∈nm,Cy P z=(Bn G z).map (CN h):=λz hz=>by
  rw[eP];unfold Cy Dz;rw[LC (f:=λx=>(Bn G x).map (CN h)) hz];rfl
 have cJ:∀x∈nm,∀a∈Bn G x,a∈By:=λx hx a ha=>by
  rw[gx x hx]at ha;refine Bh (AF.mp ha) ?_;rintro p hp rfl;exact N5 (PL.low p hp)
 have ln:∀x∈nm,(Bn G x).length=ps.length:=λx hx=>by rw[gx x hx];exact AA _
 have nl:nm.length=ps.length+1:=by
  show _=(nm.drop 1).zipIdx.length+1;rw[List.length_zipIdx,AM,S.len];have:=S.Iy;lia
 have four:ps.length<=4:=by have:=PL.len;(clear hh nl;lia)
 have bW:∀x∈nm,GY P x=tx (FY h (Bn G x)):=λx hx=>by
  show Ja _=_;rw[Oc,pc x hx,List.flatMap_map];rfl
 have asc:∀x∈nm,∀c∈FY h (Bn G x),c<128:=λx hx c hc=>(I6 hh (cJ x hx) c hc).1;have YL:∀x∈nm,1<=(FY h (Bn G x)).length/\(FY h (Bn G x)).length<=40:=λx hx=>by
  have a:=Ss hh _ (cJ x hx);have b:=ln x hx;have:=PL.len;(clear four;lia)
 have lD:∀x∈nm,∀c∈(FY h (Bn G x)).map dn,c<128:=λx hx c hc=>by
  refine Bh (AF.mp hc) ?_;rintro a ha rfl;exact(Lj a (asc x hx a ha)).2.1
 have hU:∀x∈nm,Txt.lower (Txt.swapcase (GY P x))=tx ((FY h (Bn G x)).map Oy):=λx hx=>by
  rw[bW x hx,SM (asc x hx),LG (lD x hx),AB];congr 1;exact AW λa ha=>(Lj a (asc x hx a ha)).2.2.1
 have o8:∀x∈nm,∀c∈(FY h (Bn G x)).map Oy,c<128:=λx hx c hc=>by
  refine Bh (AF.mp hc) ?_;rintro a ha rfl;exact(Fz a (asc x hx a ha)).2.2.1
 have low:∀x∈nm,Txt.lower (GY P x)=tx ((FY h (Bn G x)).map Oy):=λx hx=>by rw[bW x hx,LG (asc x hx)]
 have oj:∀x∈nm,∀s∈Cy P x,∃a∈By,s=CN h a:=λx hx s hs=>by
  rw[pc x hx]at hs;refine Bh (AF.mp hs) ?_;rintro a ha rfl;exact⟨a,cJ x hx a ha,rfl⟩
 refine⟨⟨λx hx=>S.low x (S.in hx),S.tree.nd,by rw[nl];lia,λx hx=>?_,λx hx=>?_,λx hx=>by rw[ln x hx];exact lb four rfl,λx hx=>⟨?_,?_,?_⟩,λx hx Nb=>⟨?_,?_,?_,?_,?_⟩,λx hx Nb=>?_⟩,λx hx s hs=>?_,λx hx=>by rw[ln x hx,nl],cJ⟩
 .rw [eP];unfold Dz;rw[AB];exact AF.mpr ⟨x,hx,rfl⟩
 .rw [eG];unfold FJ;rw[AB];exact AF.mpr ⟨x,hx,rfl⟩
 .rw [bW x hx,DX];have:=YL x hx;lia
 .rw [pc x hx,AB];have e:∀l:List Nat,(∀a∈l,a∈By)->(l.map λa=>(CN h a).length).sum<=10*l.length:=λl=>by
   induction l with
   |nil=>intro V;exact Ad _
   |cons a l ih=>
    intro hl;have h1:=ih λb hb=>hl b (.tail _ hb);have h2:(CN h a).length<=10:=(Lc h hh a (hl a (.head _))).2.1;rw[AI,BC,AZ];lia
  have e:=e _ (cJ x hx);rw[ln x hx]at e;show((Bn G x).map λa=>(CN h a).length).sum<=1000;lia
 .unfold MC;rw[bW x hx,Ka,Px,Bool.eq_iff_iff,List.isEmpty_iff,List.filter_eq_nil_iff,Bool.not_eq_true',List.any_eq_false];refine⟨λz c hc=>?_,λz s hs=>?_⟩
  .rw [<- (I6 hh (cJ x hx) c hc).2];exact z _ (AF.mpr ⟨c,hc,rfl⟩)
  .refine Bh (AF.mp hs) ?_;rintro c hc rfl;rw[(I6 hh (cJ x hx) c hc).2];exact z c hc
 .refine .name ?_ ?_ ?_
  .rw [hU x hx,Px,any_map λa ha=>(Fz a (asc x hx a ha)).2.2.2];unfold MC at Nb;rw[bW x hx,Px]at Nb;simpa using Nb
  .rw [hU x hx,DX,AA];exact(YL x hx).1
  .rw [hU x hx,DX,AA];have:=(YL x hx).2;exact lb this rfl
 .rw [hU x hx];exact O8 (o8 x hx)
 .rw [low x hx];exact O8 (o8 x hx)
 .rw [bW x hx];exact O8 (asc x hx)
 .rw [bW x hx,SM (asc x hx),DX,AA];have:=(YL x hx).2;exact lb this rfl
 .unfold HM Cu E9;rw[List.filter_map,AB];show List.map sg _=List.map sg _;congr 1;refine List.filter_congr λy hy=>?_;have hy:=(Az.mp hy).1;show decide (Txt.lower (GY P y)=_)=((Bn G y).map GP==(Bn G x).map GP);rw[low y hy,hU x hx,gx y hy,gx x hx,OW hh PL.low (hf y),OW hh PL.low (hf x),Bool.eq_iff_iff,decide_eq_true_eq,beq_iff_eq];have mp:∀f,(Dq t ps f).map GP=ps.map λp=>GP (Ic t p (f p)):=λf=>by unfold Dq;rw[AB];rfl
  rw[mp,mp,<- R6 (t:=t) hh _ _ ps PL.low];exact⟨λz=>congrArg (λs:Str=>s.cps.toList) z,congrArg tx⟩
 .refine Bh (oj x hx s hs) ?_;rintro a ha rfl;have e:CN h a=tx (Tu h a):=rfl;have asc:∀c∈Tu h a,c<128:=λc hc=>((Lc h hh a ha).2.2 c hc).1;refine⟨?_,?_,AD (Lc h hh a ha).2.1 (by decide)⟩
  .rw [e];exact O8 asc
  .rw [e,LG asc];refine O8 λc hc=>?_;refine Bh (AF.mp hc) ?_;rintro b hb rfl;exact(Fz b (asc b hb)).2.2.1
end
theorem XQ:eS=true:=by decide +kernel
theorem Z0:NB [true,true,true]=true:=by decide +kernel
theorem Z1:NB [true,true,false]=true:=by decide +kernel
theorem Z2:NB [true,false,true]=true:=by decide +kernel
theorem Z3:NB [true,false,false]=true:=by decide +kernel
theorem Z4:NB [false,true,true]=true:=by decide +kernel
theorem Z5:NB [false,true,false]=true:=by decide +kernel
theorem Z6:NB [false,false,true]=true:=by decide +kernel
noncomputable def GB(L:List α)(lo hi st:Option Int):List α:=(PySem.sliceRange (sliceBounds lo hi st L.length).1 (sliceBounds lo hi st L.length).2.1 (sliceBounds lo hi st L.length).2.2).filterMap (L[·]?)
theorem Mp{β:Type}(f:α->β)(L:List α)(lo hi st:Option Int):GB (L.map f) lo hi st=(GB L lo hi st).map f:=by
 unfold GB;rw[AA,List.map_filterMap];congr 1;funext i;rw[AL]
theorem Be.at:∀ {vs:DV}{ds:Cr},Be X w h vs ds->∀i:Nat,(vs[i]? = none/\ds[i]? = none)\/∃v d,vs[i]? = some v/\ds[i]? = some d/\B8 X w h v d:=by
 intro vs ds r;induction ds generalizing vs with
 |nil=>cases Be.G9 r;exact λV=>.inl ⟨rfl,rfl⟩
 |cons d ds ih=>
  refine Dt (Be.Bo r) ?_;rintro V V rfl a b;intro i;cases i with
  |zero=>exact .inr ⟨_,_,rfl,rfl,a⟩
  |succ i=>exact ih b i
theorem Be.pick(r:Be X w h vs ds)(lo hi st:Option Int):Be X w h (GB vs lo hi st) (GB ds lo hi st):=by
 unfold GB;rw[r.length];generalize PySem.sliceRange _ _ _=is;induction is with
 |nil=>exact .nil
 |cons i is ih=>
  rw[List.filterMap_cons,List.filterMap_cons];rcases r.at i with⟨e1,e2⟩|⟨v,d,e1,e2,a⟩
  .rw [e1,e2];exact ih
  .rw [e1,e2];exact .cons a ih
theorem HC(vs:DV)(lo hi st:Option Int):slicePick vs.toArray lo hi st=(GB vs lo hi st).toArray:=by
 unfold slicePick GB;rw[AY];congr 2;funext i;simp
theorem Ev.cK{value:Expr}{lo hi:Option Expr}{se:Expr}{p pos}{kl ku:Option Int}{ks:Int}(x:Ev c J value (.list ds))(y1:Part c J lo kl)(y2:Part c J hi ku)(y3:Part c J (some se) (some ks))(h0:ks≠0)(hz:ds.length<=1000000) :
  Ev c J (.Subscript value (.Slice lo hi (some se) p) pos) (.list (GB ds kl ku (some ks))):=
 λs F Q E q=>PyProof.Rows.Subscript_ (x s F _ _ λo h1 t1 l1 r1=>wpAny_Slice (y1 _ (F.le l1) _ _ λvl h2 t2 l2 zz=>Bh zz λdO e1 c8=>y2 _ ((F.le l1).le l2) _ _ λvu h3 t3 l3 zz=>Bh zz λdQ e2 lQ=>y3 _ (((F.le l1).le l2).le l3) _ _ λvk h4 t4 l4 zz=>Bh zz λqV e3 pL=>by
  subst e1 e2 e3;have l5:Le h4 (h4.push {cls:=.type "slice",data:=.fields #[partValue dO,partValue dQ,partValue qV]}):=Le.push _ _;have F5:=(((F.le l1).le l2).le l3).le l4 |>.le l5;have r5:=(((r1.le l2).le l3).le l4).le l5;refine Qe (B8.Hl r5) ?_;rintro ad us rfl nx nt pl r;have hl:=r.length;refine tail_any (ops:=[.ref ad,.ref h4.objs.size]) (s:={s with heap:=h4.push {cls:=.type "slice",data:=.fields #[partValue dO,partValue dQ,partValue qV]},toks:=t4}) pl.isList.typeIs slot_list_getitem.lookup
   (wpAny_getItem_list_slice pl.isList (Heap.IsSliceOf.new _ _ _ _) Fy Fy Fy (by rw[pL];exact λz=>h0 (Option.some.inj z)) ?_ (by simp only[AY];rw[sizeLine_eq];exact Jc hl hz rfl)) rfl
  rw[HC,c8,lQ,pL];exact q _ _ _ (Bt.trans (Bt.trans (Bt.trans (Bt.trans (Bt.trans l1 l2) l3) l4) l5) (Le.push _ _)) (LL F5.Cj F5.base.tab (r.pick _ _ _))))
theorem YD:∀ {vs:DV}{ns:List Int},Be X w h vs (ns.map .int)->IntsAre vs ns:=by
 intro vs ns r;induction ns generalizing vs with
 |nil=>cases r;exact .nil
 |cons n ns ih=>
  refine Dt (Be.Bo r) ?_;rintro V V rfl a b;cases a;exact .cons _ _ (ih b)
theorem Ev.sum{np:Pos}{ns:List Int}(f:Ev c J (.Name x np) (.obj (.builtin "sum")))(y:Ev c J e (.list (ns.map .int)))(he:autoParam (D8 c e []) Bc):Ev c J (.Call (.Name x np) [e] [] pos) (.int ns.sum):=
 .OM f (.cons y .nil he) (λvs s F r Q E q=>by
  cases r with|cons a r=>
  cases r;refine Qe (B8.Hl a) ?_;rintro ad us rfl nx nt p rr;have hi:IntsAre us ns:=YD rr;refine B5 hi.allInts.items ?_;intro xs hx;have hn:numsOf us.toArray.toList=ns:=by rw[show us.toArray.toList=us from rfl,hi.numsOf]
  have hl:=p.isList;rw[hx]at hl hn;rw[nums_intItems]at hn;refine sum_intListG F.ok.handled hl λh' tk t' hk=>?_;rw[preSum_eq,List.take_of_length_le (by simp),hn];exact q _ h' tk (Le.of hk) (.int _ _)) he
section
variable {c cc:Cx}{J J' KR J0:B3}{N:Em}{R:Cs}{h h':Heap}{Z:Addr->Heap->Prop}
noncomputable def JO(xs:List Int)(k start:Nat):Nat:=start+((GB xs (some (k:Nat)) (some 60) (some 4)).map λx=>(x%1000000).toNat).sum
noncomputable def Hn(xs:List Int):List Nat:=if xs.length≥4 then[98,99,100,101,102]else[98,99,100,101]
theorem Ta(xs:List Int)(lo hi st:Option Int):(GB xs lo hi st).length<=xs.length:=by
 have h:=slicePick_size_le (xs.map λx=>Value.int x 0).toArray lo hi st;rw[HC,Mp]at h;simpa using h
theorem sum_nat(l:List Int):((l.map λx=>x%1000000).sum:Int)=((l.map λx=>(x%1000000).toNat).sum:Nat):=by
 induction l with
 |nil=>rfl
 |cons a l ih=>
  rw[AI,BC,AI,BC,ih];lia
def Kept(c:Cx)(v:Value)(h:Heap):Prop:=v=.bool true/\(∀b o,b≠TP->c.h0.get? b=some o->h.get? b=some o)/\Tab h
theorem Ex.WL{np cp:Pos}{es:Cw}{a b m l:Nat}{ts:R2}{r:Nat}{th:TH}{nm:BY}{B:A2}{G:W2}{P:P2}(Sk:DZ c [])(hk:24<=c.k)(H:KQ cs a b m l ts r th nm B G P)(HD:M3 c.w)(f:Ev c J (.Name x np) (.obj (.ref 305)))(y:FP c J (e::es) [.list ([a,b,m,l].map λa=>.int (a:Nat)),.str (tx cs)])(he:autoParam (D8 c e es) Bc):Ex c J (.Return (some (.Call (.Name x np) (e::es) [] cp)) pos) N (Kept c):=λs F Q E n q=>
 wpAny_Return_some (wpAny_Call_NameR (f s F _ _ λv h1 t1 l1 r1=>by
  cases r1;have Eb:Le s.heap h1:=l1;refine BG (o:=Et (BZ 32) (S "_law_holds") .none CX (.ref 304)) (fd:=EV (BZ 32) (S "_law_holds") .none CX (.ref 304)) rfl (y cp _ (F.le Eb) _ _ λvs h2 t2 l2 r2=>?_) he;have F2:=(F.le Eb).le l2;have SY:∀b∈Bj [c.env],c.X b:=λb m=>(Sk.DP.mp m).elim (λe=>e▸F2.loc.1) (λm=>by cases m);exact⟨F2.base.k _ _ (HK.here _),aT c.w (s:={s with heap:=h2,toks:=t2}) H HD (F.ok.CC hk) F2.base F2.Cj r2 Sk.fr (F2.Lu Sk) SY λh3 t3 st=>q _ h3 t3 ⟨rfl,λb o n e=>st.keep b o n (λm=>(Sk.DP.mp m).elim (λz=>by rw[z,F2.loc.2.1]at e;cases e) λm=>by cases m) (F2.old.keep b o n (Sk.mOff b) e),st.tab F2.base.tab⟩⟩))
theorem YH(E:Bi c w (BX (BZ 33)) 24)(Sk:DZ c [])(xs:List Int)(hl:xs.length<=1000000){ts:R2}{r:Nat}{th:TH}{nm:BY}{B:A2}{G:W2}{P:P2}(H:KQ (Hn xs) (JO xs 0 2) (JO xs 1 36) (JO xs 2 4) (JO xs 3 21) ts r th nm B G P)(HD:M3 c.w) :
  Bd c [(S "script",.list (xs.map .int))] [Br (BZ 33)] (λV=>False) (Kept c):=by
 let σ:List Nat:=[JO xs 0 2,JO xs 1 36,JO xs 2 4,JO xs 3 21]
 let R0:List (Str×D):=[(S "script",.list (xs.map .int))]
 have hlen:(xs.map D.int).length<=1000000:=by rw[AA];exact hl
 refine Bd.step (J':=(S "sums",.list (σ.map λa=>.int (a:Nat)))::R0) (Ex.cL E (d:=.list (σ.map λa=>.int (a:Nat))) (CE.eq (CE.C0 [((0:Nat),(2:Nat)),(1,36),(2,4),(3,21)] (λq=>.tup [.int (q.1:Nat),.int (q.2:Nat)]) (λV=>true) (λq=>.int (JO xs q.1 q.2:Nat)) (J0:=R0) E.co (Ba.eq (Ba.enum Ev.b (Ev.ls (.cons Ev.cInt (.cons Ev.cInt (.cons Ev.cInt (.cons Ev.cInt .nil)))))) ?_) (λq=>[(S "start",.int (q.2:Nat)),(S "k",.int (q.1:Nat)),(S "script",.list (xs.map .int))]) (λV V h=>.tail _ (.tail _ h)) (λV V V sc=>Bind.tup (.cons Bind.n (.cons Bind.n .nil))) (λV V V V=>CL.nil)
  (λq hq V cc sc=>Ev.eq (Ev.Ij Ev.n (Ev.sum (ns:=(GB xs (some (q.1:Nat)) (some 60) (some 4)).map λx=>x%1000000) Ev.b (CE.ev (CE.eq (CE.C0 (GB xs (some (q.1:Nat)) (some 60) (some 4)) .int (λV=>true) (λx=>.int (x%1000000)) (J0:=[]) sc.co (Ba.eq (Ba.list (Ev.cK Ev.n (Part.int Ev.n) (Part.int Ev.cInt) (Part.int Ev.cInt) (by decide) hlen)) ?_) (λx=>[(S "x",.int x)]) (λV V h=>by cases h) (λV V V sc=>Bind.n) (λV V V V=>CL.nil) (λx V V cc sc=>Ev.eq (Ev.MA Ev.n (Ev.iW Ev.cInt Ev.cInt (by decide) (by decide)) (by decide)) ?_) ?_) ?_)))) ?_) ?_) ?_)) ?_
 .rfl
 .rw [Mp]
 .rfl
 .exact AD (Ta xs _ _ _) hl
 .rw [Bx,AB];rfl
 .rw [sum_nat];rfl
 .exact AE rfl
 .rw [Bx];rfl
 .refine Bd.ret (Ex.WL Sk (by rw[E.hk];decide) H HD Ev.g (.cons Ev.n (.cons (Ev.K5 (a:=decide (xs.length≥4)) (CK.cmp (Bg.eq (Bg.tJ (Ev.YK (xs:=xs) (g:=.int) Ev.b Ev.n hl) Ev.cInt) ?_)) (λh=>?_) (λh=>?_)) .nil)))
  .exact decide_eq_decide.mpr (by(clear hl hlen;omega))
  .have e:Hn xs=[98,99,100,101,102]:=by unfold Hn;rw[if_pos (of_decide_eq_true h)]
   rw[e];exact Ev.cStr
  .have e:Hn xs=[98,99,100,101]:=by unfold Hn;rw[if_neg (of_decide_eq_false h)]
   rw[e];exact Ev.cStr
end
theorem IQ:∀(ps:R2) (bs:List Bool),(JM ps bs).Sublist ps
 |[],_=>.slnil
 |p::ps,[]=>List.nil_sublist _
 |p::ps,b::bs=>by
  show(bi b (p::JM ps bs) (JM ps bs)).Sublist _;cases b
  .exact .cons _ (IQ ps bs)
  .exact .cons_cons _ (IQ ps bs)
theorem u7:∀l3∈ne 3,NB l3=true:=λl3 h=>by
 have h':l3∈[[true,true,true],[true,true,false],[true,false,true],[true,false,false],[false,true,true],[false,true,false],[false,false,true]]:=h;refine o9 h' ?_ ?_ ?_ ?_ ?_ ?_ ?_
 .exact Z0
 .exact Z1
 .exact Z2
 .exact Z3
 .exact Z4
 .exact Z5
 .exact Z6
theorem ko:∀x∈LH,∀y∈LH,(x,y)∈Po:=by decide
theorem eD:∀x∈lows,∀y∈lows,(x,y)∈Po:=by decide
structure UH(cs:BY):Prop where
 low:∀x∈cs,x∈lows
 nd:cs.Nodup
 asc:cs.Pairwise (· < ·)
 Iy:cs.length=4\/cs.length=5
 net:∀a b,d6 (TR cs Po (Tz cs) (T6 cs a b)) cs (T6 cs a b)/\(T6 cs a b).length<=10/\∀t∈T6 cs a b,t.1∈lows/\t.2∈lows
theorem eN:UH LH:=⟨by decide,by decide,by decide,.inl rfl,λa b=>by
 obtain⟨l2,h2,l3,h3,e⟩:=Yz a b;have h:=XQ;unfold eS at h;rw[Eo,Ah]at h;have h:=h l2 h2;rw[Eo,Ah]at h;have sb:=IQ WB (true::Gu l2 l3);rw[e];exact⟨RE ko (h l3 h3),AD sb.length_le (by decide),λt ht=>(by decide:∀t∈WB,t.1∈lows/\t.2∈lows) t (sb.subset ht)⟩⟩
theorem eO:UH lows:=⟨λV h=>h,by decide,by decide,.inr rfl,λa b=>by
 obtain⟨l2,h2,l3,h3,l4,h4,e⟩:=Y0 a b;have h:=u7 l3 h3;unfold NB at h;rw[Eo,Ah]at h;have h:=h l2 h2;rw[Eo,Ah]at h;have sb:=IQ WC (true::Gu l2 (Gu l3 l4));rw[e];exact⟨RE eD (h l4 h4),AD sb.length_le (by decide),λt ht=>(by decide:∀t∈WC,t.1∈lows/\t.2∈lows) t (sb.subset ht)⟩⟩
theorem PA(C:UH cs)(a b m l:Nat):∃ts r th nm B G P,KQ cs a b m l ts r th nm B G P:=by
 refine FO (C.net a b) ?_;intro N tl J5;have pos:0<cs.length:=by have:=C.Iy;lia
 have hm:m%cs.length<cs.length:=Nat.mod_lt _ pos;have hr:cs[m%cs.length]∈cs:=List.getElem_mem hm;refine MB (N.tree _ hr (decide (m/cs.length/3%2=1))) ?_;intro th nm T;have S:Ih cs (T6 cs a b) _ _ _ th nm:=⟨C.low,C.Iy,YP C.low (by have:=C.Iy;(clear pos;lia)) _,N.sym,T⟩
 refine Ht (S.book (t:=l%7) (h:=l/7%5) (Nat.mod_lt _ (by decide)) rfl rfl) ?_;intro K1 K2 K3 K4;have nl:=S.len;have four:(nm.drop 1).length<=4:=by have:=S.rR;lia
 have W:∀x∈nm,Bn (CZ th nm) x=(nm.drop 1).map λy=>uL (uT th x y) y:=λx hx=>by unfold CZ;rw[GF hx,Lp]
 have Wl:∀x∈nm,(Bn (CZ th nm) x).length=(nm.drop 1).length:=λx hx=>by rw[W x hx,AA]
 have Gx:∃hd,nm.head? = some hd/\hd∈nm:=by
  cases e:nm with
  |nil=>rw[e]at nl;rw[<- nl]at pos;cases pos
  |cons x l=>exact⟨x,rfl,.head _⟩
 refine Bh Gx ?_;clear Gx;intro hd sy qn;refine⟨T6 cs a b,_,th,nm,_,_,_,⟨C.low,C.nd,by have:=C.Iy;lia,tl,J5,N.get⟩,rfl,AU hm,⟨?_,nl,T.perm,C.asc,T.ways⟩,⟨λx hx y hy=>S.tab.1.2 x (S.in hx) y (S.in hy),λx hx=>⟨by rw[Wl x hx];exact lb four rfl,λs hs=>?_⟩,λx hx y hy=>(Wl x hx).trans (Wl y hy).symm,λp hp=>?_,λp hp=>?_,λz=>?_⟩,rfl,rfl,rfl,⟨λy hy=>?_,λx hx y hy=>?_,K4⟩,K1,⟨hd,sy,λk y hk x hx=>S.iX (Nat.mod_lt _ (by decide)) (Nat.mod_lt _ (by decide)) rfl rfl hk hx⟩,K2,K3⟩
 .refine Bh T.run ?_;intro stF e1 e2;exact⟨stF,5,e1,by decide,e2,T.deep,T.Iy,T.walk⟩
 .rw [W x hx]at hs;refine Bh (AF.mp hs) ?_;rintro y hy rfl;have:=Np y (S.Pd y hy);unfold uL;split
  .exact this.2
  .exact this.1
 .refine CB (Ct hp) ?_;intro h1 h2;refine CB (S.je h1 h2) ?_;intro f1 f2;rw[f2];exact f1
 .refine CB (Ct hp) ?_;intro h1 h2;unfold unlike;refine BA (AV _ _) ?_;rw[List.length_zip,Wl _ h1,Wl _ h2];lia
 .have:=(S.Oq qn qn).1;rw[z]at this;cases this
 .refine Bh (T.above y hy) ?_;intro wy e V;exact⟨wy,e⟩
 .refine Bh (T.above y hy) ?_;intro V V ab;exact⟨(S.Oq hx (Aj hy)).1,(S.Oq hx ab).1⟩
noncomputable abbrev Rm(pm cd doc:Value):FuncData:={Calls.docDef (S "law") (J7 (BZ 33)) (Br (BZ 33)) (BX (BZ 33)) pm cd doc with defaults:=.none,kwdefaults:=.none}
theorem YI{fa:Addr}{o:Obj}{pm cd doc:Value}(Bs:CV w s.heap)(ho:s.heap.get? fa=some o)(hd:o.data=.func (Rm pm cd doc))(ag:s.heap.CodeRec cd (S "law")){xs:List Int}(rv:Be Hu w s.heap [v] [.list (xs.map .int)])(hl:xs.length<=1000000)(q:∀h' tk,(∀b o,b≠TP->s.heap.get? b=some o->h'.get? b=some o)->Tab h'->Q (.bool true) {s with heap:=h',toks:=tk}):wpAny (model prog w) callerA (call (.ref fa) [v]) Q E s:=by
 refine wpAny_call ?_;refine A7 (o:=o) (fd:=Rm pm cd doc) O7.room ho hd rfl rfl rfl ag ?_;have hb:bindArgs (Rm pm cd doc) ⟨[v],[]⟩=pure ([S "script"].zip [v]):=rfl;rw[hb];refine wpAny_pure (RV (k:=24) (Rm pm cd doc) (sc:=BX (BZ 33)) (bd:=Br (BZ 33)) rfl (O7.CC (by decide)) Bs (X:=Hu) (λV z=>z.elim) (G:=Res.emp) trivial (λV z=>z.elim) (names:=[S "script"]) rv rfl (.of (by decide +kernel)) λc h1 t1 FA hA ⟨fl,ow⟩ _ F=>?_)
 .have En:=FA.env;have Sk:DZ c []:=O9 FA hA fl rfl (λV m=>by cases m) λb z=>z;obtain⟨ts,r,th,nm,B,G,P,H⟩:∃ts r th nm B G P,KQ (Hn xs) (JO xs 0 2) (JO xs 1 36) (JO xs 2 4) (JO xs 3 21) ts r th nm B G P:=by
   unfold Hn;split
   .exact PA eO _ _ _ _
   .exact PA eN _ _ _ _
  have body:=YH En Sk xs hl H (handOk _);have z:=body {s with heap:=h1,toks:=t1} F (λf s'=>Q (match f with|.ret v=>v|_=>.none) s') (λe s'=>wpAny (model prog c.w) c.A (leaving c.env e) (λV Gb=>E e Gb) (λe' Gb=>E e' Gb) s') (λV V z=>z.elim) λv h' tk ⟨e,k,t⟩=>(by
   subst e;rw[FA.hh]at k;exact q h' tk k t)
  exact wpAny_mono z (λf s' k=>by cases f<;>exact k) λV V k=>k
theorem Ri:∀ {vs:DV}{ns:List Int},WellAll w.params h vs (ns.map .int)->Be Hu w h vs (ns.map .int)
 |_,[],.nil=>.nil
 |_,n::ns,.cons a b=>by
  cases a with
  |int i t=>exact .cons (.int _ _) (Ri b)
theorem j3{q:Program}{loose:B1}{XP:(Str->Option Value)->Heap->Prop}{d:DefRec}{gf:List (Str×Expr)}(qD:d.name=S "law")(hp:d.params=J7 (BZ 33))(hb:d.body=Br (BZ 33))(hs:d.scope=BX (BZ 33))(hk:gf=[]) :
  WalkO q loose XP Mine.hook.says PySem.Challenge.rw_ta0106_01.row.toRowW d gf λf vs=>PySem.call f vs:=by
 intro w s₀ s₁ mg mb Gr Y fa o pm cd doc dV kV ho hd ag hD wd aj args vals as nE uJ we gQ Oi;refine FO Y ?_;clear Y;intro Y1 Cq Y3;obtain⟨og,eg,hg⟩:=Cq;have Bs:CV w s₁.heap:=⟨Y1,⟨mg,Gr.T.g,λp hp=>by
  refine V7 Gr.T.g ?_;intro o2 es ep e1 e2 V e3;cases eg.symm.trans e1;rw[<- hg p hp,<- e3];unfold aa;rw[e2]⟩,⟨mb,Gr.T.b,λx hx=>Gr.T.builtins x hx⟩,Gr.T.nolimit,⟨#[],Y3,trivial,λpos v z=>by cases z⟩⟩
 refine CB (pre_splitW nE) ?_;intro h1 h2;refine Dt (hasAllW_cons h1) ?_;rintro d1 r1 rfl h3 h4;obtain rfl:=hasAllW_nil h4;refine Bh (hasW_list h3) ?_;rintro xs rfl h5;refine B5 (items_int h5) ?_;rintro ns rfl;obtain rfl:=hk;have e1:dV=.none:=Dflts.none hD (by rw[hp];rfl);have e2:kV=.none:=hD.kw.elim (·.2) λy=>absurd rfl y.1;subst e1 e2;rw[hp,hb,hs,qD]at hd;rw[qD]at ag;have ln:ns.length<=1000000:=by
  have z:RowW.pre PySem.Challenge.rw_ta0106_01.row.toRowW=.and (.not (.lt (.lit (.int 63)) (.len (.arg 0)))) (.lit (.bool true)):=rfl;rw[z]at h2;simp[WTm.holds,WTm.value]at h2;have e:less? (.int 63) (.int (ns.length:Nat))=some (decide ((63:Int)<(ns.length:Nat))):=rfl;rw[e]at h2;by_cases q:(63:Int)<(ns.length:Nat)
  .rw [decide_eq_true q]at h2;simp at h2
  .omega
 have post:PySem.Challenge.rw_ta0106_01.row.toRowW.claim.post [.list (ns.map .int)] (.bool true) [.list (ns.map .int)]=true:=by
  wrow_post
 cases gQ with
 |cons a b=>
  cases b;cases a with
  |list el wl=>
   rename_i a vs;have nt:a≠TP:=λz=>by rw[z]at el;rw[el]at Y3;cases Y3
   refine YI Bs ho hd ag (Be.cons (B8.list (λz=>z) nt ⟨_,el⟩ (Ri wl)) .nil) ln λh' tk k t=>⟨.inl ⟨_,.bool true,[],rfl,λV=>rfl,.bool true,post,λV=>⟨.nil,λa m=>by cases m⟩⟩,⟨λb o e=>?_,λb o e=>?_⟩,rfl,.of_eq aj⟩
   .by_cases z:b=TP
    .subst z;obtain rfl:=Option.some.inj (Y3.symm.trans e);refine Bh t ?_;clear t;intro ps ep V;exact .inr (.inl ⟨⟨267,_,_,Y1 267 _ rfl,rfl,rfl,rfl⟩,rfl,_,ps,rfl,by rw[ep];simp⟩)
    .exact .inl (k b o z e)
   .by_cases z:b=TP
    .subst z;refine Bh t ?_;clear t;intro ps ep V;exact⟨_,ep⟩
    .exact ⟨o,k b o z e⟩
end Mine

theorem PySem.Challenge.cw_ta0106_01_holds : PySem.Challenge.rw_ta0106_01.Holds :=
  Mine.top Mine.j3
