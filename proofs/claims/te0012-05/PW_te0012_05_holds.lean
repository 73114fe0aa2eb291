import PyProof.Rows.All
import Flt.Ops
import KE.KBoundM
import KE.KDictList
import KE.KDictNew
import KE.KDictObj
import KE.KEqDict
import KE.KExtendNil
import KE.KTurns
import KE.KIntText
import KE.KIsAll
import KE.KLcPair
import KE.KSuper
import KE.KWhile
import OpenK.XOpen
import Lean
import PySem.Challenge.RW_te0012_05
set_option maxRecDepth 1000000
set_option Elab.async false
set_option linter.all false
set_option tactic.hygienic false
set_option genCtorIdx false
set_option genSizeOf false
set_option genInjectivity false
namespace Mine
noncomputable section
open List(replicate range' length)
open Prod(fst snd)
open PySem PySem.W PySem.Calls PyProof.Rows PySem.Spec
open Builtin.Str(strSliceIndices)
def aa:=@Nat.le_trans
def af:=@wpAny_bind
def ah:=@Nat.lt_of_le_of_lt
def aj:=@List.mem_singleton
def ao:=@List.mem_cons
def aq:=@congrArg
def au:=@decide_eq_false
def av:=@Nat.ne_of_lt
def ay:=@Option.some.inj
def az:=@decide_eq_true
def aA:=@Nat.le_add_right
def aB:=@Nat.le_of_ble_eq_true
def aD:=@Nat.le_refl
def aE:=@if_neg
def aF:=@if_pos
def aG:=@absurd
def aH:=@wpAny_pure
def aI:=@Bool.false_ne_true
def aJ:=@of_decide_eq_true
def aK:=@Nat.lt_trans
def aL:=@Nat.lt_of_lt_of_le
def aM:=@Nat.le_add_left
def aP:=@Nat.succ_le_succ
def aQ:=@Nat.ne_of_gt
def aR:=@Nat.lt_succ_of_lt
def aS:=@wpAny_holding
def aT:=@List.length_append
def aU:=@List.length_cons
def aV:=@List.length_map
def aW:=@List.append_assoc
def aX:=@List.cons_ne_nil
def aY:=@List.length_singleton
def aZ:=@List.length_nil
def bf:=@List.append_nil
def bg:=@List.getElem?_eq_getElem
def bh:=@List.getElem?_map
def bq:=@List.not_mem_nil
def bu:=@Option.map_eq_some_iff
def bw:=@Heap.get?_push_of_some
def bx:=@List.mem_append_right
def bz:=@List.length_replicate
def bA:=@List.append_eq_nil_iff
def bB:=@Bool.and_eq_true
def bD:=@List.getD_eq_getElem?_getD
def bE:=@List.append_ne_nil_of_right_ne_nil
def bF:=@List.mem_append
def bG:=@List.getElem?_eq_some_iff
def bH:=@List.length_eq_zero_iff
def bI:=@Nat.lt_irrefl
def bJ:=@List.map_append
def bK:=@List.all_eq_true
def bL:=@List.drop_eq_getElem_cons
def bM:=@List.flatten_append
def bN:=@List.nodup_cons
def bP:=@List.mem_of_getElem?
def bQ:=@Nat.zero_add
def bR:=@List.size_toArray
def bS:=@Nat.lt_succ_self
def bT:=@List.toList_toArray
def bU:=@List.mem_map
def bV:=@Heap.lt_size
def bW:=@List.mem_append_left
def bX:=@Nat.le_succ
def bY:=@codeAny_mono
def bZ:=@List.map_map
def cg:=@Nat.zero_le
def cj:=@List.drop_eq_nil_of_le
def ck:=@List.nil_append
def cu:=@Value.type.inj
def cw:=@decide_eq_decide
def cy:=@List.length_drop
def cA:=@Nat.le_of_lt
def cB:=@Int.natCast_nonneg
def cC:=@Nat.mod_lt
def cG:=@List.map_cons
def cH:=@List.cons.inj
def cJ:=@beq_self_eq_true
def cK:=@beq_eq_false_iff_ne
def cM:=@List.mem_map_of_mem
def cN:=@Heap.get?_push_size
def cQ:=@beq_iff_eq
def cR:=@List.flatten_cons
def cU:=@Nat.mul_le_mul_right
def cW:=@Bool.and_eq_true_iff
def cX:=@wpAny_truthy_bool
def cY:=@List.getLastD_eq_getLast?
def cZ:=@wpAny_mono
def c7:=@List.lookup_cons
def c8:=@List.cons_append
def dh:=@List.take_of_length_le
def dj:=@Int.fmod_eq_emod_of_nonneg
def dw:=@Nat.eq_of_beq_eq_true
def dz:=@or_false
def dB:=@List.mem_of_mem_take
def dG:=@Bool.not_eq_true'
def dH:=@Nat.le_of_eq
def dI:=@List.length_take
def dJ:=@List.getElem?_drop
def dK:=@Nat.add_comm
def dM:=@List.getElem?_toArray
def dN:=@wpAny_standAt
def dP:=@List.getElem?_set_ne
def dQ:=@congrFun
def dU:=@Nat.add_le_add_left
def dW:=@List.map_congr_left
def dX:=@PySem.W.Fast.te18344453789297297638
def dY:=@Nat.succ_add_eq_add_succ
def dZ:=@Nat.add_assoc
def d8:=@List.flatten_singleton
def eE:=@Int.fmod_nonneg_of_pos
def eG:=@Nat.le_succ_of_le
def eK:=@KTurns.ofWalks
def eN:=@Nat.succ_pos
def eO:=@wpAny_isTrue_Compare1
def eP:=@List.getElem?_eq_none
def eS:=@Nat.succ_ne_self
def eT:=@wpAny_loadName_local
def eU:=@List.mem_of_mem_drop
def eV:=@Around.frames_deeper
def eW:=@Bool.false_or
def eX:=@beq_false_of_ne
def eZ:=@Nat.min_eq_left
def fh:=@Heap.dictOf_iff
def fj:=@wpAny_mkText
def fq:=@Bool.or_true
def fu:=@of_decide_eq_false
def fy:=@List.getLast?_eq_none_iff
def fz:=@List.nodup_append
def fB:=@List.getElem?_take_of_lt
def fC:=@Bool.true_and
def fD:=@PySem.F.plainAttrs_list
def fE:=@Nat.min_eq_right
def fG:=@Nat.ne_of_beq_eq_false
def fH:=@List.getElem?_set_self
def fJ:=@wpAny_For
def fK:=@Nat.succ.inj
def fL:=@strKind_is
def fM:=@Subscript_
def fN:=@wpAny_letTemporaryGo
def fP:=@Name_function_global
def fQ:=@Bool.or_eq_false_iff
def fR:=@wpAny_ite_true
def fT:=@Heap.size_push
def fU:=@Bool.and_false
def fV:=@List.exists_cons_of_ne_nil
def fW:=@Nat.add_le_add
def fX:=@Classical.byContradiction
def fY:=@Nat.le_of_add_right_le
def fZ:=@Bool.eq_false_iff
def f5:=@Ne.symm
def f9:=@Nat.mul_le_mul_left
def gb:=@Int.ofNat_lt
def gc:=@Nat.add_le_add_right
def gf:=@Nat.mul_le_mul
def gg:=@Nat.not_lt
def gh:=@Nat.add_right_comm
def gi:=@List.isEmpty_eq_false_iff
def gj:=@Nat.lt_add_of_pos_right
def gk:=@Int.ofNat.inj
def gm:=@Option.any_eq_true
def gn:=@Nat.pos_of_ne_zero
def gp:=@List.getElem?_append_right
def gq:=@Nat.succ_lt_succ
def gu:=@Nat.min_le_left
abbrev kG{α:Sort _}:α->Prop:=λz=>False
abbrev AR{α Z:Sort _}:α->Z->Prop:=λz z=>False
noncomputable abbrev um{α:Sort _}:α->Bool:=λz=>false
noncomputable abbrev As{α Z:Sort _}:α->Z->Bool:=λz z=>false
abbrev CL{α Z Y:Sort _}:α->Z->Y->Bool:=λz z z=>false
abbrev LN:=List Nat
abbrev pP:=List Expr
abbrev sD:=List Stmt
abbrev iK:=List LN
set_option genCtorIdx true in
inductive MV where
 |none
 |bool (b:Bool)
 |int (i:Int)
 |str (s:LN)
 |ref (i:Nat)
 |tup (l:List MV)
 |jR (f:Nat) (i:Nat)
 |cls (c:Nat)
 |ty (n:String)
abbrev gV:=List MV
abbrev nF:=Option MV
abbrev lO:=List Value
abbrev oq:=List Str
abbrev qT:=Value->Shared->Prop
structure Fm where
 ns:List Str
 sc:Scope
 cn:Str
 ccd:Value
 cl:List (Str×Addr)
 fa:Addr
abbrev BF:=PySem.Numpy.UF.Uf
abbrev KM:=PySem.Numpy.UnOp
inductive IE where
 |none|bool (b:Bool)|int (i:Int)|str (l:LN)
 |loc (k:Nat)|nP (c:Nat)|gty (n:String)
 |attr (e:IE) (k:Nat)|vC (e:IE) (k:Nat)
 |nQ (o:IE) (k:Nat) (g7:IE) (kn:List Str) (kws:IE)
 |J3 (o:IE) (k:Nat)
 |F5 (fa:Nat) (g7:IE) (kn:List Str) (kws:IE)
 |make (c:Nat) (g7:IE) (kn:List Str) (kws:IE)
 |J4 (k:Nat) (g7:IE)
 |J5 (b:BF) (g7:IE)
 |F6 (m:KM) (o:IE) (g7:IE)
 |bin (op:Operator) (l r:IE)
 |cmp (op:CmpOp) (l r:IE)
 |chain (op₁ op₂:CmpOp) (l m r:IE)
 |bop (op:BoolOp) (es:IE)
 |not (e:IE)|neg (e:IE)
 |JV (c a b:IE)
 |sub (e i:IE)
 |slc (e:IE) (lo hi:IE)
 |list (es:IE)|tup (es:IE)
 |d0S|d0I
 |bot
 |nil|cons (e:IE) (r:IE)
 |no|yes (e:IE)
 |YB (l r:IE)|YC (l r:IE)|S9 (e i:IE)|comp (md:Nat) (e:IE)
inductive IS where
 |pass|brk|cont
 |ret (e:IE)|ab4
 |expr (e:IE)
 |asg (k:Nat) (e:IE)
 |OF (k j:Nat) (e:IE)
 |YD (k j i:Nat) (e:IE)
 |CM (ks:LN) (e:IE)
 |YE (o:IE) (k:Nat) (e:IE)
 |sets (o i e:IE)
 |CN (k:Nat) (op:Operator) (e:IE)
 |HX (o:IE) (k:Nat) (op:Operator) (e:IE)
 |ite (c:IE) (t e:IS)
 |whl (c:IE) (b o:IS)
 |YF (k:Nat) (e:IE) (b:IS)
 |YG (k:Nat) (e:IE) (b:IS)
 |YH (ks:LN) (e:IE) (b:IS)
 |YI (b o:IS)
 |del (o i:IE)
 |Vh (e:IE)
 |spec (i:Nat)
 |bot
 |nil|cons (s:IS) (r:IS)
 |Vi (ks:LN) (e:IE) (b:IS)|YJ (k:Nat) (e:IE) (b:IS)|Eo (k:Nat) (e:IE) (b:IS)
def ieK(a:Nat->Bool)(b:Bool)(e:IE):Bool:=e.casesOn false um um um a um um As As (λz z z z z=>false) As (λz z z z=>false) (λz z z z=>false) As As CL CL CL (λz z z z z=>false) As um um CL As CL um um false false false b As false um As As As As
noncomputable abbrev OG(e:IE):Bool:=ieK um true e
noncomputable def Vj(s:IS):Bool:=s.casesOn false false false um false um As CL (λz z z z=>false) As CL CL CL (λz z z z=>false) CL CL CL CL CL As As um um false true As CL CL CL
def Vk{s:IS}(h:Vj s=true):s=.nil:=by cases s<;>first|rfl|exact(aI h).elim
abbrev IB:=IS
noncomputable abbrev Ej{α:Sort _}:α->IS:=λz=>.nil
noncomputable abbrev Ek{α Z:Sort _}:α->Z->IS:=λz z=>.nil
noncomputable abbrev sE{α Z Y:Sort _}:α->Z->Y->IS:=λz z z=>.nil
noncomputable abbrev q(s:String):Str:=Str.ofString s
noncomputable abbrev pw:Program:=PySem.Challenge.pw_te0012_05
def sG(i:Nat):Stmt:=pw.main.body.getD i<|.Pass ⟨0,0,0,0⟩
def kc(i j:Nat):Stmt:=if h:(sG i).ctorIdx=2 then Stmt.ClassDef.elim (motive_2:=λz=>Stmt) (sG i) h λz z z b z z z z z z z=>b.getD j (.Pass ⟨0,0,0,0⟩)else sG i
noncomputable def ym(s:Stmt):Arguments:=if h:s.ctorIdx=0 then Stmt.FunctionDef.elim (motive_2:=λz=>Arguments) s h λz a z z z z z z z z=>a else default
noncomputable def nV(s:Stmt):List Stmt:=if h:s.ctorIdx=0 then Stmt.FunctionDef.elim (motive_2:=λz=>List Stmt) s h λz z b z z z z z z z=>b else[]
noncomputable def je(s:Stmt):Scope:=if h:s.ctorIdx=0 then Stmt.FunctionDef.elim (motive_2:=λz=>Scope) s h λz z z z z z sc z z z=>sc else default
structure FR where
 i:Nat
 np:Nat
 fa:Nat
 nm:Str
 ql:Str
 dV:Value
 pm:Value
 st:Stmt
 ns:List Str
 ib:IS
noncomputable abbrev FR.cd(r:FR):Nat:=r.fa-1
abbrev FR.fd(r:FR):FuncData:=fnX r.nm r.ql (ym r.st) (nV r.st) (je r.st) [] r.dV .none .none r.pm none (.ref r.cd) .none
def FR.fm(r:FR):Fm:=⟨r.ns,je r.st,r.ql,.ref r.cd,[],r.fa⟩
def qs(l:List String):List Str:=l.rec [] λx z r=>q x::r
def iL(l:List IE):IE:=l.rec .nil λa z r=>.cons a r
def iB(l:List IS):IS:=l.rec .nil λa z r=>.cons a r
noncomputable def fF(k:Nat):IE:=.attr (.loc 0) k
def sM(k:Nat)(as:List IE):IE:=.nQ (.loc 0) k (iL as) [] .nil
def xM(k:Nat)(as:List IE):IS:=.expr<|sM k as
def gC(f:Nat)(as:List IE):IE:=.F5 f (iL as) [] .nil
def mK(c:Nat)(as:List IE):IE:=.make c (iL as) [] .nil
def kC(m:KM)(o:IE)(as:List IE):IE:=.F6 m o<|iL as
def bC(b:BF)(as:List IE):IE:=.J5 b<|iL as
def bO(o:BoolOp)(as:List IE):IE:=.bop o<|iL as
def tU(as:List IE):IE:=.tup<|iL as
noncomputable def cE(a b:IE):IE:=.cmp .Eq a b
noncomputable def cI(a b:IE):IE:=.cmp .In a b
def iF(c:IE)(t e:List IS):IS:=.ite c (iB t)<|iB e
def wH(c:IE)(t:List IS):IS:=.whl c (iB t) .nil
noncomputable def sS(k:Nat)(e:IE):IS:=.YE (.loc 0) k e
def kS(x:String)(t:Nat):Value:=.str (q x) t
def HY:Value:=kS "yaml.parser" 2098
def qQ:Value:=kS "yaml.scanner" 1285
def Ov:Value:=kS "yaml.reader" 1142
def AS:Value:=kS "yaml.events" 798
def yQ:Value:=kS "yaml.tokens" 321
def kM5:Value:=kS "yaml.error" 194
def F7:Value:=kS "law_te0012_05" 2419
def rQ:FR:=⟨0,8,35,q "__init__",q "Mark.__init__",.none,kM5,kc 2 0,qs ["self","name","index","line","column","buffer","pointer"],iB [sS 0<|.loc 1,sS 9<|.loc 2,sS 10<|.loc 3,sS 11<|.loc 4,sS 4<|.loc 5,sS 5<|.loc 6]⟩
def kX:FR:=⟨1,4,111,q "__init__",q "Token.__init__",.none,yQ,kc 6 0,qs ["self","start_mark","end_mark"],iB [sS 31<|.loc 1,sS 32<|.loc 2]⟩
def i7:FR:=⟨2,0,176,q "__init__",q "StreamStartToken.__init__",.ref 169,yQ,kc 10 1,qs ["self","start_mark","end_mark","encoding"],iB [sS 31<|.loc 1,sS 32<|.loc 2,sS 8<|.loc 3]⟩
def iM:FR:=⟨3,0,397,q "__init__",q "ScalarToken.__init__",.ref 390,yQ,kc 26 1,qs ["self","value","plain","start_mark","end_mark","style"],iB [sS 33<|.loc 1,sS 34<|.loc 2,sS 31<|.loc 3,sS 32<|.loc 4,sS 35<|.loc 5]⟩
def mz:FR:=⟨4,0,417,q "__init__",q "Event.__init__",.ref 410,AS,kc 28 0,qs ["self","start_mark","end_mark"],iB [sS 31<|.loc 1,sS 32<|.loc 2]⟩
def iG:FR:=⟨5,0,466,q "__init__",q "CollectionStartEvent.__init__",.ref 459,AS,kc 30 0,qs ["self","anchor","tag","implicit","start_mark","end_mark","flow_style"],iB [sS 36<|.loc 1,sS 40<|.loc 2,sS 41<|.loc 3,sS 31<|.loc 4,sS 32<|.loc 5,sS 108<|.loc 6]⟩
def i8:FR:=⟨6,0,498,q "__init__",q "StreamStartEvent.__init__",.ref 491,AS,kc 32 0,qs ["self","start_mark","end_mark","encoding"],iB [sS 31<|.loc 1,sS 32<|.loc 2,sS 8<|.loc 3]⟩
def gW:FR:=⟨7,0,530,q "__init__",q "DocumentStartEvent.__init__",.ref 523,AS,kc 34 0,qs ["self","start_mark","end_mark","explicit","version","tags"],iB [sS 31<|.loc 1,sS 32<|.loc 2,sS 37<|.loc 3,sS 38<|.loc 4,sS 39<|.loc 5]⟩
def i9:FR:=⟨8,0,550,q "__init__",q "DocumentEndEvent.__init__",.ref 543,AS,kc 35 0,qs ["self","start_mark","end_mark","explicit"],iB [sS 31<|.loc 1,sS 32<|.loc 2,sS 37<|.loc 3]⟩
def jS:FR:=⟨9,0,582,q "__init__",q "ScalarEvent.__init__",.ref 575,AS,kc 37 0,qs ["self","anchor","tag","implicit","value","start_mark","end_mark","style"],iB [sS 36<|.loc 1,sS 40<|.loc 2,sS 41<|.loc 3,sS 33<|.loc 4,sS 31<|.loc 5,sS 32<|.loc 6,sS 35<|.loc 7]⟩
def pQ:FR:=⟨10,2,668,q "_is_printable",q "_is_printable",.none,Ov,sG 44,qs ["ch"],iB [.ret<|bO .Or [cI (.loc 0)<|.str [9,10,13,133],.chain .LtE .LtE (.str [32]) (.loc 0)<|.str [126],.chain .LtE .LtE (.str [160]) (.loc 0)<|.str [55295],.chain .LtE .LtE (.str [57344]) (.loc 0)<|.str [65533],.chain .LtE .LtE (.str [65536]) (.loc 0)<|.str [1114111]]]⟩
def qw:FR:=⟨11,3,682,q "__init__",q "Reader.__init__",.none,Ov,kc 45 0,qs ["self","stream"],iB [sS 0 .none,sS 1 .none,sS 2<|.int 0,sS 3<|.bool true,sS 4<|.str [],sS 5<|.int 0,sS 6 .none,sS 7 .none,sS 8 .none,sS 9<|.int 0,sS 10<|.int 0,sS 11<|.int 0,iF (bC .multiply [.loc 1,.gty "str"]) [sS 0<|.str [60,117,110,105,99,111,100,101,32,115,116,114,105,110,103,62],xM 42 [.loc 1],sS 4<|.bin .Add (.loc 1)<|.str [0]] []]⟩
def jB:FR:=⟨12,0,690,q "peek",q "Reader.peek",.ref 683,Ov,kc 45 1,qs ["self","index"],iB [.YI (iB [.ret<|.sub (fF 4)<|.bin .Add (fF 5)<|.loc 1])<|iB []]⟩
def lB:FR:=⟨13,0,698,q "prefix",q "Reader.prefix",.ref 691,Ov,kc 45 2,qs ["self","length"],iB [iF (.cmp .GtE (.bin .Add (fF 5)<|.loc 1)<|bC .add [fF 4]) [xM 43 [.loc 1]] [],.ret<|.slc (fF 4) (.yes<|fF 5)<|.yes<|.bin .Add (fF 5)<|.loc 1]⟩
def gS:FR:=⟨14,0,706,q "forward",q "Reader.forward",.ref 699,Ov,kc 45 3,qs ["self","length","ch"],iB [iF (.cmp .GtE (.bin .Add (.bin .Add (fF 5)<|.loc 1)<|.int 1)<|bC .add [fF 4]) [xM 43 [.bin .Add (.loc 1)<|.int 1]] [],wH (.loc 1) [.asg 2<|.sub (fF 4)<|fF 5,.HX (.loc 0) 5 .Add<|.int 1,.HX (.loc 0) 9 .Add<|.int 1,iF (bO .Or [cI (.loc 2)<|.str [10,133,8232,8233],bO .And [cE (.loc 2)<|.str [13],.cmp .NotEq (.sub (fF 4)<|fF 5)<|.str [10]]]) [.HX (.loc 0) 10 .Add<|.int 1,sS 11<|.int 0] [iF (.cmp .NotEq (.loc 2)<|.str [65279]) [.HX (.loc 0) 11 .Add<|.int 1] []],.CN 1 .Sub<|.int 1]]⟩
def lQ:FR:=⟨15,2,713,q "get_mark",q "Reader.get_mark",.none,Ov,kc 45 4,qs ["self"],iB [iF (.cmp .Is (fF 1) .none) [.ret<|mK 53 [fF 0,fF 9,fF 10,fF 11,fF 4,fF 5]] [.bot]]⟩
def iY:FR:=⟨16,3,720,q "check_printable",q "Reader.check_printable",.none,Ov,kc 45 5,qs ["self","data","start","character","position"],iB [.YH [2,3] (.loc 1)<|iB [iF (.not<|gC 668 [.loc 3]) [.bot,.bot] []]]⟩
def oY:FR:=⟨17,3,727,q "update",q "Reader.update",.none,Ov,kc 45 6,qs ["self","length"],iB [iF (.cmp .Is (fF 6) .none) [.ab4] []]⟩
def oF:FR:=⟨18,8,760,q "__init__",q "SimpleKey.__init__",.none,qQ,kc 48 0,qs ["self","token_number","required","index","line","column","mark"],iB [sS 44<|.loc 1,sS 45<|.loc 2,sS 9<|.loc 3,sS 10<|.loc 4,sS 11<|.loc 5,sS 46<|.loc 6]⟩
def ji:FR:=⟨19,0,792,q "check_token",q "Scanner.check_token",.ref 785,qQ,kc 49 1,qs ["self","choices"],iB [wH (sM 48 []) [xM 49 []],iF (fF 14) [iF (.not<|.loc 1) [.bot] [],iF (cI (.attr (.sub (fF 14)<|.int 0) 50)<|.loc 1) [.ret<|.bool true] []] [],.ret<|.bool false]⟩
def mG:FR:=⟨20,2,799,q "peek_token",q "Scanner.peek_token",.none,qQ,kc 49 2,qs ["self"],iB [wH (sM 48 []) [.bot],iF (fF 14) [.ret<|.sub (fF 14)<|.int 0] [.bot]]⟩
def mV:FR:=⟨21,2,806,q "get_token",q "Scanner.get_token",.none,qQ,kc 49 3,qs ["self"],iB [wH (sM 48 []) [.bot],iF (fF 14) [.HX (.loc 0) 15 .Add<|.int 1,.ret<|kC .pos (fF 14) [.int 0]] []]⟩
def jW:FR:=⟨22,2,813,q "need_more_tokens",q "Scanner.need_more_tokens",.none,qQ,kc 49 4,qs ["self"],iB [iF (fF 12) [.ret<|.bool false] [],iF (.not<|fF 14) [.ret<|.bool true] [],xM 51 [],iF (cE (sM 52 [])<|fF 15) [.ret<|.bool true] []]⟩
def jL:FR:=⟨23,2,820,q "fetch_more_tokens",q "Scanner.fetch_more_tokens",.none,qQ,kc 49 5,qs ["self","ch"],iB [xM 53 [],xM 51 [],xM 54 [fF 11],.asg 1<|sM 55 [],iF (cE (.loc 1)<|.str [0]) [.ret<|sM 56 []] [],iF (bO .And [cE (.loc 1)<|.str [37],sM 57 []]) [.bot] [],iF (bO .And [cE (.loc 1)<|.str [45],sM 59 []]) [.ret<|sM 60 []] [],iF (bO .And [cE (.loc 1)<|.str [46],sM 61 []]) [.bot] [],iF (cE (.loc 1)<|.str [91]) [.bot] [],iF (cE (.loc 1)<|.str [123]) [.bot] [],iF (cE (.loc 1)<|.str [93]) [.bot] [],iF (cE (.loc 1)<|.str [125]) [.bot] [],iF (cE (.loc 1)<|.str [44]) [.bot] [],iF (bO .And [cE (.loc 1)<|.str [45],sM 63 []]) [.ret<|sM 109 []] [],iF (bO .And [cE (.loc 1)<|.str [63],sM 64 []]) [.bot] [],iF (bO .And [cE (.loc 1)<|.str [58],sM 65 []]) [.bot] [],iF (cE (.loc 1)<|.str [42]) [.bot] [],iF (cE (.loc 1)<|.str [38]) [.bot] [],iF (cE (.loc 1)<|.str [33]) [.bot] [],iF (bO .And [cE (.loc 1)<|.str [124],.not<|fF 13]) [.ret<|sM 110 []] [],iF (bO .And [cE (.loc 1)<|.str [62],.not<|fF 13]) [.ret<|sM 111 []] [],iF (cE (.loc 1)<|.str [39]) [.ret<|sM 67 []] [],iF (cE (.loc 1)<|.str [34]) [.ret<|sM 68 []] [],iF (sM 69 []) [.ret<|sM 70 []] [],.bot]⟩
def ja:FR:=⟨24,2,827,q "next_possible_simple_key",q "Scanner.next_possible_simple_key",.none,qQ,kc 49 6,qs ["self","min_token_number","level","key"],iB [.asg 1 .none,.YG 2 (fF 19)<|iB [.asg 3<|.sub (fF 19)<|.loc 2,iF (bO .Or [.cmp .Is (.loc 1) .none,.cmp .Lt (.attr (.loc 3) 44)<|.loc 1]) [.asg 1<|.attr (.loc 3) 44] []],.ret<|.loc 1]⟩
def iV:FR:=⟨25,2,834,q "stale_possible_simple_keys",q "Scanner.stale_possible_simple_keys",.none,qQ,kc 49 7,qs ["self","level","key"],iB [.YF 1 (bC .maximum [fF 19])<|iB [.asg 2<|.sub (fF 19)<|.loc 1,iF (bO .Or [.cmp .NotEq (.attr (.loc 2) 10)<|fF 10,.cmp .Gt (.bin .Sub (fF 9)<|.attr (.loc 2) 9)<|.int 1024]) [iF (.attr (.loc 2) 45) [.bot] [],.del (fF 19)<|.loc 1] []]]⟩
def jb:FR:=⟨26,2,841,q "save_possible_simple_key",q "Scanner.save_possible_simple_key",.none,qQ,kc 49 8,qs ["self","required","token_number","key"],iB [.asg 1<|bO .And [.not<|fF 13,cE (fF 16)<|fF 11],iF (fF 18) [xM 71 [],.asg 2<|.bin .Add (fF 15)<|bC .add [fF 14],.asg 3<|mK 763 [.loc 2,.loc 1,fF 9,fF 10,fF 11,sM 72 []],.sets (fF 19) (fF 13)<|.loc 3] []]⟩
def iW:FR:=⟨27,2,848,q "remove_possible_simple_key",q "Scanner.remove_possible_simple_key",.none,qQ,kc 49 9,qs ["self","key"],iB [iF (cI (fF 13)<|fF 19) [.asg 1<|.sub (fF 19)<|fF 13,iF (.attr (.loc 1) 45) [.bot] [],.del (fF 19)<|fF 13] []]⟩
def jz:FR:=⟨28,3,855,q "unwind_indent",q "Scanner.unwind_indent",.none,qQ,kc 49 10,qs ["self","column","mark"],iB [iF (fF 13) [.bot] [],wH (.cmp .Gt (fF 16)<|.loc 1) [.asg 2<|sM 72 [],sS 16<|kC .pos (fF 17) [],.expr<|kC .neg (fF 14) [mK 227 [.loc 2,.loc 2]]]]⟩
def j7:FR:=⟨29,3,862,q "add_indent",q "Scanner.add_indent",.none,qQ,kc 49 11,qs ["self","column"],iB [iF (.cmp .Lt (fF 16)<|.loc 1) [.expr<|kC .neg (fF 17) [fF 16],sS 16<|.loc 1,.ret<|.bool true] [],.ret<|.bool false]⟩
def jC:FR:=⟨30,2,869,q "fetch_stream_start",q "Scanner.fetch_stream_start",.none,qQ,kc 49 12,qs ["self","mark"],iB [.asg 1<|sM 72 [],.expr<|kC .neg (fF 14) [.make 179 (iL [.loc 1,.loc 1]) [q "encoding"]<|iL [fF 8]]]⟩
def iy:FR:=⟨31,2,876,q "fetch_stream_end",q "Scanner.fetch_stream_end",.none,qQ,kc 49 13,qs ["self","mark"],iB [xM 54 [.neg<|.int 1],xM 71 [],sS 18<|.bool false,sS 19 .d0I,.asg 1<|sM 72 [],.expr<|kC .neg (fF 14) [mK 191 [.loc 1,.loc 1]],sS 12<|.bool true]⟩
def jn:FR:=⟨32,2,890,q "fetch_document_start",q "Scanner.fetch_document_start",.none,qQ,kc 49 15,qs ["self"],iB [xM 74 [.nP 147]]⟩
def jc:FR:=⟨33,3,904,q "fetch_document_indicator",q "Scanner.fetch_document_indicator",.none,qQ,kc 49 17,qs ["self","TokenClass","start_mark","end_mark"],iB [xM 54 [.neg<|.int 1],xM 71 [],sS 18<|.bool false,.asg 2<|sM 72 [],xM 75 [.int 3],.asg 3<|sM 72 [],.expr<|kC .neg (fF 14) [.J4 1<|iL [.loc 2,.loc 3]]]⟩
def iH:FR:=⟨34,2,960,q "fetch_block_entry",q "Scanner.fetch_block_entry",.none,qQ,kc 49 25,qs ["self","start_mark","end_mark","mark"],iB [iF (.not<|fF 13) [iF (.not<|fF 18) [.bot] [],iF (sM 112 [fF 11]) [.asg 3<|sM 72 [],.expr<|kC .neg (fF 14) [mK 203 [.loc 3,.loc 3]]] []] [.bot],sS 18<|.bool true,xM 71 [],.asg 1<|sM 72 [],xM 75 [],.asg 2<|sM 72 [],.expr<|kC .neg (fF 14) [mK 311 [.loc 1,.loc 2]]]⟩
def kY:FR:=⟨35,2,1002,q "fetch_literal",q "Scanner.fetch_literal",.none,qQ,kc 49 31,qs ["self"],iB [.expr<|.nQ (.loc 0) 113 .nil [q "style"]<|iL [.str [124]]]⟩
def lC:FR:=⟨36,2,1009,q "fetch_folded",q "Scanner.fetch_folded",.none,qQ,kc 49 32,qs ["self"],iB [.expr<|.nQ (.loc 0) 113 .nil [q "style"]<|iL [.str [62]]]⟩
def iD:FR:=⟨37,0,1016,q "fetch_block_scalar",q "Scanner.fetch_block_scalar",.none,qQ,kc 49 33,qs ["self","style"],iB [sS 18<|.bool true,xM 71 [],.expr<|kC .neg (fF 14) [sM 114 [.loc 1]]]⟩
def lD:FR:=⟨38,2,1023,q "fetch_single",q "Scanner.fetch_single",.none,qQ,kc 49 34,qs ["self"],iB [.expr<|.nQ (.loc 0) 78 .nil [q "style"]<|iL [.str [39]]]⟩
def lE:FR:=⟨39,2,1030,q "fetch_double",q "Scanner.fetch_double",.none,qQ,kc 49 35,qs ["self"],iB [.expr<|.nQ (.loc 0) 78 .nil [q "style"]<|iL [.str [34]]]⟩
def iI:FR:=⟨40,0,1037,q "fetch_flow_scalar",q "Scanner.fetch_flow_scalar",.none,qQ,kc 49 36,qs ["self","style"],iB [xM 76 [],sS 18<|.bool false,.expr<|kC .neg (fF 14) [sM 79 [.loc 1]]]⟩
def lR:FR:=⟨41,2,1044,q "fetch_plain",q "Scanner.fetch_plain",.none,qQ,kc 49 37,qs ["self"],iB [xM 76 [],sS 18<|.bool false,.expr<|kC .neg (fF 14) [sM 80 []]]⟩
def jo:FR:=⟨42,2,1058,q "check_document_start",q "Scanner.check_document_start",.none,qQ,kc 49 39,qs ["self"],iB [iF (cE (fF 11)<|.int 0) [iF (bO .And [cE (sM 81 [.int 3])<|.str [45,45,45],cI (sM 55 [.int 3])<|.str [0,32,9,13,10,133,8232,8233]]) [.ret<|.bool true] []] []]⟩
def jM:FR:=⟨43,2,1072,q "check_block_entry",q "Scanner.check_block_entry",.none,qQ,kc 49 41,qs ["self"],iB [.ret<|cI (sM 55 [.int 1])<|.str [0,32,9,13,10,133,8232,8233]]⟩
def mW:FR:=⟨44,2,1079,q "check_key",q "Scanner.check_key",.none,qQ,kc 49 42,qs ["self"],iB [iF (fF 13) [.bot] [.ret<|cI (sM 55 [.int 1])<|.str [0,32,9,13,10,133,8232,8233]]]⟩
def lS:FR:=⟨45,2,1086,q "check_value",q "Scanner.check_value",.none,qQ,kc 49 43,qs ["self"],iB [iF (fF 13) [.bot] [.ret<|cI (sM 55 [.int 1])<|.str [0,32,9,13,10,133,8232,8233]]]⟩
def lT:FR:=⟨46,2,1093,q "check_plain",q "Scanner.check_plain",.none,qQ,kc 49 44,qs ["self","ch"],iB [.asg 1<|sM 55 [],.ret<|bO .Or [.cmp .NotIn (.loc 1)<|.str [0,32,9,13,10,133,8232,8233,45,63,58,44,91,93,123,125,35,38,42,33,124,62,39,34,37,64,96],bO .And [.cmp .NotIn (sM 55 [.int 1])<|.str [0,32,9,13,10,133,8232,8233],bO .Or [cE (.loc 1)<|.str [45],bO .And [.not<|fF 13,cI (.loc 1)<|.str [63,58]]]]]]⟩
def gX:FR:=⟨47,2,1100,q "scan_to_next_token",q "Scanner.scan_to_next_token",.none,qQ,kc 49 45,qs ["self","found"],iB [iF (bO .And [cE (fF 9)<|.int 0,cE (sM 55 [])<|.str [65279]]) [.bot] [],.asg 1<|.bool false,wH (.not<|.loc 1) [wH (cE (sM 55 [])<|.str [32]) [xM 75 []],iF (cE (sM 55 [])<|.str [35]) [.bot] [],iF (sM 82 []) [iF (.not<|fF 13) [sS 18<|.bool true] []] [.asg 1<|.bool true]]]⟩
def gw:FR:=⟨48,3,1177,q "scan_block_scalar",q "Scanner.scan_block_scalar",.none,qQ,kc 49 56,qs ["self","style","chunks","start_mark","min_indent","line_break","folded","chomping","increment","indent","leading_non_space","length","breaks","max_indent","end_mark"],iB [iF (cE (.loc 1)<|.str [62]) [.asg 6<|.bool true] [.asg 6<|.bool false],.asg 2<|.list .nil,.asg 3<|sM 72 [],xM 75 [],.CM [7,8]<|sM 115 [.loc 3],xM 116 [.loc 3],.asg 4<|.bin .Add (fF 16)<|.int 1,iF (.cmp .Lt (.loc 4)<|.int 1) [.bot] [],iF (.cmp .Is (.loc 8) .none) [.CM [12,13,14]<|sM 117 [],.asg 9<|bC .minimum [.loc 4,.loc 13]] [.asg 9<|.bin .Sub (.bin .Add (.loc 4)<|.loc 8)<|.int 1,.CM [12,14]<|sM 118 [.loc 9]],.asg 5<|.str [],wH (bO .And [cE (fF 11)<|.loc 9,.cmp .NotEq (sM 55 [])<|.str [0]]) [.expr<|kC .abs (.loc 2) [.loc 12],.asg 10<|.cmp .NotIn (sM 55 [])<|.str [32,9],.asg 11<|.int 0,wH (.cmp .NotIn (sM 55 [.loc 11])<|.str [0,13,10,133,8232,8233]) [.CN 11 .Add<|.int 1],.expr<|kC .neg (.loc 2) [sM 81 [.loc 11]],xM 75 [.loc 11],.asg 5<|sM 82 [],.CM [12,14]<|sM 118 [.loc 9],iF (bO .And [cE (fF 11)<|.loc 9,.cmp .NotEq (sM 55 [])<|.str [0]]) [iF (bO .And [.loc 6,cE (.loc 5)<|.str [10],.loc 10,.cmp .NotIn (sM 55 [])<|.str [32,9]]) [iF (.not<|.loc 12) [.expr<|kC .neg (.loc 2) [.str [32]]] []] [.expr<|kC .neg (.loc 2) [.loc 5]]] [.brk]],iF (.cmp .IsNot (.loc 7)<|.bool false) [.expr<|kC .neg (.loc 2) [.loc 5]] [],iF (.cmp .Is (.loc 7)<|.bool true) [.expr<|kC .abs (.loc 2) [.loc 12]] [],.ret<|mK 400 [kC .invert (.str []) [.loc 2],.bool false,.loc 3,.loc 14,.loc 1]]⟩
def iR:FR:=⟨49,3,1184,q "scan_block_scalar_indicators",q "Scanner.scan_block_scalar_indicators",.none,qQ,kc 49 57,qs ["self","start_mark","chomping","increment","ch"],iB [.asg 2 .none,.asg 3 .none,.asg 4<|sM 55 [],iF (cI (.loc 4)<|.str [43,45]) [iF (cE (.loc 4)<|.str [43]) [.asg 2<|.bool true] [.asg 2<|.bool false],xM 75 [],.asg 4<|sM 55 [],iF (cI (.loc 4)<|.str [48,49,50,51,52,53,54,55,56,57]) [.asg 3<|bC .subtract [.loc 4],iF (cE (.loc 3)<|.int 0) [.bot] [],xM 75 []] []] [iF (cI (.loc 4)<|.str [48,49,50,51,52,53,54,55,56,57]) [.asg 3<|bC .subtract [.loc 4],iF (cE (.loc 3)<|.int 0) [.bot] [],xM 75 [],.asg 4<|sM 55 [],iF (cI (.loc 4)<|.str [43,45]) [iF (cE (.loc 4)<|.str [43]) [.asg 2<|.bool true] [.asg 2<|.bool false],xM 75 []] []] []],.asg 4<|sM 55 [],iF (.cmp .NotIn (.loc 4)<|.str [0,32,13,10,133,8232,8233]) [.bot] [],.ret<|tU [.loc 2,.loc 3]]⟩
def iJ:FR:=⟨50,3,1191,q "scan_block_scalar_ignored_line",q "Scanner.scan_block_scalar_ignored_line",.none,qQ,kc 49 58,qs ["self","start_mark","ch"],iB [wH (cE (sM 55 [])<|.str [32]) [.bot],iF (cE (sM 55 [])<|.str [35]) [.bot] [],.asg 2<|sM 55 [],iF (.cmp .NotIn (.loc 2)<|.str [0,13,10,133,8232,8233]) [.bot] [],xM 82 []]⟩
def gK:FR:=⟨51,2,1198,q "scan_block_scalar_indentation",q "Scanner.scan_block_scalar_indentation",.none,qQ,kc 49 59,qs ["self","chunks","max_indent","end_mark"],iB [.asg 1<|.list .nil,.asg 2<|.int 0,.asg 3<|sM 72 [],wH (cI (sM 55 [])<|.str [32,13,10,133,8232,8233]) [iF (.cmp .NotEq (sM 55 [])<|.str [32]) [.expr<|kC .neg (.loc 1) [sM 82 []],.asg 3<|sM 72 []] [xM 75 [],iF (.cmp .Gt (fF 11)<|.loc 2) [.asg 2<|fF 11] []]],.ret<|tU [.loc 1,.loc 2,.loc 3]]⟩
def g6:FR:=⟨52,3,1205,q "scan_block_scalar_breaks",q "Scanner.scan_block_scalar_breaks",.none,qQ,kc 49 60,qs ["self","indent","chunks","end_mark"],iB [.asg 2<|.list .nil,.asg 3<|sM 72 [],wH (bO .And [.cmp .Lt (fF 11)<|.loc 1,cE (sM 55 [])<|.str [32]]) [xM 75 []],wH (cI (sM 55 [])<|.str [13,10,133,8232,8233]) [.expr<|kC .neg (.loc 2) [sM 82 []],.asg 3<|sM 72 [],wH (bO .And [.cmp .Lt (fF 11)<|.loc 1,cE (sM 55 [])<|.str [32]]) [xM 75 []]],.ret<|tU [.loc 2,.loc 3]]⟩
def gT:FR:=⟨53,3,1212,q "scan_flow_scalar",q "Scanner.scan_flow_scalar",.none,qQ,kc 49 61,qs ["self","style","chunks","start_mark","quote","end_mark","double"],iB [iF (cE (.loc 1)<|.str [34]) [.asg 6<|.bool true] [.asg 6<|.bool false],.asg 2<|.list .nil,.asg 3<|sM 72 [],.asg 4<|sM 55 [],xM 75 [],.expr<|kC .abs (.loc 2) [sM 92 [.loc 6,.loc 3]],wH (.cmp .NotEq (sM 55 [])<|.loc 4) [.expr<|kC .abs (.loc 2) [sM 119 [.loc 6,.loc 3]],.expr<|kC .abs (.loc 2) [sM 92 [.loc 6,.loc 3]]],xM 75 [],.asg 5<|sM 72 [],.ret<|mK 400 [kC .invert (.str []) [.loc 2],.bool false,.loc 3,.loc 5,.loc 1]]⟩
def gF:FR:=⟨54,4,1222,q "scan_flow_scalar_non_spaces",q "Scanner.scan_flow_scalar_non_spaces",.none,qQ,kc 49 64,qs ["self","double","start_mark","chunks","length","ch","k","code"],iB [.asg 3<|.list .nil,wH (.bool true) [.asg 4<|.int 0,wH (.cmp .NotIn (sM 55 [.loc 4])<|.str [39,34,92,0,32,9,13,10,133,8232,8233]) [.CN 4 .Add<|.int 1],iF (.loc 4) [.expr<|kC .neg (.loc 3) [sM 81 [.loc 4]],xM 75 [.loc 4]] [],.asg 5<|sM 55 [],iF (bO .And [.not<|.loc 1,cE (.loc 5)<|.str [39],cE (sM 55 [.int 1])<|.str [39]]) [.expr<|kC .neg (.loc 3) [.str [39]],xM 75 [.int 2]] [iF (bO .Or [bO .And [.loc 1,cE (.loc 5)<|.str [39]],bO .And [.not<|.loc 1,cI (.loc 5)<|.str [34,92]]]) [.expr<|kC .neg (.loc 3) [.loc 5],xM 75 []] [iF (bO .And [.loc 1,cE (.loc 5)<|.str [92]]) [xM 75 [],.asg 5<|sM 55 [],iF (.YC (.loc 5)<|fF 120) [.expr<|kC .neg (.loc 3) [.S9 (fF 120)<|.loc 5],xM 75 []] [iF (.YC (.loc 5)<|fF 121) [.asg 4<|.S9 (fF 121)<|.loc 5,xM 75 [],.Eo 6 (.loc 4)<|iB [iF (.cmp .NotIn (sM 55 [.loc 6])<|.str [48,49,50,51,52,53,54,55,56,57,65,66,67,68,69,70,97,98,99,100,101,102]) [.bot] []],.asg 7<|bC .fmin [sM 81 [.loc 4],.int 16],.expr<|kC .neg (.loc 3) [bC .fmax [.loc 7]],xM 75 [.loc 4]] [iF (cI (.loc 5)<|.str [13,10,133,8232,8233]) [xM 82 [],.expr<|kC .abs (.loc 3) [sM 122 [.loc 1,.loc 2]]] [.bot]]]] [.ret<|.loc 3]]]]]⟩
def gU:FR:=⟨55,4,1229,q "scan_flow_scalar_spaces",q "Scanner.scan_flow_scalar_spaces",.none,qQ,kc 49 65,qs ["self","double","start_mark","chunks","length","whitespaces","ch","line_break","breaks"],iB [.asg 3<|.list .nil,.asg 4<|.int 0,wH (cI (sM 55 [.loc 4])<|.str [32,9]) [.CN 4 .Add<|.int 1],.asg 5<|sM 81 [.loc 4],xM 75 [.loc 4],.asg 6<|sM 55 [],iF (cE (.loc 6)<|.str [0]) [.bot] [iF (cI (.loc 6)<|.str [13,10,133,8232,8233]) [.asg 7<|sM 82 [],.asg 8<|sM 122 [.loc 1,.loc 2],iF (.cmp .NotEq (.loc 7)<|.str [10]) [.expr<|kC .neg (.loc 3) [.loc 7]] [iF (.not<|.loc 8) [.expr<|kC .neg (.loc 3) [.str [32]]] []],.expr<|kC .abs (.loc 3) [.loc 8]] [.expr<|kC .neg (.loc 3) [.loc 5]]],.ret<|.loc 3]⟩
def g9:FR:=⟨56,4,1236,q "scan_flow_scalar_breaks",q "Scanner.scan_flow_scalar_breaks",.none,qQ,kc 49 66,qs ["self","double","start_mark","chunks","prefix"],iB [.asg 3<|.list .nil,wH (.bool true) [.asg 4<|sM 81 [.int 3],iF (bO .And [bO .Or [cE (.loc 4)<|.str [45,45,45],cE (.loc 4)<|.str [46,46,46]],cI (sM 55 [.int 3])<|.str [0,32,9,13,10,133,8232,8233]]) [.bot] [],wH (cI (sM 55 [])<|.str [32,9]) [xM 75 []],iF (cI (sM 55 [])<|.str [13,10,133,8232,8233]) [.expr<|kC .neg (.loc 3) [sM 82 []]] [.ret<|.loc 3]]]⟩
def iO:FR:=⟨57,2,1243,q "scan_plain",q "Scanner.scan_plain",.none,qQ,kc 49 67,qs ["self","chunks","start_mark","end_mark","indent","spaces","length","ch"],iB [.asg 1<|.list .nil,.asg 2<|sM 72 [],.asg 3<|.loc 2,.asg 4<|.bin .Add (fF 16)<|.int 1,.asg 5<|.list .nil,wH (.bool true) [.asg 6<|.int 0,iF (cE (sM 55 [])<|.str [35]) [.bot] [],wH (.bool true) [.asg 7<|sM 55 [.loc 6],iF (bO .Or [cI (.loc 7)<|.str [0,32,9,13,10,133,8232,8233],bO .And [cE (.loc 7)<|.str [58],cI (sM 55 [.bin .Add (.loc 6)<|.int 1])<|.bin .Add (.str [0,32,9,13,10,133,8232,8233])<|.JV (fF 13) (.str [44,91,93,123,125])<|.str []],bO .And [fF 13,cI (.loc 7)<|.str [44,63,91,93,123,125]]]) [.brk] [],.CN 6 .Add<|.int 1],iF (cE (.loc 6)<|.int 0) [.bot] [],sS 18<|.bool false,.expr<|kC .abs (.loc 1) [.loc 5],.expr<|kC .neg (.loc 1) [sM 81 [.loc 6]],xM 75 [.loc 6],.asg 3<|sM 72 [],.asg 5<|sM 93 [.loc 4,.loc 2],iF (bO .Or [.not<|.loc 5,cE (sM 55 [])<|.str [35],bO .And [.not<|fF 13,.cmp .Lt (fF 11)<|.loc 4]]) [.brk] []],.ret<|mK 400 [kC .invert (.str []) [.loc 1],.bool true,.loc 2,.loc 3]]⟩
def gQ:FR:=⟨58,4,1250,q "scan_plain_spaces",q "Scanner.scan_plain_spaces",.none,qQ,kc 49 68,qs ["self","indent","start_mark","chunks","length","whitespaces","ch","line_break","prefix","breaks"],iB [.asg 3<|.list .nil,.asg 4<|.int 0,wH (cI (sM 55 [.loc 4])<|.str [32]) [.CN 4 .Add<|.int 1],.asg 5<|sM 81 [.loc 4],xM 75 [.loc 4],.asg 6<|sM 55 [],iF (cI (.loc 6)<|.str [13,10,133,8232,8233]) [.asg 7<|sM 82 [],sS 18<|.bool true,.asg 8<|sM 81 [.int 3],iF (bO .And [bO .Or [cE (.loc 8)<|.str [45,45,45],cE (.loc 8)<|.str [46,46,46]],cI (sM 55 [.int 3])<|.str [0,32,9,13,10,133,8232,8233]]) [.bot] [],.asg 9<|.list .nil,wH (cI (sM 55 [])<|.str [32,13,10,133,8232,8233]) [iF (cE (sM 55 [])<|.str [32]) [xM 75 []] [.expr<|kC .neg (.loc 9) [sM 82 []],.asg 8<|sM 81 [.int 3],iF (bO .And [bO .Or [cE (.loc 8)<|.str [45,45,45],cE (.loc 8)<|.str [46,46,46]],cI (sM 55 [.int 3])<|.str [0,32,9,13,10,133,8232,8233]]) [.bot] []]],iF (.cmp .NotEq (.loc 7)<|.str [10]) [.expr<|kC .neg (.loc 3) [.loc 7]] [iF (.not<|.loc 9) [.expr<|kC .neg (.loc 3) [.str [32]]] []],.expr<|kC .abs (.loc 3) [.loc 9]] [iF (.loc 5) [.expr<|kC .neg (.loc 3) [.loc 5]] []],.ret<|.loc 3]⟩
def jZ:FR:=⟨59,2,1278,q "scan_line_break",q "Scanner.scan_line_break",.none,qQ,kc 49 72,qs ["self","ch"],iB [.asg 1<|sM 55 [],iF (cI (.loc 1)<|.str [13,10,133]) [iF (cE (sM 81 [.int 2])<|.str [13,10]) [xM 75 [.int 2]] [xM 75 []],.ret<|.str [10]] [iF (cI (.loc 1)<|.str [8232,8233]) [xM 75 [],.ret<|.loc 1] []],.ret<|.str []]⟩
def lA:FR:=⟨60,2,1333,q "get_event",q "Parser.get_event",.none,HY,kc 52 4,qs ["self","value"],iB [iF (.cmp .Is (fF 20) .none) [iF (fF 25) [sS 20<|.J3 (.loc 0) 25] []] [],.asg 1<|fF 20,sS 20 .none,.ret<|.loc 1]⟩
def jN:FR:=⟨61,2,1340,q "parse_stream_start",q "Parser.parse_stream_start",.none,HY,kc 52 5,qs ["self","token","event"],iB [.asg 1<|sM 95 [],.asg 2<|.make 501 (iL [.attr (.loc 1) 31,.attr (.loc 1) 32]) [q "encoding"]<|iL [.attr (.loc 1) 8],sS 25<|.vC (.loc 0) 96,.ret<|.loc 2]⟩
def iu:FR:=⟨62,2,1347,q "parse_implicit_document_start",q "Parser.parse_implicit_document_start",.none,HY,kc 52 6,qs ["self","token","start_mark","end_mark","event"],iB [iF (.not<|sM 97 [tU [.attr (.nP 135) 50,.attr (.nP 147) 50,.attr (.nP 191) 50]]) [sS 22<|fF 98,.asg 1<|sM 99 [],.OF 2 3<|.attr (.loc 1) 31,.asg 4<|.make 533 (iL [.loc 2,.loc 3]) [q "explicit"]<|iL [.bool false],.expr<|kC .neg (fF 23) [.vC (.loc 0) 100],sS 25<|.vC (.loc 0) 101,.ret<|.loc 4] [.ret<|sM 102 []]]⟩
def iX:FR:=⟨63,2,1354,q "parse_document_start",q "Parser.parse_document_start",.none,HY,kc 52 7,qs ["self","token","start_mark","end_mark","event","version","tags"],iB [wH (sM 97 [tU [.attr (.nP 159) 50]]) [.bot],iF (.not<|sM 97 [tU [.attr (.nP 191) 50]]) [.asg 1<|sM 99 [],.asg 2<|.attr (.loc 1) 31,.CM [5,6]<|sM 103 [],iF (.not<|sM 97 [tU [.attr (.nP 147) 50]]) [.bot] [],.asg 1<|sM 95 [],.asg 3<|.attr (.loc 1) 32,.asg 4<|.make 533 (iL [.loc 2,.loc 3]) [q "explicit",q "version",q "tags"]<|iL [.bool true,.loc 5,.loc 6],.expr<|kC .neg (fF 23) [.vC (.loc 0) 100],sS 25<|.vC (.loc 0) 104] [.asg 1<|sM 95 [],.asg 4<|mK 513 [.attr (.loc 1) 31,.attr (.loc 1) 32],.Vh<|.not<|fF 23,.Vh<|.not<|fF 24,sS 25 .none],.ret<|.loc 4]⟩
def jO:FR:=⟨64,2,1361,q "parse_document_end",q "Parser.parse_document_end",.none,HY,kc 52 8,qs ["self","token","start_mark","end_mark","explicit","event"],iB [.asg 1<|sM 99 [],.OF 2 3<|.attr (.loc 1) 31,.asg 4<|.bool false,iF (sM 97 [tU [.attr (.nP 159) 50]]) [.bot,.bot,.bot] [],.asg 5<|.make 553 (iL [.loc 2,.loc 3]) [q "explicit"]<|iL [.loc 4],sS 25<|.vC (.loc 0) 102,.ret<|.loc 5]⟩
def jj:FR:=⟨65,2,1368,q "parse_document_content",q "Parser.parse_document_content",.none,HY,kc 52 9,qs ["self","event"],iB [iF (sM 97 [tU [.attr (.nP 135) 50,.attr (.nP 147) 50,.attr (.nP 159) 50,.attr (.nP 191) 50]]) [.bot,.bot,.bot] [.ret<|sM 101 []]]⟩
def jP:FR:=⟨66,2,1375,q "process_directives",q "Parser.process_directives",.none,HY,kc 52 10,qs ["self","key","token","value","major","minor","handle","prefix"],iB [sS 21 .none,sS 22 .d0S,wH (sM 97 [tU [.attr (.nP 135) 50]]) [.bot,.bot],iF (fF 22) [.bot] [.asg 3<|tU [fF 21,.none]],.spec 2,.ret<|.loc 3]⟩
def jk:FR:=⟨67,2,1382,q "parse_block_node",q "Parser.parse_block_node",.none,HY,kc 52 11,qs ["self"],iB [.ret<|.nQ (.loc 0) 106 .nil [q "block"]<|iL [.bool true]]⟩
def jf:FR:=⟨68,0,1404,q "parse_node",q "Parser.parse_node",.ref 1397,HY,kc 52 14,qs ["self","block","indentless_sequence","token","event","anchor","tag","start_mark","end_mark","tag_mark","implicit","handle","suffix","node"],iB [iF (sM 97 [tU [.attr (.nP 342) 50]]) [.bot,.bot,.bot] [.asg 5 .none,.asg 6 .none,.YD 7 8 9 .none,iF (sM 97 [tU [.attr (.nP 361) 50]]) [.bot,.bot,.bot,.bot,.bot] [iF (sM 97 [tU [.attr (.nP 380) 50]]) [.bot,.bot,.bot,.bot,.bot] []],iF (.cmp .IsNot (.loc 6) .none) [.bot,.bot] [],iF (.cmp .Is (.loc 7) .none) [.OF 7 8<|.attr (sM 99 []) 31] [],.asg 4 .none,.asg 10<|bO .Or [.cmp .Is (.loc 6) .none,cE (.loc 6)<|.str [33]],iF (bO .And [.loc 2,sM 97 [tU [.attr (.nP 311) 50]]]) [.bot,.bot,.bot] [iF (sM 97 [tU [.attr (.nP 400) 50]]) [.asg 3<|sM 95 [],.asg 8<|.attr (.loc 3) 32,iF (bO .Or [bO .And [.attr (.loc 3) 34,.cmp .Is (.loc 6) .none],cE (.loc 6)<|.str [33]]) [.asg 10<|tU [.bool true,.bool false]] [iF (.cmp .Is (.loc 6) .none) [.asg 10<|tU [.bool false,.bool true]] [.bot]],.asg 4<|.make 585 (iL [.loc 5,.loc 6,.loc 10,.attr (.loc 3) 33,.loc 7,.loc 8]) [q "style"]<|iL [.attr (.loc 3) 35],sS 25<|kC .pos (fF 23) []] [iF (sM 97 [tU [.attr (.nP 239) 50]]) [.bot,.bot,.bot] [iF (sM 97 [tU [.attr (.nP 251) 50]]) [.bot,.bot,.bot] [iF (bO .And [.loc 1,sM 97 [tU [.attr (.nP 203) 50]]]) [.asg 8<|.attr (sM 99 []) 31,.asg 4<|.make 597 (iL [.loc 5,.loc 6,.loc 10,.loc 7,.loc 8]) [q "flow_style"]<|iL [.bool false],sS 25<|.vC (.loc 0) 123] [.bot]]]]]],.ret<|.loc 4]⟩
def iE:FR:=⟨69,2,1411,q "parse_block_sequence_first_entry",q "Parser.parse_block_sequence_first_entry",.none,HY,kc 52 15,qs ["self","token"],iB [.asg 1<|sM 95 [],.expr<|kC .neg (fF 24) [.attr (.loc 1) 31],.ret<|sM 124 []]⟩
def iz:FR:=⟨70,2,1418,q "parse_block_sequence_entry",q "Parser.parse_block_sequence_entry",.none,HY,kc 52 16,qs ["self","token","event"],iB [iF (sM 97 [tU [.attr (.nP 311) 50]]) [.asg 1<|sM 95 [],iF (.not<|sM 97 [tU [.attr (.nP 311) 50,.attr (.nP 227) 50]]) [.expr<|kC .neg (fF 23) [.vC (.loc 0) 124],.ret<|sM 101 []] [.bot,.bot]] [],iF (.not<|sM 97 [tU [.attr (.nP 227) 50]]) [.bot,.bot] [],.asg 1<|sM 95 [],.asg 2<|mK 609 [.attr (.loc 1) 31,.attr (.loc 1) 32],sS 25<|kC .pos (fF 23) [],.expr<|kC .pos (fF 24) [],.ret<|.loc 2]⟩
def pG:FR:=⟨71,1,1531,q "_law_ENDS",q "_law_ENDS",.none,F7,sG 55,qs [],iB [.ret<|.list<|iL [.str [10],.str [13,10],.str [133]]]⟩
def qx:FR:=⟨72,1,1538,q "_law_ESCAPES",q "_law_ESCAPES",.none,F7,sG 56,qs [],iB [.spec 3]⟩
def s9:FR:=⟨73,2,1545,q "_law_flag",q "_law_flag",.none,F7,sG 57,qs ["told"],iB [iF (.cmp .Is (.loc 0)<|.bool true) [.ret<|.str [121,101,115]] [],iF (.cmp .Is (.loc 0)<|.bool false) [.ret<|.str [110,111]] [],.bot]⟩
def n9:FR:=⟨74,4,1552,q "_law_pick",q "_law_pick",.none,F7,sG 58,qs ["salt","spot","many"],iB [.ret<|.bin .Mod (.bin .Add (.bin .FloorDiv (.sub (.loc 0)<|.int 0)<|.bin .Add (.int 1)<|.bin .Mod (.loc 1)<|.int 7)<|.bin .Mult (.sub (.loc 0)<|.int 1)<|.bin .Add (.loc 1)<|.int 1)<|.loc 2]⟩
def jg:FR:=⟨75,3,1557,q "_law_ends",q "_law_ends",.none,F7,sG 59,qs ["run","salt"],iB [.bot]⟩
def pH:FR:=⟨76,2,1564,q "_law_runs",q "_law_runs",.none,F7,sG 60,qs ["value","rows","row","run","c"],iB [.asg 1<|.list .nil,.asg 2<|.str [],.asg 3<|.str [],.YJ 4 (.loc 0)<|iB [iF (cI (.loc 4)<|tU [.str [10],.str [8232]]) [.asg 3<|.bin .Add (.loc 3)<|.loc 4] [iF (cE (.loc 3)<|.str []) [.asg 2<|.bin .Add (.loc 2)<|.loc 4] [.expr<|kC .neg (.loc 1) [tU [.loc 2,.loc 3]],.asg 2<|.loc 4,.asg 3<|.str []]]],.expr<|kC .neg (.loc 1) [tU [.loc 2,.loc 3]],.ret<|.loc 1]⟩
def lU:FR:=⟨77,2,1571,q "_law_apart",q "_law_apart",.none,F7,sG 61,qs ["value","rows","number","row","run"],iB [.asg 1<|gC 1564 [.loc 0],.Eo 2 (bC .add [.loc 1])<|iB [.CM [3,4]<|.sub (.loc 1)<|.loc 2,iF (bO .And [.cmp .NotEq (.loc 4)<|.str [],cI (.slc (.loc 3) (.yes<|.neg<|.int 1) .no)<|tU [.str [32],.str [9]]]) [.ret<|.bool false] [],iF (bO .And [.cmp .Gt (.loc 2)<|.int 0,cI (.sub (.loc 3)<|.int 0)<|tU [.str [32],.str [9]]]) [.ret<|.bool false] []],.ret<|.bool true]⟩
def jD:FR:=⟨78,2,1578,q "_law_bare",q "_law_bare",.none,F7,sG 62,qs ["value","spot","c","nigh"],iB [iF (bO .Or [cE (.loc 0)<|.str [],cI (.sub (.loc 0)<|.int 0)<|.str [32,10,8232,39,34,35],cI (.sub (.loc 0)<|.neg<|.int 1)<|.str [32,10,8232]]) [.ret<|.bool false] [],.Eo 1 (bC .add [.loc 0])<|iB [.asg 2<|.sub (.loc 0)<|.loc 1,.asg 3<|cI (.slc (.loc 0) (.yes<|.bin .Add (.loc 1)<|.int 1)<|.yes<|.bin .Add (.loc 1)<|.int 2)<|tU [.str [],.str [32],.str [10],.str [8232],.str [9]],iF (bO .Or [cI (.loc 2)<|.str [9,7],bO .And [cE (.loc 2)<|.str [58],.loc 3],bO .And [cE (.loc 1)<|.int 0,cI (.loc 2)<|.str [45,63],.loc 3]]) [.ret<|.bool false] [],iF (bO .And [cE (.loc 2)<|.str [35],cI (.sub (.loc 0)<|.bin .Sub (.loc 1)<|.int 1)<|.str [32,10,8232]]) [.ret<|.bool false] []],.ret<|gC 1571 [.loc 0]]⟩
def lq:FR:=⟨79,4,1585,q "_law_broken",q "_law_broken",.none,F7,sG 63,qs ["row","salt","margin","written","spot","c"],iB [.asg 3<|.str [],.Eo 4 (bC .add [.loc 0])<|iB [.asg 5<|.sub (.loc 0)<|.loc 4,iF (bO .And [cE (.loc 5)<|.str [32],.chain .Lt .Lt (.int 0) (.loc 4)<|.bin .Sub (bC .add [.loc 0])<|.int 1,.cmp .NotIn (.sub (.loc 0)<|.bin .Sub (.loc 4)<|.int 1)<|.str [32,9],.cmp .NotIn (.sub (.loc 0)<|.bin .Add (.loc 4)<|.int 1)<|.str [32,9],cE (gC 1552 [.loc 1,.loc 4,.int 2])<|.int 1]) [.asg 5<|.bin .Add (.sub (gC 1531 [])<|gC 1552 [.loc 1,.bin .Add (.loc 4)<|.int 3,.int 3])<|.loc 2] [],.asg 3<|.bin .Add (.loc 3)<|.loc 5],.ret<|.loc 3]⟩
def oh:FR:=⟨80,4,1592,q "_law_open",q "_law_open",.none,F7,sG 64,qs ["value","salt","margin","written","row","run"],iB [.asg 3<|.str [],.Vi [4,5] (gC 1564 [.loc 0])<|iB [.asg 3<|.bin .Add (.loc 3)<|gC 1585 [.loc 4,.loc 1,.loc 2],iF (.cmp .NotEq (.loc 5)<|.str []) [.asg 3<|.bin .Add (.bin .Add (.loc 3)<|gC 1557 [.JV (cE (.sub (.loc 5)<|.int 0)<|.str [10]) (.bin .Add (.str [10])<|.loc 5)<|.loc 5,.loc 1])<|.loc 2] []],.ret<|.loc 3]⟩
def jX:FR:=⟨81,4,1599,q "_law_double",q "_law_double",.none,F7,sG 65,qs ["value","salt","margin","written","spot","c","choice"],iB [.asg 3<|.str [34],.Eo 4 (bC .add [.loc 0])<|iB [.asg 5<|.sub (.loc 0)<|.loc 4,.asg 6<|gC 1552 [.loc 1,.loc 4,.int 5],iF (cI (.loc 5)<|gC 1538 []) [.asg 5<|.sub (gC 1538 [])<|.loc 5] [iF (bO .And [cE (.loc 5)<|.str [233],cE (.bin .Mod (.loc 6)<|.int 2)<|.int 1]) [.asg 5<|.str [92,120,101,57]] [iF (bO .And [cE (.loc 5)<|.str [32],cE (.loc 6)<|.int 1]) [.asg 5<|.str [92,32]] [iF (bO .And [cE (.loc 5)<|.str [32],cE (.loc 6)<|.int 2,.chain .Lt .Lt (.int 0) (.loc 4)<|.bin .Sub (bC .add [.loc 0])<|.int 1,.cmp .NotEq (.sub (.loc 0)<|.bin .Sub (.loc 4)<|.int 1)<|.str [32],.cmp .NotEq (.sub (.loc 0)<|.bin .Add (.loc 4)<|.int 1)<|.str [32]]) [.asg 5<|.bin .Add (.sub (gC 1531 [])<|gC 1552 [.loc 1,.bin .Add (.loc 4)<|.int 3,.int 3])<|.loc 2] []]]],.asg 3<|.bin .Add (.loc 3)<|.loc 5,iF (bO .And [cE (.loc 6)<|.int 3,.cmp .NotEq (.slc (.loc 0) (.yes<|.bin .Add (.loc 4)<|.int 1)<|.yes<|.bin .Add (.loc 4)<|.int 2)<|.str [32]]) [.asg 3<|.bin .Add (.bin .Add (.bin .Add (.loc 3)<|.str [92])<|.sub (gC 1531 [])<|gC 1552 [.loc 1,.bin .Add (.loc 4)<|.int 1,.int 3])<|.loc 2] []],.ret<|.bin .Add (.loc 3)<|.str [34]]⟩
def gJ:FR:=⟨82,5,1606,q "_law_block",q "_law_block",.none,F7,sG 66,qs ["value","folded","salt","least","rows","tail","wide","margin","words","digit","written","number","chomp","soft","row","run"],iB [.asg 4<|gC 1564 [.loc 0],.asg 5<|.sub (.sub (.loc 4)<|.bin .Sub (bC .add [.loc 4])<|.int 1)<|.int 1,.asg 6<|gC 1552 [.loc 2,.int 2,.int 2],.asg 7<|.bin .Mult (.str [32])<|.bin .Add (.loc 3)<|.loc 6,.asg 8<|.JV (bO .Or [.cmp .NotEq (.sub (.sub (.loc 4)<|.int 0)<|.int 0)<|.str [],cE (bC .add [.loc 4])<|.int 1]) (.sub (.sub (.loc 4)<|.int 0)<|.int 0)<|.sub (.sub (.loc 4)<|.int 1)<|.int 0,iF (cE (.loc 8)<|.str []) [.asg 12<|.JV (.cmp .NotEq (.loc 0)<|.str []) (.str [43])<|.sub (.list<|iL [.str [45],.str [],.str [43]])<|gC 1552 [.loc 2,.int 1,.int 3]] [iF (cE (.loc 5)<|.str []) [.asg 12<|.str [45]] [iF (cE (bC .add [.loc 5])<|.int 1) [.asg 12<|.sub (.list<|iL [.str [],.str [43]])<|gC 1552 [.loc 2,.int 1,.int 2]] [.asg 12<|.str [43]]]],.asg 9<|.JV (bO .Or [cE (.slc (.loc 8) .no<|.yes<|.int 1)<|.str [32],cE (gC 1552 [.loc 2,.int 3,.int 2])<|.int 1]) (.sub (.str [49,50])<|.loc 6)<|.str [],.asg 10<|.bin .Add (.bin .Add (.JV (.loc 1) (.str [62])<|.str [124])<|.JV (cE (gC 1552 [.loc 2,.int 4,.int 2])<|.int 1) (.bin .Add (.loc 9)<|.loc 12)<|.bin .Add (.loc 12)<|.loc 9)<|.str [10],.Eo 11 (bC .add [.loc 4])<|iB [.CM [14,15]<|.sub (.loc 4)<|.loc 11,.asg 13<|.cmp .NotIn (.slc (.loc 14) .no<|.yes<|.int 1)<|tU [.str [],.str [32],.str [9]],iF (.cmp .NotEq (.loc 14)<|.str []) [.asg 10<|.bin .Add (.bin .Add (.loc 10)<|.loc 7)<|.JV (bO .And [.loc 1,.loc 13]) (gC 1585 [.loc 14,.loc 2,.loc 7])<|.loc 14] [],iF (.cmp .Lt (.bin .Add (.loc 11)<|.int 1)<|bC .add [.loc 4]) [iF (bO .And [.loc 1,.loc 13,cE (.sub (.loc 15)<|.int 0)<|.str [10],.cmp .NotIn (.sub (.sub (.sub (.loc 4)<|.bin .Add (.loc 11)<|.int 1)<|.int 0)<|.int 0)<|.str [32,9]]) [.asg 15<|.bin .Add (.str [10])<|.loc 15] []] [iF (bO .And [.cmp .NotEq (.loc 14)<|.str [],cE (.loc 15)<|.str []]) [.asg 15<|.str [10]] []],.asg 10<|.bin .Add (.loc 10)<|gC 1557 [.loc 15,.loc 2]],.ret<|.loc 10]⟩
def tu:FR:=⟨83,2,1613,q "_law_told",q "_law_told",.none,F7,sG 67,qs ["event","pair"],iB [iF (bC .multiply [.loc 0,.nP 585]) [.asg 1<|tU [gC 1545 [.sub (fF 41)<|.int 0],gC 1545 [.sub (fF 41)<|.int 1]],.ret<|tU [.str [118,97,108,117,101],fF 36,fF 40,.loc 1,fF 33,fF 35,.attr (fF 31) 9,.attr (fF 32) 9]] [],iF (bC .multiply [.loc 0,.nP 597]) [.ret<|tU [.str [114,111,119],fF 36,fF 40,gC 1545 [fF 41],gC 1545 [fF 108]]] [],iF (bC .multiply [.loc 0,.nP 609]) [.ret<|tU [.str [114,111,119,32,101,110,100]]] [],iF (bC .multiply [.loc 0,.nP 533]) [.ret<|tU [.str [100,111,99,117,109,101,110,116],gC 1545 [fF 37],fF 38,fF 39]] [],iF (bC .multiply [.loc 0,.nP 553]) [.ret<|tU [.str [100,111,99,117,109,101,110,116,32,101,110,100],gC 1545 [fF 37]]] [],iF (bC .multiply [.loc 0,.nP 501]) [.ret<|tU [.str [115,116,114,101,97,109]]] [],iF (bC .multiply [.loc 0,.nP 513]) [.ret<|tU [.str [115,116,114,101,97,109,32,101,110,100]]] [],.bot]⟩
def iP:FR:=⟨999,0,1618,q "law",q "law",.none,F7,sG 68,qs ["script","tape","head","salt","value","margin","least","further","forms","turn","marked","text","due","parser","got","event","style","written","pair"],iB [.asg 1<|.YB (.comp 0<|.slc (.loc 0) .no<|.yes<|.int 7)<|.list<|iL [.int 0,.int 0,.int 0],.asg 2<|.sub (.loc 1)<|.int 0,.asg 3<|tU [.sub (.loc 1)<|.int 1,.sub (.loc 1)<|.int 2],.asg 4<|kC .invert (.str []) [.comp 1<|.slc (.loc 1) (.yes<|.int 3)<|.yes<|.bin .Sub (bC .add [.loc 1])<|.int 3],.asg 5<|.bin .Mult (.str [32])<|.bin .Mod (.loc 2)<|.int 3,.asg 6<|.bin .Add (bC .add [.loc 5])<|.int 1,.asg 7<|.bin .Mult (.str [32])<|.bin .Add (.loc 6)<|.bin .Mod (.bin .FloorDiv (.loc 2)<|.int 2)<|.int 2,.asg 8<|.list<|iL [tU [.str [34],gC 1599 [.loc 4,.loc 3,.bin .Mult (.str [32])<|.bin .Add (.int 1)<|.bin .Mod (.bin .FloorDiv (.loc 2)<|.int 5)<|.int 2]]],iF (.cmp .NotIn (.str [7])<|.loc 4) [.expr<|kC .neg (.loc 8) [tU [.str [124],gC 1606 [.loc 4,.bool false,.loc 3,.loc 6]]],.expr<|kC .neg (.loc 8) [tU [.str [62],gC 1606 [.loc 4,.bool true,.loc 3,.loc 6]]],iF (gC 1571 [.loc 4]) [.asg 11<|kC .invert (.str []) [.comp 2<|gC 1592 [.loc 4,.loc 3,.bin .Mult (.str [32])<|.bin .Add (.int 1)<|.bin .Mod (.bin .FloorDiv (.loc 2)<|.int 7)<|.int 2]],.expr<|kC .neg (.loc 8) [tU [.str [39],.bin .Add (.bin .Add (.str [39])<|.loc 11)<|.str [39]]]] [],iF (gC 1578 [.loc 4]) [.expr<|kC .neg (.loc 8) [tU [.none,gC 1592 [.loc 4,.loc 3,.loc 7]]]] []] [],.asg 9<|.bin .Mod (.bin .FloorDiv (.loc 2)<|.int 3)<|bC .add [.loc 8],.asg 10<|cE (.bin .Mod (.bin .FloorDiv (.loc 2)<|.int 6)<|.int 2)<|.int 1,.asg 11<|.JV (.loc 10) (.str [45,45,45,10])<|.str [],.asg 12<|.list<|iL [tU [.str [115,116,114,101,97,109]],tU [.str [100,111,99,117,109,101,110,116],.JV (.loc 10) (.str [121,101,115])<|.str [110,111],.none,.none],tU [.str [114,111,119],.none,.none,.str [121,101,115],.str [110,111]]],.Vi [16,17] (.slc (.YB (.slc (.loc 8) (.yes<|.loc 9) .no)<|.slc (.loc 8) .no<|.yes<|.loc 9) .no<|.yes<|.JV (.cmp .Gt (bC .add [.loc 4])<|.int 5) (.int 3)<|.int 5)<|iB [.asg 11<|.bin .Add (.bin .Add (.loc 11)<|.loc 5)<|.str [45,32],.asg 18<|.JV (.cmp .Is (.loc 16) .none) (tU [.str [121,101,115],.str [110,111]])<|tU [.str [110,111],.str [121,101,115]],.expr<|kC .neg (.loc 12) [tU [.str [118,97,108,117,101],.none,.none,.loc 18,.loc 4,.loc 16,bC .add [.loc 11],.bin .Add (bC .add [.loc 11])<|bC .add [.loc 17]]],.asg 11<|.bin .Add (.loc 11)<|.loc 17,iF (bO .And [.cmp .NotEq (.loc 16)<|.str [124],.cmp .NotEq (.loc 16)<|.str [62]]) [.asg 11<|.bin .Add (.loc 11)<|.str [10]] []],.expr<|kC .abs (.loc 12) [.list<|iL [tU [.str [114,111,119,32,101,110,100]],tU [.str [100,111,99,117,109,101,110,116,32,101,110,100],.str [110,111]],tU [.str [115,116,114,101,97,109,32,101,110,100]]]],.asg 13<|mK 1521 [.loc 11],.asg 14<|.list .nil,.asg 15<|.nQ (.loc 13) 107 .nil [] .nil,wH (.cmp .IsNot (.loc 15) .none) [.expr<|kC .neg (.loc 14) [gC 1613 [.loc 15]],.asg 15<|.nQ (.loc 13) 107 .nil [] .nil],.spec 4]⟩
def lX:List Str:=qs ["self","stream"]
def sH:IS:=iB [.spec 1,sS 12<|.bool false,sS 13<|.int 0,sS 14<|.list .nil,xM 47 [],sS 15<|.int 0,sS 16<|.neg<|.int 1,sS 17<|.list .nil,sS 18<|.bool true,sS 19 .d0I]
def mX:List Str:=qs ["self","stream"]
def tw:IS:=iB [.spec 0,sS 20 .none,sS 21 .none,sS 22 .d0S,sS 23<|.list .nil,sS 24<|.list .nil,sS 25<|.vC (.loc 0) 94]
noncomputable def en(P:Params)(x:Str)(t:Tok)(v:Value):DictEntry:=⟨PyData.keyHash P x,.str x t,v⟩
abbrev KE:=List<|String×Nat×Value
abbrev KR:=List<|Nat×Obj
noncomputable def kE(k:String)(t:Nat)(v:Value)(r:KE):KE:=(k,t,v)::r
def kF(k:String)(t a:Nat)(r:KE):KE:=kE k t (.ref a) r
def kZ(t a:Nat)(r:KE):KE:=kF "__static_attributes__" t a r
noncomputable def qR(t:Nat):KE:=[("__doc__",t,.none)]
noncomputable def oO(a:Nat)(o:Obj)(r:KR):KR:=(a,o)::r
def dO(P:Params)(a n:Nat)(es:KE):KR->KR:=oO a ⟨.type "dict",none,.dict (es.map λe=>en P (q e.1) e.2.1 e.2.2).toArray n,#[]⟩
def fO(f:FR)(t A B C D l d:Nat)(r:KR):KR:=
 oO f.fa ⟨.type "function",none,.func f.fd,#[]⟩<|
 oO f.cd ⟨.type "code",none,.fields #[.str f.nm t,.str f.ql<|t+1,kS "/claim/cut.py"<|t+2,.int A 0,.int B 0,.int 0 0,.int 0 0,.int C 0,.ref<|f.fa-6,.bool true,.int D 0,.ref<|f.fa-5,.none,.ref<|f.fa-4,.ref<|f.fa-3,.ref<|f.fa-2,.int l 0,.int A 0,kS "/claim/cut.py" d],#[]⟩ r
noncomputable def rM:Value:=.builtin "object.__new__"
noncomputable def YK:Value:=.builtin "Exception.__new__"
def cO(P:Params)(a:Nat)(n:String)(mro ab5:List Value)(ann:Option Value)(t:Nat)(new:Value)(m:Value)(l k:Nat)(es:KE)(r:KR):KR:=
 oO a ⟨.type "type",none,.cls ⟨q n,mro.take 1,.ref a::mro,a-1,q n,true,[],ab5,false,none,false⟩,#[ann,none,some<|kS n t,some<|kS n<|t+8,some new,some<|.bool true]⟩<|
 dO P (a-1) k (("__module__",t+7,m)::("__firstlineno__",t+11,.int l<|t+10)::es) r
def AU(P:Params)(a:Nat)(n:String)(b t:Nat)(new m:Value)(l k:Nat)(es:KE)(r:KR):KR:=cO P a n [.ref 114,.type "object"] [] (some<|.ref b) t new m l k es r
set_option maxHeartbeats 4000000 in
def K(P:Params):Frag:=cO P 1521 "Parser" [.ref 1281,.ref 730,.type "object"] [] (some<|.ref 1296) 2116 rM HY 1148 3 (kF "DEFAULT_TAGS" 2134 1304<|kF "__init__" 2143 1312<|kF "dispose" 2150 1319<|kF "peek_event" 2157 1326<|kF "get_event" 2165 1333<|kF "parse_stream_start" 2174 1340<|kF "parse_implicit_document_start" 2185 1347<|kF "parse_document_start" 2198 1354<|kF "parse_document_end" 2210 1361<|kF "parse_document_content" 2218 1368<|kF "process_directives" 2232 1375<|kF "parse_block_node" 2239 1382<|kF "parse_flow_node" 2246 1389<|kF "parse_block_node_or_indentless_sequence" 2253 1396<|kF "parse_node" 2273 1404<|kF "parse_block_sequence_first_entry" 2281 1411<|kF "parse_block_sequence_entry" 2290 1418<|kF "parse_indentless_sequence_entry" 2299 1425<|kF "parse_block_mapping_first_key" 2307 1432<|kF "parse_block_mapping_key" 2316 1439<|kF "parse_block_mapping_value" 2324 1446<|kF "parse_flow_sequence_first_entry" 2332 1453<|kF "parse_flow_sequence_entry" 2342 1461<|kF "parse_flow_sequence_entry_mapping_key" 2350 1468<|kF "parse_flow_sequence_entry_mapping_value" 2358 1475<|kF "parse_flow_sequence_entry_mapping_end" 2366 1482<|kF "parse_flow_mapping_first_key" 2374 1489<|kF "parse_flow_mapping_key" 2384 1497<|kF "parse_flow_mapping_value" 2392 1504<|kF "parse_flow_mapping_empty_value" 2399 1511<|kF "process_empty_scalar" 2407 1518<|kZ 2414 1519<|qR 2416)<|
 cO P 1293 "ParserError" [.ref 95,.ref 67,.type "Exception",.type "BaseException",.type "object"] [] (some<|.ref 1284) 2100 YK HY 1146 2 (kZ 2112 1291<|qR 2113)<|
 cO P 1281 "Scanner" [.ref 730,.type "object"] [.ref 1521] (some<|.ref 768) 1342 rM qQ 304 3 (kF "__init__" 1362 783<|kF "check_token" 1370 792<|kF "peek_token" 1377 799<|kF "get_token" 1384 806<|kF "need_more_tokens" 1391 813<|kF "fetch_more_tokens" 1399 820<|kF "next_possible_simple_key" 1409 827<|kF "stale_possible_simple_keys" 1418 834<|kF "save_possible_simple_key" 1428 841<|kF "remove_possible_simple_key" 1436 848<|kF "unwind_indent" 1445 855<|kF "add_indent" 1453 862<|kF "fetch_stream_start" 1461 869<|kF "fetch_stream_end" 1469 876<|kF "fetch_directive" 1476 883<|kF "fetch_document_start" 1483 890<|kF "fetch_document_end" 1490 897<|kF "fetch_document_indicator" 1500 904<|kF "fetch_flow_sequence_start" 1507 911<|kF "fetch_flow_mapping_start" 1514 918<|kF "fetch_flow_collection_start" 1524 925<|kF "fetch_flow_sequence_end" 1531 932<|kF "fetch_flow_mapping_end" 1538 939<|kF "fetch_flow_collection_end" 1548 946<|kF "fetch_flow_entry" 1557 953<|kF "fetch_block_entry" 1567 960<|kF "fetch_key" 1577 967<|kF "fetch_value" 1588 974<|kF "fetch_alias" 1595 981<|kF "fetch_anchor" 1602 988<|kF "fetch_tag" 1609 995<|kF "fetch_literal" 1616 1002<|kF "fetch_folded" 1623 1009<|kF "fetch_block_scalar" 1631 1016<|kF "fetch_single" 1638 1023<|kF "fetch_double" 1645 1030<|kF "fetch_flow_scalar" 1653 1037<|kF "fetch_plain" 1660 1044<|kF "check_directive" 1667 1051<|kF "check_document_start" 1674 1058<|kF "check_document_end" 1681 1065<|kF "check_block_entry" 1688 1072<|kF "check_key" 1695 1079<|kF "check_value" 1702 1086<|kF "check_plain" 1710 1093<|kF "scan_to_next_token" 1718 1100<|kF "scan_directive" 1729 1107<|kF "scan_directive_name" 1740 1114<|kF "scan_yaml_directive_value" 1750 1121<|kF "scan_yaml_directive_number" 1761 1128<|kF "scan_tag_directive_value" 1771 1135<|kF "scan_tag_directive_handle" 1781 1142<|kF "scan_tag_directive_prefix" 1791 1149<|kF "scan_directive_ignored_line" 1800 1156<|kF "scan_anchor" 1815 1163<|kF "scan_tag" 1830 1170<|kF "scan_block_scalar" 1851 1177<|kF "scan_block_scalar_indicators" 1862 1184<|kF "scan_block_scalar_ignored_line" 1871 1191<|kF "scan_block_scalar_indentation" 1881 1198<|kF "scan_block_scalar_breaks" 1891 1205<|kF "scan_flow_scalar" 1904 1212<|kF "ESCAPE_REPLACEMENTS" 1959 1213<|kF "ESCAPE_CODES" 1969 1215<|kF "scan_flow_scalar_non_spaces" 1983 1222<|kF "scan_flow_scalar_spaces" 1998 1229<|kF "scan_flow_scalar_breaks" 2009 1236<|kF "scan_plain" 2023 1243<|kF "scan_plain_spaces" 2039 1250<|kF "scan_tag_handle" 2051 1257<|kF "scan_tag_uri" 2063 1264<|kF "scan_uri_escapes" 2076 1271<|kF "scan_line_break" 2084 1278<|kZ 2093 1279<|qR 2095)<|
 cO P 763 "SimpleKey" [.type "object"] [] none 1303 rM qQ 295 4 (kF "__init__" 1327 760<|kZ 1334 761<|kF "__dict__" 1336 764<|kF "__weakref__" 1338 765<|qR 1339)<|
 cO P 744 "ScannerError" [.ref 95,.ref 67,.type "Exception",.type "BaseException",.type "object"] [] (some<|.ref 735) 1287 YK qQ 293 2 (kZ 1299 742<|qR 1300)<|
 cO P 730 "Reader" [.type "object"] [.ref 1281] (some<|.ref 669) 1191 rM Ov 231 4 (kF "__init__" 1210 682<|kF "peek" 1219 690<|kF "prefix" 1228 698<|kF "forward" 1238 706<|kF "get_mark" 1245 713<|kF "check_printable" 1256 720<|kF "update" 1264 727<|kZ 1277 728<|kF "__dict__" 1279 731<|kF "__weakref__" 1281 732<|qR 1282)<|
 cO P 659 "ReaderError" [.ref 67,.type "Exception",.type "BaseException",.type "object"] [] (some<|.ref 636) 1144 YK Ov 215 2 (kF "__init__" 1167 649<|kF "__str__" 1174 656<|kZ 1180 657<|qR 1181)<|
 cO P 633 "MappingEndEvent" [.ref 481,.ref 427,.type "object"] [] (some<|.ref 624) 1126 rM AS 212 2 (kZ 1138 631<|qR 1139)<|
 cO P 621 "MappingStartEvent" [.ref 469,.ref 449,.ref 427,.type "object"] [] (some<|.ref 612) 1110 rM AS 210 2 (kZ 1122 619<|qR 1123)<|
 cO P 609 "SequenceEndEvent" [.ref 481,.ref 427,.type "object"] [] (some<|.ref 600) 1094 rM AS 208 2 (kZ 1106 607<|qR 1107)<|
 cO P 597 "SequenceStartEvent" [.ref 469,.ref 449,.ref 427,.type "object"] [] (some<|.ref 588) 1078 rM AS 206 2 (kZ 1090 595<|qR 1091)<|
 cO P 585 "ScalarEvent" [.ref 449,.ref 427,.type "object"] [] (some<|.ref 568) 1041 rM AS 196 2 (kF "__init__" 1066 582<|kZ 1074 583<|qR 1075)<|
 cO P 565 "AliasEvent" [.ref 449,.ref 427,.type "object"] [] (some<|.ref 556) 1025 rM AS 194 2 (kZ 1037 563<|qR 1038)<|
 cO P 553 "DocumentEndEvent" [.ref 427,.type "object"] [] (some<|.ref 536) 996 rM AS 188 2 (kF "__init__" 1017 550<|kZ 1021 551<|qR 1022)<|
 cO P 533 "DocumentStartEvent" [.ref 427,.type "object"] [] (some<|.ref 516) 963 rM AS 180 2 (kF "__init__" 986 530<|kZ 992 531<|qR 993)<|
 cO P 513 "StreamEndEvent" [.ref 427,.type "object"] [] (some<|.ref 504) 947 rM AS 178 2 (kZ 959 511<|qR 960)<|
 cO P 501 "StreamStartEvent" [.ref 427,.type "object"] [] (some<|.ref 484) 918 rM AS 172 2 (kF "__init__" 939 498<|kZ 943 499<|qR 944)<|
 cO P 481 "CollectionEndEvent" [.ref 427,.type "object"] [.ref 609,.ref 633] (some<|.ref 472) 902 rM AS 170 2 (kZ 914 479<|qR 915)<|
 cO P 469 "CollectionStartEvent" [.ref 449,.ref 427,.type "object"] [.ref 597,.ref 621] (some<|.ref 452) 867 rM AS 161 2 (kF "__init__" 891 466<|kZ 898 467<|qR 899)<|
 cO P 449 "NodeEvent" [.ref 427,.type "object"] [.ref 469,.ref 565,.ref 585] (some<|.ref 432) 838 rM AS 155 2 (kF "__init__" 859 446<|kZ 863 447<|qR 864)<|
 cO P 427 "Event" [.type "object"] [.ref 449,.ref 481,.ref 501,.ref 513,.ref 533,.ref 553] (some<|.ref 403) 800 rM AS 147 4 (kF "__init__" 820 417<|kF "__repr__" 827 424<|kZ 830 425<|kF "__dict__" 832 428<|kF "__weakref__" 834 429<|qR 835)<|
 AU P 400 "ScalarToken" 383 763 rM yQ 137 2 (kE "id" 776 (kS "<scalar>" 775)<|kF "__init__" 788 397<|kZ 794 398<|qR 795)<|
 AU P 380 "TagToken" 364 732 rM yQ 130 2 (kE "id" 745 (kS "<tag>" 744)<|kF "__init__" 755 377<|kZ 759 378<|qR 760)<|
 AU P 361 "AnchorToken" 345 701 rM yQ 123 2 (kE "id" 714 (kS "<anchor>" 713)<|kF "__init__" 724 358<|kZ 728 359<|qR 729)<|
 AU P 342 "AliasToken" 326 670 rM yQ 116 2 (kE "id" 683 (kS "<alias>" 682)<|kF "__init__" 693 339<|kZ 697 340<|qR 698)<|
 AU P 323 "FlowEntryToken" 314 652 rM yQ 114 2 (kE "id" 665 (kS "," 664)<|kZ 666 321<|qR 667)<|
 AU P 311 "BlockEntryToken" 302 634 rM yQ 112 2 (kE "id" 647 (kS "-" 646)<|kZ 648 309<|qR 649)<|
 AU P 299 "ValueToken" 290 616 rM yQ 110 2 (kE "id" 629 (kS ":" 628)<|kZ 630 297<|qR 631)<|
 AU P 287 "KeyToken" 278 598 rM yQ 108 2 (kE "id" 611 (kS "?" 610)<|kZ 612 285<|qR 613)<|
 AU P 275 "FlowMappingEndToken" 266 580 rM yQ 106 2 (kE "id" 593 (kS "}" 592)<|kZ 594 273<|qR 595)<|
 AU P 263 "FlowSequenceEndToken" 254 562 rM yQ 104 2 (kE "id" 575 (kS "]" 574)<|kZ 576 261<|qR 577)<|
 AU P 251 "FlowMappingStartToken" 242 544 rM yQ 102 2 (kE "id" 557 (kS "{" 556)<|kZ 558 249<|qR 559)<|
 AU P 239 "FlowSequenceStartToken" 230 526 rM yQ 100 2 (kE "id" 539 (kS "[" 538)<|kZ 540 237<|qR 541)<|
 AU P 227 "BlockEndToken" 218 508 rM yQ 98 2 (kE "id" 521 (kS "<block end>" 520)<|kZ 522 225<|qR 523)<|
 AU P 215 "BlockMappingStartToken" 206 490 rM yQ 96 2 (kE "id" 503 (kS "<block mapping start>" 502)<|kZ 504 213<|qR 505)<|
 AU P 203 "BlockSequenceStartToken" 194 472 rM yQ 94 2 (kE "id" 485 (kS "<block sequence start>" 484)<|kZ 486 201<|qR 487)<|
 AU P 191 "StreamEndToken" 182 454 rM yQ 92 2 (kE "id" 467 (kS "<stream end>" 466)<|kZ 468 189<|qR 469)<|
 AU P 179 "StreamStartToken" 162 423 rM yQ 85 2 (kE "id" 436 (kS "<stream start>" 435)<|kF "__init__" 446 176<|kZ 450 177<|qR 451)<|
 AU P 159 "DocumentEndToken" 150 405 rM yQ 83 2 (kE "id" 418 (kS "<document end>" 417)<|kZ 419 157<|qR 420)<|
 AU P 147 "DocumentStartToken" 138 387 rM yQ 81 2 (kE "id" 400 (kS "<document start>" 399)<|kZ 401 145<|qR 402)<|
 AU P 135 "DirectiveToken" 119 354 rM yQ 73 2 (kE "id" 367 (kS "<directive>" 366)<|kF "__init__" 378 132<|kZ 383 133<|qR 384)<|
 cO P 114 "Token" [.type "object"] [.ref 135,.ref 147,.ref 159,.ref 179,.ref 191,.ref 203,.ref 215,.ref 227,.ref 239,.ref 251,.ref 263,.ref 275,.ref 287,.ref 299,.ref 311,.ref 323,.ref 342,.ref 361,.ref 380,.ref 400] (some<|.ref 98) 323 rM yQ 68 4 (kF "__init__" 343 111<|kZ 346 112<|kF "__dict__" 348 115<|kF "__weakref__" 350 116<|qR 351)<|
 cO P 95 "MarkedYAMLError" [.ref 67,.type "Exception",.type "BaseException",.type "object"] [.ref 744,.ref 1293] (some<|.ref 71) 280 YK kM5 45 2 (kF "__init__" 303 85<|kF "__str__" 311 92<|kZ 317 93<|qR 318)<|
 cO P 67 "YAMLError" [.type "Exception",.type "BaseException",.type "object"] [.ref 95,.ref 659] (some<|.ref 58) 260 YK kM5 43 3 (kZ 272 65<|kF "__weakref__" 274 68<|qR 275)<|
 cO P 53 "Mark" [.type "object"] [] none 196 rM kM5 5 4 (kF "__init__" 220 35<|kF "get_snippet" 236 43<|kF "__str__" 245 50<|kZ 252 51<|kF "__dict__" 254 54<|kF "__weakref__" 256 55<|qR 257)<|
 fO rQ 208 7 7 3 181 218 219<|
 fO kX 335 70 3 3 181 341 342<|
 fO i7 437 88 4 3 181 444 445<|
 fO iM 777 140 6 3 181 786 787<|
 fO mz 812 149 3 3 181 818 819<|
 fO iG 879 163 7 3 181 889 890<|
 fO i8 930 174 4 3 181 937 938<|
 fO gW 975 182 6 3 181 984 985<|
 fO i9 1008 190 4 3 181 1015 1016<|
 fO jS 1053 198 8 3 181 1064 1065<|
 fO pQ 1184 229 1 3 181 1188 1189<|
 fO qw 1203 233 2 3 181 1208 1209<|
 fO jB 1212 251 2 3 181 1217 1218<|
 fO lB 1221 258 2 3 181 1226 1227<|
 fO gS 1230 263 2 3 181 1236 1237<|
 fO lQ 1239 277 1 3 181 1243 1244<|
 fO iY 1246 283 2 3 181 1254 1255<|
 fO oY 1257 289 2 3 181 1262 1263<|
 fO oF 1315 297 7 3 181 1325 1326<|
 fO ji 1363 318 2 3 181 1368 1369<|
 fO mG 1371 328 1 3 181 1375 1376<|
 fO mV 1378 336 1 3 181 1382 1383<|
 fO jW 1385 343 1 3 181 1389 1390<|
 fO jL 1392 352 1 3 181 1397 1398<|
 fO ja 1400 399 1 3 181 1407 1408<|
 fO iV 1410 407 1 3 181 1416 1417<|
 fO jb 1419 415 1 3 181 1426 1427<|
 fO iW 1429 423 1 3 181 1434 1435<|
 fO jz 1437 430 2 3 181 1443 1444<|
 fO j7 1446 438 2 3 181 1451 1452<|
 fO jC 1454 445 1 3 181 1459 1460<|
 fO iy 1462 449 1 3 181 1467 1468<|
 fO jn 1477 464 1 3 181 1481 1482<|
 fO jc 1491 470 2 3 181 1498 1499<|
 fO iH 1558 517 1 3 181 1565 1566<|
 fO kY 1610 586 1 3 181 1614 1615<|
 fO lC 1617 589 1 3 181 1621 1622<|
 fO iD 1624 592 2 3 181 1629 1630<|
 fO lD 1632 597 1 3 181 1636 1637<|
 fO lE 1639 600 1 3 181 1643 1644<|
 fO iI 1646 603 2 3 181 1651 1652<|
 fO lR 1654 608 1 3 181 1658 1659<|
 fO jo 1668 617 1 3 181 1672 1673<|
 fO jM 1682 627 1 3 181 1686 1687<|
 fO mW 1689 630 1 3 181 1693 1694<|
 fO lS 1696 636 1 3 181 1700 1701<|
 fO lT 1703 642 1 3 181 1708 1709<|
 fO gX 1711 646 1 3 181 1716 1717<|
 fO gw 1831 812 2 3 181 1849 1850<|
 fO iR 1852 856 2 3 181 1860 1861<|
 fO iJ 1863 889 2 3 181 1869 1870<|
 fO gK 1872 900 1 3 181 1879 1880<|
 fO g6 1882 914 2 3 181 1889 1890<|
 fO gT 1892 926 2 3 181 1902 1903<|
 fO gF 1970 945 3 3 181 1981 1982<|
 fO gU 1984 984 3 3 181 1996 1997<|
 fO g9 1999 1006 3 3 181 2007 2008<|
 fO iO 2010 1019 1 3 181 2021 2022<|
 fO gQ 2024 1046 3 3 181 2037 2038<|
 fO jZ 2077 1133 1 3 181 2082 2083<|
 fO lA 2158 1166 1 3 181 2163 2164<|
 fO jN 2166 1174 1 3 181 2172 2173<|
 fO iu 2175 1180 1 3 181 2183 2184<|
 fO iX 2186 1192 1 3 181 2196 2197<|
 fO jO 2199 1214 1 3 181 2208 2209<|
 fO jj 2211 1226 1 3 181 2216 2217<|
 fO jP 2219 1234 1 3 181 2230 2231<|
 fO jk 2233 1260 1 3 181 2237 2238<|
 fO jf 2254 1269 3 3 181 2271 2272<|
 fO iE 2274 1352 1 3 181 2279 2280<|
 fO iz 2282 1357 1 3 181 2288 2289<|
 fO pG 2442 1533 0 3 181 2445 2446<|
 fO qx 2448 1535 0 3 181 2451 2452<|
 fO s9 2454 1537 1 3 181 2458 2459<|
 fO n9 2461 1543 3 3 181 2467 2468<|
 fO pH 2476 1547 1 3 181 2484 2485<|
 fO lU 2487 1562 1 3 181 2495 2496<|
 fO jD 2498 1571 1 3 181 2505 2506<|
 fO lq 2508 1582 3 3 181 2517 2518<|
 fO oh 2520 1590 3 3 181 2529 2530<|
 fO jX 2532 1597 3 3 181 2542 2543<|
 fO gJ 2545 1614 4 3 181 2564 2565<|
 fO tu 2567 1642 1 3 181 2572 2573<|
 dO P 3 71 (kE "__name__" 165 (kS "law_te0012_05" 2419)<|kE "__doc__" 166 .none<|kE "__package__" 167 .none<|kE "__loader__" 168 (.builtin "__main__.__loader__#opaque")<|kE "__spec__" 169 .none<|kF "__annotations__" 170 6<|kF "__builtins__" 171 4<|kE "__file__" 173 (kS "/claim/cut.py" 172)<|kE "__cached__" 174 .none<|kF "_wall" 193 21<|kF "Mark" 259 53<|kF "YAMLError" 279 67<|kF "MarkedYAMLError" 320 95<|kF "Token" 353 114<|kF "DirectiveToken" 386 135<|kF "DocumentStartToken" 404 147<|kF "DocumentEndToken" 422 159<|kF "StreamStartToken" 453 179<|kF "StreamEndToken" 471 191<|kF "BlockSequenceStartToken" 489 203<|kF "BlockMappingStartToken" 507 215<|kF "BlockEndToken" 525 227<|kF "FlowSequenceStartToken" 543 239<|kF "FlowMappingStartToken" 561 251<|kF "FlowSequenceEndToken" 579 263<|kF "FlowMappingEndToken" 597 275<|kF "KeyToken" 615 287<|kF "ValueToken" 633 299<|kF "BlockEntryToken" 651 311<|kF "FlowEntryToken" 669 323<|kF "AliasToken" 700 342<|kF "AnchorToken" 731 361<|kF "TagToken" 762 380<|kF "ScalarToken" 797 400<|kF "Event" 837 427<|kF "NodeEvent" 866 449<|kF "CollectionStartEvent" 901 469<|kF "CollectionEndEvent" 917 481<|kF "StreamStartEvent" 946 501<|kF "StreamEndEvent" 962 513<|kF "DocumentStartEvent" 995 533<|kF "DocumentEndEvent" 1024 553<|kF "AliasEvent" 1040 565<|kF "ScalarEvent" 1077 585<|kF "SequenceStartEvent" 1093 597<|kF "SequenceEndEvent" 1109 609<|kF "MappingStartEvent" 1125 621<|kF "MappingEndEvent" 1141 633<|kF "ReaderError" 1183 659<|kF "_is_printable" 1190 668<|kF "Reader" 1284 730<|kF "ScannerError" 1302 744<|kF "SimpleKey" 1341 763<|kF "Scanner" 2097 1281<|kF "ParserError" 2115 1293<|kF "Parser" 2418 1521<|kF "_law_PIECES" 2441 1524<|kF "_law_ENDS" 2447 1531<|kF "_law_ESCAPES" 2453 1538<|kF "_law_flag" 2460 1545<|kF "_law_pick" 2469 1552<|kF "_law_ends" 2475 1557<|kF "_law_runs" 2486 1564<|kF "_law_apart" 2497 1571<|kF "_law_bare" 2507 1578<|kF "_law_broken" 2519 1585<|kF "_law_open" 2531 1592<|kF "_law_double" 2544 1599<|kF "_law_block" 2566 1606<|kF "_law_told" 2574 1613<|kF "law" 2580 1618 [])<|
 oO 2 ⟨.none,none,(.dict #[en P (q "type.__subclasses__.Exception.0") 276<|.int 67 0,en P (q "type.__subclasses__.Exception.n") 277<|.int 1 0] 2),#[]⟩<|
 oO 169 ⟨.type "tuple",none,(.seq #[.none,.none,.none] 0),#[]⟩<|
 oO 390 ⟨.type "tuple",none,(.seq #[.none] 0),#[]⟩<|
 oO 410 ⟨.type "tuple",none,(.seq #[.none,.none] 0),#[]⟩<|
 oO 459 ⟨.type "tuple",none,(.seq #[.none,.none,.none] 0),#[]⟩<|
 oO 491 ⟨.type "tuple",none,(.seq #[.none,.none,.none] 0),#[]⟩<|
 oO 523 ⟨.type "tuple",none,(.seq #[.none,.none,.none,.none,.none] 0),#[]⟩<|
 oO 543 ⟨.type "tuple",none,(.seq #[.none,.none,.none] 0),#[]⟩<|
 oO 575 ⟨.type "tuple",none,(.seq #[.none,.none,.none] 0),#[]⟩<|
 oO 683 ⟨.type "tuple",none,(.seq #[.int 0 1211] 0),#[]⟩<|
 oO 691 ⟨.type "tuple",none,(.seq #[.int 1 1220] 0),#[]⟩<|
 oO 699 ⟨.type "tuple",none,(.seq #[.int 1 1229] 0),#[]⟩<|
 oO 783 ⟨.type "function",none,(.func<|fnX (q "__init__") (q "Scanner.__init__") (ym<|kc 49 0) (nV<|kc 49 0) (je<|kc 49 0) [((q "__class__"),771)] .none .none .none (.str (q "yaml.scanner") 1285) none (.ref 782)<|.ref 776),#[]⟩<|
 oO 782 ⟨.type "code",none,(.fields #[(.str (q "__init__") 1354),(.str (q "Scanner.__init__") 1355),(.str (q "/claim/cut.py") 1356),.int 306 0,.int 2 0,.int 0 0,.int 0 0,.int 3 0,.ref 777,.bool true,.int 181 0,.ref 778,.none,.ref 779,.ref 780,.ref 781,.int 1360 0,.int 306 0,(.str (q "/claim/cut.py") 1361)]),#[]⟩<|
 oO 771 ⟨.type "cell",none,(.cell<|some<|.ref 1281),#[]⟩<|
 oO 785 ⟨.type "tuple",none,(.seq #[.ref 784] 0),#[]⟩<|
 oO 1312 ⟨.type "function",none,(.func<|fnX (q "__init__") (q "Parser.__init__") (ym<|kc 52 1) (nV<|kc 52 1) (je<|kc 52 1) [((q "__class__"),1299)] .none .none .none (.str (q "yaml.parser") 2098) none (.ref 1311)<|.ref 1305),#[]⟩<|
 oO 1311 ⟨.type "code",none,(.fields #[(.str (q "__init__") 2135),(.str (q "Parser.__init__") 2136),(.str (q "/claim/cut.py") 2137),.int 1151 0,.int 2 0,.int 0 0,.int 0 0,.int 3 0,.ref 1306,.bool true,.int 181 0,.ref 1307,.none,.ref 1308,.ref 1309,.ref 1310,.int 2141 0,.int 1151 0,(.str (q "/claim/cut.py") 2142)]),#[]⟩<|
 oO 1299 ⟨.type "cell",none,(.cell<|some<|.ref 1521),#[]⟩<|
 oO 1397 ⟨.type "tuple",none,(.seq #[.bool false,.bool false] 0),#[]⟩<|
 oO 1557 ⟨.type "function",none,(.func<|fnX (q "_law_ends") (q "_law_ends") (ym<|sG 59) (nV<|sG 59) (je<|sG 59) [] .none .none .none (.str (q "law_te0012_05") 2419) none (.ref 1556) .none),#[]⟩<|
 oO 1556 ⟨.type "code",none,(.fields #[(.str (q "_law_ends") 2470),(.str (q "_law_ends") 2471),(.str (q "/claim/cut.py") 2472),.int 1545 0,.int 2 0,.int 0 0,.int 0 0,.int 3 0,.ref 1553,.bool true,.int 181 0,.ref 1554,.none,.none,.none,.ref 1555,.int 2473 0,.int 1545 0,(.str (q "/claim/cut.py") 2474)]),#[]⟩<|
 oO 1618 ⟨.type "function",none,(.func<|fnX (q "law") (q "law") (ym<|sG 68) (nV<|sG 68) (je<|sG 68) [] .none .none .none (.str (q "law_te0012_05") 2419) none (.ref 1617) .none),#[]⟩<|
 oO 1617 ⟨.type "code",none,(.fields #[(.str (q "law") 2575),(.str (q "law") 2576),(.str (q "/claim/cut.py") 2577),.int 1659 0,.int 1 0,.int 0 0,.int 0 0,.int 3 0,.ref 1614,.bool true,.int 181 0,.ref 1615,.none,.none,.none,.ref 1616,.int 2578 0,.int 1659 0,(.str (q "/claim/cut.py") 2579)]),#[]⟩<|
 dO P 1213 18 (kE "0" 1905 (kS "\u0000" 1906)<|kE "a" 1908 (kS "\u0007" 1909)<|kE "b" 1911 (kS "\u0008" 1912)<|kE "t" 1914 (kS "\t" 1915)<|kE "\t" 1917 (kS "\t" 1918)<|kE "n" 1920 (kS "\n" 1921)<|kE "v" 1923 (kS "\u000b" 1924)<|kE "f" 1926 (kS "\u000c" 1927)<|kE "r" 1929 (kS "\r" 1930)<|kE "e" 1932 (kS "\u001b" 1933)<|kE " " 1935 (kS " " 1936)<|kE "\"" 1938 (kS "\"" 1939)<|kE "\\" 1941 (kS "\\" 1942)<|kE "/" 1944 (kS "/" 1945)<|kE "N" 1947 (kS "\u0085" 1948)<|kE "_" 1950 (kS "\u00a0" 1951)<|kE "L" 1953 (kS "\u2028" 1954)<|kE "P" 1956 (kS "\u2029" 1957) [])<|
 dO P 1215 3 (kE "x" 1960 (.int 2 1961)<|kE "u" 1962 (.int 4 1963)<|kE "U" 1964 (.int 8 1965) [])<|
 dO P 1304 2 (kE "!" 2128 (kS "!" 2129)<|kE "!!" 2130 (kS "tag:yaml.org,2002:" 2131) [])<|
 oO 1524 ⟨.type "list",none,(.seq #[(.str (q "a") 2421),(.str (q " ") 2422),(.str (q "\n") 2423),(.str (q "b") 2424),(.str (q "'") 2425),(.str (q "\"") 2426),(.str (q "\\") 2427),(.str (q "#") 2428),(.str (q ":") 2429),(.str (q "-") 2430),(.str (q "\t") 2431),(.str (q "\u00e9") 2432),(.str (q "\u2028") 2433),(.str (q "\u0007") 2434),(.str (q "c d") 2435),(.str (q "?") 2436),(.str (q "e f") 2437),(.str (q "\n\n") 2438),(.str (q "k: v") 2439),(.str (q " #") 2440)] 0),#[]⟩ []
def loose:List Str:=[q "_wall",q "Mark",q "YAMLError",q "MarkedYAMLError",q "Token",q "DirectiveToken",q "DocumentStartToken",q "DocumentEndToken",q "StreamStartToken",q "StreamEndToken",q "BlockSequenceStartToken",q "BlockMappingStartToken",q "BlockEndToken",q "FlowSequenceStartToken",q "FlowMappingStartToken",q "FlowSequenceEndToken",q "FlowMappingEndToken",q "KeyToken",q "ValueToken",q "BlockEntryToken",q "FlowEntryToken",q "AliasToken",q "AnchorToken",q "TagToken",q "ScalarToken",q "Event",q "NodeEvent",q "CollectionStartEvent",q "CollectionEndEvent",q "StreamStartEvent",q "StreamEndEvent",q "DocumentStartEvent",q "DocumentEndEvent",q "AliasEvent",q "ScalarEvent",q "SequenceStartEvent",q "SequenceEndEvent",q "MappingStartEvent",q "MappingEndEvent",q "ReaderError",q "_is_printable",q "Reader",q "ScannerError",q "SimpleKey",q "Scanner",q "ParserError",q "Parser",q "_law_PIECES",q "_law_ENDS",q "_law_ESCAPES",q "_law_flag",q "_law_pick",q "_law_ends",q "_law_runs",q "_law_apart",q "_law_bare",q "_law_broken",q "_law_open",q "_law_double",q "_law_block",q "_law_told"]
def qv:Program:={pw with main:={pw.main with body:=[sG 68]}}
noncomputable abbrev HZ:OpenLaw:=PySem.Challenge.rw_te0012_05
def Vl:DefRec:=⟨q "law",ym<|sG 68,nV<|sG 68,je<|sG 68,(sG 68).pos⟩
abbrev XT:(Str->Option Value)->Heap->Prop:=λz z=>True
set_option tactic.hygienic true
noncomputable def vD(den:Code->Sem Fin)(stp:(Code->Sem Fin)->Program->World->SharedT->Thread->Option (SharedT×Thread))(okk:Nat->Option Value->Thread->Bool)(p:Program)(w:World)(n₀:Nat)(ann:Option Value):Nat->SharedT->Thread->Option SharedT
 |0,_,_=>none
 |n+1,s,t=>match through t with
  |true=>some s
  |false=>match okk n₀ ann t with
   |false=>none
   |true=>match stp den p w s t with
    |some (s',t')=>vD den stp okk p w n₀ ann n s' t'
    |none=>none
def Ep{tb:String->Option Builtin}{p:Program}{w:World}{n₀:Nat}{ann:Option Value}{s':SharedT}(n:Nat):∀{s:SharedT} {t:Thread},
  vD (denote tb) stepT stepOk p w n₀ ann n s t=some s'->topRun tb p w n₀ ann n s.abs t=some s'.abs:=by
 induction n with
 |zero=>exact λh=>nomatch h
 |succ n ih=>
  intro s t;show(match through t with
   |true=>some s
   |false=>match stepOk n₀ ann t with
    |false=>none
    |true=>match stepT (denote tb) p w s t with
     |some (s',t')=>vD (denote tb) stepT stepOk p w n₀ ann n s' t'
     |none=>none)=some s'->_
  unfold topRun;cases through t with
  |true=>exact λh=>aq _<|aq _<|ay h
  |false=>
   dsimp only;cases stepOk n₀ ann t with
   |false=>exact λh=>nomatch h
   |true=>
    dsimp only;cases hs:stepT (denote tb) p w s t with
    |none=>exact λh=>nomatch h
    |some x=>rw[stepT_spec hs];exact ih
noncomputable def ofList(l:List Obj):BT:=(l.foldl (λ(a:BT×Nat) o=>(a.1.ins a.2 o,a.2+1)) (BT.nil,0)).1
noncomputable def CO(P:Params):BT:=ofList (boot_heap P).objs.toList
def boot_abs(P:Params):absHeap (CO P) 11 {}=boot_heap P:=by kernel_rfl
noncomputable def OH:Code->Sem Fin:=PySem.W.Fast.tw11892475500146522536 PySem.W.Fast.tw14364793385576792824
def OI:denote treeTable=OH:=by unfold OH;rw[PySem.W.Fast.te11892475500146522536,PySem.W.Fast.te14364793385576792824]
def J6{o:Obj}(h:o.isFreed=false):alive o=some o:=by obtain⟨c,d,dt,sl⟩:=o;cases dt<;>first|rfl|cases h
def YL{p q:Program}{l m:List Str}{X:Shared->Bool}{s:Shared}(k:(openSeen q l m X true s).2.2.1=true)(c:(looseW q l++((recsOf q).map (·.name)++((litsOf q).map (·.1)++(clssOf q<|looseW q l).map (·.name)))).all p.boundNames.contains=true):namesBound p s.heap=true:=by have a {a b:Bool} (h:(a&&b)=true):=cW.mp h;have o {a b:Bool} (h:(a||b)=true):=Bool.or_eq_true_iff.mp h;have k:=a (a (a (a (a k).1).1).1).1;refine cW.mpr ⟨k.2,bK.mpr λx h=>Bool.or_eq_true_iff.mpr ?_⟩;have c:=λz=>Or.inr (a:=startupNames.contains x=true)<|bK.mp c x z;have m {l:List Str} (h:l.contains x=true):=List.contains_iff_mem.mp h;exact(o<|bK.mp (a k.1).1 x h).elim (λz=>(o z).elim (λz=>(o z).elim (λz=>(o z).elim .inl λz=>c<|bW _<|m z) λz=>c<|bx _<|bW _<|m z) λz=>c<|bx _<|bx _<|bW _<|m z) λz=>c<|bx _<|bx _<|bx _<|m z
def OJ{t:BT}{n:Nat}{life:Life}{k:Frag}(h:(k.map (·.1)).map t.get=k.map λp=>some p.2)(a:k.all (λp=>p.1<n&&!p.2.isFreed)=true):(k.map (·.1)).map (absHeap t n life).get?=k.map λp=>some p.2:=by rw[bZ]at h⊢;refine dW λp hp=>?_;have e:=cW.mp<|bK.mp a p hp;show(absHeap t n life).get? p.1=some p.2;rw[abs_get (aJ e.1)<|List.map_inj_left.mp h p hp];exact J6<|dG _▸e.2
def Vm{o:Option Shared}{h g d k}(e:o.map (λs=>(s.heap,s.gens,s.drawn,s.toks))=some (h,g,d,k)):∃z,o=some ⟨h,g,d,k,z⟩:=(bu.mp e).elim λs z=>⟨s.os,z.1.trans<|aq (λt=>some<|Shared.mk t.1 t.2.1 t.2.2.1 t.2.2.2 s.os) z.2⟩
def OL{p q:Program}{loose:List Str}{Xt:Shared->Bool}{as:List Addr}{KK:Params->Frag}{n₁ N:Nat}{ann:Option Value}
  (open_:∀w:World,(fencedOpening treeTable p w N).map (λs=>(s.heap,s.gens,s.drawn,s.toks))=some (boot_heap w.params,Array.mk [],boot_drawn,boot_toks))
  (size:∀w:World,((boot_heap w.params).isNs mainGlobals,(boot_heap w.params).objs.size,(boot_heap w.params).nsMap mainGlobals "__annotations__")=(true,11,ann))
  (chk:∀(w:World) (os:OsState),(vD OH PySem.W.Fast.tw10156331382660048174 PySem.W.Fast.tw6613529449190102663 p w 11 ann N ⟨CO w.params,11,{},Array.mk [],boot_drawn,boot_toks,os⟩<|topStub p).map (λs=>
    ((staticsOk (importedModules p.main.body) (boot_heap w.params) s.abs.heap&&(gensDone s.abs&&laidKept (boot_heap w.params) s.abs.heap)),
     PySem.W.Fast.tw4187177175401517315 q loose (importedModules p.main.body) Xt true s.abs,s.n,as.map s.tree.get))=some (true,openGood q loose,n₁,(KK w.params).map λp=>some p.2))
  (hb:(looseW q loose++((recsOf q).map (·.name)++((litsOf q).map (·.1)++(clssOf q<|looseW q loose).map (·.name)))).all p.boundNames.contains=true)(okK:∀P,(KK P).all (λp=>p.1<n₁&&!p.2.isFreed)=true)(okA:∀P,as=(KK P).map (·.1)):
  LeftO p q loose Xt (λs=>as.map s.heap.get?) (λw=>(KK w.params).map λp=>some p.2) N:=λw=>by
 obtain⟨os,e⟩:=Vm<|open_ w;obtain⟨sT,r,l⟩:=bu.mp<|chk w os;have m:=cW.mp (aq (·.1) l);have n:=cW.mp m.2;have l2:PySem.W.Fast.tw4187177175401517315 q loose (importedModules p.main.body) Xt true sT.abs=openGood q loose:=aq (·.2.1) l;have l3:sT.n=n₁:=aq (·.2.2.1) l;rw[<-PySem.W.Fast.te4187177175401517315]at l2;rw[<-OI,<-PySem.W.Fast.te10156331382660048174,<-PySem.W.Fast.te6613529449190102663]at r;have r:=Ep _ r;have a:(⟨CO w.params,11,{},Array.mk [],boot_drawn,boot_toks,os⟩:SharedT).abs=⟨boot_heap w.params,Array.mk [],boot_drawn,boot_toks,os⟩:=by show Shared.mk (absHeap (CO w.params) 11 {}) _ _ _ _=_;rw[boot_abs]
 rw[a]at r;have t:topFrom treeTable p w N ⟨boot_heap w.params,Array.mk [],boot_drawn,boot_toks,os⟩=some sT.abs:=by have z:=Prod.mk.inj<|size w;have y:=Prod.mk.inj z.2;unfold topFrom;dsimp only;rw[z.1,y.1,y.2,r];show(match staticsOk (importedModules p.main.body) (boot_heap w.params) sT.abs.heap&&namesBound p sT.abs.heap&&gensDone sT.abs&&laidKept (boot_heap w.params) sT.abs.heap with|true=>_|false=>_)=_;rw[m.1,YL (aq (·.2.2.1) l2) hb,n.1,n.2];rfl
 unfold openEnds;rw[e];show(topFrom treeTable p w N _).map _=_;rw[t,okA w.params];exact aq some (Prod.ext l2 (OJ (okA w.params▸aq (·.2.2.2) l)<|l3▸okK w.params))
noncomputable def Kas:List Addr:=(K {strHash:=λz=>0,shareClass:=λz=>0,mergeTok:=id,idOf:=λz=>0,idOfShared:=λz z=>0,followText:=λz=>false,idOfImm:=λz=>0}).map (·.1)
noncomputable def Yf(s:Shared):List (Option Obj):=Kas.map s.heap.get?
noncomputable def Ya(w:World):List (Option Obj):=(K w.params).map λp=>some p.2
noncomputable def Vn(w:World)(os:OsState):Option SharedT:=
 vD OH PySem.W.Fast.tw10156331382660048174 PySem.W.Fast.tw6613529449190102663 pw w 11 (some<|.ref 6) 20000 ⟨CO w.params,11,{},Array.mk [],boot_drawn,boot_toks,os⟩ (topStub pw)
noncomputable def look(w:World)(s:SharedT):=
 ((staticsOk (importedModules pw.main.body) (boot_heap w.params) s.abs.heap&&(gensDone s.abs&&laidKept (boot_heap w.params) s.abs.heap)),
     PySem.W.Fast.tw4187177175401517315 qv loose (importedModules pw.main.body) (λ_=>true) true s.abs,s.n,Kas.map s.tree.get)
def Vo:(looseW qv loose++((recsOf qv).map (·.name)++((litsOf qv).map (·.1)++(clssOf qv<|looseW qv loose).map (·.name)))).all pw.boundNames.contains=true:=by kernel_rfl
def YM(w:World):(λos=>(Vn (w.withFollow "special-get-raises" false) os).map<|look w)=λ_=>some (true,openGood qv loose,1619,Ya w):=by kernel_rfl
def YN(w:World):(λos=>(Vn (w.withFollow "special-get-raises" true) os).map<|look w)=λ_=>some (true,openGood qv loose,1619,Ya w):=by kernel_rfl
def left:LeftO pw qv loose (λ_=>true) Yf Ya 20000:=by
 refine OL (as:=Kas) (KK:=K) (n₁:=1619) (ann:=some<|.ref 6) (boot_open (by kernel_rfl) (by kernel_rfl) λs=>by kernel_rfl) (λw=>by kernel_rfl) (λw os=>?_) Vo (λP=>by kernel_rfl) λP=>by kernel_rfl
 exact byRow2 "special-get-raises" (P:=λw=>(Vn w os).map (look w)=some (true,openGood qv loose,1619,Ya w)) (λw=>dQ (YM w) os) (λw=>dQ (YN w) os) w
def YO(a b:Bool)(x:a=true)(y:b=true):(a&&b)=true:=by rw[x,y];rfl
def Vp:namesResolve pw=true:=by rw[PySem.W.Fast.te8377067652309620493];kernel_rfl
def OM(b:List Str)(hb:b=[])(s:Bool)(hs:s=false):noRoadLSs {strict:=s,foot:=none,bare:=b} pw.main.body=true:=by subst hb hs;rw[PySem.W.Fast.te8326940854005059898];kernel_rfl
def OO:(namesMeet pw pw.main.body λ_ n=>attrL n)=true:=by rw[PySem.W.Fast.te17119622794617984870,PySem.W.Fast.te17868728402115742887];kernel_rfl
def OP:(["vars","dir","locals"]:List Str).filter (readsOut pw pw.main.body)=[]:=by rw[PySem.W.Fast.te13343964577679436407];kernel_rfl
def Ia:(!(importedModules pw.main.body).all cThrough.contains)=false:=by kernel_rfl
def Vq:sreFenced pw.main=true:=by rw[PySem.W.Fast.te11788848310118352699];kernel_rfl
def OR:((moduleNames pw.main.body).isEmpty||lookedIntoSs (moduleNames pw.main.body) pw.main.body)=true:=by kernel_rfl
def Vr:(pw.boundNames.all λn=>!worldNames.contains n)=true:=by rw[dX,PySem.W.Fast.te14412699480532031325];kernel_rfl
def lo:looksOpen pw=true:=by unfold looksOpen;rw[Ia,OP];exact YO _ _ (YO _ _ (YO _ _ (YO _ _ (YO _ _ Vq OR) Vp) Vr)<|OM _ rfl _ rfl) OO
def J7:OpenRow.partSaid HZ.row=true:=by unfold OpenRow.partSaid;have h:looksOpen HZ.row.prog=true:=lo;rw[h];simp only[fC];rw[PySem.W.Fast.te13582783067957832011];kernel_rfl
def row_said:OpenRow.wellSaid HZ.row=true:=by unfold OpenRow.wellSaid;rw[J7];simp only[fC];rw[dX,PySem.W.Fast.te12749700546528644094];kernel_rfl
def said:HZ.wellSaid=true:=by unfold OpenLaw.wellSaid;rw[row_said];simp only[fC];simp only[PySem.W.Fast.te8326940854005059898,PySem.W.Fast.te17119622794617984870,dX,PySem.W.Fast.te9558739934217749035,PySem.W.Fast.te10501279942588096481,PySem.W.Fast.te8179353310426384613,PySem.W.Fast.te16286561074155671207,PySem.W.Fast.te6984425678791042302,PySem.W.Fast.te10792542408131684335,PySem.W.Fast.te797321630700447069];kernel_rfl
abbrev Walk:Prop:=WalkX qv loose XT Yf Ya HZ.row.toRowW Vl [] λf vs=>PySem.call f vs
theorem head(call:Walk):HZ.Holds:=by
 refine holds_law said λ_=>?_;refine holds_openX (r:=HZ.row) (q:=qv) (loose:=loose) (Xt:=λ_=>true) (XP:=XT) (Yf:=Yf) (Ya:=Ya) (d:=Vl) (kwd:=[]) (N:=20000)
  left (λ_ _=>trivial) (λ_ _ _ _ _=>trivial) ?_ ?_ ?_ (λs _=>recFacts_nil rfl) (by kernel_rfl) row_said ?_ ?_ ?_ call
 ·kernel_rfl
 ·kernel_rfl
 ·kernel_rfl
 ·kernel_rfl
 ·exact⟨rfl,rfl,rfl,rfl,rfl,by decide+kernel⟩
 ·exact⟨[.list [.int 3,.int 1]],by decide+kernel,by decide+kernel⟩
set_option tactic.hygienic false
set_option genCtorIdx true in
inductive MO where
 |inst (c:Nat) (fs:List<|Nat×MV)
 |list (xs:gV)
 |exc (c:Nat) (x:MV)
 |iN (es:List<|LN×MV)
 |ju (es:List<|Int×MV)
 |vE (es:List<|Int×MV)
 |Bu (xs:gV)
structure MH where
 n:Nat
 at_:Nat->Option MO
abbrev ig:=List<|Addr×Obj
structure jK where
 jY:Nat->Option (Addr×Addr)
 news:ig
 iw:ig
 fix:ig
 its:ig
noncomputable abbrev tB(vs:lO):Obj:={cls:=.type "tuple",data:=.seq vs.toArray}
section
variable(U:jK)
mutual
def VR:MV->Value->Prop
 |.none,w=>w=.none
 |.bool b,w=>w=.bool b
 |.int i,w=>∃t,w=.int i t
 |.str s,w=>∃t,w=.str ⟨s.toArray⟩ t
 |.ref i,w=>∃p,U.jY i=some p/\w=.ref p.1
 |.tup l,w=>∃a vs,w=.ref a/\(a,tB vs)∈U.news/\jr l vs
 |.jR f i,w=>∃a p,w=.ref a/\U.jY i=some p/\(a,methodObj (.ref f)<|.ref p.1)∈U.news
 |.cls c,w=>w=.ref c
 |.ty n,w=>w=.type n
def jr:gV->lO->Prop
 |[],ws=>ws=[]
 |v::vs,ws=>∃w F8,ws=w::F8/\VR v w/\jr vs F8
end
end
structure ou(U U':jK):Prop where
 jY:∀i p,U.jY i=some p->U'.jY i=some p
 tup:∀a vs,(a,tB vs)∈U.news->(a,tB vs)∈U'.news
 jR:∀a f x,(a,methodObj f x)∈U.news->(a,methodObj f x)∈U'.news
 fix:U'.fix=U.fix
structure Ext(U U':jK):Prop extends ou U U' where
 iw:U'.iw=U.iw
 its:U'.its=U.its
def Ext.refl{U:jK}:Ext U U:=⟨⟨λz z h=>h,λz z h=>h,λz z z h=>h,rfl⟩,rfl,rfl⟩
def ou.trans{U U' U'':jK}(a:ou U U')(b:ou U' U''):ou U U'':=⟨λi p h=>b.jY i p<|a.jY i p h,λx vs h=>b.tup x vs<|a.tup x vs h,λx f y h=>b.jR x f y<|a.jR x f y h,b.fix.trans a.fix⟩
def Ext.trans{U U' U'':jK}(a:Ext U U')(b:Ext U' U''):Ext U U'':=⟨a.toou.trans b.toou,b.iw.trans a.iw,b.its.trans a.its⟩
section
variable{U U':jK}{P:Prop}
def sI{i:Nat}{w:Value}(h:VR U (.ref i) w)(k:∀p,U.jY i=some p->w=.ref p.1->P):P:=h.elim λp h=>k p h.1 h.2
def xY{l:gV}{w:Value}(h:VR U (.tup l) w)(k:∀a vs,w=.ref a->(a,tB vs)∈U.news->jr U l vs->P):P:=h.elim λa h=>h.elim λvs h=>k a vs h.1 h.2.1 h.2.2
def xd{f i:Nat}{w:Value}(h:VR U (.jR f i) w)(k:∀a p,w=.ref a->U.jY i=some p->(a,methodObj (.ref f)<|.ref p.1)∈U.news->P):P:=h.elim λa h=>h.elim λp h=>k a p h.1 h.2.1 h.2.2
def lu{v:MV}{vs:gV}{ws:lO}(h:jr U (v::vs) ws)(k:∀w r,ws=w::r->VR U v w->jr U vs r->P):P:=h.elim λw h=>h.elim λr h=>k w r h.1 h.2.1 h.2.2
def oG{v:MV}{vs:gV}{w:Value}{r:lO}(h:VR U v w)(t:jr U vs r):jr U (v::vs) (w::r):=⟨w,r,rfl,h,t⟩
def CP(x:ou U U'):(∀v w,VR U v w->VR U' v w)/\∀l ws,jr U l ws->jr U' l ws:=
 have A:=λi w (h:VR U (.ref i) w)=>sI h λp h e=>(⟨p,x.jY i p h,e⟩:VR U' (.ref i) w);have B:=λ(l:gV) (ih:∀ws,jr U l ws->jr U' l ws) w (h:VR U (.tup l) w)=>xY h λa vs e m r=>(⟨a,vs,e,x.tup _ _ m,ih _ r⟩:VR U' (.tup l) w);have C:=λf i w (h:VR U (.jR f i) w)=>xd h λa p e h m=>(⟨a,p,e,x.jY i p h,x.jR _ _ _ m⟩:VR U' (.jR f i) w);have D:=λ(v:MV) (l:gV) (i1:∀w,VR U v w->VR U' v w) (i2:∀ws,jr U l ws->jr U' l ws) ws (h:jr U (v::l) ws)=>lu h λw r e a b=>(⟨w,r,e,i1 w a,i2 r b⟩:jr U' (v::l) ws);⟨λv=>MV.rec (motive_1:=λv=>∀w,VR U v w->VR U' v w) (motive_2:=λl=>∀ws,jr U l ws->jr U' l ws) (λz h=>h) (λz z h=>h) (λz z h=>h) (λz z h=>h) A B C (λz z h=>h) (λz z h=>h) (λz h=>h) D v,
  λl=>MV.rec_1 (motive_1:=λv=>∀w,VR U v w->VR U' v w) (motive_2:=λl=>∀ws,jr U l ws->jr U' l ws) (λz h=>h) (λz z h=>h) (λz z h=>h) (λz z h=>h) A B C (λz z h=>h) (λz z h=>h) (λz h=>h) D l⟩
def VR.mT(x:ou U U'){v:MV}{w:Value}(h:VR U v w):VR U' v w:=(CP x).1 v w h
def jr.mT(x:ou U U'){l:gV}{ws:lO}(h:jr U l ws):jr U' l ws:=(CP x).2 l ws h
def VR.ext(x:Ext U U'){v:MV}{w:Value}(h:VR U v w):VR U' v w:=h.mT x.toou
def jr.ext(x:Ext U U'){l:gV}{ws:lO}(h:jr U l ws):jr U' l ws:=h.mT x.toou
def jr.length{l:gV}:∀{ws:lO},jr U l ws->ws.length=l.length:=
 l.rec (motive:=λl=>∀{ws:lO},jr U l ws->ws.length=l.length) (λh=>aq List.length h) λz z ih z h=>lu h λz z e z h=>(aq List.length e).trans (aq (·+1)<|ih h)
def jr.get{l:gV}:∀{ws:lO} {i:Nat} {v:MV},jr U l ws->l[i]?=some v->(∀w,ws[i]?=some w->VR U v w->P)->P:=
 l.rec (motive:=λl=>∀{ws:lO} {i:Nat} {v:MV},jr U l ws->l[i]?=some v->(∀w,ws[i]?=some w->VR U v w->P)->P) (λz e z=>by cases e)
  λz l ih ws i z h=>lu h λw r e a b=>i.casesOn (λq k=>k w (aq (·[0]?) e)<|ay q▸a) λi q k=>ih (i:=i) b q λw c d=>k w ((aq (·[i+1]?) e).trans c) d
def jr.append{l:gV}:∀{l':gV} {ws F8:lO},jr U l ws->jr U l' F8->jr U (l++l') (ws++F8):=
 l.rec (motive:=λl=>∀{l':gV} {ws F8:lO},jr U l ws->jr U l' F8->jr U (l++l') (ws++F8)) (λh h'=>h▸h') λz z ih z z F8 h h'=>lu h λw r e a b=>⟨w,r++F8,aq (·++F8) e,a,ih b h'⟩
def jr.Er{l l':gV}:∀{ws:lO},jr U (l++l') ws->(∀a b,ws=a++b->jr U l a->jr U l' b->P)->P:=
 l.rec (motive:=λl=>∀{ws:lO},jr U (l++l') ws->(∀a b,ws=a++b->jr U l a->jr U l' b->P)->P) (λh k=>k [] _ rfl rfl h) λz z ih z h k=>lu h λw r e x y=>ih y λa b e' ha hb=>k (w::a) b (e.trans<|aq _ e') (oG x ha) hb
def VR.handed{v:MV}{w:Value}(h:VR U v w):handedIn w=true:=by
 have k:∀{u:Value},w=u->handedIn u=true->handedIn w=true:=λe h=>e▸h;cases v with
 |none=>exact k h rfl
 |bool=>exact k h rfl
 |int=>exact h.elim λz e=>k e rfl
 |str=>exact h.elim λz e=>k e rfl
 |ref=>exact sI h λz z e=>k e rfl
 |tup=>exact xY h λz z e z z=>k e rfl
 |«jR»=>exact xd h λz z e z z=>k e rfl
 |cls=>exact k h rfl
 |ty=>exact k h rfl
def jr.one{v:MV}{x:Value}(h:VR U v x):jr U [v] [x]:=oG h rfl
def jr.two{v u:MV}{x y:Value}(h:VR U v x)(k:VR U u y):jr U [v,u] [x,y]:=oG h<|.one k
def jr.e1{P:lO->Prop}{v:MV}{ws:lO}(h:jr U [v] ws)(k:∀x,VR U v x->P [x]):P ws:=lu h λx r e a (b:r=[])=>by subst e b;exact k x a
def jr.e2{P:lO->Prop}{v u:MV}{ws:lO}(h:jr U [v,u] ws)(k:∀x y,VR U v x->VR U u y->P [x,y]):P ws:=lu h λx r e a b=>by subst e;exact b.e1 (P:=λl=>P<|x::l) λy c=>k x y a c
def rD(k:Nat)(v:MV)(fs:List<|Nat×MV):List (Nat×MV):=fs.rec [(k,v)] λp r ih=>if p.1=k then(k,v)::r else p::ih
def CQ{i:Nat}{u:MV}{r:List (Nat×MV)}:((i,u)::r).lookup i=some u:=by rw[c7,cJ]
def zp{i j:Nat}{u:MV}{r:List (Nat×MV)}(h:j≠i):((i,u)::r).lookup j=r.lookup j:=by rw[c7,eX h]
def tC{k:Nat}{v:MV}{P:List (Nat×MV)->List (Nat×MV)->Prop}(nil:P [] [(k,v)])(hit:∀u r,P ((k,u)::r)<|(k,v)::r)(miss:∀i u r,i≠k->P r (rD k v r)->P ((i,u)::r) ((i,u)::rD k v r))(fs:List<|Nat×MV):P fs (rD k v fs):=by
 induction fs with
 |nil=>exact nil
 |cons p r ih=>
  obtain⟨i,u⟩:=p;by_cases h:i=k
  ·rw[show rD k v ((i,u)::r)=(k,v)::r from aF h,h];exact hit u r
  ·rw[show rD k v ((i,u)::r)=(i,u)::rD k v r from aE h];exact miss i u r h ih
def xe(k:Nat)(v:MV):∀fs:List<|Nat×MV,(rD k v fs).lookup k=some v:=tC (P:=λz l=>l.lookup k=some v) CQ (λz z=>CQ) λz z z h ih=>(zp<|f5 h).trans ih
def rR{k j:Nat}(v:MV)(n:j≠k):∀fs:List<|Nat×MV,(rD k v fs).lookup j=fs.lookup j:=
 tC (P:=λa b=>b.lookup j=a.lookup j) (zp n) (λz z=>(zp n).trans (zp n).symm) λi z z h ih=>by
  by_cases q:j=i
  ·rw[q,CQ,CQ]
  ·rw[zp q,zp q,ih]
def OU(k:Nat)(v:MV):∀fs:List<|Nat×MV,(rD k v fs).length<=fs.length+1:=tC (P:=λa b=>b.length<=a.length+1) (aD _) (λz z=>bX _) λz z z z ih=>aP ih
def OV(k:Nat)(v:MV):∀fs:List<|Nat×MV,fs.length<=(rD k v fs).length:=tC (P:=λa b=>a.length<=b.length) (cg _) (λz z=>aD _) λz z z z ih=>aP ih
def Ib{k:Nat}{v:MV}:∀fs:List<|Nat×MV,fs.lookup k=none->(rD k v fs).length=fs.length+1:=
 tC (P:=λa b=>a.lookup k=none->b.length=a.length+1) (λz=>rfl) (λz z e=>by rw[CQ]at e;cases e) λz z z h ih e=>aq (·+1)<|ih<|(zp<|f5 h).symm.trans e
noncomputable def MH.put(H:MH)(i:Nat)(o:MO):MH:=⟨H.n,λj=>if j=i then some o else H.at_ j⟩
noncomputable def MH.new(H:MH)(o:MO):MH:=⟨H.n+1,λj=>if j=H.n then some o else H.at_ j⟩
noncomputable def MH.del(H:MH)(i:Nat):MH:=⟨H.n,λj=>if j=i then none else H.at_ j⟩
abbrev Loc:=List nF
abbrev QV:=MV->MH->Prop
inductive MF where
 |next|brk|cont
 |ret (v:MV)
abbrev QF:=MF->Loc->MH->Prop
structure jy where
 prog:Program
 K:Params->Frag
 p:Program
 loose:oq
 nm:oq
 tab:Nat->Nat->Bool
 mt:Nat->Nat->Option Nat
 quiet:Bool
 YQ:Nat->Nat->Option Bool
 ca:Nat->Nat->nF
 cv:Nat->Nat->nF
 sd:Nat->Option (List<|LN×MV)
 sl:Option iK
 ini:Nat->Option Nat
 gl:List (Str×Value)
 xs:Nat->Fm->Stmt->Bool
 xw:Nat->Loc->MH->QF->Prop
 xc:Addr
 top:Addr
noncomputable def tD:Nat:=900
structure rS(nm:oq)(U:jK)(fs:List<|Nat×MV)(es:List DictEntry):Prop where
 yes:∀k x v,nm[k]?=some x->fs.lookup k=some v->∃w,getL x es=some (some w)/\VR U v w
 no:∀k x,nm[k]?=some x->fs.lookup k=none->getL x es=some none
noncomputable abbrev gN(l:LN):Str:=⟨l.toArray⟩
noncomputable abbrev Bv(i:Int):Int:=i
inductive sJ{Y K:Type}(dec:Y->K)(U:jK):List (Y×MV)->List (K×Value)->Prop
 |nil:sJ dec U [] []
 |cons {k:Y} {v:MV} {x:Value} {es:List (Y×MV)} {kvs:List (K×Value)}:VR U v x->sJ dec U es kvs->sJ dec U ((k,v)::es) ((dec k,x)::kvs)
def AV(U:jK)(i:Nat)(a:Addr):Prop:=∃p,U.jY i=some p/\(a=p.1∨a=p.2)
inductive vF(S:jy)(U:jK)(i c:Nat)(fs:List<|Nat×MV):Prop
 |mk (p:Addr×Addr) (es:List DictEntry) (n:Nat):U.jY i=some p->(p.1,instObj c p.2)∈U.news->(p.2,dictOf es n)∈U.news->rS S.nm U fs es->es.length<=fs.length->fs.length<=tD->(∀k v,fs.lookup k=some v->S.tab c k=true)->vF S U i c fs
inductive jT(U:jK)(i:Nat)(l:ig)(xs:gV):Prop
 |mk (a:Addr) (vs:lO) (n:Nat):U.jY i=some (a,a)->(a,listOf vs.toArray n)∈l->jr U xs vs->xs.length<=1000000->jT U i l xs
inductive OW(U:jK)(i c:Nat)(x:MV):Prop
 |mk (p:Addr×Addr) (ox:Obj) (es:List DictEntry) (n:Nat) (wv:Value) (vs:Array Value):U.jY i=some p->(p.1,ox)∈U.news->ox.cls=.ref c->ox.dict=some p.2->ox.data=.fields vs->(p.2,dictOf es n)∈U.news->getL "problem_mark" es=some (some wv)->VR U x wv->OW U i c x
inductive nG{prog:Program}{w:World}{Y K:Type}[DecidableEq K](dec:Y->K)(knd:KeyKind prog w K)(U:jK)(i:Nat)(l:ig)(es:List<|Y×MV):Prop
 |mk (a:Addr) (o:Obj) (kvs:List<|K×Value):U.jY i=some (a,a)->(a,o)∈l->o.IsDictOf knd kvs->sJ dec U es kvs->es.length<=tD->(a==sysModules)=false->nG dec knd U i l es
variable(S:jy)(w:World)
def yo(U:jK)(i:Nat)(o:MO):Prop:=o.rec (λc fs=>vF S U i c fs) (λxs=>jT U i U.news xs) (λc x=>OW U i c x) (λes=>nG gN (strKind S.prog w) U i U.news es) (λes=>nG Bv (intKind S.prog w) U i U.news es) (λes=>nG Bv (intKind S.prog w) U i U.iw es) λxs=>jT U i U.fix xs
def MO.off(o:MO):Bool:=o.rec As um As um um (λz=>true) λz=>true
def jK.held(U:jK)(p:Addr×Obj):Prop:=p∈U.iw∨p∈U.fix∨p∈U.its
structure lY(U:jK)(H:MH):Prop where
 nodup:(U.news.map (·.1)).Nodup
 lt:∀i p,U.jY i=some p->i<H.n
 dom:∀i o,H.at_ i=some o->i<H.n
 El:∀i a,AV U i a->∃o,(a,o)∈U.news
 inj:∀i j a,AV U i a->AV U j a->i=j
 obj:∀i o,H.at_ i=some o->yo S w U i o
 pin:∀p,U.held p->p∈U.news
 uX:∀p∈U.its,∀i,¬AV U i p.1
 tE:∀p,U.held p->∀i o,H.at_ i=some o->o.off=false->¬AV U i p.1
structure Step(U U':jK)(H':MH):Prop where
 x:Ext U U'
 R:lY S w U' H'
structure xZ(U U':jK)(H':MH):Prop where
 x:ou U U'
 R:lY S w U' H'
def rE{news:ig}(h:(news.map (·.1)).Nodup){a:Addr}{o o':Obj}(x:(a,o)∈news)(y:(a,o')∈news):o=o':=by
 induction news with
 |nil=>cases x
 |cons p r ih=>
  have h':=bN.mp h;rcases ao.mp x with x|x<;>rcases ao.mp y with y|y
  ·exact(Prod.mk.inj<|x.trans y.symm).2
  ·exact aG (cM (f:=(·.1)) y)<|by rw[<-x]at h';exact h'.1
  ·exact aG (cM (f:=(·.1)) x)<|by rw[<-y]at h';exact h'.1
  ·exact ih h'.2 x y
def rT(d:Addr)(o':Obj)(l:ig):ig:=l.rec [] λp r ih=>if p.1=d then(d,o')::r else p::ih
def Bw{d:Addr}{o':Obj}{p:Addr×Obj}{r:ig}(h:p.1=d):rT d o' (p::r)=(d,o')::r:=aF h
def Bx{d:Addr}{o':Obj}{p:Addr×Obj}{r:ig}(h:p.1≠d):rT d o' (p::r)=p::rT d o' r:=aE h
def CR(d:Addr)(o':Obj)(l:ig):(rT d o' l).map (·.1)=l.map (·.1):=by
 induction l with
 |nil=>rfl
 |cons p r ih=>
  by_cases h:p.1=d
  ·rw[Bw h,cG,cG,h]
  ·rw[Bx h,cG,cG,ih]
def tF{d:Addr}{o o':Obj}{l:ig}(x:(d,o)∈l):(d,o')∈rT d o' l:=by
 induction l with
 |nil=>cases x
 |cons p r ih=>
  by_cases h:p.1=d
  ·rw[Bw h];exact .head _
  ·rw[Bx h];rcases ao.mp x with e|x
   ·exact aG (aq fst e).symm h
   ·exact .tail _<|ih x
def vG{a d:Addr}{o' ob:Obj}{l:ig}(n:a≠d)(x:(a,ob)∈l):(a,ob)∈rT d o' l:=by
 induction l with
 |nil=>cases x
 |cons p r ih=>
  by_cases h:p.1=d
  ·rw[Bw h];rcases ao.mp x with e|x
   ·exact aG ((aq fst e).trans h) n
   ·exact .tail _ x
  ·rw[Bx h];rcases ao.mp x with e|x
   ·exact e▸.head _
   ·exact .tail _<|ih x
def rU{news:ig}(h:(news.map (·.1)).Nodup){d:Addr}{o:Obj}(x:(d,o)∈news):UpdF d o news λo'=>rT d o' news:=by
 induction news with
 |nil=>cases x
 |cons p r ih=>
  have h':=bN.mp h;by_cases hd:p.1=d
  ·rw[show(λo'=>rT d o'<|p::r)=λo'=>(d,o')::r from funext λz=>Bw hd];rcases ao.mp x with e|x
   ·cases e;exact .head λq hq e=>h'.1 (e▸cM (f:=(·.1)) hq)
   ·exact aG (cM (f:=(·.1)) x)<|hd▸h'.1
  ·rw[show(λo'=>rT d o'<|p::r)=λo'=>p::rT d o' r from funext λz=>Bx hd];rcases ao.mp x with e|x
   ·exact aG (aq fst e).symm hd
   ·exact .tail hd<|ih h'.2 x
def uo{d:Addr}{o:Obj}{l:ig}{g:Obj->ig}(o':Obj)(h:UpdF d o l g):Upd d o o' l (g o'):=by
 induction h with
 |head h=>exact .head h
 |tail h _ ih=>exact .tail h ih
end
section
variable{S:jy}{w:World}{U U':jK}{H:MH}
def rS.mT(x:ou U U'){nm:oq}{fs:List (Nat×MV)}{es:List DictEntry}(h:rS nm U fs es):rS nm U' fs es:=
 ⟨λk y v a b=>(h.yes k y v a b).elim λu c=>⟨u,c.1,c.2.mT x⟩,h.no⟩
def sJ.mT{Y K:Type}{dec:Y->K}(x:ou U U'){es:List (Y×MV)}{kvs:List (K×Value)}(h:sJ dec U es kvs):sJ dec U' es kvs:=h.rec .nil λa z ih=>.cons (a.mT x) ih
def jT.move{i:Nat}{l l':ig}{xs:gV}(h:jT U i l xs)(x:ou U U')(k:∀a ob,AV U i a->(a,ob)∈l->(a,ob)∈l'):jT U' i l' xs:=by obtain⟨p,vs,n,h1,h2,h3,h4⟩:=h;exact⟨p,vs,n,x.jY _ _ h1,k _ _ ⟨_,h1,.inl rfl⟩ h2,h3.mT x,h4⟩
def nG.move{prog:Program}{Y K:Type}[DecidableEq K]{dec:Y->K}{knd:KeyKind prog w K}{i:Nat}{l l':ig}{es:List (Y×MV)}(h:nG dec knd U i l es)(x:ou U U')(k:∀a ob,AV U i a->ob.cls=.type "dict"->(a,ob)∈l->(a,ob)∈l'):nG dec knd U' i l' es:=by obtain⟨p,o,kvs,h1,h2,h3,h4,h5,h6⟩:=h;exact⟨p,o,kvs,x.jY _ _ h1,k _ _ ⟨_,h1,.inl rfl⟩ (h3.elim λz h=>h.elim λz h=>h.1.1) h2,h3,h4.mT x,h5,h6⟩
def yo.move{i:Nat}{o:MO}(h:yo S w U i o)(x:ou U U')(k:o.off=false->∀a ob,AV U i a->(a,ob)∈U.news->(a,ob)∈U'.news)(kp:∀a ob,AV U i a->ob.cls=.type "dict"->(a,ob)∈U.iw->(a,ob)∈U'.iw):yo S w U' i o:=by
 induction o with
 |inst c fs=>obtain⟨p,es,n,h1,h2,h3,h4,h5,h6,h7⟩:=(h:vF S U i c fs);exact vF.mk p es n (x.jY _ _ h1) (k rfl _ _ ⟨p,h1,.inl rfl⟩ h2) (k rfl _ _ ⟨p,h1,.inr rfl⟩ h3) (h4.mT x) h5 h6 h7
 |list xs=>exact jT.move h x<|k rfl
 |exc c v=>obtain⟨p,ox,es,n,wv,vs,h1,h2,h3,h4,h5,h6,h7,h8⟩:=(h:OW U i c v);exact OW.mk p ox es n wv vs (x.jY _ _ h1) (k rfl _ _ ⟨p,h1,.inl rfl⟩ h2) h3 h4 h5 (k rfl _ _ ⟨p,h1,.inr rfl⟩ h6) h7<|h8.mT x
 |iN es=>exact nG.move h x λa ob m z=>k rfl a ob m
 |ju es=>exact nG.move h x λa ob m z=>k rfl a ob m
 |vE es=>exact nG.move h x kp
 |Bu xs=>exact jT.move h x λa ob z m=>x.fix.symm▸m
def vH{i j:Nat}{o u:MO}{P:Prop}(h:(H.put i o).at_ j=some u)(y:j=i->u=o->P)(n:j≠i->H.at_ j=some u->P):P:=
 if e:j=i then y e (ay<|(aF e:(if j=i then some o else H.at_ j)=_).symm.trans h).symm else n e<|(aE e:(if j=i then some o else H.at_ j)=_).symm.trans h
def J8{j:Nat}{o u:MO}{P:Prop}(h:(H.new o).at_ j=some u)(y:j=H.n->u=o->P)(n:j≠H.n->H.at_ j=some u->P):P:=
 if e:j=H.n then y e (ay<|(aF e:(if j=H.n then some o else H.at_ j)=_).symm.trans h).symm else n e<|(aE e:(if j=H.n then some o else H.at_ j)=_).symm.trans h
def J9{i j:Nat}{u:MO}{P:Prop}(h:(H.del i).at_ j=some u)(n:j≠i->H.at_ j=some u->P):P:=
 if e:j=i then aG ((aF e:(if j=i then none else H.at_ j)=_).symm.trans h) (by intro e;cases e)else n e<|(aE e:(if j=i then none else H.at_ j)=_).symm.trans h
def jK.upd(U:jK)(d:Addr)(o':Obj):jK:=⟨U.jY,rT d o' U.news,U.iw,U.fix,U.its⟩
def lY.upd{i:Nat}{o o':MO}{d:Addr}{ob Au:Obj}(R:lY S w U H)(h:H.at_ i=some o)(ho:o.off=false)(own:AV U i d)(hd:(d,ob)∈U.news)(nt:ob.cls≠.type "tuple")(nm:ob.cls≠.type "method")(ho':o'.off=false)
  (obj:Ext U (U.upd d Au)->(d,Au)∈(U.upd d Au).news->(∀a x,a≠d->(a,x)∈U.news->(a,x)∈(U.upd d Au).news)->yo S w (U.upd d Au) i o'):Step S w U (U.upd d Au) (H.put i o'):=
 have kp:∀a x,a≠d->(a,x)∈U.news->(a,x)∈(U.upd d Au).news:=λa x n m=>vG n m;have X:Ext U (U.upd d Au):=⟨⟨λz z h=>h,λa vs m=>kp a _ (λe=>nt<|rE R.nodup hd (e▸m)▸rfl) m,λa f x m=>kp a _ (λe=>nm<|rE R.nodup hd (e▸m)▸rfl) m,rfl⟩,rfl,rfl⟩;⟨X,(CR d Au U.news).symm▸R.nodup,R.lt,λj u hj=>vH hj (λe z=>by rw[e];exact R.dom i o h) λz=>R.dom j u,λj a m=>(R.El j a m).elim λx hx=>if e:a=d then⟨Au,by rw[e];exact tF hd⟩else⟨x,kp a x e hx⟩,R.inj,
  λj u hj=>vH hj (λe e'=>by rw[e,e'];exact obj X (tF hd) kp) λn q=>(R.obj j u q).move X.toou (λz a x m=>kp a x λe=>n<|R.inj j i a m<|e▸own) λz z z z m=>m,
  λp hp=>kp p.1 p.2 (λe=>R.tE p hp i o h ho<|e▸own)<|R.pin p hp,R.uX,λp hp j u hj=>vH hj (λe z z=>by rw[e];exact R.tE p hp i o h ho) λz q=>R.tE p hp j u q⟩
noncomputable def jK.new(U:jK)(n:Nat)(a d:Addr)(more:ig):jK:=⟨λj=>if j=n then some (a,d)else U.jY j,more++U.news,U.iw,U.fix,U.its⟩
def jK.uq{n:Nat}{a d:Addr}{more:ig}:(U.new n a d more).jY n=some (a,d):=aF rfl
def jK.q9{n:Nat}{a d:Addr}{more:ig}:VR (U.new n a d more) (.ref n) (.ref a):=⟨(a,d),jK.uq,rfl⟩
structure OY(U:jK)(more:ig)(b:Addr):Prop where
 El:∃x,(b,x)∈more++U.news
 off:∀i,¬AV U i b
 held:∀p,U.held p->p.1≠b
def lY.free{more:ig}{b:Addr}(R:lY S w U H)(fresh:∀p∈more,∀p'∈U.news,p'.1≠p.1)(h:∃x,(b,x)∈more):OY U more b:=h.elim λx m=>⟨⟨x,bW _ m⟩,λi a=>(R.El i b a).elim λy n=>fresh _ m _ n rfl,λp hp=>fresh _ m _<|R.pin p hp⟩
def lY.place{o:MO}{a d:Addr}{more:ig}(R:lY S w U H)(nd:(more.map (·.1)).Nodup)(fresh:∀p∈more,∀p'∈U.news,p'.1≠p.1)(ha:OY U more a)(hd:OY U more d)(obj:Ext U (U.new H.n a d more)->yo S w (U.new H.n a d more) H.n o):Step S w U (U.new H.n a d more) (H.new o):=
 have old:∀j p,U.jY j=some p->j≠H.n:=λj p h e=>bI _<|e▸R.lt j p h;have X:Ext U (U.new H.n a d more):=⟨⟨λi p h=>(aE<|old i p h).trans h,λv v m=>bx _ m,λv v v m=>bx _ m,rfl⟩,rfl,rfl⟩;have at_:∀{P:Prop} j b,AV (U.new H.n a d more) j b->(j=H.n->OY U more b->P)->(AV U j b->P)->P:=λj b h y n=>h.elim λp h=>if e:j=H.n then(have q:(a,d)=p:=ay<|(aF e).symm.trans h.1;y e<|h.2.elim (λz=>z▸q▸ha) λz=>z▸q▸hd)else n ⟨p,(aE e).symm.trans h.1,h.2⟩;⟨X,by
  refine(show((more++U.news).map (·.1)).Nodup from ?_);rw[bJ];exact fz.mpr ⟨nd,R.nodup,λx hx y hy e=>(bU.mp hx).elim λp hp=>(bU.mp hy).elim λp' uY=>fresh p hp.1 p' uY.1<|uY.2.trans<|e.symm.trans hp.2.symm⟩,
  λj p h=>if e:j=H.n then(by rw[e];exact bS _)else aR<|R.lt j p<|(aE e).symm.trans h,
  λj u h=>J8 h (λe v=>by rw[e];exact bS _) λv q=>aR<|R.dom j u q,
  λj b m=>at_ j b m (λv h=>h.El) λm=>(R.El j b m).elim λx h=>⟨x,bx _ h⟩,
  λi j b mi mj=>at_ i b mi (λei hi=>at_ j b mj (λej v=>ei.trans ej.symm) λmj=>(hi.off j mj).elim) λmi=>at_ j b mj (λv hj=>(hj.off i mi).elim) λmj=>R.inj i j b mi mj,
  λj u h=>J8 h (λe e'=>by rw[e,e'];exact obj X) λv q=>(R.obj j u q).move X.toou (λv v v v m=>bx _ m) λv v v v m=>m,
  λp hp=>bx _<|R.pin p hp,
  λp hp j m=>at_ j p.1 m (λv q=>q.held p (.inr<|.inr hp) rfl)<|R.uX p hp j,
  λp hp j u h ho m=>at_ j p.1 m (λv q=>q.held p hp rfl) λm=>J8 h (λe v=>m.elim λv z=>old _ _ z.1 e) λv q=>R.tE p hp j u q ho m⟩
def lY.alloc{o:MO}{a d:Addr}{more:ig}(R:lY S w U H)(nd:(more.map (·.1)).Nodup)(fresh:∀p∈more,∀p'∈U.news,p'.1≠p.1)(ha:∃x,(a,x)∈more)(hd:∃x,(d,x)∈more)(no:o.off=false)(obj:Ext U (U.new H.n a d more)->yo S w (U.new H.n a d more) H.n o):Step S w U (U.new H.n a d more) (H.new o):=
 R.place nd fresh (R.free fresh ha) (R.free fresh hd) obj
def lY.more{more:ig}(R:lY S w U H)(nd:((more++U.news).map (·.1)).Nodup):Step S w U ⟨U.jY,more++U.news,U.iw,U.fix,U.its⟩ H:=
 have X:Ext U ⟨U.jY,more++U.news,U.iw,U.fix,U.its⟩:=⟨⟨λz z h=>h,λz z m=>bx _ m,λz z z m=>bx _ m,rfl⟩,rfl,rfl⟩;⟨X,nd,R.lt,R.dom,λi a m=>(R.El i a m).elim λx h=>⟨x,bx _ h⟩,R.inj,λj u h=>(R.obj j u h).move X.toou (λz z z z m=>bx _ m) λz z z z m=>m,λp hp=>bx _<|R.pin p hp,R.uX,R.tE⟩
def lY.yR{more:ig}(R:lY S w U H)(nd:((more++U.news).map (·.1)).Nodup):xZ S w U ⟨U.jY,more++U.news,U.iw,U.fix,more++U.its⟩ H:=
 have Z:=R.more nd;have off:∀p∈more,∀i,¬AV U i p.1:=λp hp i m=>(R.El i p.1 m).elim λx h=>by rw[bJ]at nd;exact(fz.mp nd).2.2 p.1 (cM (f:=(·.1)) hp) p.1 (cM (f:=(·.1)) h) rfl
 have X:ou U ⟨U.jY,more++U.news,U.iw,U.fix,more++U.its⟩:=⟨λz z h=>h,λz z m=>bx _ m,λz z z m=>bx _ m,rfl⟩;⟨X,nd,R.lt,R.dom,Z.R.El,R.inj,λj u h=>(R.obj j u h).move X (λz z z z m=>bx _ m) λz z z z m=>m,
  λp hp=>hp.elim (λh=>Z.R.pin p<|.inl h) λh=>h.elim (λh=>Z.R.pin p<|.inr<|.inl h) λh=>(bF.mp h).elim (bW _) λh=>Z.R.pin p<|.inr<|.inr h,
  λp hp=>(bF.mp hp).elim (off p)<|R.uX p,
  λp hp=>hp.elim (λh=>R.tE p<|.inl h) λh=>h.elim (λh=>R.tE p<|.inr<|.inl h) λh=>(bF.mp h).elim (λh i z z z=>off p h i) λh=>R.tE p<|.inr<|.inr h⟩
def qy(o:Obj):Prop:=o.cls≠.type "tuple"/\o.cls≠.type "method"
noncomputable def rF(wr:List Addr)(news:ig):ig:=news.filter λp=>!(wr.contains p.1)
def jm{wr:List Addr}{news:ig}{p:Addr×Obj}:p∈rF wr news↔p∈news/\p.1∉wr:=by unfold rF;simp[List.mem_filter]
def lY.OZ{own its:ig}{wr:List Addr}(R:lY S w U H)(hp:U.its=own++its)(hw:∀b∈wr,∃o,(b,o)∈own)(hv:∀p∈own,p.1∈wr/\qy p.2)(hps:∀p,jK.held ⟨U.jY,U.news,U.iw,U.fix,its⟩ p->p.1∉wr):
  xZ S w U ⟨U.jY,rF wr U.news,U.iw,U.fix,its⟩ H:=
 have oi:∀p∈own,p∈U.its:=λp h=>hp▸bW _ h;have si:∀p∈its,p∈U.its:=λp h=>hp▸bx _ h;have hd:∀p,jK.held ⟨U.jY,U.news,U.iw,U.fix,its⟩ p->U.held p:=λp h=>h.imp id<|.imp id<|si p;have nv:∀a x,(a,x)∈U.news->a∈wr->qy x:=λa x m h=>(hw a h).elim λo h'=>rE R.nodup (R.pin _<|.inr<|.inr<|oi _ h') m▸(hv _ h').2;have na:∀i a,AV U i a->a∉wr:=λi a m h=>(hw a h).elim λo h'=>R.uX _ (oi _ h') i m;have X:ou U ⟨U.jY,rF wr U.news,U.iw,U.fix,its⟩:=⟨λz z h=>h,λa vs m=>jm.mpr ⟨m,λh=>(nv a _ m h).1 rfl⟩,λa f x m=>jm.mpr ⟨m,λh=>(nv a _ m h).2 rfl⟩,rfl⟩;⟨X,R.nodup.sublist<|List.Sublist.map _ List.filter_sublist,R.lt,R.dom,λi a m=>(R.El i a m).elim λx h=>⟨x,jm.mpr ⟨h,na i a m⟩⟩,R.inj,
  λj u h=>(R.obj j u h).move X (λz a z m h=>jm.mpr ⟨h,na j a m⟩) λz z z z m=>m,
  λp h=>jm.mpr ⟨R.pin p<|hd p h,hps p h⟩,λp h=>R.uX p<|si p h,λp h=>R.tE p<|hd p h⟩
def lY.YR{i:Nat}{es:List (Int×MV)}{a:Addr}{o:Obj}{kvs:List (Int×Value)}(R:lY S w U H)(hi:H.at_ i=some (.ju es))(ha:U.jY i=some (a,a))(hm:(a,o)∈U.news)(hd:o.IsDictOf (intKind S.prog w) kvs)(hr:sJ Bv U es kvs)(hl:es.length<=tD)(lo:(a==sysModules)=false):
  xZ S w U ⟨U.jY,U.news,(a,o)::U.iw,U.fix,U.its⟩ (H.put i<|.vE es):=
 have X:ou U ⟨U.jY,U.news,(a,o)::U.iw,U.fix,U.its⟩:=⟨λz z h=>h,λz z m=>m,λz z z m=>m,rfl⟩;have low:∀p,jK.held ⟨U.jY,U.news,(a,o)::U.iw,U.fix,U.its⟩ p->p=(a,o)∨U.held p:=λp h=>h.elim (λh=>(ao.mp h).imp id .inl) λh=>.inr (.inr h);⟨X,R.nodup,R.lt,λj u h=>vH h (λe z=>by rw[e];exact R.dom i _ hi) λz=>R.dom j u,R.El,R.inj,
  λj u h=>vH h (λe e'=>by rw[e,e'];exact nG.mk a o kvs ha (.head _) hd (hr.mT X) hl lo) λz q=>(R.obj j u q).move X (λz z z z m=>m) λz z z z m=>.tail _ m,
  λp h=>(low p h).elim (λe=>e▸hm)<|R.pin p,R.uX,
  λp h j u hj ho=>vH hj (λz e=>by rw[e]at ho;cases ho) λn q=>(low p h).elim (λe m=>n<|R.inj j i a (by rw[e]at m;exact m) ⟨_,ha,.inl rfl⟩) λh=>R.tE p h j u q ho⟩
def lY.YS{i:Nat}{es:List (Int×MV)}{a:Addr}{o:Obj}{ps:ig}(R:lY S w U H)(hp:U.iw=(a,o)::ps)(hi:H.at_ i=some (.vE es))(ha:U.jY i=some (a,a))(nd:∀p,jK.held ⟨U.jY,U.news,ps,U.fix,U.its⟩ p->p.1≠a):
  xZ S w U ⟨U.jY,U.news,ps,U.fix,U.its⟩ (H.put i<|.ju es):=
 have X:ou U ⟨U.jY,U.news,ps,U.fix,U.its⟩:=⟨λy y h=>h,λy y m=>m,λy y y m=>m,rfl⟩;have hd:∀p,jK.held ⟨U.jY,U.news,ps,U.fix,U.its⟩ p->U.held p:=λp h=>h.imp (λh=>hp▸.tail _ h) id;have Z:nG Bv (intKind S.prog w) U i U.iw es:=R.obj i _ hi;⟨X,R.nodup,R.lt,λj u h=>vH h (λe y=>by rw[e];exact R.dom i _ hi) λy=>R.dom j u,R.El,R.inj,
  λj u h=>vH h (λe e'=>by rw[e,e'];exact Z.move X λy y y y m=>R.pin _<|.inl m) λn q=>(R.obj j u q).move X (λy y y y m=>m) λb x m y q=>(ao.mp (hp▸q:(b,x)∈(a,o)::ps)).elim (λe=>aG (R.inj j i b m ⟨_,ha,.inl<|aq fst e⟩) n) id,
  λp h=>R.pin p<|hd p h,R.uX,
  λp h j u hj ho=>vH hj (λe y m=>by rw[e]at m;exact m.elim λq z=>nd p h (by have:=ay<|ha.symm.trans z.1;rw[<-this]at z;exact z.2.elim id id)) λy q=>R.tE p (hd p h) j u q ho⟩
def lY.Ka{i:Nat}{xs:gV}{a:Addr}{o:Obj}(R:lY S w U H)(hi:H.at_ i=some (.list xs))(ha:AV U i a)(hm:(a,o)∈U.news):xZ S w U ⟨U.jY,U.news,(a,o)::U.iw,U.fix,U.its⟩ (H.del i):=
 have X:ou U ⟨U.jY,U.news,(a,o)::U.iw,U.fix,U.its⟩:=⟨λz z h=>h,λz z m=>m,λz z z m=>m,rfl⟩;have low:∀p,jK.held ⟨U.jY,U.news,(a,o)::U.iw,U.fix,U.its⟩ p->p=(a,o)∨U.held p:=λp h=>h.elim (λh=>(ao.mp h).imp id .inl) λh=>.inr (.inr h);⟨X,R.nodup,R.lt,λj u h=>J9 h λz=>R.dom j u,R.El,R.inj,λj u h=>J9 h λz q=>(R.obj j u q).move X (λz z z z m=>m) λz z z z m=>.tail _ m,
  λp h=>(low p h).elim (λe=>e▸hm)<|R.pin p,R.uX,
  λp h j u hj ho=>J9 hj λn q=>(low p h).elim (λe m=>n<|R.inj j i a (by rw[e]at m;exact m) ha) λh=>R.tE p h j u q ho⟩
def lY.Kc{a:Addr}{o:Obj}{ps:ig}(R:lY S w U H)(hp:U.iw=(a,o)::ps)(ho:o.cls≠.type "dict"):xZ S w U ⟨U.jY,U.news,ps,U.fix,U.its⟩ H:=
 have X:ou U ⟨U.jY,U.news,ps,U.fix,U.its⟩:=⟨λz z h=>h,λz z m=>m,λz z z m=>m,rfl⟩;have hd:∀p,jK.held ⟨U.jY,U.news,ps,U.fix,U.its⟩ p->U.held p:=λp h=>h.imp (λh=>hp▸.tail _ h) id;⟨X,R.nodup,R.lt,R.dom,R.El,R.inj,λj u q=>(R.obj j u q).move X (λz z z z m=>m) λb x z c q=>(ao.mp (hp▸q:(b,x)∈(a,o)::ps)).elim (λe=>aG ((aq (λp:Addr×Obj=>p.2.cls) e).symm.trans c) ho) id,
  λp h=>R.pin p<|hd p h,R.uX,λp h=>R.tE p<|hd p h⟩
structure F9(K:Frag)(c:Addr)(x:Str):Prop where
 get:plainGet K c x=true
 dict:hasDictIn K c=true
 cls:∃a,findIn K (.ref c) x=some a/\noGet K a=true
 set:findIn K (.ref c) "__setattr__"=some (some<|.builtin "object.__setattr__")
 over:plainOver K c=true
 YT:takerIn K c x=some none
structure Kd(K:Frag)(c:Addr)(x:Str)(f:Addr):Prop where
 get:plainGet K c x=true
 find:findIn K (.ref c) x=some (some<|.ref f)
 Tc:isFn K (.ref f)=true
 fn:fnIn K f=true
 keep:keepIn K (.ref f)=true
 dict:hasDictIn K c=true
 ab6:specialIn K (.ref f) "__get__"=some (some<|.builtin "function.__get__")
 takes:takesIn K (.ref f)=some false
 Es:copiedNames.contains x=false
structure Ke(S:jy)(w:World):Prop where
 nodup:S.nm.Nodup
 tab:∀(c k:Nat) (x:Str),S.tab c k=true->S.nm[k]?=some x->F9 (S.K w.params) c x
 mt:∀(c k:Nat) (x:Str) (f:Nat),S.mt c k=some f->S.nm[k]?=some x->Kd (S.K w.params) c x f
noncomputable abbrev Fm.env(f:Fm)(L:Addr):Env:=envX f.cn f.sc L f.fa f.ccd f.cl
structure Th where
 S:jy
 w:World
 f:Fm
structure Gm where
 A:Around
 A₀:Around
 base:Heap
 h₀:Heap
 outer:List Env
 L:Addr
structure Rh where
 U:jK
 m:Str->Option Value
 s:Shared
structure CT(u:Nat)(A:Around):Prop where
 depth:A.depth+u<=900
 units:A.units+12*u<=9000
noncomputable abbrev Th.K(V:Th):Frag:=V.S.K V.w.params
noncomputable abbrev Th.M(V:Th):Model:=model V.S.prog V.w
structure Ctx(V:Th)(G:Gm):Prop where
 B:Below G.A₀ G.base G.outer G.h₀
 fr:G.A.frames=some (V.f.env G.L::G.outer)
 X:V.K.In G.h₀
 T:∃mg mb,TopRead V.S.p V.S.loose mg mb G.h₀
 uD:V.f.sc.kind=.function
 nodup:V.f.ns.Nodup
 quiet:V.S.quiet=true->G.A.handled=none
 top:V.f.fa=V.S.top->G.base=G.h₀
def O0(f:Fm)(U:jK)(Lc:Loc)(m:Str->Option Value):Prop:=∀(k:Nat) (x:Str) (v:MV),f.ns[k]?=some x->Lc[k]?=some (some v)->∃wv,m x=some wv/\VR U v wv
structure St(V:Th)(G:Gm)(r:Rh)(Lc:Loc)(H:MH):Prop where
 F:Fr G.h₀ G.L r.s.heap r.m
 N:News G.h₀ G.L r.s.heap r.U.news
 R:lY V.S V.w r.U H
 loc:O0 V.f r.U Lc r.m
structure Le(r r':Rh):Prop where
 x:Ext r.U r'.U
 g:r'.s.gens=r.s.gens
 o:r'.s.os=r.s.os
def Le.refl{r:Rh}:Le r r:=⟨.refl,rfl,rfl⟩
def Le.trans{r r' r'':Rh}(a:Le r r')(b:Le r' r''):Le r r'':=⟨a.x.trans b.x,b.g.trans a.g,b.o.trans a.o⟩
structure At(V:Th)(u:Nat)(G:Gm)(r:Rh)(Lc:Loc)(H:MH):Prop where
 C:Ctx V G
 rm:CT u G.A
 T:St V G r Lc H
def ku{α:Type}(r:Rh)(P:α->Rh->Prop)(v:α)(s:Shared):Prop:=∃r',r'.s=s/\Le r r'/\P v r'
inductive uE{α Z:Type}(V:Th)(G:Gm)(Lc:Loc)(J:jK->Z->α->Prop)(Q:Z->MH->Prop)(v:α)(r:Rh):Prop
 |mk (H:MH) (b:Z):St V G r Lc H->J r.U b v->Q b H->uE V G Lc J Q v r
abbrev EqR{α:Type}(_:jK)(a b:α):Prop:=a=b
abbrev Et(_:jK)(_ _:Unit):Prop:=True
def Go{α:Type}(V:Th)(G:Gm)(E:qT)(r:Rh)(t:Sem α)(P:α->Rh->Prop):Prop:=wpAny V.M G.A t (ku r P) E r.s
def Ev{α Z:Type}(V:Th)(u:Nat)(Lc:Loc)(H:MH)(t:Gm->Sem α)(J:jK->Z->α->Prop)(Q:Z->MH->Prop):Prop:=∀G E r,At V u G r Lc H->Go V G E r (t G) (uE V G Lc J Q)
def jl{α Z:Type}(V:Th)(u:Nat)(Lc:Loc)(H:MH)(g7:gV)(t:lO->Sem α)(J:jK->Z->α->Prop)(Q:Z->MH->Prop):Prop:=
 ∀G E r ws,At V u G r Lc H->jr r.U g7 ws->Go V G E r (t ws) (uE V G Lc J Q)
def gY(V:Th)(u:Nat)(e:Expr)(Lc:Loc)(H:MH)(Q:QV):Prop:=Ev V u Lc H (λG=>eval e<|V.f.env G.L) VR Q
def rN(V:Th)(u:Nat)(e:Expr)(Lc:Loc)(H:MH)(Q:Bool->MH->Prop):Prop:=Ev V u Lc H (λG=>isTrue e (V.f.env G.L)<|eval e<|V.f.env G.L) EqR Q
def YU(V:Th)(u:Nat)(v:MV)(Lc:Loc)(H:MH)(Q:Bool->MH->Prop):Prop:=∀G E r x,At V u G r Lc H->VR r.U v x->Go V G E r (truthy x) (uE V G Lc EqR Q)
variable{V:Th}{u:Nat}{G:Gm}{E:qT}{r r':Rh}{Lc:Loc}{H':MH}{Q Q':QV}{α Z:Type}{t:Sem α}{P:α->Rh->Prop}{J:jK->Z->α->Prop}{QJ QJ':Z->MH->Prop}{v:α}
def At.at_{By:Loc}(a:At V u G r Lc H)(l:Le r r')(T:St V G r' By H'):At V u G r' By H':=⟨a.C,a.rm,T⟩
def Go.then{R:α->Shared->Prop}(h:Go V G E r t P)(k:∀v r',Le r r'->P v r'->R v r'.s):wpAny V.M G.A t R E r.s:=cZ h (λv y z=>z.elim λr' z=>z.1▸k v r' z.2.1 z.2.2) λy y z=>z
def Go.from(h:Go V G E r' t P)(l:Le r r'):wpAny V.M G.A t (ku r P) E r'.s:=h.then λz r2 l2 p=>⟨r2,rfl,l.trans l2,p⟩
def At.go{By:Loc}{R:α->Shared->Prop}(a:At V u G r Lc H)(h:Go V G E r t<|uE V G By J QJ)(k:∀v r' b H',Le r r'->At V u G r' By H'->J r'.U b v->QJ b H'->R v r'.s):wpAny V.M G.A t R E r.s:=
 h.then λv r' l p=>by induction p with|mk H' b T j q=>exact k v r' b H' l (a.at_ l T) j q
def At.fin{b:Z}(a:At V u G r' Lc H)(l:Le r r')(j:J r'.U b v)(q:QJ b H):ku r (uE V G Lc J QJ) v r'.s:=⟨r',rfl,l,H,b,a.T,j,q⟩
def Ev.mono{t:Gm->Sem α}(h:Ev V u Lc H t J QJ)(k:∀b H',QJ b H'->QJ' b H'):Ev V u Lc H t J QJ':=λz z z a=>a.go (h _ _ _ a) λz z b z l a' j q=>a'.fin l j<|k b _ q
noncomputable def Rh.tk(r:Rh)(n:Nat):Rh:=⟨r.U,r.m,{r.s with toks:=n}⟩
def Le.tk{n:Nat}:Le r (r.tk n):=⟨.refl,rfl,rfl⟩
def At.tk(n:Nat)(a:At V u G r Lc H):At V u G (r.tk n) Lc H:=a.at_ .tk ⟨a.T.F,a.T.N,a.T.R,a.T.loc⟩
def gY.x6{e:Expr}{mv:MV}(hq:Q mv H)(h:∀G E r (R:qT),At V u G r Lc H->(∀v tk,VR r.U mv v->R v {r.s with toks:=tk})->wpAny V.M G.A (eval e<|V.f.env G.L) R E r.s):gY V u e Lc H Q:=
 λG E r a=>h G E r _ a λz tk j=>(a.tk tk).fin .tk j hq
def gY.const_none{k pos}(hq:Q .none H):gY V u (.Constant .none k pos) Lc H Q:=gY.x6 hq λz z r z z k=>Constant_none<|k _ r.s.toks rfl
def gY.Eu{b k pos}(hq:Q (.bool b) H):gY V u (.Constant (.bool b) k pos) Lc H Q:=gY.x6 hq λz z r z z k=>Constant_bool<|k _ r.s.toks rfl
def gY.const_int{i k pos}(hq:Q (.int i) H):gY V u (.Constant (.int i) k pos) Lc H Q:=gY.x6 hq λz z z z z k=>wpAny_Constant_int<|k _ _ ⟨_,rfl⟩
def gY.AW{l:LN}{k pos}(hq:Q (.str l) H):gY V u (.Constant (.str ⟨l.toArray⟩) k pos) Lc H Q:=gY.x6 hq λz z z z z k=>fj<|k _ _ ⟨_,rfl⟩
def gY.Vs{x:Str}{pos:Pos}{k:Nat}{v:MV}(hx:V.f.ns[k]?=some x)(hv:Lc[k]?=some (some v))(hk:V.f.sc.names.lookup x=some .local)(hd:(x==("__debug__":Str))=false)(hq:Q v H):gY V u (.Name x pos) Lc H Q:=
 λy y y a=>(a.T.loc k x v hx hv).elim λy z=>nameX_L a.T.F z.1 (a.fin .refl z.2 hq) a.C.uD hk hd
def St.inst{i c:Nat}{fs:List (Nat×MV)}{P:Prop}(T:St V G r Lc H)(h:H.at_ i=some (.inst c fs))(k:∀p es n,r.U.jY i=some p->(p.2,dictOf es n)∈r.U.news->rS V.S.nm r.U fs es->es.length<=fs.length->(∀k v,fs.lookup k=some v->V.S.tab c k=true)->InstAt r.s.heap p.1 (instObj c p.2) c (some<|dictOf es n)->P):P:=by obtain⟨p,es,n,h1,h2,h3,h4,h5,h6,h7⟩:=(T.R.obj i _ h:vF _ _ _ _ _);exact k p es n h1 h3 h4 h5 h7<|InstAt.of_news T.N h2 h3
def ri{i c k:Nat}{p:Addr×Addr}{fs:List (Nat×MV)}{x:Str}{v:MV}{ex:Bool}{R:qT}(O:Ke V.S V.w)(a:At V u G r Lc H)(h:H.at_ i=some (.inst c fs))(hl:fs.lookup k=some v)(hk:V.S.nm[k]?=some x)(hp:r.U.jY i=some p)
  (hq:∀wv tk,VR r.U v wv->R wv {r.s with toks:=tk}):wpAny V.M G.A (getAttr (.ref p.1) x ex) R E r.s:=
 a.T.inst h λq es n uY m2 fr z ow I=>by cases ay (hp.symm.trans uY);have F:=O.tab c k x (ow k v hl) hk;exact(fr.yes k x v hk hl).elim λwv g=>F.cls.elim λb B=>get_own a.T.F a.C.X I F.get F.dict B.1 B.2 g.1 g.2.handed<|hq wv _ g.2
noncomputable def gP:Nat:=1000000
end
section
variable{α:Type}{P:Prop}
def jA(o:Option α)(k:α->Prop):Prop:=o.casesOn False k
def nR(v:MV)(K:Nat->Prop):Prop:=v.casesOn False kG kG kG K kG AR kG λz=>False
def qg(v:MV)(K:Int->Prop):Prop:=v.casesOn False kG K kG kG kG AR kG λz=>False
def pI(v:MV)(K:LN->Prop):Prop:=v.casesOn False kG kG K kG kG AR kG λz=>False
def Ic(v:MV)(K:gV->Prop):Prop:=v.casesOn False kG kG kG kG K AR kG λz=>False
def Ax(v:MV)(K:Nat->Prop):Prop:=v.casesOn False kG kG kG kG kG AR K λz=>False
def tyW(v:MV)(K:String->Prop):Prop:=v.casesOn False kG kG kG kG kG AR kG K
def O1(v:MV)(K:Nat->Nat->Prop):Prop:=v.casesOn False kG kG kG kG kG K kG λz=>False
def BA(o:Option nF)(K:MV->Prop):Prop:=jA o λo=>jA o K
def AX(o:nF)(K:Nat->Nat->Prop):Prop:=jA o λv=>O1 v K
def qh(o:Option MO)(kI:Nat->List (Nat×MV)->Prop)(kL kF:gV->Prop)(kS:List (LN×MV)->Prop)(kD kP:List (Int×MV)->Prop):Prop:=jA o λm=>m.casesOn kI kL AR kS kD kP kF
def noI:Nat->List (Nat×MV)->Prop:=λz z=>False
def ur:α->Prop:=λz=>False
def qz(o:Option MO)(K:Nat->List (Nat×MV)->Prop):Prop:=qh o K ur ur ur ur ur
def kg(o:Option MO)(K:gV->Prop):Prop:=qh o noI K ur ur ur ur
def yp(o:Option MO)(K:List (Int×MV)->Prop):Prop:=qh o noI ur ur ur K ur
def Ie(o:Option MO)(K:List (LN×MV)->Prop):Prop:=qh o noI ur ur K ur ur
def jE{o:Option α}{K:α->Prop}(h:jA o K)(c:∀a,o=some a->K a->P):P:=by induction o with|none=>exact h.elim|some a=>exact c a rfl h
def Vt{v:MV}{K:Nat->Prop}(h:nR v K)(c:∀a,v=.ref a->K a->P):P:=by cases v<;>first|exact h.elim|exact c _ rfl h
def Ig{v:MV}{K:Int->Prop}(h:qg v K)(c:∀a,v=.int a->K a->P):P:=by cases v<;>first|exact h.elim|exact c _ rfl h
def Kf{v:MV}{K:LN->Prop}(h:pI v K)(c:∀a,v=.str a->K a->P):P:=by cases v<;>first|exact h.elim|exact c _ rfl h
def Vu{v:MV}{K:gV->Prop}(h:Ic v K)(c:∀a,v=.tup a->K a->P):P:=by cases v<;>first|exact h.elim|exact c _ rfl h
def YV{v:MV}{K:Nat->Prop}(h:Ax v K)(c:∀a,v=.cls a->K a->P):P:=by cases v<;>first|exact h.elim|exact c _ rfl h
def tyE{v:MV}{K:String->Prop}(h:tyW v K)(c:∀a,v=.ty a->K a->P):P:=by cases v<;>first|exact h.elim|exact c _ rfl h
def YW{v:MV}{K:Nat->Nat->Prop}(h:O1 v K)(c:∀a i,v=.jR a i->K a i->P):P:=by cases v<;>first|exact h.elim|exact c _ _ rfl h
def tG{P:MV->Prop}{v:MV}{K:Nat->Prop}(h:nR v K)(c:∀a,K a->P (.ref a)):P v:=by cases v<;>first|exact h.elim|exact c _ h
def Ay{P:MV->Prop}{v:MV}{K:Int->Prop}(h:qg v K)(c:∀a,K a->P (.int a)):P v:=by cases v<;>first|exact h.elim|exact c _ h
def zq{P:MV->Prop}{v:MV}{K:LN->Prop}(h:pI v K)(c:∀a,K a->P (.str a)):P v:=by cases v<;>first|exact h.elim|exact c _ h
def Vv{P:MV->Prop}{v:MV}{K:Nat->Prop}(h:Ax v K)(c:∀a,K a->P (.cls a)):P v:=by cases v<;>first|exact h.elim|exact c _ h
def tyX{P:MV->Prop}{v:MV}{K:String->Prop}(h:tyW v K)(c:∀a,K a->P (.ty a)):P v:=by cases v<;>first|exact h.elim|exact c _ h
def O2(n:Nat)(k:Int)(K:Nat->Prop):Prop:=Int.casesOn k K λm=>m<n/\K (n-(m+1))
def BC(k:Int)(K:Nat->Prop):Prop:=Int.casesOn k K λz=>False
def O3{P:Int->Prop}{k:Int}{K:Nat->Prop}(h:BC k K)(c:∀n:Nat,K n->P n):P k:=by induction k with|ofNat n=>exact c n h|negSucc=>exact h.elim
def O4{o:Option nF}{K:MV->Prop}(h:BA o K)(c:∀v,o=some (some v)->K v->P):P:=jE h λz e h=>jE h λv e' h=>c v (e.trans<|aq some e') h
def YX{o:nF}{K:Nat->Nat->Prop}(h:AX o K)(c:∀a i,o=some (.jR a i)->K a i->P):P:=jE h λz e h=>YW h λa i e' h=>c a i (e.trans<|aq some e') h
def objE{o:Option MO}{kI kL kF kS kD kP}(h:qh o kI kL kF kS kD kP)(cI:∀c fs,o=some (.inst c fs)->kI c fs->P)(cL:∀xs,o=some (.list xs)->kL xs->P)(cF:∀xs,o=some (.Bu xs)->kF xs->P)
  (cS:∀es,o=some (.iN es)->kS es->P)(cD:∀es,o=some (.ju es)->kD es->P)(cP:∀es,o=some (.vE es)->kP es->P):P:=jE h λm e h=>by
 induction m with
 |inst c fs=>exact cI c fs e h
 |list xs=>exact cL xs e h
 |exc=>exact h.elim
 |iN es=>exact cS es e h
 |ju es=>exact cD es e h
 |vE es=>exact cP es e h
 |Bu xs=>exact cF xs e h
def O5{c:Nat}{fs:List (Nat×MV)}(h:noI c fs):P:=h.elim
def uF{a:α}(h:ur a):P:=h.elim
def CU{o:Option MO}{K:Nat->List (Nat×MV)->Prop}(h:qz o K)(c:∀a i,o=some (.inst a i)->K a i->P):P:=objE h c (λz z=>uF) (λz z=>uF) (λz z=>uF) (λz z=>uF) λz z=>uF
def listE{o:Option MO}{K:gV->Prop}(h:kg o K)(c:∀a,o=some (.list a)->K a->P):P:=objE h (λz z z=>O5) c (λz z=>uF) (λz z=>uF) (λz z=>uF) λz z=>uF
def Kg{o:Option MO}{K:List (Int×MV)->Prop}(h:yp o K)(c:∀a,o=some (.ju a)->K a->P):P:=objE h (λz z z=>O5) (λz z=>uF) (λz z=>uF) (λz z=>uF) c λz z=>uF
def YY{o:Option MO}{K:List (LN×MV)->Prop}(h:Ie o K)(c:∀a,o=some (.iN a)->K a->P):P:=objE h (λz z z=>O5) (λz z=>uF) (λz z=>uF) c (λz z=>uF) λz z=>uF
def O6(S:jy)(v:MV)(k:Nat)(H:MH)(Q:QV):Prop:=v.casesOn False kG kG kG (λi=>qz (H.at_ i) λc fs=>(fs.lookup k).casesOn (jA (S.ca c k) λu=>Q u H) λu=>Q u H) kG AR (λc=>jA (S.cv c k) λu=>Q u H) λz=>False
def pR(v:MV)(k:Nat)(H:MH)(K:Nat->Nat->List (Nat×MV)->Prop):Prop:=nR v λi=>qz (H.at_ i)<|K i
def onE{P:Prop}{v:MV}{k:Nat}{H:MH}{K:Nat->Nat->List (Nat×MV)->Prop}(h:pR v k H K)(c:∀i a fs,v=.ref i->H.at_ i=some (.inst a fs)->K i a fs->P):P:=Vt h λi e h=>CU h λa fs e' h=>c i a fs e e' h
def YZ{P:MV->Prop}{v:MV}{k:Nat}{H:MH}{K:Nat->Nat->List (Nat×MV)->Prop}(h:pR v k H K)(c:∀i a fs,H.at_ i=some (.inst a fs)->K i a fs->P (.ref i)):P v:=tG h λi h=>CU h λa fs e' h=>c i a fs e' h
abbrev Kind:=PySem.Numpy.UnOp
def Kh(v:MV)(H:MH)(k:Kind):Prop:=k.casesOn (pI v λz=>True) (nR v λi=>qh (H.at_ i) noI (λz=>True) ur ur ur ur) (nR v λi=>qh (H.at_ i) noI ur ur (λz=>True) (λz=>True) λz=>True)<|Ic v λz=>True
def vJ(v:MV)(H:MH)(Q:Bool->MH->Prop):Prop:=v.casesOn (Q false H) (λb=>Q b H) (λi=>Q (i !=0) H) (λl=>l.length<gP/\Q (!l.isEmpty) H) (λi=>qh (H.at_ i) noI (λxs=>Q (!xs.isEmpty) H) ur (λxs=>Q (!xs.isEmpty) H) (λxs=>Q (!xs.isEmpty) H) ur)
 (λl=>l.length<gP/\Q (!l.isEmpty) H) (λz z=>Q true H) kG λz=>False
def addW(a b:MV)(H:MH)(Q:QV):Prop:=a.casesOn False kG (λx=>qg b λy=>Q (.int<|x+y) H) (λx=>pI b λy=>x.length+y.length<gP/\Q (.str<|x++y) H) kG kG AR kG λz=>False
def AY(a b:MV)(K:Int->Int->Prop):Prop:=qg a λx=>qg b<|K x
def ab9(a b:MV)(H:MH)(Q:QV):Prop:=a.casesOn False kG (λx=>qg b λy=>((0<=x/\x<1000000)/\0<=y/\y<1000000)/\Q (.int<|x*y) H) (λx=>qg b λn=>(0<=n/\n<1000/\x=[32])/\Q (.str<|replicate n.toNat 32) H) kG kG AR kG λz=>False
def CV(op:Operator)(a b:MV)(H:MH)(Q:QV):Prop:=op.casesOn (addW a b H Q) (AY a b λx y=>Q (.int<|x-y) H) (ab9 a b H Q) False False (AY a b λx y=>y≠0/\Q (.int<|x.fmod y) H) False False False False False False<|AY a b λx y=>(0<=x/\x<1000000/\0<y/\y<1000000)/\Q (.int<|x.fdiv y) H
def zu{P:Prop}{a b:MV}{K:Int->Int->Prop}(h:AY a b K)(c:∀x y,a=.int x->b=.int y->K x y->P):P:=Ig h λx e h=>Ig h λy e' h=>c x y e e' h
def nY(l:gV):Option iK:=l.rec (some []) λv z ih=>v.casesOn none (λz=>none) (λz=>none) (λs=>ih.map (s::·)) (λz=>none) (λz=>none) (λz z=>none) (λz=>none) λz=>none
noncomputable def isNone(v:MV):Bool:=v.casesOn true um um um um um As um λz=>false
noncomputable def isBool(y:Bool)(v:MV):Bool:=v.casesOn false (λx=>x==y) um um um um As um λz=>false
def Y0(a b:MV):Option Bool:=b.casesOn (some<|isNone a) (λy=>some<|isBool y a) (λz=>none) (λz=>none) (λz=>none) (λz=>none) (λz z=>none) (λz=>none) λz=>none
noncomputable def vI{α:Type}(v:MV)(n:Option α)(i:Int->Option α)(s:LN->Option α):Option α:=v.casesOn n (λz=>none) i s (λz=>none) (λz=>none) (λz z=>none) (λz=>none) λz=>none
def eqW(a b:MV):Option Bool:=vI a (vI b (some true) (λz=>some false) λz=>some false) (λx=>vI b (some false) (λy=>some<|x==y) λz=>none) λx=>vI b (some false) (λz=>none) λy=>some<|x==y
def neW(a b:MV):Option Bool:=vI a (vI b none (λz=>none) λz=>some true) (λx=>vI b none (λy=>some<|x !=y) λz=>none) λx=>vI b none (λz=>none) λy=>some<|x !=y
def O7(f:Int->Int->Bool)(a b:MV):Option Bool:=vI a none (λx=>vI b none (λy=>some<|f x y) λz=>none) λz=>none
noncomputable def BD(l:LN):Option Nat:=l.casesOn none λc r=>r.casesOn (some c) λz z=>none
def leW(a b:MV):Option Bool:=vI a none (λx=>vI b none (λy=>some<|decide<|x<=y) λz=>none) λx=>vI b none (λz=>none) λy=>(BD x).bind λc=>(BD y).map λd=>decide<|c<=d
noncomputable def yq{Y:Type}[DecidableEq Y](k:Y)(v:MV)(es:List<|Y×MV):List (Y×MV):=
 if es.any (λe=>decide<|e.1=k)then es.map (λe=>if e.1=k then(e.1,v)else e)else es++[(k,v)]
noncomputable def Ih{Y:Type}[DecidableEq Y](k:Y)(es:List<|Y×MV):List (Y×MV):=es.filter λe=>decide<|e.1≠k
noncomputable def jQ{Y:Type}[DecidableEq Y](k:Y)(es:List<|Y×MV):nF:=(es.find? λe=>decide<|e.1=k).map (·.2)
inductive Ew(U:jK):nF->Option Value->Prop
 |no:Ew U none none
 |ok {v:MV} {x:Value}:VR U v x->Ew U (some v) (some x)
end
section
variable{Y K:Type}[DecidableEq Y][DecidableEq K]{dec:Y->K}{U:jK}{P:Prop}{k:Y}{v:MV}{x:Value}{es es':List (Y×MV)}{kvs kvs':List (K×Value)}
def sJ.len(h:sJ dec U es kvs):kvs.length=es.length:=h.rec rfl λz z ih=>aq (·+1) ih
def sJ.keys(h:sJ dec U es kvs):kvs.map (·.1)=es.map λe=>dec e.1:=h.rec rfl λz z ih=>aq (_::·) ih
def sJ.get(inj:∀a b,dec a=dec b->a=b)(h:sJ dec U es kvs):Ew U (jQ k es) (valueAt kvs<|dec k):=by
 unfold jQ valueAt;induction h with
 |nil=>exact .no
 |@cons j u y es kvs a _ ih=>
  rw[List.find?_cons,List.find?_cons];by_cases q:j=k
  ·rw[az q,az<|aq dec q];exact .ok a
  ·rw[au q,au λe=>q<|inj _ _ e];exact ih
def Ew.yes{o:nF}{o':Option Value}(h:Ew U o o')(e:o=some v)(c:∀x,o'=some x->VR U v x->P):P:=by
 induction h with
 |no=>cases e
 |ok a=>cases e;exact c _ rfl a
def Ew.same{o:nF}{o':Option Value}(h:Ew U o o'):o'.isSome=o.isSome:=h.rec rfl λz=>rfl
def sJ.append(h:sJ dec U es kvs)(h':sJ dec U es' kvs'):sJ dec U (es++es') (kvs++kvs'):=h.rec h' λa z ih=>.cons a ih
def sJ.any(inj:∀a b,dec a=dec b->a=b)(h:sJ dec U es kvs):(kvs.any λkv=>decide<|kv.1=dec k)=es.any λe=>decide (e.1=k):=
 h.rec (motive:=λes kvs z=>(kvs.any λkv=>decide<|kv.1=dec k)=es.any λe=>decide<|e.1=k) rfl λ{j z z z _} z z ih=>congr (aq or<|cw.mpr ⟨inj j k,λe=>aq dec e⟩) ih
def sJ.map(inj:∀a b,dec a=dec b->a=b)(r:VR U v x)(h:sJ dec U es kvs):sJ dec U (es.map λe=>if e.1=k then(e.1,v)else e) (kvs.map λkv=>if kv.1=dec k then(kv.1,x)else kv):=by
 induction h with
 |nil=>exact .nil
 |@cons j u y es kvs a _ ih=>
  rw[cG,cG];by_cases q:j=k
  ·rw[aF q,aF<|aq dec q];exact .cons r ih
  ·rw[aE q,aE λe=>q<|inj _ _ e];exact .cons a ih
def sJ.store(inj:∀a b,dec a=dec b->a=b)(r:VR U v x)(h:sJ dec U es kvs):sJ dec U (yq k v es) (stored kvs (dec k) x):=by
 unfold yq stored;rw[h.any inj];split
 ·exact h.map inj r
 ·exact h.append<|.cons r .nil
def sJ.erase(inj:∀a b,dec a=dec b->a=b)(h:sJ dec U es kvs):sJ dec U (Ih k es) (without kvs<|dec k):=by
 unfold Ih without;induction h with
 |nil=>exact .nil
 |@cons j u y es kvs a _ ih=>
  by_cases q:j=k
  ·rw[List.filter_cons_of_neg (p:=λe:Y×MV=>decide<|e.1≠k) (a:=(j,u)) λe=>(aJ e:¬j=k) q,List.filter_cons_of_neg (p:=λe:K×Value=>decide<|e.1≠dec k) (a:=(dec j,y)) λe=>(aJ e:¬dec j=dec k)<|aq dec q];exact ih
  ·rw[List.filter_cons_of_pos (p:=λe:Y×MV=>decide<|e.1≠k) (a:=(j,u))<|az q,List.filter_cons_of_pos (p:=λe:K×Value=>decide<|e.1≠dec k) (a:=(dec j,y))<|az λe=>q<|inj _ _ e];exact .cons a ih
def Kl:(yq k v es).length<=es.length+1:=by unfold yq;split<;>simp
def Km:(Ih k es).length<=es.length:=List.length_filter_le ..
end
def rG(a b:LN)(h:gN a=gN b):a=b:=aq (λs:Str=>s.cps.toList) h
def CY(a b:Int)(h:Bv a=Bv b):a=b:=h
def nZ(l:LN):(Str.mk l.toArray).length=l.length:=by simp[Str.length]
def vK{k n:Nat}(h:k<n):seqIndex? (k:Int) n=some k:=by
 unfold seqIndex?;have a:¬((k:Int)<0):=by omega
 simp only[a,if_false];have b:(decide (0<=(k:Int))&&decide ((k:Int)<(n:Int)))=true:=by simp;omega
 rw[aF b];simp
def kJ{n:Nat}(h:n<=1000000):n<=sizeLine:=by rw[sizeLine_eq];omega
def Ow{n:Nat}(h:n<=1000000):((n:Nat):Int)<2^63:=by omega
noncomputable abbrev bin(op:Operator)(ws:lO):Sem Value:=binaryOp op (ws.getD 0 .none)<|ws.getD 1 .none
noncomputable abbrev Vw(op:Operator)(ws:lO):Sem Value:=inplaceOp op (ws.getD 0 .none)<|ws.getD 1 .none
noncomputable abbrev jF(op:CmpOp)(ws:lO):Sem Value:=compareOp op (ws.getD 0 .none)<|ws.getD 1 .none
noncomputable abbrev tH(ws:lO):Sem Value:=getItem (ws.getD 0 .none)<|ws.getD 1 .none
noncomputable abbrev O8(ws:lO):Sem Unit:=setItem (ws.getD 0 .none) (ws.getD 1 .none)<|ws.getD 2 .none
noncomputable abbrev Kn(ws:lO):Sem Unit:=delItem (ws.getD 0 .none)<|ws.getD 1 .none
noncomputable abbrev g5(fv:Value)(ws:lO):Sem Value:=call fv ws []
section
variable{U:jK}{P:Value->Prop}{w:Value}
def oV{i:Int}(h:VR U (.int i) w)(k:∀t,P<|.int i t):P w:=h.elim λt e=>e▸k t
def mY{l:LN}(h:VR U (.str l) w)(k:∀t,P<|.str ⟨l.toArray⟩ t):P w:=h.elim λt e=>e▸k t
def kh{i:Nat}(h:VR U (.ref i) w)(k:∀p,U.jY i=some p->P (.ref p.1)):P w:=sI h λp a e=>e▸k p a
def CZ{l:gV}(h:VR U (.tup l) w)(k:∀a vs,(a,tB vs)∈U.news->jr U l vs->P (.ref a)):P w:=xY h λa vs e m r=>e▸k a vs m r
variable{V:Th}{u:Nat}{G:Gm}{E:qT}{r r':Rh}{Lc:Loc}{H H':MH}{Q:QV}{QB:Bool->MH->Prop}
abbrev qU(V:Th)(G:Gm)(E:qT)(r:Rh)(t:Sem Value)(mv:MV):Prop:=∀R:qT,(∀v tk,VR r.U mv v->R v {r.s with toks:=tk})->wpAny V.M G.A t R E r.s
def jl.x6{g7:gV}{t:lO->Sem Value}{mv:MV}(hq:Q mv H)(h:∀G E r ws,At V u G r Lc H->jr r.U g7 ws->qU V G E r (t ws) mv):jl V u Lc H g7 t VR Q:=
 λG E r ws a y=>h G E r ws a y _ λz tk j=>(a.tk tk).fin .tk j hq
def jl.Ga{a:MV}{t:lO->Sem Value}{mv:MV}(hq:Q mv H)(h:∀G E r x,At V u G r Lc H->VR r.U a x->qU V G E r (t [x]) mv):jl V u Lc H [a] t VR Q:=
 .x6 hq λG E r ws z y=>y.e1 (P:=λws=>qU V G E r (t ws) mv) λx h1=>h G E r x z h1
def jl.mJ{a b:MV}{t:lO->Sem Value}{mv:MV}(hq:Q mv H)(h:∀G E r x y,At V u G r Lc H->VR r.U a x->VR r.U b y->qU V G E r (t [x,y]) mv):jl V u Lc H [a,b] t VR Q:=
 .x6 hq λG E r ws z y=>y.e2 (P:=λws=>qU V G E r (t ws) mv) λx y h1 h2=>h G E r x y z h1 h2
def jl.ints{x y:Int}{t:lO->Sem Value}{mv:MV}(hq:Q mv H)(h:∀G E r tx ty,qU V G E r (t [.int x tx,.int y ty]) mv):jl V u Lc H [.int x,.int y] t VR Q:=
 .mJ hq λG E r a b z h1 h2=>oV (P:=λa=>qU V G E r (t [a,b]) mv) h1 λtx=>oV (P:=λb=>qU V G E r (t [_,b]) mv) h2 λty=>h G E r tx ty
def jl.strs{x y:LN}{t:lO->Sem Value}{mv:MV}(hq:Q mv H)(h:∀G E r tx ty,qU V G E r (t [.str ⟨x.toArray⟩ tx,.str ⟨y.toArray⟩ ty]) mv):jl V u Lc H [.str x,.str y] t VR Q:=
 .mJ hq λG E r a b z h1 h2=>mY (P:=λa=>qU V G E r (t [a,b]) mv) h1 λtx=>mY (P:=λb=>qU V G E r (t [_,b]) mv) h2 λty=>h G E r tx ty
def Vx(a b:LN):((⟨a.toArray⟩:Str)++(⟨b.toArray⟩:Str))=⟨(a++b).toArray⟩:=by show Str.append _ _=_;simp[Str.append]
def O9{x y:LN}(hl:x.length+y.length<gP)(hq:Q (.str<|x++y) H):jl V u Lc H [.str x,.str y] (bin .Add) VR Q:=
 .strs hq λG E r tx ty R k=>by
  refine PySem.P.add_str (x:=⟨x.toArray⟩) (y:=⟨y.toArray⟩) ?_;rw[nZ,nZ,Vx];cases x with
  |nil=>exact k _ r.s.toks ⟨_,rfl⟩
  |cons c x=>
   induction y with
   |nil=>rw[bf]at k;exact k _ r.s.toks ⟨_,rfl⟩
   |cons d y=>exact⟨by rw[nZ,aT];exact kJ<|cA hl,k _ _ ⟨_,rfl⟩⟩
def Y3{x y:Int}(h:(0<=x/\x<1000000)/\0<=y/\y<1000000):IntMulOk x y:=.of_left<|intBits_le_64 (Int.lt_of_lt_of_le (by decide) h.1.1)<|Int.lt_trans h.1.2<|by decide
def Pa{x:LN}{n:Int}(h:0<=n/\n<1000/\x=[32])(hq:Q (.str<|replicate n.toNat 32) H):jl V u Lc H [.str x,.int n] (bin .Mult) VR Q:=
 .mJ hq λG E r a b z h1 h2=>mY (P:=λa=>qU V G E r (bin .Mult [a,b]) _) h1 λtx=>oV (P:=λb=>qU V G E r (bin .Mult [_,b]) _) h2 λty R k=>by
  obtain⟨h0,h3,rfl⟩:=h;have e1:(⟨[32].toArray⟩:Str).length=1:=rfl;have hb:∀m:Nat,(replicate m (⟨[32].toArray⟩:Str).cps).foldl (·++·) #[]=(replicate m 32).toArray:=λm=>by
   suffices∀acc:LN,(replicate m #[32]).foldl (·++·) acc.toArray=(acc++replicate m 32).toArray from this []
   induction m with
   |zero=>intro acc;simp
   |succ m ih=>intro acc;rw[List.replicate_succ,List.foldl_cons,show acc.toArray++#[32]=(acc++[32]).toArray by simp,ih,List.replicate_succ,aW];rfl
  refine PySem.P.mul_str (by rw[au (by omega),au<|by omega];rfl) (λz h2=>?_) (λz h2=>?_) ?_
  ·rw[e1];have:(1:Int)<=(2^63-1)/n:=(Int.le_ediv_iff_mul_le<|by omega).mpr<|by omega
   omega
  ·rw[e1,Nat.one_mul];exact au<|gg.mpr<|kJ<|by omega
  ·by_cases h1:n<1
   ·rw[aF h1];have:n=0:=by lia
    subst this;exact⟨by decide,k _ _ ⟨_,rfl⟩⟩
   ·rw[aE h1];by_cases h2:n=1
    ·subst h2;exact k _ r.s.toks ⟨_,rfl⟩
    ·rw[aE (by simp[h2,e1]),hb];exact⟨by rw[nZ,bz];exact kJ (by omega),k _ _ ⟨_,rfl⟩⟩
def Gb{op:Operator}{a b:MV}(h:CV op a b H Q):jl V u Lc H [a,b] (bin op) VR Q:=by
 induction op with
 |Add=>
  cases a with
  |int x=>exact Ig h λy e h=>by subst e;exact .ints h λz z z z z R k=>wpAny_add_int<|k _ _ ⟨_,rfl⟩
  |str x=>exact Kf h λy e h=>by subst e;exact O9 h.1 h.2
  |_=>exact h.elim
 |Sub=>exact zu h λx y e e' h=>by subst e e';exact .ints h λz z z z z R k=>PySem.P.sub_int<|k _ _ ⟨_,rfl⟩
 |Mult=>
  cases a with
  |int x=>exact Ig h λy e h=>by subst e;exact .ints h.2 λz z z z z R k=>PySem.AutoIntOps.mul_0 (k _ _ ⟨_,rfl⟩)<|Y3 h.1
  |str x=>exact Ig h λn e h=>by subst e;exact Pa h.1 h.2
  |_=>exact h.elim
 |Mod=>exact zu h λx y e e' h=>by subst e e';exact .ints h.2 λz z z z z R k=>mod_int' h.1<|k _ _ ⟨_,rfl⟩
 |FloorDiv=>exact zu h λx y e e' h=>by subst e e';exact .ints h.2 λz z z z z R k=>floordiv_int (Int.ne_of_gt h.1.2.2.1) (k _ _ ⟨_,rfl⟩)<|.inl<|PyProof.noPylong_small (by obtain⟨⟨z1,z2,z3,z4⟩,_⟩:=h;omega)
 |_=>exact h.elim
def AZ{op:Operator}{a b:MV}(hm:(op==.Mult)=false)(h:CV op a b H Q):jl V u Lc H [a,b] (Vw op) VR Q:=by
 induction op with
 |Add=>
  cases a with
  |int x=>exact Ig h λy e h=>by subst e;exact .ints h λz z z z z R k=>PyProof.Rows.iadd_int<|k _ _ ⟨_,rfl⟩
  |str x=>exact Kf h λy e h=>by subst e;exact .strs h.2 λz z z z z R k=>PyProof.Rows.iadd_str (λt' tk=>by rw[Vx];exact k _ _ ⟨_,rfl⟩)<|by rw[nZ,nZ];exact kJ<|cA h.1
  |_=>exact h.elim
 |Sub=>exact zu h λx y e e' h=>by subst e e';exact .ints h λz z z z z R k=>PySem.P.isub_int<|k _ _ ⟨_,rfl⟩
 |Mult=>cases hm
 |Mod=>exact zu h λx y e e' h=>by subst e e';exact .ints h.2 λz z z z z R k=>imod_int h.1<|k _ _ ⟨_,rfl⟩
 |FloorDiv=>exact zu h λx y e e' h=>by subst e e';exact .ints h.2 λz z z z z R k=>ifloordiv_int (Int.ne_of_gt h.1.2.2.1) (k _ _ ⟨_,rfl⟩)<|.inl<|PyProof.noPylong_small (by obtain⟨⟨z1,z2,z3,z4⟩,_⟩:=h;omega)
 |_=>exact h.elim
def inS(o:Option MO)(k:LN):Option Bool:=o.casesOn none λm=>m.casesOn (λz z=>none) (λz=>none) (λz z=>none) (λes=>some (jQ k es).isSome) (λz=>none) (λz=>none) λz=>none
def inI(o:Option MO)(k:Int):Option Bool:=o.casesOn none λm=>m.casesOn (λz z=>none) (λz=>none) (λz z=>none) (λz=>none) (λes=>some (jQ k es).isSome) (λz=>none) λz=>none
def inW(a b:MV)(H:MH):Option Bool:=vI a none (λk=>b.casesOn none (λz=>none) (λz=>none) (λz=>none) (λi=>inI (H.at_ i) k) (λz=>none) (λz z=>none) (λz=>none) λz=>none)
 λk=>b.casesOn none (λz=>none) (λz=>none) (λl=>(BD k).map λc=>decide<|c∈l) (λi=>inS (H.at_ i) k) (λl=>(nY l).map λys=>ys.any (·==k)) (λz z=>none) (λz=>none) λz=>none
def sW(op:CmpOp)(a b:MV)(H:MH):Option Bool:=op.casesOn (eqW a b) (neW a b) (O7 (λx y=>decide<|x<y) a b) (leW a b) (O7 (λx y=>decide<|x>y) a b) (O7 (λx y=>decide<|x≥y) a b) (Y0 a b) ((Y0 a b).map (!·)) (inW a b H) (vI a none (λz=>none) λz=>(inW a b H).map (!·))
def rV(v i:MV)(H:MH)(Q:QV):Prop:=v.casesOn False kG kG (λl=>qg i λk=>l.length<gP/\O2 l.length k λn=>jA l[n]? λc=>Q (.str [c]) H)
 (λj=>vI (α:=Prop) i none (λk=>some<|qh (H.at_ j) noI (λxs=>BC k λn=>jA xs[n]? λc=>Q c H) ur ur (λes=>jA (jQ k es) λc=>Q c H) λes=>jA (jQ k es) λc=>Q c H) (λk=>some<|Ie (H.at_ j) λes=>jA (jQ k es) λc=>Q c H)|>.casesOn False id)
 (λl=>qg i λk=>l.length<gP/\BC k λn=>jA l[n]? λc=>Q c H) AR kG λz=>False
end
section
variable{P:Prop}{α:Type}{x:α}
def vL{P:MV->Prop}{v:MV}{n:Option α}{i:Int->Option α}{s:LN->Option α}(h:vI v n i s=some x)(cn:n=some x->P .none)(ci:∀k,i k=some x->P (.int k))(cs:∀k,s k=some x->P (.str k)):P v:=by
 cases v with
 |none=>exact cn h
 |int k=>exact ci k h
 |str k=>exact cs k h
 |_=>cases h
def nn{o:Option α}(e:o=none)(h:o=some x):P:=by rw[e]at h;cases h
def Ex{P:LN->Prop}{l:LN}{c:Nat}(h:BD l=some c)(k:P [c]):P l:=by
 cases l with
 |nil=>cases h
 |cons d r=>
  induction r with
  |nil=>exact ay h▸k
  |cons=>cases h
def Y4{o:Option MO}{kI:Nat->List (Nat×MV)->Option α}{kL kE kS kD kP kF}(h:(o.casesOn none λm=>m.casesOn kI kL kE kS kD kP kF:Option α)=some x)(k:∀m,o=some m->(m.casesOn kI kL kE kS kD kP kF:Option α)=some x->P):P:=by
 induction o with
 |none=>cases h
 |some m=>exact k m rfl h
def Y5{o:Option MO}{k:LN}{b:Bool}(h:inS o k=some b)(c:∀es,o=some (.iN es)->b=(jQ k es).isSome->P):P:=Y4 h λm e h=>by cases m<;>first|exact c _ e (ay h).symm|exact nn rfl h
def Y6{o:Option MO}{k:Int}{b:Bool}(h:inI o k=some b)(c:∀es,o=some (.ju es)->b=(jQ k es).isSome->P):P:=Y4 h λm e h=>by cases m<;>first|exact c _ e (ay h).symm|exact nn rfl h
structure KC(V:Th){Y K:Type}[DecidableEq Y][DecidableEq K](dec:Y->K)(knd:KeyKind V.S.prog V.w K)(mk:List (Y×MV)->MO)(kv:Y->MV):Prop where
 inj:∀a b,dec a=dec b->a=b
 is:∀U k w,VR U (kv k) w->knd.is (dec k) w=true
 obj:∀U i es,yo V.S V.w U i (mk es)->nG dec knd U i U.news es
 mko:∀U i es,nG dec knd U i U.news es->yo V.S V.w U i (mk es)
 off:∀es,(mk es).off=false
def Vy(V:Th):KC V gN (strKind V.S.prog V.w) .iN .str:=⟨rG,λz z z h=>h.elim λt e=>e▸fL _ _ _ t,λz z z h=>h,λz z z h=>h,λz=>rfl⟩
def Td(V:Th):KC V Bv (intKind V.S.prog V.w) .ju .int:=⟨CY,λz z z h=>h.elim λt e=>e▸intKind_is _ _ _ t,λz z z h=>h,λz z z h=>h,λz=>rfl⟩
end
section
variable{V:Th}{u:Nat}{G:Gm}{E:qT}{r r':Rh}{Lc:Loc}{H H':MH}{Q:QV}{QB:Bool->MH->Prop}{P:Prop}
def lY.uv{U:jK}{S:jy}{w:World}(R:lY S w U H):(∀p∈U.iw,p∈U.news)/\(∀p∈U.fix,p∈U.news):=⟨λp h=>R.pin p<|.inl h,λp h=>R.pin p<|.inr<|.inl h⟩
def jT.w7{i:Nat}{l:ig}{xs:gV}(h:jT r.U i l xs)(a:At V u G r Lc H)(hl:∀p∈l,p∈r.U.news){p:Addr×Addr}(hp:r.U.jY i=some p)(k:∀vs n,(p.1,listOf vs.toArray n)∈l->r.s.heap.IsList p.1 vs.toArray->jr r.U xs vs->xs.length<=1000000->vs.length=xs.length->P):P:=by obtain⟨a',vs,n,h1,h2,h3,h4⟩:=h;cases ay (h1.symm.trans hp);exact k vs n h2 ⟨_,(a.T.N _<|hl _ h2).1,rfl,n,rfl⟩ h3 h4 h3.length
structure Te(V:Th)(u:Nat)(G:Gm)(r:Rh)(Lc:Loc)(r':Rh)(H':MH):Prop where
 l:Le r r'
 a:At V u G r' Lc H'
def At.upd{i:Nat}{o o':MO}{d:Addr}{ob Au:Obj}{h':Heap}{tk:Nat}(a:At V u G r Lc H)(h:H.at_ i=some o)(ho:o.off=false)(own:AV r.U i d)(hd:(d,ob)∈r.U.news)(nt:ob.cls≠.type "tuple")(nm:ob.cls≠.type "method")(ho':o'.off=false)
  (F:Fr G.h₀ G.L h' r.m)(N:News G.h₀ G.L h'<|rT d Au r.U.news)(obj:Ext r.U (r.U.upd d Au)->(d,Au)∈(r.U.upd d Au).news->(∀a x,a≠d->(a,x)∈r.U.news->(a,x)∈(r.U.upd d Au).news)->yo V.S V.w (r.U.upd d Au) i o'):
  Te V u G r Lc ⟨r.U.upd d Au,r.m,{r.s with heap:=h',toks:=tk}⟩ (H.put i o'):=
 have Z:=a.T.R.upd h ho own hd nt nm ho' obj;have l:Le r ⟨r.U.upd d Au,r.m,{r.s with heap:=h',toks:=tk}⟩:=⟨Z.x,rfl,rfl⟩;⟨l,a.at_ l ⟨F,N,Z.R,λk x v hx hv=>(a.T.loc k x v hx hv).elim λw h=>⟨w,h.1,h.2.ext Z.x⟩⟩⟩
def At.Ko{i:Nat}{xs xs':gV}{vs vs':lO}{n n':Nat}{p:Addr×Addr}{h':Heap}{tk:Nat}(a:At V u G r Lc H)(hi:H.at_ i=some (.list xs))(hp:r.U.jY i=some p)(m:(p.1,listOf vs.toArray n)∈r.U.news)
  (F:Fr G.h₀ G.L h' r.m)(N:News G.h₀ G.L h'<|rT p.1 (listOf vs'.toArray n') r.U.news)(hr:jr r.U xs' vs')(hl:xs'.length<=1000000):Te V u G r Lc ⟨r.U.upd p.1<|listOf vs'.toArray n',r.m,{r.s with heap:=h',toks:=tk}⟩ (H.put i<|.list xs'):=
 a.upd hi rfl ⟨p,hp,.inl rfl⟩ m (λe=>aG (cu e)<|by decide) (λe=>aG (cu e)<|by decide) rfl F N λxT m' z=>by obtain⟨a',_,_,q,_⟩:=(a.T.R.obj i _ hi:jT _ _ _ _);cases ay (q.symm.trans hp);exact jT.mk a' vs' n' q m' (hr.ext xT) hl
def At.new{o:MO}{d e:Addr}{more:ig}{h':Heap}{tk:Nat}(a:At V u G r Lc H)(nd:(more.map (·.1)).Nodup)(fresh:∀p∈more,∀p'∈r.U.news,p'.1≠p.1)(hd:∃x,(d,x)∈more)(he:∃x,(e,x)∈more)(no:o.off=false)
  (F:Fr G.h₀ G.L h' r.m)(N:News G.h₀ G.L h'<|more++r.U.news)(obj:Ext r.U (r.U.new H.n d e more)->yo V.S V.w (r.U.new H.n d e more) H.n o):Te V u G r Lc ⟨r.U.new H.n d e more,r.m,{r.s with heap:=h',toks:=tk}⟩ (H.new o):=
 have Z:=a.T.R.alloc nd fresh hd he no obj;have l:Le r ⟨r.U.new H.n d e more,r.m,{r.s with heap:=h',toks:=tk}⟩:=⟨Z.x,rfl,rfl⟩;⟨l,a.at_ l ⟨F,N,Z.R,λk x v hx hv=>(a.T.loc k x v hx hv).elim λw h=>⟨w,h.1,h.2.ext Z.x⟩⟩⟩
def At.new1{o:MO}{d:Addr}{ob:Obj}{h':Heap}{tk:Nat}(a:At V u G r Lc H)(fresh:∀p'∈r.U.news,p'.1<d)(no:o.off=false)(F:Fr G.h₀ G.L h' r.m)(N:News G.h₀ G.L h'<|(d,ob)::r.U.news)
  (obj:∀U',Ext r.U U'->U'.jY H.n=some (d,d)->(d,ob)∈U'.news->yo V.S V.w U' H.n o):Te V u G r Lc ⟨r.U.new H.n d d [(d,ob)],r.m,{r.s with heap:=h',toks:=tk}⟩ (H.new o):=
 a.new (bN.mpr ⟨(by intro h;cases h),List.Pairwise.nil⟩) (λp hp p' uY=>by cases aj.mp hp;exact av<|fresh p' uY) ⟨ob,.head _⟩ ⟨ob,.head _⟩ no F N λxT=>obj _ xT jK.uq<|.head _
def At.newL{xs:gV}{vs:lO}{n:Nat}{d:Addr}{h':Heap}{tk:Nat}(a:At V u G r Lc H)(fresh:∀p'∈r.U.news,p'.1<d)(F:Fr G.h₀ G.L h' r.m)(N:News G.h₀ G.L h'<|(d,listOf vs.toArray n)::r.U.news)(hr:jr r.U xs vs)(hl:xs.length<=1000000):
  Te V u G r Lc ⟨r.U.new H.n d d [(d,listOf vs.toArray n)],r.m,{r.s with heap:=h',toks:=tk}⟩ (H.new<|.list xs):=a.new1 fresh rfl F N λU' xT q m=>jT.mk d vs n q m (hr.ext xT) hl
def At.more{d:Addr}{ob:Obj}{h':Heap}{tk:Nat}(a:At V u G r Lc H)(fresh:∀p'∈r.U.news,p'.1<d)(F:Fr G.h₀ G.L h' r.m)(N:News G.h₀ G.L h'<|(d,ob)::r.U.news):Te V u G r Lc ⟨⟨r.U.jY,(d,ob)::r.U.news,r.U.iw,r.U.fix,r.U.its⟩,r.m,{r.s with heap:=h',toks:=tk}⟩ H:=
 have Z:=a.T.R.more (more:=[(d,ob)])<|bN.mpr ⟨λh=>(bU.mp h).elim λp hp=>av (fresh p hp.1) hp.2,a.T.R.nodup⟩;have l:Le r ⟨⟨r.U.jY,(d,ob)::r.U.news,r.U.iw,r.U.fix,r.U.its⟩,r.m,{r.s with heap:=h',toks:=tk}⟩:=⟨Z.x,rfl,rfl⟩;⟨l,a.at_ l ⟨F,N,Z.R,λk x v hx hv=>(a.T.loc k x v hx hv).elim λw h=>⟨w,h.1,h.2.ext Z.x⟩⟩⟩
section
variable{Y K:Type}[DecidableEq Y][DecidableEq K]{dec:Y->K}{knd:KeyKind V.S.prog V.w K}{mk:List (Y×MV)->MO}{kv:Y->MV}
def nG.w7{i:Nat}{l:ig}{es:List (Y×MV)}(h:nG dec knd r.U i l es)(a:At V u G r Lc H)(hl:∀p∈l,p∈r.U.news){p:Addr×Addr}(hp:r.U.jY i=some p)(k:∀o kvs,(p.1,o)∈l->o.IsDictOf knd kvs->Heap.DictOf knd r.s.heap p.1 kvs->sJ dec r.U es kvs->es.length<=tD->(p.1==sysModules)=false->P):P:=by obtain⟨a',o,kvs,h1,h2,h3,h4,h5,h6⟩:=h;cases ay (h1.symm.trans hp);exact k o kvs h2 h3 (kda_dict a.T.N (hl _ h2) h3) h4 h5 h6
def KC.w7(c:KC V dec knd mk kv){i:Nat}{es:List (Y×MV)}(a:At V u G r Lc H)(hi:H.at_ i=some (mk es)){p:Addr×Addr}(hp:r.U.jY i=some p)(k:∀o kvs,(p.1,o)∈r.U.news->o.IsDictOf knd kvs->Heap.DictOf knd r.s.heap p.1 kvs->sJ dec r.U es kvs->es.length<=tD->(p.1==sysModules)=false->P):P:=
 (c.obj _ _ _<|a.T.R.obj i _ hi).w7 a (λz h=>h) hp k
def C9{i:Nat}{l:Rh->ig}{es:List (Y×MV)}{k:Y}{v:MV}(inj:∀a b,dec a=dec b->a=b)(is:∀U k w,VR U (kv k) w->knd.is (dec k) w=true)(hi:∀{G r},At V u G r Lc H->nG dec knd r.U i (l r) es/\∀p∈l r,p∈r.U.news)(hk:jQ k es=some v)(hq:Q v H):jl V u Lc H [.ref i,kv k] tH VR Q:=
 .mJ hq λG E r x z a h1 hz R kk=>sI h1 λp hp e=>by subst e;exact(hi a).1.w7 a (hi a).2 hp λo kvs d d hD hr d d=>(hr.get inj (k:=k)).yes hk λy g j=>wpAny_getItem_of (knd:=knd) (is _ _ _ hz) hD.mapOf g<|kk y _ j
def KC.item(c:KC V dec knd mk kv){i:Nat}{es:List (Y×MV)}{k:Y}{v:MV}(hi:H.at_ i=some (mk es))(hk:jQ k es=some v)(hq:Q v H):jl V u Lc H [.ref i,kv k] tH VR Q:=
 C9 (l:=λr=>r.U.news) c.inj c.is (λa=>⟨c.obj _ _ _<|a.T.R.obj i _ hi,λz h=>h⟩) hk hq
def KC.Kp(c:KC V dec knd mk kv){i:Nat}{es:List (Y×MV)}{k:Y}(hi:H.at_ i=some (mk es))(hq:Q (.bool (jQ k es).isSome) H):jl V u Lc H [kv k,.ref i] (jF .In) VR Q:=
 .mJ hq λG E r z x a hz h1 R kk=>sI h1 λp hp e=>by subst e;exact c.w7 a hi hp λo kvs y y hD hr y lo=>wpAny_in_of (knd:=knd) (c.is _ _ _ hz) lo hD.mapOf<|kk _ _<|aq Value.bool (hr.get c.inj).same
def KC.Tf(c:KC V dec knd mk kv){i:Nat}{es:List (Y×MV)}{k:Y}(hi:H.at_ i=some (mk es))(hq:Q (.bool<|!(jQ k es).isSome) H):jl V u Lc H [kv k,.ref i] (jF .NotIn) VR Q:=
 .mJ hq λG E r z x a hz h1 R kk=>sI h1 λp hp e=>by subst e;exact c.w7 a hi hp λo kvs y y hD hr y lo=>wpAny_notIn_of (knd:=knd) (c.is _ _ _ hz) lo hD.mapOf<|kk _ _<|aq (λb=>Value.bool<|!b) (hr.get c.inj).same
def empty_eq{α Z:Type}{a:List α}{b:List Z}(h:a.length=b.length):(!a.isEmpty)=!b.isEmpty:=by cases a<;>cases b<;>first|rfl|cases h
def Kq{α Z:Type}{a:List α}{b:List Z}(h:a.length=b.length):(!b.isEmpty)=!a.toArray.isEmpty:=by cases a<;>cases b<;>first|rfl|cases h
def KC.tru(c:KC V dec knd mk kv){i:Nat}{es:List (Y×MV)}(hi:H.at_ i=some (mk es))(hq:QB (!es.isEmpty) H):YU V u (.ref i) Lc H QB:=λG E r x a h=>kh (P:=λx=>Go V G E r (truthy x) _) h λp hp=>c.w7 a hi hp λo kvs z z hD hr hl lo=>wpAny_truthy_dict lo hD (Ow<|by rw[hr.len];exact aa hl<|by decide)<|(a.tk _).fin .tk (empty_eq hr.len).symm hq
def KC.upd(c:KC V dec knd mk kv){i:Nat}{es es':List (Y×MV)}{o o':Obj}{kvs kvs':List (K×Value)}{p:Addr×Addr}{h':Heap}(a:At V u G r Lc H)(hi:H.at_ i=some (mk es))(hp:r.U.jY i=some p)(m:(p.1,o)∈r.U.news)(d:o.IsDictOf knd kvs)
  (F:Fr G.h₀ G.L h' r.m)(N:News G.h₀ G.L h'<|rT p.1 o' r.U.news)(d':o'.IsDictOf knd kvs')(hr:sJ dec r.U es' kvs')(hl:es'.length<=tD)(lo:(p.1==sysModules)=false){tk:Nat}:Te V u G r Lc ⟨r.U.upd p.1 o',r.m,{r.s with heap:=h',toks:=tk}⟩ (H.put i<|mk es'):=
 have cls:o.cls=.type "dict":=d.elim λz h=>h.elim λz h=>h.1.1;a.upd hi (c.off es) ⟨p,hp,.inl rfl⟩ m (λe=>aG (cu<|cls.symm.trans e)<|by decide) (λe=>aG (cu<|cls.symm.trans e)<|by decide) (c.off es') F N λxT m' z=>by obtain⟨a',_,_,q,_⟩:=c.obj _ _ _<|a.T.R.obj i _ hi;cases ay (q.symm.trans hp);exact c.mko _ _ _ ⟨a',o',kvs',q,m',d',hr.mT xT.toou,hl,lo⟩
def KC.set(c:KC V dec knd mk kv){i:Nat}{es:List (Y×MV)}{k:Y}{v:MV}{K':MH->Prop}(hi:H.at_ i=some (mk es))(hl:es.length<tD)(hq:K'<|H.put i<|mk<|yq k v es):jl V u Lc H [.ref i,kv k,v] O8 Et (λw H'=>K' H'):=
 λG E r ws a y0=>lu y0 λx w e h1 y=>by subst e;clear y0;exact sI h1 λp hp e=>by subst e;exact y.e2 (P:=λl=>Go V G E r (O8<|.ref p.1::l) _) λz y hz hy=>c.w7 a hi hp λo kvs m d hD hr w lo=>kda_set (knd:=knd) (k:=dec k) a.T.F a.T.N (rU a.T.R.nodup m) d (c.is _ _ _ hz) (kJ<|by rw[hr.len];exact aa (cA hl)<|by decide) λh' o' F' N' d'=>have Z:=c.upd a hi hp m d F' N' d' (hr.store c.inj hy) (aa Kl hl) lo;Z.a.fin (b:=()) Z.l trivial hq
def KC.del(c:KC V dec knd mk kv){i:Nat}{es:List (Y×MV)}{k:Y}{K':MH->Prop}(hi:H.at_ i=some (mk es))(hk:(jQ k es).isSome=true)(hq:K'<|H.put i<|mk<|Ih k es):jl V u Lc H [.ref i,kv k] Kn Et (λw H'=>K' H'):=
 λG E r ws a y=>y.e2 (P:=λws=>Go V G E r (Kn ws) _) λx z h1 hz=>sI h1 λp hp e=>by subst e;exact c.w7 a hi hp λo kvs m d hD hr hl lo=>kob_del (knd:=knd) (k:=dec k) a.T.F a.T.N (rU a.T.R.nodup m) d (c.is _ _ _ hz) ((hr.get c.inj).same.trans hk) (kJ<|by rw[hr.len];exact aa hl<|by decide) λh' o' F' N' d'=>have Z:=c.upd a hi hp m d F' N' d' (hr.erase c.inj) (aa Km hl) lo;Z.a.fin (b:=()) Z.l trivial hq
end
end
section
variable{V:Th}{u:Nat}{G:Gm}{E:qT}{r r':Rh}{Lc:Loc}{H H':MH}{Q:QV}{QB:Bool->MH->Prop}{P:Prop}
def Ey{U:jK}{v:MV}{x:Value}(h:VR U v x):plainIs x .none=true/\(x==Value.none)=isNone v:=by
 have k:∀{y:Value} {b:Bool},x=y->plainIs y .none=true/\(y==Value.none)=b->plainIs x .none=true/\(x==Value.none)=b:=λe h=>e▸h;cases v with
 |none=>exact k h ⟨rfl,rfl⟩
 |bool b=>exact k h ⟨rfl,rfl⟩
 |int=>exact h.elim λz e=>k e ⟨rfl,rfl⟩
 |str=>exact h.elim λz e=>k e ⟨rfl,rfl⟩
 |ref=>exact sI h λz z e=>k e ⟨rfl,rfl⟩
 |tup=>exact xY h λz z e z z=>k e ⟨rfl,rfl⟩
 |«jR»=>exact xd h λz z e z z=>k e ⟨rfl,rfl⟩
 |cls=>exact k h ⟨rfl,rfl⟩
 |ty=>exact k h ⟨rfl,rfl⟩
def Ez{U:jK}{v:MV}{x:Value}{y:Bool}(h:VR U v x):plainIs x (.bool y)=true/\(x==Value.bool y)=isBool y v:=by
 have k:∀{z:Value} {b:Bool},x=z->plainIs z (.bool y)=true/\(z==Value.bool y)=b->plainIs x (.bool y)=true/\(x==Value.bool y)=b:=λe h=>e▸h;cases v with
 |none=>exact k h ⟨rfl,rfl⟩
 |bool b=>exact k h<|by cases b<;>cases y<;>exact⟨rfl,rfl⟩
 |int=>exact h.elim λw e=>k e ⟨rfl,rfl⟩
 |str=>exact h.elim λw e=>k e ⟨rfl,rfl⟩
 |ref=>exact sI h λw w e=>k e ⟨rfl,rfl⟩
 |tup=>exact xY h λw w e w w=>k e ⟨rfl,rfl⟩
 |«jR»=>exact xd h λw w e w w=>k e ⟨rfl,rfl⟩
 |cls=>exact k h ⟨rfl,rfl⟩
 |ty=>exact k h ⟨rfl,rfl⟩
def Kr{U:jK}{v b:MV}{x y:Value}{t:Bool}(hr:Y0 v b=some t)(h1:VR U v x)(h2:VR U b y):plainIs x y=true/\(x==y)=t:=by
 cases b with
 |none=>cases h2;exact ay hr▸Ey h1
 |bool y=>cases h2;exact ay hr▸Ez h1
 |_=>exact nn rfl hr
def Y7{a b:MV}{t:Bool}(hr:Y0 a b=some t)(hq:Q (.bool t) H):jl V u Lc H [a,b] (jF .Is) VR Q:=
 .mJ hq λG E r x y w h1 h2 R k=>have z:=Kr hr h1 h2;wpAny_is_plain (a:=x) (b:=y) z.1<|z.2▸k _ r.s.toks rfl
def Ks{a b:MV}{t:Bool}(hr:Y0 a b=some t)(hq:Q (.bool<|!t) H):jl V u Lc H [a,b] (jF .IsNot) VR Q:=
 .mJ hq λG E r x y w h1 h2 R k=>have z:=Kr hr h1 h2;wpAny_isNot_plain (a:=x) (b:=y) z.1<|z.2▸k _ r.s.toks rfl
def Y8{a b:MV}{t:Bool}(hr:eqW a b=some t)(hq:Q (.bool t) H):jl V u Lc H [a,b] (jF .Eq) VR Q:=
 vL (P:=λa=>jl V u Lc H [a,b] (jF .Eq) VR Q) hr
 (λhr=>vL (P:=λb=>jl V u Lc H [_,b] (jF .Eq) VR Q) hr (λhr=>by cases hr;exact .mJ hq λG E r x y z h1 h2 R k=>by cases h1;cases h2;exact PySem.EqNone.eq_none_none<|k _ r.s.toks rfl)
  (λy hr=>by cases hr;exact .mJ hq λG E r x y z h1 h2 R k=>by cases h1;exact oV (P:=λy=>wpAny _ _ (jF .Eq [_,y]) _ _ _) h2 λt=>PySem.EqNone.eq_none_int<|k _ r.s.toks rfl)
  λy hr=>by cases hr;exact .mJ hq λG E r x y z h1 h2 R k=>by cases h1;exact mY (P:=λy=>wpAny _ _ (jF .Eq [_,y]) _ _ _) h2 λt=>PySem.EqNone.eq_none_str<|k _ r.s.toks rfl)
 (λx hr=>vL (P:=λb=>jl V u Lc H [_,b] (jF .Eq) VR Q) hr (λhr=>by cases hr;exact .mJ hq λG E r x y z h1 h2 R k=>by cases h2;exact oV (P:=λx=>wpAny _ _ (jF .Eq [x,_]) _ _ _) h1 λt=>PySem.EqNone.eq_int_none<|k _ r.s.toks rfl)
  (λy hr=>by cases hr;exact .ints hq λG E r z z R k=>PySem.P.eq_int<|k _ r.s.toks rfl) λy hr=>nn rfl hr)
 λx hr=>vL (P:=λb=>jl V u Lc H [_,b] (jF .Eq) VR Q) hr (λhr=>by cases hr;exact .mJ hq λG E r x y z h1 h2 R k=>by cases h2;exact mY (P:=λx=>wpAny _ _ (jF .Eq [x,_]) _ _ _) h1 λt=>PySem.EqNone.eq_str_none<|k _ r.s.toks rfl)
  (λy hr=>nn rfl hr) λy hr=>by cases hr;exact .strs hq λG E r z z R k=>PySem.P.eq_str<|k _ r.s.toks rfl
def Vz{op:CmpOp}{fI:Int->Int->Option Bool}{fS:LN->LN->Option Bool}{a b:MV}{t:Bool}(hr:vI a none (λx=>vI b none (fI x) λz=>none) (λx=>vI b none (λz=>none)<|fS x)=some t)(hI:∀x y,fI x y=some t->jl V u Lc H [.int x,.int y] (jF op) VR Q)
  (hS:∀x y,fS x y=some t->jl V u Lc H [.str x,.str y] (jF op) VR Q):jl V u Lc H [a,b] (jF op) VR Q:=
 vL (P:=λa=>jl V u Lc H [a,b] (jF op) VR Q) hr (λhr=>nn rfl hr) (λx hr=>vL (P:=λb=>jl V u Lc H [_,b] (jF op) VR Q) hr (λhr=>nn rfl hr) (hI x) λz hr=>nn rfl hr)
  λx hr=>vL (P:=λb=>jl V u Lc H [_,b] (jF op) VR Q) hr (λhr=>nn rfl hr) (λz hr=>nn rfl hr)<|hS x
def Y9{a b:MV}{t:Bool}(hr:neW a b=some t)(hq:Q (.bool t) H):jl V u Lc H [a,b] (jF .NotEq) VR Q:=
 vL (P:=λa=>jl V u Lc H [a,b] (jF .NotEq) VR Q) hr
 (λhr=>vL (P:=λb=>jl V u Lc H [_,b] (jF .NotEq) VR Q) hr (λhr=>nn rfl hr) (λy hr=>nn rfl hr) λy hr=>by cases hr;exact .mJ hq λG E r x y z h1 h2 R k=>by cases h1;exact mY (P:=λy=>wpAny _ _ (jF .NotEq [_,y]) _ _ _) h2 λt=>PySem.EqNone.ne_none_str<|k _ r.s.toks rfl)
 (λx hr=>vL (P:=λb=>jl V u Lc H [_,b] (jF .NotEq) VR Q) hr (λhr=>nn rfl hr) (λy hr=>by cases hr;exact .ints hq λG E r z z R k=>PySem.P.ne_int<|k _ r.s.toks rfl) λy hr=>nn rfl hr)
 λx hr=>vL (P:=λb=>jl V u Lc H [_,b] (jF .NotEq) VR Q) hr (λhr=>nn rfl hr) (λy hr=>nn rfl hr) λy hr=>by cases hr;exact .strs hq λG E r z z R k=>PySem.P.ne_str<|k _ r.s.toks rfl
def EA{op:CmpOp}{f:Int->Int->Bool}(rule:∀G E r x y tx ty,qU V G E r (jF op [.int x tx,.int y ty])<|.bool<|f x y){a b:MV}{t:Bool}(hr:O7 f a b=some t)(hq:Q (.bool t) H):jl V u Lc H [a,b] (jF op) VR Q:=
 vL (P:=λa=>jl V u Lc H [a,b] (jF op) VR Q) hr (λhr=>nn rfl hr) (λx hr=>vL (P:=λb=>jl V u Lc H [_,b] (jF op) VR Q) hr (λhr=>nn rfl hr) (λy hr=>by cases hr;exact .ints hq λG E r tx ty=>rule G E r x y tx ty) λz hr=>nn rfl hr) λx hr=>nn rfl hr
def le_str{c d tx ty}{R:qT}(k:∀v tk,VR r.U (.bool<|decide<|c<=d) v->R v {r.s with toks:=tk}):wpAny V.M G.A (jF .LtE [.str ⟨[c].toArray⟩ tx,.str ⟨[d].toArray⟩ ty]) R E r.s:=
 PySem.P.le_str (k (.bool _) r.s.toks (aq Value.bool (by
   have z:([d]<[c])=(d<c):=by rw[List.cons_lt_cons_iff];simp
   rw[bT,bT,<-decide_not];exact cw.mpr<|by rw[z];exact gg)))
def Za{a b:MV}{t:Bool}(hr:leW a b=some t)(hq:Q (.bool t) H):jl V u Lc H [a,b] (jF .LtE) VR Q:=
 Vz hr (λx y hr=>by cases hr;exact .ints hq λG E r tx ty R k=>PySem.P.le_int<|k _ r.s.toks rfl) λx y hr=>(Option.bind_eq_some_iff.mp hr).elim λc z=>(bu.mp z.2).elim λd z'=>Ex (P:=λx=>jl V u Lc H [.str x,.str y] (jF .LtE) VR Q) z.1<|Ex (P:=λy=>jl V u Lc H [_,.str y] (jF .LtE) VR Q) z'.1<|.strs (z'.2.symm▸hq) λG E r tx ty R k=>le_str k
def zv{U:jK}{l:gV}:∀{ys:iK} {ws:lO},nY l=some ys->jr U l ws->StrsAre ws (ys.map gN):=
 l.rec (motive:=λl=>∀{ys:iK} {ws:lO},nY l=some ys->jr U l ws->StrsAre ws (ys.map gN)) (λh e=>by cases h;cases e;exact .nil) λv l ih ys ws h e=>lu e λx r e a b=>by
  subst e;cases v with
  |str s=>exact(bu.mp h).elim λzs z=>by obtain⟨z,rfl⟩:=z;exact mY (P:=λx=>StrsAre (x::r) _) a λt=>.cons _ t<|ih z b
  |_=>exact nn rfl h
def Dc{k:LN}(ys:iK):(ys.map gN).any (·==gN k)=ys.any (·==k):=
 ys.rec rfl λy ys ih=>congr (aq or (by
  show(gN y==gN k)=(y==k);by_cases q:y=k
  ·rw[q,cJ,cJ]
  ·rw[eX q,eX λe=>q<|rG _ _ e])) ih
def Pb{c:Nat}{l:LN}(hq:Q (.bool<|decide<|c∈l) H):jl V u Lc H [.str [c],.str l] (jF .In) VR Q:=
 .strs hq λG E r z z R k=>by refine PySem.P.in_str (x:=⟨l.toArray⟩) (y:=⟨[c].toArray⟩) ?_;rw[show(⟨[c].toArray⟩:Str)=⟨#[c]⟩from rfl,PyProof.Rows.empty_one];simp only[Bool.not_not,bT];exact k _ r.s.toks rfl
def EB{c:Nat}{l:LN}(hq:Q (.bool<|!decide (c∈l)) H):jl V u Lc H [.str [c],.str l] (jF .NotIn) VR Q:=
 .strs hq λG E r z z R k=>by refine PySem.P.notIn_str (x:=⟨l.toArray⟩) (y:=⟨[c].toArray⟩) ?_;rw[show(⟨[c].toArray⟩:Str)=⟨#[c]⟩from rfl,PyProof.Rows.empty_one];simp only[Bool.not_not,bT];exact k _ r.s.toks rfl
def VA{k:LN}{l:gV}{ys:iK}(hy:nY l=some ys)(hq:Q (.bool (ys.any (·==k))) H):jl V u Lc H [.str k,.tup l] (jF .In) VR Q:=
 .mJ hq λG E r x y a h1 h2 R kk=>mY (P:=λx=>wpAny _ _ (jF .In [x,y]) _ _ _) h1 λt=>CZ (P:=λy=>wpAny _ _ (jF .In [_,y]) _ _ _) h2 λb vs m v=>in_tuple_strs (items:=vs.toArray) ⟨_,(a.T.N _ m).1,rfl,_,rfl⟩ (by rw[bT];exact zv hy v) (Dc (k:=k) ys▸kk _ r.s.toks rfl)
def Ii{k:LN}{l:gV}{ys:iK}(hy:nY l=some ys)(hq:Q (.bool (!ys.any (·==k))) H):jl V u Lc H [.str k,.tup l] (jF .NotIn) VR Q:=
 .mJ hq λG E r x y a h1 h2 R kk=>mY (P:=λx=>wpAny _ _ (jF .NotIn [x,y]) _ _ _) h1 λt=>CZ (P:=λy=>wpAny _ _ (jF .NotIn [_,y]) _ _ _) h2 λb vs m v=>notin_tuple_strs (items:=vs.toArray) ⟨_,(a.T.N _ m).1,rfl,_,rfl⟩ (by rw[bT];exact zv hy v) (Dc (k:=k) ys▸kk _ r.s.toks rfl)
def Ge{P:LN->MV->Bool->Prop}{k:LN}{b:MV}{t:Bool}(hr:inW (.str k) b H=some t)(c1:∀c l,P [c] (.str l)<|decide<|c∈l)(c2:∀l ys,nY l=some ys->P k (.tup l) (ys.any (·==k)))(c3:∀i es,H.at_ i=some (.iN es)->P k (.ref i) (jQ k es).isSome):P k b t:=by
 cases b with
 |str l=>exact(bu.mp hr).elim λc z=>Ex (P:=λk=>P k _ t) z.1<|z.2▸c1 c l
 |tup l=>exact(bu.mp hr).elim λys z=>z.2▸c2 l ys z.1
 |ref i=>exact Y5 hr λes e z=>z▸c3 i es e
 |_=>exact nn rfl hr
def Zb{a b:MV}{t:Bool}(hr:inW a b H=some t)(hq:Q (.bool t) H):jl V u Lc H [a,b] (jF .In) VR Q:=
 vL (P:=λa=>jl V u Lc H [a,b] (jF .In) VR Q) (show vI a none _ _=some t from hr) (λhr=>nn rfl hr)
 (λk hr=>by
  cases b with
  |ref i=>exact Y6 hr λes e z=>(Td V).Kp e<|z▸hq
  |_=>exact nn rfl hr)
 λk hr=>Ge (P:=λk b t=>Q (.bool t) H->jl V u Lc H [.str k,b] (jF .In) VR Q) hr (λc l hq=>Pb hq) (λl ys hy hq=>VA hy hq) (λi es hh hq=>(Vy V).Kp hh hq) hq
def Ku{a b:MV}{t:Bool}(hr:sW .NotIn a b H=some t)(hq:Q (.bool t) H):jl V u Lc H [a,b] (jF .NotIn) VR Q:=by
 cases a with
 |str k=>exact(bu.mp hr).elim λt' z=>Ge (P:=λk b t=>Q (.bool<|!t) H->jl V u Lc H [.str k,b] (jF .NotIn) VR Q) z.1 (λc l hq=>EB hq) (λl ys hy hq=>Ii hy hq) (λi es hh hq=>(Vy V).Tf hh hq)<|z.2.symm▸hq
 |_=>exact nn rfl hr
def Pc{op:CmpOp}{a b:MV}{t:Bool}(hr:sW op a b H=some t)(hq:Q (.bool t) H):jl V u Lc H [a,b] (jF op) VR Q:=by
 induction op with
 |Eq=>exact Y8 hr hq
 |NotEq=>exact Y9 hr hq
 |Lt=>exact EA (λG E r y y y y R k=>PySem.P.lt_int<|k _ r.s.toks rfl) hr hq
 |LtE=>exact Za hr hq
 |Gt=>exact EA (λG E r y y y y R k=>PySem.P.gt_int<|k _ r.s.toks rfl) hr hq
 |GtE=>exact EA (λG E r y y y y R k=>PySem.P.ge_int<|k _ r.s.toks rfl) hr hq
 |Is=>exact Y7 hr hq
 |IsNot=>exact(bu.mp hr).elim λx z=>Ks z.1<|z.2.symm▸hq
 |In=>exact Zb hr hq
 |NotIn=>exact Ku hr hq
noncomputable def BF.nm(b:BF):Str:=b.casesOn "len" "int" "isinstance" "list" "max" "chr" "int"
noncomputable def BF.fv(b:BF):Value:=b.casesOn (.builtin "len") (.type "int") (.builtin "isinstance") (.type "list") (.builtin "max") (.builtin "chr")<|.type "int"
noncomputable def KM.nm(m:KM):Str:=m.casesOn "append" "pop" "extend" "join"
noncomputable def KM.kind(m:KM):Kind:=m.casesOn .pos .pos .pos .neg
noncomputable def KM.id(m:KM):String:=m.casesOn "list.append" "list.pop" "list.extend" "str.join"
def arg1(vs:gV)(K:MV->Prop):Prop:=vs.casesOn False λv r=>r.casesOn (K v) λz z=>False
def arg2(vs:gV)(K:MV->MV->Prop):Prop:=vs.casesOn False λv r=>arg1 r<|K v
def VB(v:MV)(H:MH)(Q:QV):Prop:=v.casesOn False kG kG (λl=>l.length<gP/\Q (.int l.length) H) (λi=>qh (H.at_ i) noI (λxs=>Q (.int xs.length) H) (λxs=>Q (.int xs.length) H) ur ur ur) kG AR kG λz=>False
def VC(S:jy)(v d:MV)(H:MH)(Q:QV):Prop:=v.casesOn False kG kG (λz=>tyW d λn=>n="str"/\Q (.bool true) H) (λi=>Ax d λd=>qz (H.at_ i) λc z=>jA (S.YQ c d) λb=>Q (.bool b) H) kG AR kG λz=>False
def Zc(S:jy)(b:BF)(vs:gV)(H:MH)(Q:QV):Prop:=b.casesOn (arg1 vs λv=>VB v H Q) (arg1 vs λv=>pI v λl=>l.length<=600/\jA (PySem.intText?<|gN l) λn=>Q (.int n) H) (arg2 vs λv d=>VC S v d H Q)
 (arg1 vs λv=>nR v λi=>yp (H.at_ i) λes=>S.quiet=true/\Q (.ref H.n) (H.new<|.list<|es.map λe=>.int e.1))
 (arg2 vs λv d=>AY v d λx y=>S.quiet=true/\Q (.int<|if x<y then y else x) H)
 (arg1 vs λv=>qg v λx=>(0<=x/\x<=1114111)/\Q (.str [x.toNat]) H)
 (arg2 vs λv d=>pI v λl=>l=[101,57]/\qg d λb=>b=16/\Q (.int 233) H)
def Zd(i:Nat)(vs:gV)(H:MH)(Q:QV):Prop:=kg (H.at_ i) λxs=>vs.casesOn (∃ys u,xs=ys++[u]/\Q u (H.put i<|.list ys)) λv r=>r.casesOn (qg v λk=>k=0/\∃u ys,xs=u::ys/\Q u (H.put i<|.list ys)) λz z=>False
def Ij(m:KM)(v:MV)(vs:gV)(H:MH)(Q:QV):Prop:=m.casesOn (nR v λi=>arg1 vs λu=>kg (H.at_ i) λxs=>xs.length<gP/\Q .none (H.put i<|.list<|xs++[u])) (nR v λi=>Zd i vs H Q)
 (nR v λi=>arg1 vs λu=>nR u λj=>kg (H.at_ i) λxs=>kg (H.at_ j) λys=>xs.length+ys.length<=gP/\Q .none (H.put i<|.list<|xs++ys))
 (pI v λs=>s=[]/\arg1 vs λu=>nR u λi=>kg (H.at_ i) λxs=>jA (nY xs) λys=>(ys.map length).sum+ys.length<=gP/\Q (.str ys.flatten) H)
def EC(o i v:MV)(H:MH)(K:MH->Prop):Prop:=nR o λj=>i.casesOn False kG (λk=>yp (H.at_ j) λes=>es.length<tD/\K (H.put j<|.ju<|yq k v es)) (λk=>Ie (H.at_ j) λes=>es.length<tD/\K (H.put j<|.iN<|yq k v es)) kG kG AR kG λz=>False
def Ik(o i:MV)(H:MH)(K:MH->Prop):Prop:=nR o λj=>qg i λk=>yp (H.at_ j) λes=>(jQ k es).isSome=true/\K (H.put j<|.ju<|Ih k es)
def rW{P:gV->Prop}{vs:gV}{K:MV->Prop}(h:arg1 vs K)(k:∀v,K v->P [v]):P vs:=by
 cases vs with
 |nil=>exact h.elim
 |cons v r=>induction r with|nil=>exact k v h|cons=>exact h.elim
def xg{P:gV->Prop}{vs:gV}{K:MV->MV->Prop}(h:arg2 vs K)(k:∀v w,K v w->P [v,w]):P vs:=by
 cases vs with
 |nil=>exact h.elim
 |cons v r=>exact rW (P:=λr=>P<|v::r) h<|k v
structure Tg(K:Frag)(c d:Addr)(b:Bool):Prop where
 one:kitOne K (.ref c) (.ref d)=some b
 get:plainGet K c "__class__"=true
 dict:hasDictIn K c=true
 find:findIn K (.ref c) "__class__"=some (some<|.builtin "object.__class__")
 spec:specialIn K (.builtin "object.__class__") "__get__"=some (some<|.builtin "getset_descriptor.__get__")
 takes:takesIn K (.builtin "object.__class__")=some true
 mro:mroIn K c (.type "object")=some true
def Dd:typeLookup (.type "method") "__bool__"=pure none:=by rw[typeLookup_type,builtinLookup_eq_fast];kernel_rfl
def ED:typeLookup (.type "method") "__len__"=pure none:=by rw[typeLookup_type,builtinLookup_eq_fast];kernel_rfl
def b6{n:Nat}(h:n<gP):n<=1000000:=cA h
def xh{α Z:Type}{J:jK->Z->α->Prop}{QJ:Z->MH->Prop}{v:α}{b:Z}(a:At V u G r Lc H)(j:J r.U b v)(q:QJ b H):ku r (uE V G Lc J QJ) v r.s:=a.fin .refl j q
def VD{α Z:Type}{J:jK->Z->α->Prop}{QJ:Z->MH->Prop}{v:α}{b:Z}{n:Nat}(a:At V u G r Lc H)(j:J r.U b v)(q:QJ b H):ku r (uE V G Lc J QJ) v {r.s with toks:=n}:=(a.tk n).fin .tk j q
theorem BE{v:MV}(h:vJ v H QB):YU V u v Lc H QB:=by
 cases v with
 |none=>exact λG E r x a e=>by cases e;exact truthy_none<|xh a rfl h
 |bool b=>exact λG E r x a e=>by cases e;exact cX<|xh a rfl h
 |int i=>exact λG E r x a e=>oV (P:=λx=>Go V G E r (truthy x) _) e λt=>PyProof.Rows.truthy_int<|xh a rfl h
 |str l=>exact λG E r x a e=>mY (P:=λx=>Go V G E r (truthy x) _) e λt=>P.truthy_str (by rw[nZ];exact Int.not_le.mpr<|Ow<|b6 h.1)<|VD a (by rw[nZ];cases l<;>rfl) h.2
 |ref i=>exact objE h (λy y y=>O5) (λxs hi h G E r x a e=>kh (P:=λx=>Go V G E r (truthy x) _) e λp hp=>jT.w7 (a.T.R.obj i _ hi) a (λy h=>h) hp λvs n y z y l e=>PySem.wpAny_truthy_list z (Ow<|by rw[bR,e];exact l)<|VD a (Kq e) h) (λy y=>uF) (λes hi h=>(Vy V).tru hi h) (λes hi h=>(Td V).tru hi h) λy y=>uF
 |tup l=>exact λG E r x a e=>CZ (P:=λx=>Go V G E r (truthy x) _) e λb vs m v=>PyProof.Rows.truthy_tuple (items:=vs.toArray) ⟨_,(a.T.N _ m).1,rfl,_,rfl⟩ (Ow<|by rw[bR,v.length];exact b6 h.1)<|VD a (Kq v.length) h.2
 |«jR» f i=>refine λG E r x a e=>xd e λb p e y m=>?_;subst e;have ty:r.s.TypeIs (.ref b) "method":=⟨_,(a.T.N _ m).1,rfl⟩;exact af (m:=callSpecial? (.ref b)<|Str.ofString "__bool__")<|wpAny_callSpecial?_none (name:=Str.ofString "__bool__") ty Dd<|af<|wpAny_specialOf (name:=Str.ofString "__len__") ty ED<|aH<|xh a rfl h
 |cls=>exact h.elim
 |ty=>exact h.elim
noncomputable def Kind.tn(k:Kind):String:=k.casesOn "str" "list" "dict" "tuple"
def KI(s:Shared)(k:Kind)(x:Value):Prop:=s.TypeIs x k.tn/\∀a,x=.ref a->∃o,s.heap.get? a=some o/\o.dict=none
def rj(H:MH)(v:MV)(k:Kind):Prop:=∀{V u G r Lc x},At V u G r Lc H->VR r.U v x->KI r.s k x
def VE{s:Shared}{k:Kind}{a:Addr}{o:Obj}(h:s.heap.get? a=some o)(c:o.cls=.type k.tn)(d:o.dict=none):KI s k (.ref a):=⟨⟨o,h,c⟩,λz e=>by cases e;exact⟨o,h,d⟩⟩
def BG{l:LN}:rj H (.str l) .neg:=λ{z z z r z _} a e=>mY (P:=KI r.s .neg) e λt=>⟨rfl,λz e=>by cases e⟩
def Kv{l:gV}:rj H (.tup l) .invert:=λ{z z z r z _} a e=>CZ (P:=KI r.s .invert) e λb vs m v=>VE (a.T.N _ m).1 rfl rfl
def Gf{i:Nat}{xs:gV}(hi:H.at_ i=some (.list xs)):rj H (.ref i) .pos:=λ{z z z r z _} a e=>kh (P:=KI r.s .pos) e λp hp=>jT.w7 (a.T.R.obj i _ hi) a (λz h=>h) hp λvs n m z z z z=>VE (a.T.N _ m).1 rfl rfl
def BH{Y K:Type}[DecidableEq K]{dec:Y->K}{i:Nat}{es:List (Y×MV)}(knd:∀V:Th,KeyKind V.S.prog V.w K)(hi:∀{V u G r Lc},At V u G r Lc H->∃l,nG dec (knd V) r.U i l es/\∀p∈l,p∈r.U.news):rj H (.ref i) .abs:=λ{V u G r Lc x} a e=>kh (P:=KI r.s .abs) e λp hp=>(hi a).elim λl z=>by obtain⟨a',o,kvs,h1,h2,h3,_⟩:=z.1;cases ay (h1.symm.trans hp);obtain⟨_,_,ex,_⟩:=h3;exact VE (a.T.N _<|z.2 _ h2).1 ex.1 ex.2.1
def Ti{i:Nat}{es:List (LN×MV)}(hi:H.at_ i=some (.iN es)):rj H (.ref i) .abs:=BH (dec:=gN) (λV=>strKind V.S.prog V.w) λ{V u G r Lc} a=>⟨r.U.news,a.T.R.obj i _ hi,λz h=>h⟩
def Tj{i:Nat}{es:List (Int×MV)}(hi:H.at_ i=some (.ju es)):rj H (.ref i) .abs:=BH (dec:=Bv) (λV=>intKind V.S.prog V.w) λ{V u G r Lc} a=>⟨r.U.news,a.T.R.obj i _ hi,λz h=>h⟩
def Tn{i:Nat}{es:List (Int×MV)}(hi:H.at_ i=some (.vE es)):rj H (.ref i) .abs:=BH (dec:=Bv) (λV=>intKind V.S.prog V.w) λ{V u G r Lc} a=>⟨r.U.iw,a.T.R.obj i _ hi,a.T.R.uv.1⟩
def Kw{v:MV}{k:Kind}(h:Kh v H k):rj H v k:=by
 induction k with
 |neg=>exact Kf h λl e z=>e▸BG
 |invert=>exact Vu h λl e z=>e▸Kv
 |pos=>exact Vt h λi e h=>objE h (λz z z=>O5) (λxs hi z=>e▸Gf hi) (λz z=>uF) (λz z=>uF) (λz z=>uF) λz z=>uF
 |abs=>exact Vt h λi e h=>objE h (λz z z=>O5) (λz z=>uF) (λz z=>uF) (λxs hi z=>e▸Ti hi) (λxs hi z=>e▸Tj hi) λxs hi z=>e▸Tn hi
def Kind.yS(k:Kind):∃id,typeLookup (.type k.tn) "__getitem__"=pure (some<|.builtin id):=by
 induction k with
 |neg=>exact⟨_,PyProof.Rows.slot_str_getitem.lookup⟩
 |pos=>exact⟨_,PySem.slot_list_getitem.lookup⟩
 |abs=>exact⟨_,PySem.slot_dict_getitem.lookup⟩
 |invert=>exact⟨_,PySem.F.slot_tuple_getitem.lookup⟩
def zw{α:Type}{l:List α}{k:Nat}{x:α}(h:l[k]?=some x):k<l.length:=(bG.mp h).1
def item_list{i k:Nat}{xs:gV}{v:MV}(hi:H.at_ i=some (.list xs))(hk:xs[k]?=some v)(hq:Q v H):jl V u Lc H [.ref i,.int k] tH VR Q:=
 λG E r ws a y=>y.e2 (P:=λws=>Go V G E r (tH ws) _) λx z h1 hz=>kh (P:=λx=>Go V G E r (tH [x,z]) _) h1 λp hp=>oV (P:=λz=>Go V G E r (tH [_,z]) _) hz λt=>jT.w7 (a.T.R.obj i _ hi) a (λd h=>h) hp λvs n d z w l e=>w.get hk λy hy j=>getItem_listL (l:=vs) z (cB k) (Ow<|aa (cA<|zw hk) l) hy<|xh a j hq
def Kx{k:Nat}{xs:gV}{v:MV}(hk:xs[k]?=some v)(hl:xs.length<gP)(hq:Q v H):jl V u Lc H [.tup xs,.int k] tH VR Q:=
 λG E r ws a y=>y.e2 (P:=λws=>Go V G E r (tH ws) _) λx z h1 hz=>CZ (P:=λx=>Go V G E r (tH [x,z]) _) h1 λb vs m w=>oV (P:=λz=>Go V G E r (tH [_,z]) _) hz λt=>w.get hk λy hy j=>getItem_tuple (items:=vs.toArray) (j:=k) (x:=y) ⟨_,(a.T.N _ m).1,rfl,_,rfl⟩ (by have:=Ow<|aa (cA<|zw hk)<|b6 hl;lia) (by have:=Ow<|aa (cA<|zw hk)<|b6 hl;omega) (by rw[bR];exact vK<|zw hy) (by simpa using hy)<|xh a j hq
def item_str{k:Nat}{l:LN}{c:Nat}(hk:l[k]?=some c)(hl:l.length<gP)(hq:Q (.str [c]) H):jl V u Lc H [.str l,.int k] tH VR Q:=
 .mJ hq λG E r x z a h1 hz R kk=>mY (P:=λx=>wpAny _ _ (tH [x,z]) _ _ _) h1 λt=>oV (P:=λz=>wpAny _ _ (tH [_,z]) _ _ _) hz λt'=>by have kl:=zw hk;have z:=Ow<|aa (cA kl)<|b6 hl;exact PyProof.Rows.getItem_str (c:=c) (by simp;omega) (by rw[show(Str.mk l.toArray).length=l.length by simp[Str.length],vK kl];simpa using hk)<|kk _ _ ⟨_,rfl⟩
structure Item(V:Th)(u:Nat)(Lc:Loc)(H:MH)(Q:QV)(v i:MV)(k:Kind):Prop where
 kind:rj H v k
 item:jl V u Lc H [v,i] tH VR Q
abbrev BJ(V:Th)(u:Nat)(Lc:Loc)(H:MH)(Q:QV)(v i:MV):Prop:=∃k,Item V u Lc H Q v i k
def Il{l:LN}{m c:Nat}(hk:l[l.length-(m+1)]?=some c)(hl:l.length<gP)(hm:m<l.length)(hq:Q (.str [c]) H):jl V u Lc H [.str l,.int<|.negSucc m] tH VR Q:=
 .mJ hq λG E r x y a h1 h2 R kk=>mY (P:=λx=>wpAny V.M G.A (tH [x,y]) R E r.s) h1 λt=>oV (P:=λy=>wpAny V.M G.A (tH [_,y]) R E r.s) h2 λt'=>by
  have kl:=b6 hl;have e1:(Str.mk l.toArray).length=l.length:=by simp[Str.length]
  exact PyProof.Rows.getItem_str (c:=c) (by simp;omega) (by
   have e2:seqIndex? (Int.negSucc m) l.length=some (l.length-(m+1)):=by
    unfold seqIndex?;have h1:Int.negSucc m<0:=Int.negSucc_lt_zero m;have h3:Int.negSucc m=-((m:Int)+1):=Int.negSucc_eq m;rw[aF h1,h3];have h4:-((m:Int)+1)+l.length=((l.length-(m+1):Nat):Int):=by rw[Int.ofNat_sub hm];exact Int.add_comm _ _
    rw[h4];simp;omega
   rw[e1,e2];simpa using hk)<|kk _ _ ⟨_,rfl⟩
def ace{P:Int->Prop}{n:Nat}{k:Int}{K:Nat->Prop}(h:O2 n k K)(c:∀n:Nat,K n->P n)(d:∀m,m<n->K (n-(m+1))->P (.negSucc m)):P k:=by induction k with|ofNat n=>exact c n h|negSucc m=>exact d m h.1 h.2
def acf{l:LN}{i:MV}(h:rV (.str l) i H Q):BJ V u Lc H Q (.str l) i:=Ay (P:=BJ V u Lc H Q<|.str l) h λk h=>ace (P:=λk=>BJ V u Lc H Q (.str l)<|.int k) h.2 (λn h'=>jE h' λc e h'=>⟨.neg,BG,item_str e h.1 h'⟩) λm hm h'=>jE h' λc e h'=>⟨.neg,BG,Il e h.1 hm h'⟩
def acg{l:gV}{i:MV}(h:rV (.tup l) i H Q):BJ V u Lc H Q (.tup l) i:=Ay (P:=BJ V u Lc H Q<|.tup l) h λk h=>O3 (P:=λk=>BJ V u Lc H Q (.tup l)<|.int k) h.2 λn h'=>jE h' λc e h'=>⟨.invert,Kv,Kx e h.1 h'⟩
def ach{j:Nat}{i:MV}(h:rV (.ref j) i H Q):BJ V u Lc H Q (.ref j) i:=by
 cases i with
 |int k=>exact objE h (λz z z=>O5) (λxs hi h=>O3 (P:=λk=>BJ V u Lc H Q (.ref j)<|.int k) h λn h=>jE h λc e h=>⟨.pos,Gf hi,item_list hi e h⟩) (λz z=>uF) (λz z=>uF) (λes hi h=>jE h λc e h=>⟨.abs,Tj hi,(Td V).item hi e h⟩) λes hi h=>jE h λc e h=>⟨.abs,Tn hi,C9 (kv:=.int) (l:=λr=>r.U.iw) CY (Td V).is (λa=>⟨a.T.R.obj j _ hi,a.T.R.uv.1⟩) e h⟩
 |str k=>exact YY h λes hi h=>jE h λc e h=>⟨.abs,Ti hi,(Vy V).item hi e h⟩
 |_=>exact h.elim
def Gg{v i:MV}(h:rV v i H Q):BJ V u Lc H Q v i:=by
 cases v with
 |str=>exact acf h
 |tup=>exact acg h
 |ref=>exact ach h
 |_=>exact h.elim
end
section
open PySem PySem.W PySem.Calls PyProof.Rows PySem.Spec PySem.NumText
def Ky:(int_private%"readNumeral") 0 16 [101,57]=(int_private%"Numeral.value") 233:=by kernel_rfl
def VG{M:Model}{A:Around}{E:Value->Shared->Prop}{s:Shared}{Q:Value->Shared->Prop}{v:Value}{text:List Nat}{base:Nat}(et:text=[101,57])(eb:base=16)(h:Q (.int 233 s.toks) {s with toks:=s.toks+1}):
  wpAny M A ((int_private%"intFromText") v text base) Q E s:=by
 subst et eb;obtain⟨hp,g,d,tk,os⟩:=s;have e1:([101,57]:List Nat).takeWhile (·!=0)=[101,57]:=rfl;have hs:(([101,57]:List Nat).takeWhile (·!=0)).length<=640:=by decide
 have ha:((([101,57]:List Nat).takeWhile (·!=0)).length==([101,57]:List Nat).length)=true:=rfl;have hr:(int_private%"readNumeral") 0 16 (([101,57]:List Nat).takeWhile (·!=0))=(int_private%"Numeral.value") 233:=Ky;repeat(any_goals(first
  |assumption
  |(with_reducible refine fR (az hs) ?_)
  |(with_reducible refine fR (az ha) ?_)
  |wp_step))
 all_goals(try rw[hr])
 all_goals(try dsimp only)
 repeat(any_goals(first
  |assumption
  |(with_reducible refine fR (az hs) ?_)
  |(with_reducible refine fR (az ha) ?_)
  |wp_step))
set_option maxHeartbeats 4000000 in
def gives_hex{u t:Tok}:Gives (Builtin.«int.__new__» ⟨[.type "int",.str ⟨#[101,57]⟩ u,.int 16 t],[]⟩) (.int 233):=
 .of_wp λM A E s Q h=>by
  obtain⟨hp,g,d,tk,os⟩:=s;have f1:=F.conv_sub_int;have f2:=F.madeHere_int;have f6:typeOf (.str ⟨#[101,57]⟩ u)=pure (.type "str"):=rfl;have f7:typeOf (.int 16 t)=pure (.type "int"):=rfl;repeat(any_goals(first
   |assumption
   |((with_reducible show wpAny _ _ ((int_private%"intFromText") _ _ _) _ _ _);refine VG (by first|rfl|decide+kernel) (by rfl) ?_)
   |wp_step))
  all_goals first|exact⟨_,rfl,h⟩|skip
def zx(a b:Value):checkTypeCall "int" ⟨[a,b],[]⟩=pure ():=by kernel_rfl
def Az(a b:Value):checkBuiltinCall "int.__new__" ⟨[.type "int",a,b],[]⟩=pure ():=by kernel_rfl
def Kz{prog:Program}{w:World}{A:Around}{E:Value->Shared->Prop}{s:Shared}{t u:Tok}{Q:Value->Shared->Prop}(h:Q (.int 233 s.toks) {s with toks:=s.toks+1}):wpAny (model prog w) A (call (.type "int") [.str ⟨#[101,57]⟩ t,.int 16 u]) Q E s:=
 callType_new F.called_int F.newNe_int (zx _ _) (Az _ _) (λobj=>by unfold argsOk;kernel_rfl) F.entry_int_new gives_hex.meets (show(Made.int 233).post _ s from⟨rfl,h⟩)
end
def SR(v:MV)(a:Value):Prop:=v.casesOn False kG kG (λl=>∃t,a=.str (gN l) t) kG kG AR (λc=>a=.ref c) λz=>False
def SR.vr{U:jK}{v:MV}{a:Value}(h:SR v a):VR U v a:=by cases v<;>first|exact h.elim|exact h
structure Ze(K:Frag)(c:Addr)(x:Str)(v:MV):Prop where
 get:plainGet K c x=true
 dict:hasDictIn K c=true
 Es:copiedNames.contains x=false
 val:∃a,SR v a/\findIn K (.ref c) x=some (some a)/\specialIn K a "__get__"=some none
structure Zf(K:Frag)(c:Addr)(x:Str)(v:MV):Prop where
 val:∃mc a,SR v a/\typeIn K (.ref c)=some mc/\readsIn K c mc=true/\findCls K (.ref c) mc x=some (.val a)
structure BK(K:Frag)(c fI:Addr):Prop where
 makes:makesIn K c=true
 init:findIn K (.ref c) "__init__"=some (some<|.ref fI)
 Tc:isFn K (.ref fI)=true
 keep:keepIn K (.ref c)=true
structure Zg(prog:Program)(w:World)(K:Frag)(a:Addr)(es:List<|LN×MV):Prop where
 val:∃o kvs,K.lookup a=some o/\o.IsDictOf (strKind prog w) kvs/\∀U,sJ gN U es kvs
 lo:(a==sysModules)=false
noncomputable def vM:Str:="_law_PIECES"
structure Zh(K:Frag)(x:Str)(l:iK):Prop where
 val:∃a vs n,nsIn K mainGlobals x=some (some<|.ref a)/\K.lookup a=some (listOf vs n)/\∀(i:Nat) c,l[i]?=some c->∃t,vs[i]?=some (.str (gN c) t)
 len:l.length<=100
structure j3(S:jy)(w:World):Prop extends Ke S w where
 YQ:∀c d b,S.YQ c d=some b->Tg (S.K w.params) c d b
 ca:∀c k x v,S.ca c k=some v->S.nm[k]?=some x->Ze (S.K w.params) c x v
 cv:∀c k x v,S.cv c k=some v->S.nm[k]?=some x->Zf (S.K w.params) c x v
 sd:∀a es,S.sd a=some es->Zg S.prog w (S.K w.params) a es
 sl:∀l,S.sl=some l->Zh (S.K w.params) vM l
 mtf:∀c k fa,S.mt c k=some fa->fnIn (S.K w.params) fa=true
 nof:∀c k x,S.tab c k=true->S.nm[k]?=some x->findIn (S.K w.params) (.ref c) x=some none
 glk:∀x a,S.gl.lookup x=some (.ref a)->keepIn (S.K w.params) (.ref a)=true
 ini:∀c fI,S.ini c=some fI->BK (S.K w.params) c fI
 gl:∀x v,S.gl.lookup x=some v->nsIn (S.K w.params) mainGlobals x=some (some v)∨(nsIn (S.K w.params) mainGlobals x=some none/\bootBuiltins x=some v/\x≠"__name__")
section
variable{V:Th}{u:Nat}{G:Gm}{E:qT}{r r':Rh}{Lc:Loc}{H H':MH}{Q:QV}{QB:Bool->MH->Prop}{P:Prop}
def len_str{l:LN}(hl:l.length<gP)(hq:Q (.int l.length) H):jl V u Lc H [.str l] (g5<|.builtin "len") VR Q:=
 .Ga hq λG E r x a h R k=>mY (P:=λx=>wpAny _ _ (g5 _ [x]) _ _ _) h λt=>PyProof.Rows.len_str (by rw[nZ];exact Int.not_le.mpr<|Ow<|b6 hl)<|k _ _ ⟨_,by rw[nZ]⟩
def Gh{i:Nat}{xs:gV}(l:Rh->ig)(hi:∀{G r},At V u G r Lc H->jT r.U i (l r) xs/\∀p∈l r,p∈r.U.news)(hq:Q (.int xs.length) H):jl V u Lc H [.ref i] (g5<|.builtin "len") VR Q:=
 .Ga hq λG E r x a h R k=>kh (P:=λx=>wpAny _ _ (g5 _ [x]) _ _ _) h λp hp=>(hi a).1.w7 a (hi a).2 hp λvs n y z y hl e=>PyProof.Rows.len_list z (by rw[bR,e];exact Ow hl)<|k _ _ ⟨_,by rw[bR,e]⟩
def Pd{v:MV}(h:VB v H Q):jl V u Lc H [v] (g5<|.builtin "len") VR Q:=by
 cases v with
 |str l=>exact len_str h.1 h.2
 |ref i=>exact objE h (λz z z=>O5) (λxs hi h=>Gh (λr=>r.U.news) (λa=>⟨a.T.R.obj i _ hi,λz h=>h⟩) h) (λxs hi h=>Gh (λr=>r.U.fix) (λa=>⟨a.T.R.obj i _ hi,a.T.R.uv.2⟩) h) (λz z=>uF) (λz z=>uF) λz z=>uF
 |_=>exact h.elim
def Pe(O:j3 V.S V.w){v d:MV}(h:VC V.S v d H Q):jl V u Lc H [v,d] (g5<|.builtin "isinstance") VR Q:=by
 cases v with
 |str l=>exact tyX (P:=λd=>jl V u Lc H [.str l,d] (g5<|.builtin "isinstance") VR Q) h λn h=>h.1▸.mJ h.2 λG E r x y a h1 h2 R k=>mY (P:=λx=>wpAny _ _ (g5 _ [x,y]) _ _ _) h1 λt=>by cases h2;exact kia_one (K:=V.K) (b:=true) kitx_str (a.C.X.keeps a.T.F.keep) trivial rfl (by intro e;cases e) λtk=>k _ tk rfl
 |ref i=>refine Vv (P:=λd=>jl V u Lc H [.ref i,d] (g5<|.builtin "isinstance") VR Q) h λd h=>CU h λc fs hi h=>jE h λb hb h=>.mJ h λG E r x y a h1 h2 R k=>kh (P:=λx=>wpAny _ _ (g5 _ [x,y]) _ _ _) h1 λp hp=>a.T.inst hi λq es n uY z z z z I=>?_;cases ay (hp.symm.trans uY);cases h2;exact have o:=O.YQ c d b hb;kia_one (kitx_own o.get o.dict o.find o.spec o.takes o.mro) (a.C.X.keeps a.T.F.keep) I o.one (by intro e;cases e) λtk=>k _ tk rfl
 |_=>exact h.elim
def De{prog:Program}{w:World}{a:Int}{v:Value}(h:(intKind prog w).is a v=true):∃t,v=.int a t:=by
 cases v<;>first|(simp[intKind,Value.isInt]at h;done)|skip
 have:i=a:=by simpa[intKind,Value.isInt]using h
 exact⟨tok,by rw[this]⟩
def jr.of_get{U:jK}{l:gV}:∀{ws:lO},ws.length=l.length->(∀(i:Nat) v w,l[i]?=some v->ws[i]?=some w->VR U v w)->jr U l ws:=
 l.rec (motive:=λl=>∀{ws:lO},ws.length=l.length->(∀(i:Nat) v w,l[i]?=some v->ws[i]?=some w->VR U v w)->jr U l ws) (λh z=>List.eq_nil_of_length_eq_zero h) λv l ih ws hl h=>by
  induction ws with
  |nil=>cases hl
  |cons x ws=>exact oG (h 0 v x rfl rfl)<|ih (fK hl) λi=>h<|i+1
def Pf{i:Nat}{es:List (Int×MV)}(qt:V.S.quiet=true)(hi:H.at_ i=some (.ju es))(hq:Q (.ref H.n)<|H.new<|.list<|es.map λe=>.int e.1):jl V u Lc H [.ref i] (g5<|.type "list") VR Q:=
 λG E r ws a y=>y.e1 (P:=λws=>Go V G E r (g5 _ ws) _) λx h=>kh (P:=λx=>Go V G E r (g5 _ [x]) _) h λp hp=>(Td V).w7 a hi hp λo kvs m d g hr hl lo=>by
  obtain⟨es',ep,dd⟩:=d;have hD:r.s.heap.DictAt (intKind V.S.prog V.w) p.1 kvs ep:=⟨o,es',(a.T.N _ m).1,dd⟩;have hl':es.length<=1000000:=aa hl<|by decide
  refine kdl_N (kdl_dict (knd:=intKind V.S.prog V.w) (kvs:=kvs) (ep:=ep) lo) (a.C.quiet qt) a.T.F a.T.N hD (kJ<|by rw[hr.len];exact hl') λB n h' tk vs F' N' fresh lv hv=>?_;have rv:jr r.U (es.map λe=>MV.int e.1) vs:=jr.of_get (by rw[lv,hr.len,aV]) λj v x hj hx=>(hv j x hx).elim λk z=>z.elim λy z=>by
   rw[bh]at hj;obtain⟨e,he,rfl⟩:=bu.mp hj;have h1:(kvs.map (·.1))[j]?=some k:=by rw[bh,z.1];rfl
   rw[hr.keys,bh,he]at h1;cases ay h1;exact De z.2
  have Z:=a.newL (tk:=tk) fresh F' N' rv<|by rw[aV];exact hl'
  exact Z.a.fin (b:=MV.ref H.n) Z.l jK.q9 hq
def VH{x y:Int}(qt:V.S.quiet=true)(hq:Q (.int<|if x<y then y else x) H):jl V u Lc H [.int x,.int y] (g5<|.builtin "max") VR Q:=
 λG E r ws a v=>v.e2 (P:=λws=>Go V G E r (g5 _ ws) _) λp q h1 h2=>oV (P:=λp=>Go V G E r (g5 _ [p,q]) _) h1 λt1=>oV (P:=λq=>Go V G E r (g5 _ [_,q]) _) h2 λt2=>
  PySem.Flt.max_two_num (a.C.quiet qt) (.int _ _) (.int _ _) λh' tk hk=>
   have a1:At V u G ⟨r.U,r.m,{r.s with heap:=h',toks:=tk}⟩ Lc H:=a.at_ ⟨.refl,rfl,rfl⟩ ⟨a.T.F.keeps hk,a.T.N.grown hk,a.T.R,a.T.loc⟩;a1.fin ⟨.refl,rfl,rfl⟩ (b:=.int<|if x<y then y else x) (by
    show VR _ _ (if(decide<|x<y)then _ else _);by_cases h:x<y
    ·rw[aF h,aF<|az h];exact⟨t2,rfl⟩
    ·rw[aE h,aE<|by simpa using h];exact⟨t1,rfl⟩) hq
def VI(O:j3 V.S V.w){b:BF}{vs:gV}(h:Zc V.S b vs H Q):jl V u Lc H vs (g5 b.fv) VR Q:=by
 induction b with
 |add=>exact rW (P:=λvs=>jl V u Lc H vs (g5<|.builtin "len") VR Q) h λv h=>Pd h
 |subtract=>exact rW (P:=λvs=>jl V u Lc H vs (g5<|.type "int") VR Q) h λv h=>zq (P:=λv=>jl V u Lc H [v] (g5<|.type "int") VR Q) h λl h=>jE h.2 λn e q=>.Ga q λG E r x a h1 R k=>mY (P:=λx=>wpAny _ _ (g5 _ [x]) _ _ _) h1 λt=>PySem.W.KIN.call_text e (by have:=h.1;rw[nZ];omega)<|k _ _ ⟨_,rfl⟩
 |multiply=>exact xg (P:=λvs=>jl V u Lc H vs (g5<|.builtin "isinstance") VR Q) h λv d h=>Pe O h
 |minimum=>exact xg (P:=λvs=>jl V u Lc H vs (g5<|.builtin "max") VR Q) h λv d h=>zu h λx y e1 e2 h=>e1▸e2▸VH h.1 h.2
 |fmax=>exact rW (P:=λvs=>jl V u Lc H vs (g5<|.builtin "chr") VR Q) h λv h=>Ay (P:=λv=>jl V u Lc H [v] (g5<|.builtin "chr") VR Q) h λx h=>.Ga h.2 λG E r x a h1 R k=>oV (P:=λx=>wpAny _ _ (g5 _ [x]) _ _ _) h1 λt=>PyProof.Rows.chr_of_range h.1.1 h.1.2<|k _ _ ⟨_,rfl⟩
 |fmin=>exact xg (P:=λvs=>jl V u Lc H vs (g5<|.type "int") VR Q) h λv d h=>zq (P:=λv=>jl V u Lc H [v,d] (g5<|.type "int") VR Q) h λl h=>Ay (P:=λd=>jl V u Lc H [.str l,d] (g5<|.type "int") VR Q) h.2 λb h'=>h.1▸h'.1▸.mJ h'.2 λG E r x y a h1 h2 R k=>mY (P:=λx=>wpAny _ _ (g5 _ [x,y]) _ _ _) h1 λt=>oV (P:=λy=>wpAny _ _ (g5 _ [_,y]) _ _ _) h2 λt'=>Kz<|k _ _ ⟨_,rfl⟩
 |maximum=>exact rW (P:=λvs=>jl V u Lc H vs (g5<|.type "list") VR Q) h λv h=>tG (P:=λv=>jl V u Lc H [v] (g5<|.type "list") VR Q) h λi h=>Kg h λes hi h=>Pf h.1 hi h.2
def Im{i:Nat}{xs:gV}{v:MV}(hi:H.at_ i=some (.list xs))(hl:xs.length<gP)(hq:Q .none<|H.put i<|.list<|xs++[v]):jl V u Lc H [.ref i,v] (g5<|.builtin "list.append") VR Q:=
 λG E r ws a y=>y.e2 (P:=λws=>Go V G E r (g5 _ ws) _) λx y h1 hy=>kh (P:=λx=>Go V G E r (g5 _ [x,y]) _) h1 λp hp=>jT.w7 (a.T.R.obj i _ hi) a (λz h=>h) hp λvs n m z w z e=>
  have E1:vs.toArray.push y=(vs++[y]).toArray:=by simp
  append_K a.T.F a.T.N (E1▸uo (listOf (vs.toArray.push y)<|n+1) (rU a.T.R.nodup m):Upd p.1 (listOf vs.toArray n) (listOf (vs.toArray.push y)<|n+1) r.U.news _) (λh' F' N'=>have Z:=a.Ko (vs':=vs++[y]) (n':=n+1) (tk:=r.s.toks) hi hp m F' (E1▸N') (w.append<|.one hy) (by rw[aT];exact hl);Z.a.fin (b:=MV.none) Z.l rfl hq) (kJ<|by rw[bR,e];exact b6 hl)
def EE(y:Value)(p:lO):kl_last (p++[y])=some (p,y):=
 p.rec rfl λx p ih=>by show(match kl_last (p++[y])with|some (q,z)=>some (x::q,z)|none=>some ([],x))=some (x::p,y);rw[ih]
def VJ{i:Nat}{xs:gV}{v:MV}(hi:H.at_ i=some (.list<|xs++[v]))(hq:Q v<|H.put i<|.list xs):jl V u Lc H [.ref i] (g5<|.builtin "list.pop") VR Q:=
 λG E r ws a y=>y.e1 (P:=λws=>Go V G E r (g5 _ ws) _) λx h1=>kh (P:=λx=>Go V G E r (g5 _ [x]) _) h1 λp hp=>jT.w7 (a.T.R.obj i _ hi) a (λz h=>h) hp λvs n m z w l e=>w.Er λc d ev wc wd=>by subst ev;refine wd.e1 (P:=λd=>(p.1,listOf (c++d).toArray n)∈r.U.news->(c++d).length=(xs++[v]).length->Go V G E r (g5 _ [.ref p.1]) _) (λy hy m e=>?_) m e;rw[aT]at l;have lx:xs.length<=1000000:=Nat.le_of_succ_le l;exact kl_pop (p:=c) (y:=y) a.T.F a.T.N (by rw[bT];exact EE y c) (uo (listOf c.toArray<|n+1)<|rU a.T.R.nodup m) (by rw[bT,e,aT];exact kJ l) λh' F' N'=>have Z:=a.Ko (vs':=c) (n':=n+1) (tk:=r.s.toks) hi hp m F' N' wc lx;Z.a.fin Z.l (hy.ext Z.l.x) hq
def Pg{i:Nat}{xs:gV}{v:MV}(hi:H.at_ i=some (.list<|v::xs))(hq:Q v<|H.put i<|.list xs):jl V u Lc H [.ref i,.int 0] (g5<|.builtin "list.pop") VR Q:=
 λG E r ws a y=>y.e2 (P:=λws=>Go V G E r (g5 _ ws) _) λx z h1 hz=>kh (P:=λx=>Go V G E r (g5 _ [x,z]) _) h1 λp hp=>oV (P:=λz=>Go V G E r (g5 _ [_,z]) _) hz λt=>jT.w7 (a.T.R.obj i _ hi) a (λj h=>h) hp λvs n m j w l e=>lu w λy c ev hy wc=>by subst ev;exact kl_popAt (i:=0) (k:=0) (p:=[]) (q:=c) (y:=y) a.T.F a.T.N (by decide) (by simp[seqIndex?]) rfl (uo (listOf c.toArray<|n+1)<|rU a.T.R.nodup m) (by rw[bT,e];exact kJ l) λh' F' N'=>have Z:=a.Ko (vs':=c) (n':=n+1) (tk:=r.s.toks) hi hp m F' N' wc (Nat.le_of_succ_le l);Z.a.fin Z.l (hy.ext Z.l.x) hq
def Io{i j:Nat}{xs ys:gV}(hi:H.at_ i=some (.list xs))(hj:H.at_ j=some (.list ys))(hl:xs.length+ys.length<=gP)(hq:Q .none<|H.put i<|.list<|xs++ys):jl V u Lc H [.ref i,.ref j] (g5<|.builtin "list.extend") VR Q:=
 λG E r ws a y=>y.e2 (P:=λws=>Go V G E r (g5 _ ws) _) λx z h1 hz=>kh (P:=λx=>Go V G E r (g5 _ [x,z]) _) h1 λp hp=>kh (P:=λz=>Go V G E r (g5 _ [_,z]) _) hz λq hp2=>
  jT.w7 (a.T.R.obj i _ hi) a (λv h=>h) hp λvs n m v w v e=>jT.w7 (a.T.R.obj j _ hj) a (λv h=>h) hp2 λus n2 m2 v w2 v e2=>by
  have z2:vs.toArray.size+us.toArray.size<=sizeLine:=by rw[bR,bR,e,e2];exact kJ hl
  have hd:¬(!vs.toArray.isEmpty&&Builtin.List.listTooLong (vs.toArray.size+us.toArray.size))=true:=by unfold Builtin.List.listTooLong;rw[au (gg.mpr<|by rw[sizeLine_eq]at z2;exact z2),fU];exact aI
  have z1:vs.toArray.toList.length<=sizeLine:=aa (aA _ _) z2;induction us with
  |nil=>
   induction ys with
   |cons=>cases e2
   |nil=>rw[bf]at hq;exact kxn_extend a.T.F a.T.N m2 rfl (uo (listOf vs.toArray n)<|rU a.T.R.nodup m) hd z1 (eG z2) λh' F' N'=>have Z:=a.Ko (vs':=vs) (n':=n) (tk:=r.s.toks) hi hp m F' N' w (by have h:xs.length+0<=gP:=hl;exact h);Z.a.fin (b:=MV.none) Z.l rfl hq
  |cons c us=>exact kl_extend a.T.F a.T.N m2 (l:=vs++c::us) (by simp) (by simp) (uo (listOf (vs++c::us).toArray<|n+1)<|rU a.T.R.nodup m) hd z1 (eG z2) λh' F' N'=>have Z:=a.Ko (vs':=vs++c::us) (n':=n+1) (tk:=r.s.toks) hi hp m F' N' (w.append w2) (by rw[aT];exact hl);Z.a.fin (b:=MV.none) Z.l rfl hq
def KA(ys:iK):Str.join ⟨#[]⟩ (ys.map gN)=gN ys.flatten:=ys.rec rfl λy ys ih=>by rw[cG,join_nil_cons,ih];exact Vx y _
def Ph{U:jK}{l:gV}:∀{ys:iK} {ws:lO},nY l=some ys->jr U l ws->∃zs:List<|Str×Tok,ws=strValues zs/\zs.map (·.1)=ys.map gN:=
 l.rec (motive:=λl=>∀{ys:iK} {ws:lO},nY l=some ys->jr U l ws->∃zs:List<|Str×Tok,ws=strValues zs/\zs.map (·.1)=ys.map gN) (λh e=>by cases h;cases e;exact⟨[],rfl,rfl⟩) λv l ih ys ws h e=>lu e λx r e a b=>by
  subst e;cases v with
  |str s=>exact(bu.mp h).elim λzs z=>by obtain⟨z,rfl⟩:=z;exact(ih z b).elim λq e=>mY (P:=λx=>∃z':List<|Str×Tok,x::r=strValues z'/\z'.map (·.1)=(s::zs).map gN) a λt=>⟨(gN s,t)::q,aq (Value.str (gN s) t::·) e.1,aq (gN s::·) e.2⟩
  |_=>exact nn rfl h
def Gi{i:Nat}{xs:gV}{ys:iK}(hi:H.at_ i=some (.list xs))(hy:nY xs=some ys)(hl:(ys.map length).sum+ys.length<=gP)(hq:Q (.str ys.flatten) H):jl V u Lc H [.str [],.ref i] (g5<|.builtin "str.join") VR Q:=
 .mJ hq λG E r x y a h1 h2 R k=>mY (P:=λx=>wpAny _ _ (g5 _ [x,y]) _ _ _) h1 λt=>kh (P:=λy=>wpAny _ _ (g5 _ [_,y]) _ _ _) h2 λp hp=>jT.w7 (a.T.R.obj i _ hi) a (λv h=>h) hp λvs n v z w v v=>(Ph hy w).elim λzs ez=>by
  obtain⟨rfl,ez⟩:=ez;refine SC.join (x:=gN []) (texts:=ys.map gN) (l:=zs) z ez (joinOk_of_weight ?_<|by simp[Str.length]) λt' tk=>?_
  ·rw[bZ,show((·.length)∘gN:LN->Nat)=length from funext nZ,aV];exact aa hl<|by decide
  ·rw[show Txt.join (gN []) (ys.map gN)=gN ys.flatten from(StrLaws.glued_eq_join _ _).trans (KA ys)];exact k _ _ ⟨_,rfl⟩
def Pj{i:Nat}{vs:gV}(h:Zd i vs H Q):jl V u Lc H (.ref i::vs) (g5<|.builtin "list.pop") VR Q:=listE h λxs hi h=>by
 cases vs with
 |nil=>exact h.elim λys h=>h.elim λu h=>VJ (h.1▸hi) h.2
 |cons v rs=>
  induction rs with
  |nil=>exact Ay (P:=λv=>jl V u Lc H [.ref i,v] (g5<|.builtin "list.pop") VR Q) h λk h=>h.1▸h.2.elim λu h=>h.elim λys h=>Pg (h.1▸hi) h.2
  |cons=>exact h.elim
def VK{m:KM}{v:MV}{vs:gV}(h:Ij m v vs H Q):jl V u Lc H (v::vs) (g5<|.builtin m.id) VR Q:=by
 induction m with
 |neg=>exact tG (P:=λv=>jl V u Lc H (v::vs) (g5<|.builtin "list.append") VR Q) h λi h=>rW (P:=λvs=>jl V u Lc H (.ref i::vs) (g5<|.builtin "list.append") VR Q) h λw h=>listE h λxs hi h=>Im hi h.1 h.2
 |pos=>exact tG (P:=λv=>jl V u Lc H (v::vs) (g5<|.builtin "list.pop") VR Q) h λi h=>Pj h
 |abs=>exact tG (P:=λv=>jl V u Lc H (v::vs) (g5<|.builtin "list.extend") VR Q) h λi h=>rW (P:=λvs=>jl V u Lc H (.ref i::vs) (g5<|.builtin "list.extend") VR Q) h λw h=>tG (P:=λw=>jl V u Lc H [.ref i,w] (g5<|.builtin "list.extend") VR Q) h λj h=>listE h λxs hi h=>listE h λys hj h=>Io hi hj h.1 h.2
 |invert=>exact zq (P:=λv=>jl V u Lc H (v::vs) (g5<|.builtin "str.join") VR Q) h λs h=>rW (P:=λvs=>jl V u Lc H (.str s::vs) (g5<|.builtin "str.join") VR Q) h.2 λw k=>tG (P:=λw=>jl V u Lc H [.str s,w] (g5<|.builtin "str.join") VR Q) k λi k=>listE k λxs hi k=>jE k λys e k=>h.1▸Gi hi e k.1 k.2
def Pk{o i v:MV}{K:MH->Prop}(h:EC o i v H K):jl V u Lc H [o,i,v] O8 Et λz H'=>K H':=tG (P:=λo=>jl V u Lc H [o,i,v] O8 Et λz H'=>K H') h λj h=>by
 cases i with
 |int k=>exact Kg h λes hi h=>(Td V).set hi h.1 h.2
 |str k=>exact YY h λes hi h=>(Vy V).set hi h.1 h.2
 |_=>exact h.elim
def Pn{o i:MV}{K:MH->Prop}(h:Ik o i H K):jl V u Lc H [o,i] Kn Et λz H'=>K H':=tG (P:=λo=>jl V u Lc H [o,i] Kn Et λz H'=>K H') h λj h=>Ay (P:=λi=>jl V u Lc H [.ref j,i] Kn Et λz H'=>K H') h λk h=>Kg h λes hi h=>(Td V).del hi h.1 h.2
def nI{P C:Prop}[Decidable P]{f:P->Bool}(q:¬P)(h:dite P f (λz=>false)=true):C:=aG ((dif_neg q).symm.trans h) aI
noncomputable def AA(e:Expr)(k:Const->Bool):Bool:=if h:e.ctorIdx=19 then Expr.Constant.elim (motive_1:=λz=>Bool) e h λc z z=>k c else false
def pS{C:Prop}{e:Expr}{k:Const->Bool}(h:AA e k=true)(cc:∀c n p,e=.Constant c n p->k c=true->C):C:=
 if q:e.ctorIdx=19 then Expr.Constant.elim (motive_1:=λz=>AA z k=true->(∀c n p,z=.Constant c n p->k c=true->C)->C) e q (λc n p h cc=>cc c n p rfl h) h cc else nI q h
noncomputable def oz(e:Expr)(k:Str->Bool):Bool:=if h:e.ctorIdx=23 then Expr.Name.elim (motive_1:=λz=>Bool) e h λx z=>k x else false
def i6{C:Prop}{e:Expr}{k:Str->Bool}(h:oz e k=true)(cc:∀x p,e=.Name x p->k x=true->C):C:=
 if q:e.ctorIdx=23 then Expr.Name.elim (motive_1:=λz=>oz z k=true->(∀x p,z=.Name x p->k x=true->C)->C) e q (λx p h cc=>cc x p rfl h) h cc else nI q h
noncomputable def xj(e:Expr)(k:Expr->Str->Pos->Bool):Bool:=if h:e.ctorIdx=20 then Expr.Attribute.elim (motive_1:=λz=>Bool) e h λo x p=>k o x p else false
def pT{C:Prop}{e:Expr}{k:Expr->Str->Pos->Bool}(h:xj e k=true)(cc:∀o x p,e=.Attribute o x p->k o x p=true->C):C:=
 if q:e.ctorIdx=20 then Expr.Attribute.elim (motive_1:=λz=>xj z k=true->(∀o x p,z=.Attribute o x p->k o x p=true->C)->C) e q (λo x p h cc=>cc o x p rfl h) h cc else nI q h
noncomputable def rH(e:Expr)(k:Expr->List Expr->List Keyword->Pos->Bool):Bool:=if h:e.ctorIdx=16 then Expr.Call.elim (motive_1:=λz=>Bool) e h λg es ks p=>k g es ks p else false
def mZ{C:Prop}{e:Expr}{k:Expr->List Expr->List Keyword->Pos->Bool}(h:rH e k=true)(cc:∀g es ks p,e=.Call g es ks p->k g es ks p=true->C):C:=
 if q:e.ctorIdx=16 then Expr.Call.elim (motive_1:=λz=>rH z k=true->(∀g es ks p,z=.Call g es ks p->k g es ks p=true->C)->C) e q (λg es ks p h cc=>cc g es ks p rfl h) h cc else nI q h
noncomputable def EF(e:Expr)(k:Expr->Operator->Expr->Bool):Bool:=if h:e.ctorIdx=2 then Expr.BinOp.elim (motive_1:=λz=>Bool) e h λl o r z=>k l o r else false
def zy{C:Prop}{e:Expr}{k:Expr->Operator->Expr->Bool}(h:EF e k=true)(cc:∀l o r p,e=.BinOp l o r p->k l o r=true->C):C:=
 if q:e.ctorIdx=2 then Expr.BinOp.elim (motive_1:=λz=>EF z k=true->(∀l o r p,z=.BinOp l o r p->k l o r=true->C)->C) e q (λl o r p h cc=>cc l o r p rfl h) h cc else nI q h
noncomputable def BN(e:Expr)(k:Expr->List CmpOp->List Expr->Bool):Bool:=if h:e.ctorIdx=15 then Expr.Compare.elim (motive_1:=λz=>Bool) e h λl os rs z=>k l os rs else false
def rX{C:Prop}{e:Expr}{k:Expr->List CmpOp->List Expr->Bool}(h:BN e k=true)(cc:∀l os rs p,e=.Compare l os rs p->k l os rs=true->C):C:=
 if q:e.ctorIdx=15 then Expr.Compare.elim (motive_1:=λz=>BN z k=true->(∀l os rs p,z=.Compare l os rs p->k l os rs=true->C)->C) e q (λl os rs p h cc=>cc l os rs p rfl h) h cc else nI q h
noncomputable def Po(e:Expr)(k:BoolOp->List Expr->Bool):Bool:=if h:e.ctorIdx=0 then Expr.BoolOp.elim (motive_1:=λz=>Bool) e h λo es z=>k o es else false
def KD{C:Prop}{e:Expr}{k:BoolOp->List Expr->Bool}(h:Po e k=true)(cc:∀o es p,e=.BoolOp o es p->k o es=true->C):C:=
 if q:e.ctorIdx=0 then Expr.BoolOp.elim (motive_1:=λz=>Po z k=true->(∀o es p,z=.BoolOp o es p->k o es=true->C)->C) e q (λo es p h cc=>cc o es p rfl h) h cc else nI q h
noncomputable def Zi(e:Expr)(k:UnaryOp->Expr->Bool):Bool:=if h:e.ctorIdx=3 then Expr.UnaryOp.elim (motive_1:=λz=>Bool) e h λo a z=>k o a else false
def KG{C:Prop}{e:Expr}{k:UnaryOp->Expr->Bool}(h:Zi e k=true)(cc:∀o a p,e=.UnaryOp o a p->k o a=true->C):C:=
 if q:e.ctorIdx=3 then Expr.UnaryOp.elim (motive_1:=λz=>Zi z k=true->(∀o a p,z=.UnaryOp o a p->k o a=true->C)->C) e q (λo a p h cc=>cc o a p rfl h) h cc else nI q h
noncomputable def Zj(e:Expr)(k:Expr->Expr->Expr->Bool):Bool:=if h:e.ctorIdx=5 then Expr.IfExp.elim (motive_1:=λz=>Bool) e h λa b d z=>k a b d else false
def KH{C:Prop}{e:Expr}{k:Expr->Expr->Expr->Bool}(h:Zj e k=true)(cc:∀a b d p,e=.IfExp a b d p->k a b d=true->C):C:=
 if q:e.ctorIdx=5 then Expr.IfExp.elim (motive_1:=λz=>Zj z k=true->(∀a b d p,z=.IfExp a b d p->k a b d=true->C)->C) e q (λa b d p h cc=>cc a b d p rfl h) h cc else nI q h
noncomputable def yr(e:Expr)(k:Expr->Expr->Bool):Bool:=if h:e.ctorIdx=21 then Expr.Subscript.elim (motive_1:=λz=>Bool) e h λa b z=>k a b else false
def ro{C:Prop}{e:Expr}{k:Expr->Expr->Bool}(h:yr e k=true)(cc:∀a b p,e=.Subscript a b p->k a b=true->C):C:=
 if q:e.ctorIdx=21 then Expr.Subscript.elim (motive_1:=λz=>yr z k=true->(∀a b p,z=.Subscript a b p->k a b=true->C)->C) e q (λa b p h cc=>cc a b p rfl h) h cc else nI q h
noncomputable def VL(e:Expr)(k:Option Expr->Option Expr->Option Expr->Bool):Bool:=if h:e.ctorIdx=26 then Expr.Slice.elim (motive_1:=λz=>Bool) e h λa b d z=>k a b d else false
def VM{C:Prop}{e:Expr}{k:Option Expr->Option Expr->Option Expr->Bool}(h:VL e k=true)(cc:∀a b d p,e=.Slice a b d p->k a b d=true->C):C:=
 if q:e.ctorIdx=26 then Expr.Slice.elim (motive_1:=λz=>VL z k=true->(∀a b d p,z=.Slice a b d p->k a b d=true->C)->C) e q (λa b d p h cc=>cc a b d p rfl h) h cc else nI q h
noncomputable def VN(e:Expr)(k:List Expr->Bool):Bool:=if h:e.ctorIdx=24 then Expr.List.elim (motive_1:=λz=>Bool) e h λes z=>k es else false
def VO{C:Prop}{e:Expr}{k:List Expr->Bool}(h:VN e k=true)(cc:∀es p,e=.List es p->k es=true->C):C:=
 if q:e.ctorIdx=24 then Expr.List.elim (motive_1:=λz=>VN z k=true->(∀es p,z=.List es p->k es=true->C)->C) e q (λes p h cc=>cc es p rfl h) h cc else nI q h
noncomputable def EG(e:Expr)(k:List Expr->Bool):Bool:=if h:e.ctorIdx=25 then Expr.Tuple.elim (motive_1:=λz=>Bool) e h λes z z=>k es else false
def zA{C:Prop}{e:Expr}{k:List Expr->Bool}(h:EG e k=true)(cc:∀es n p,e=.Tuple es n p->k es=true->C):C:=
 if q:e.ctorIdx=25 then Expr.Tuple.elim (motive_1:=λz=>EG z k=true->(∀es n p,z=.Tuple es n p->k es=true->C)->C) e q (λes n p h cc=>cc es n p rfl h) h cc else nI q h
noncomputable def KJ(e:Expr)(k:List (Option Expr)->List Expr->Bool):Bool:=if h:e.ctorIdx=6 then Expr.Dict.elim (motive_1:=λz=>Bool) e h λks vs z=>k ks vs else false
def EH{C:Prop}{e:Expr}{k:List (Option Expr)->List Expr->Bool}(h:KJ e k=true)(cc:∀ks vs p,e=.Dict ks vs p->k ks vs=true->C):C:=
 if q:e.ctorIdx=6 then Expr.Dict.elim (motive_1:=λz=>KJ z k=true->(∀ks vs p,z=.Dict ks vs p->k ks vs=true->C)->C) e q (λks vs p h cc=>cc ks vs p rfl h) h cc else nI q h
noncomputable def Pp(e:Expr)(k:Expr->List Comprehension->Scope->Bool):Bool:=if h:e.ctorIdx=8 then Expr.ListComp.elim (motive_1:=λz=>Bool) e h λl cs s z=>k l cs s else false
def KL{C:Prop}{e:Expr}{k:Expr->List Comprehension->Scope->Bool}(h:Pp e k=true)(cc:∀l cs s p,e=.ListComp l cs s p->k l cs s=true->C):C:=
 if q:e.ctorIdx=8 then Expr.ListComp.elim (motive_1:=λz=>Pp z k=true->(∀l cs s p,z=.ListComp l cs s p->k l cs s=true->C)->C) e q (λl cs s p h cc=>cc l cs s p rfl h) h cc else nI q h
noncomputable def EI(e:Stmt)(k:Option Expr->Bool):Bool:=if h:e.ctorIdx=3 then Stmt.Return.elim (motive_2:=λz=>Bool) e h λv z=>k v else false
def zB{C:Prop}{e:Stmt}{k:Option Expr->Bool}(h:EI e k=true)(cc:∀v p,e=.Return v p->k v=true->C):C:=
 if q:e.ctorIdx=3 then Stmt.Return.elim (motive_2:=λz=>EI z k=true->(∀v p,z=.Return v p->k v=true->C)->C) e q (λv p h cc=>cc v p rfl h) h cc else nI q h
noncomputable def Pq(e:Stmt)(k:Expr->Bool):Bool:=if h:e.ctorIdx=24 then Stmt.Expr.elim (motive_2:=λz=>Bool) e h λv z=>k v else false
def KN{C:Prop}{e:Stmt}{k:Expr->Bool}(h:Pq e k=true)(cc:∀v p,e=.Expr v p->k v=true->C):C:=
 if q:e.ctorIdx=24 then Stmt.Expr.elim (motive_2:=λz=>Pq z k=true->(∀v p,z=.Expr v p->k v=true->C)->C) e q (λv p h cc=>cc v p rfl h) h cc else nI q h
noncomputable def BO(e:Stmt)(k:List Expr->Expr->Bool):Bool:=if h:e.ctorIdx=5 then Stmt.Assign.elim (motive_2:=λz=>Bool) e h λts v z=>k ts v else false
def uZ{C:Prop}{e:Stmt}{k:List Expr->Expr->Bool}(h:BO e k=true)(cc:∀ts v p,e=.Assign ts v p->k ts v=true->C):C:=
 if q:e.ctorIdx=5 then Stmt.Assign.elim (motive_2:=λz=>BO z k=true->(∀ts v p,z=.Assign ts v p->k ts v=true->C)->C) e q (λts v p h cc=>cc ts v p rfl h) h cc else nI q h
noncomputable def Pu(e:Stmt)(k:Expr->Operator->Expr->Bool):Bool:=if h:e.ctorIdx=7 then Stmt.AugAssign.elim (motive_2:=λz=>Bool) e h λt o v z=>k t o v else false
def KO{C:Prop}{e:Stmt}{k:Expr->Operator->Expr->Bool}(h:Pu e k=true)(cc:∀t o v p,e=.AugAssign t o v p->k t o v=true->C):C:=
 if q:e.ctorIdx=7 then Stmt.AugAssign.elim (motive_2:=λz=>Pu z k=true->(∀t o v p,z=.AugAssign t o v p->k t o v=true->C)->C) e q (λt o v p h cc=>cc t o v p rfl h) h cc else nI q h
noncomputable def Pw(e:Stmt)(k:Expr->List Stmt->List Stmt->Bool):Bool:=if h:e.ctorIdx=12 then Stmt.If.elim (motive_2:=λz=>Bool) e h λt a b z=>k t a b else false
def KP{C:Prop}{e:Stmt}{k:Expr->List Stmt->List Stmt->Bool}(h:Pw e k=true)(cc:∀t a b p,e=.If t a b p->k t a b=true->C):C:=
 if q:e.ctorIdx=12 then Stmt.If.elim (motive_2:=λz=>Pw z k=true->(∀t a b p,z=.If t a b p->k t a b=true->C)->C) e q (λt a b p h cc=>cc t a b p rfl h) h cc else nI q h
noncomputable def VP(e:Stmt)(k:Expr->List Stmt->List Stmt->Bool):Bool:=if h:e.ctorIdx=11 then Stmt.While.elim (motive_2:=λz=>Bool) e h λt a b z=>k t a b else false
def VS{C:Prop}{e:Stmt}{k:Expr->List Stmt->List Stmt->Bool}(h:VP e k=true)(cc:∀t a b p,e=.While t a b p->k t a b=true->C):C:=
 if q:e.ctorIdx=11 then Stmt.While.elim (motive_2:=λz=>VP z k=true->(∀t a b p,z=.While t a b p->k t a b=true->C)->C) e q (λt a b p h cc=>cc t a b p rfl h) h cc else nI q h
noncomputable def BP(e:Stmt)(k:Expr->Expr->List Stmt->List Stmt->Bool):Bool:=if h:e.ctorIdx=9 then Stmt.For.elim (motive_2:=λz=>Bool) e h λt i a b z=>k t i a b else false
def u0{C:Prop}{e:Stmt}{k:Expr->Expr->List Stmt->List Stmt->Bool}(h:BP e k=true)(cc:∀t i a b p,e=.For t i a b p->k t i a b=true->C):C:=
 if q:e.ctorIdx=9 then Stmt.For.elim (motive_2:=λz=>BP z k=true->(∀t i a b p,z=.For t i a b p->k t i a b=true->C)->C) e q (λt i a b p h cc=>cc t i a b p rfl h) h cc else nI q h
noncomputable def VT(e:Stmt)(k:List Stmt->List ExceptHandler->List Stmt->List Stmt->Bool):Bool:=if h:e.ctorIdx=17 then Stmt.Try.elim (motive_2:=λz=>Bool) e h λa hs b fb z=>k a hs b fb else false
def VU{C:Prop}{e:Stmt}{k:List Stmt->List ExceptHandler->List Stmt->List Stmt->Bool}(h:VT e k=true)(cc:∀a hs b fb p,e=.Try a hs b fb p->k a hs b fb=true->C):C:=
 if q:e.ctorIdx=17 then Stmt.Try.elim (motive_2:=λz=>VT z k=true->(∀a hs b fb p,z=.Try a hs b fb p->k a hs b fb=true->C)->C) e q (λa hs b fb p h cc=>cc a hs b fb p rfl h) h cc else nI q h
noncomputable def VV(e:Stmt)(k:List Expr->Bool):Bool:=if h:e.ctorIdx=4 then Stmt.Delete.elim (motive_2:=λz=>Bool) e h λts z=>k ts else false
def VW{C:Prop}{e:Stmt}{k:List Expr->Bool}(h:VV e k=true)(cc:∀ts p,e=.Delete ts p->k ts=true->C):C:=
 if q:e.ctorIdx=4 then Stmt.Delete.elim (motive_2:=λz=>VV z k=true->(∀ts p,z=.Delete ts p->k ts=true->C)->C) e q (λts p h cc=>cc ts p rfl h) h cc else nI q h
noncomputable def VY(e:Stmt)(k:Expr->Bool):Bool:=if h:e.ctorIdx=19 then Stmt.Assert.elim (motive_2:=λz=>Bool) e h λt z z=>k t else false
def VZ{C:Prop}{e:Stmt}{k:Expr->Bool}(h:VY e k=true)(cc:∀t m p,e=.Assert t m p->k t=true->C):C:=
 if q:e.ctorIdx=19 then Stmt.Assert.elim (motive_2:=λz=>VY z k=true->(∀t m p,z=.Assert t m p->k t=true->C)->C) e q (λt m p h cc=>cc t m p rfl h) h cc else nI q h
noncomputable def V0(e:Stmt)(k:Pos->Bool):Bool:=if h:e.ctorIdx=25 then Stmt.Pass.elim (motive_2:=λz=>Bool) e h λp=>k p else false
def V1{C:Prop}{e:Stmt}{k:Pos->Bool}(h:V0 e k=true)(cc:∀p,e=.Pass p->k p=true->C):C:=
 if q:e.ctorIdx=25 then Stmt.Pass.elim (motive_2:=λz=>V0 z k=true->(∀p,z=.Pass p->k p=true->C)->C) e q (λp h cc=>cc p rfl h) h cc else nI q h
noncomputable def V2(e:Stmt)(k:Pos->Bool):Bool:=if h:e.ctorIdx=26 then Stmt.Break.elim (motive_2:=λz=>Bool) e h λp=>k p else false
def V3{C:Prop}{e:Stmt}{k:Pos->Bool}(h:V2 e k=true)(cc:∀p,e=.Break p->k p=true->C):C:=
 if q:e.ctorIdx=26 then Stmt.Break.elim (motive_2:=λz=>V2 z k=true->(∀p,z=.Break p->k p=true->C)->C) e q (λp h cc=>cc p rfl h) h cc else nI q h
noncomputable def V4(e:Stmt)(k:Pos->Bool):Bool:=if h:e.ctorIdx=27 then Stmt.Continue.elim (motive_2:=λz=>Bool) e h λp=>k p else false
def V5{C:Prop}{e:Stmt}{k:Pos->Bool}(h:V4 e k=true)(cc:∀p,e=.Continue p->k p=true->C):C:=
 if q:e.ctorIdx=27 then Stmt.Continue.elim (motive_2:=λz=>V4 z k=true->(∀p,z=.Continue p->k p=true->C)->C) e q (λp h cc=>cc p rfl h) h cc else nI q h
noncomputable def l1{α:Type}(l:List α)(k:α->Bool):Bool:=match l with
 |[a]=>k a
 |_=>false
def n5{α:Type}{C:Prop}{l:List α}{k:α->Bool}(h:l1 l k=true)(c:∀a,l=[a]->k a=true->C):C:=by rcases l with _|⟨a,_|⟨b,l⟩⟩<;>first|exact c _ rfl h|exact aG h aI
noncomputable def l2{α:Type}(l:List α)(k:α->α->Bool):Bool:=match l with
 |[a,b]=>k a b
 |_=>false
def Ip{α:Type}{C:Prop}{l:List α}{k:α->α->Bool}(h:l2 l k=true)(c:∀a b,l=[a,b]->k a b=true->C):C:=by rcases l with _|⟨a,_|⟨b,_|⟨d,l⟩⟩⟩<;>first|exact c _ _ rfl h|exact aG h aI
noncomputable def l3{α:Type}(l:List α)(k:α->α->α->Bool):Bool:=match l with
 |[a,b,d]=>k a b d
 |_=>false
def Zk{α:Type}{C:Prop}{l:List α}{k:α->α->α->Bool}(h:l3 l k=true)(c:∀a b d,l=[a,b,d]->k a b d=true->C):C:=by rcases l with _|⟨a,_|⟨b,_|⟨d,_|⟨e,l⟩⟩⟩⟩<;>first|exact c _ _ _ rfl h|exact aG h aI
noncomputable def l0{α:Type}(l:List α)(k:Bool):Bool:=match l with
 |[]=>k
 |_=>false
def qA{α:Type}{C:Prop}{l:List α}{k:Bool}(h:l0 l k=true)(c:l=[]->k=true->C):C:=by cases l<;>first|exact c rfl h|exact aG h aI
noncomputable def o1{α:Type}(l:Option α)(k:α->Bool):Bool:=match l with
 |some a=>k a
 |none=>false
def Iq{α:Type}{C:Prop}{l:Option α}{k:α->Bool}(h:o1 l k=true)(c:∀a,l=some a->k a=true->C):C:=by cases l<;>first|exact c _ rfl h|exact aG h aI
noncomputable def o0{α:Type}(l:Option α)(k:Bool):Bool:=match l with
 |none=>k
 |_=>false
def Zl{α:Type}{C:Prop}{l:Option α}{k:Bool}(h:o0 l k=true)(c:l=none->k=true->C):C:=by cases l<;>first|exact c rfl h|exact aG h aI
def bl{a b:Bool}(h:(a&&b)=true):a=true:=(cW.mp h).1
def br{a b:Bool}(h:(a&&b)=true):b=true:=(cW.mp h).2
def bn{a:Bool}(h:(!a)=true):a=false:=by induction a with|true=>cases h|false=>rfl
def be{α:Type}[BEq α][LawfulBEq α]{a b:α}(h:(a==b)=true):a=b:=cQ.mp h
def Df(V:Th)(G:Gm)(E:qT)(r:Rh)(Lc:Loc)(Q:QV)(o:Result)(s:Shared):Prop:=o.casesOn (λe=>E e s) λf=>f.casesOn False False False λv=>ku r (uE V G Lc VR Q) v s
def tK(S:jy)(w:World)(l:Nat)(fa:Nat)(g7:gV)(kn:oq)(kv:gV)(H:MH)(Q:QV):Prop:=
 ∀(f:Fm) Lc G E r ws ks,At ⟨S,w,f⟩ (8*l+4) G r Lc H->jr r.U g7 ws->jr r.U kv ks->codeAny (model S.prog w) G.A (.call (.ref fa) ⟨ws,kn.zip ks⟩) (Df ⟨S,w,f⟩ G E r Lc Q) r.s
def lP(S:jy)(w:World)(lv:Nat)(fa:Nat)(g7:gV)(kn:oq)(kv:gV)(H:MH)(Q:QV):Prop:=∃l,l<lv/\tK S w l fa g7 kn kv H Q
abbrev uQ(V:Th)(u:Nat)(fa:Nat)(g7:gV)(kn:oq)(kv:gV)(H:MH)(Q:QV):Prop:=∃l,8*l+8<=u/\tK V.S V.w l fa g7 kn kv H Q
structure rY(K:Frag)(f:Fm)(x:Str)(v:Value):Prop where
 here:nsIn K mainGlobals x=some (some v)∨(nsIn K mainGlobals x=some none/\bootBuiltins x=some v/\x≠"__name__")
 kind:f.sc.names.lookup x=some .globalImplicit
 nd:(x==("__debug__":Str))=false
noncomputable def jt(e:Expr):Bool:=!(e.ctorIdx==22)
noncomputable def pJ(e:Expr):Bool:=!(e.ctorIdx==26)
noncomputable def EJ(e:Expr):Bool:=!(e.ctorIdx==25)
def qB{e:Expr}{r:pP}{env:Env}(h:jt e=true):starEach (e::r) env=(false,eval e env)::starEach r env:=by cases e<;>first|rfl|exact(aI h).elim
def kK{e:Expr}{o i:Value}(h:pJ e=true):subscripted e false o i=operate [o,i] (getItem o i):=by cases e<;>first|rfl|exact(aI h).elim
def lZ(e:Expr):Bool:=!(e.ctorIdx==16)||(rH e λg es ks z=>!(g.ctorIdx==23)||!es.isEmpty||!ks.isEmpty)
def Ir{x:Str}{q:Pos}{es:pP}{ks:List Keyword}{p:Pos}{attr:Str}{env:Env}{t:Sem Value}(h:lZ (.Call (.Name x q) es ks p)=true):attributeBase (.Call (.Name x q) es ks p) attr env t=t:=by
 induction es with
 |nil=>
  induction ks with
  |nil=>exact(aI h).elim
  |cons=>rfl
 |cons=>rfl
def Iu{g:Expr}{es:pP}{ks:List Keyword}{p:Pos}{attr:Str}{env:Env}{t:Sem Value}(h:lZ (.Call g es ks p)=true):attributeBase (.Call g es ks p) attr env t=t:=by cases g<;>first|rfl|exact Ir h
def BQ{e:Expr}{attr:Str}{env:Env}{t:Sem Value}(h:lZ e=true):attributeBase e attr env t=t:=by cases e<;>first|rfl|exact Iu h
def vA(V:Th)(u:Nat)(Lc:Loc)(es:pP):MH->(gV->MH->Prop)->Prop:=es.rec (λH Q=>Q [] H) λe z ih H Q=>gY V u e Lc H λv H1=>ih H1 λvs H2=>Q (v::vs) H2
noncomputable def To(kws:List Keyword):pP:=kws.map (·.value)
noncomputable def Px(kws:List Keyword):oq:=kws.filterMap (·.arg)
noncomputable def kwOk(kws:List Keyword):Bool:=kws.all λk=>k.arg.isSome
variable{QL Zm:gV->MH->Prop}
def ev2{α Z:Type}{e f:Expr}{t:lO->Sem α}{J:jK->Z->α->Prop}{QJ:Z->MH->Prop}(a:At V u G r Lc H)(h:gY V u e Lc H λx H1=>gY V u f Lc H1 λy H2=>jl V u Lc H2 [x,y] t J QJ):
  wpAny V.M G.A (eval e<|V.f.env G.L) (λx s₁=>wpAny V.M G.A (eval f<|V.f.env G.L) (λy s₂=>wpAny V.M G.A (t [x,y]) (ku r<|uE V G Lc J QJ) E s₂) E s₁) E r.s:=
 a.go (h _ _ _ a) λx r1 z z l1 a1 v1 q=>a1.go (q _ _ _ a1) λy r2 z z l2 a2 v2 q=>(q _ _ _ [x,y] a2<|.two (v1.ext l2.x) v2).from (l1.trans l2)
def gY.binop{l r:Expr}{op:Operator}{pos:Pos}(h:gY V u l Lc H λa H1=>gY V u r Lc H1 λb H2=>jl V u Lc H2 [a,b] (bin op) VR Q):gY V u (.BinOp l op r pos) Lc H Q:=λz z z a=>wpAny_BinOp<|ev2 a h
def gY.attr(O:j3 V.S V.w){e:Expr}{x:Str}{pos:Pos}{k:Nat}(hn:lZ e=true)(hk:V.S.nm[k]?=some x)(h:gY V u e Lc H λv H1=>O6 V.S v k H1 Q):gY V u (.Attribute e x pos) Lc H Q:=λG E r a=>by
 refine(?_:wpAny V.M G.A (eval (.Attribute e x pos)<|V.f.env G.L) _ E r.s);rw[arm_eval_Attribute,BQ hn];refine af<|a.go (h _ _ _ a) λo r1 mv H1 l1 a1 v1 q=>?_;have fin:∀{w tk} {mw:MV},VR r1.U mw w->Q mw H1->wpAny V.M G.A (letTemporaryGo e o w>>=λy=>pure w) (ku r<|uE V G Lc VR Q) E {r1.s with toks:=tk}:=λj q=>af<|fN<|aH<|(a1.tk _).fin (l1.trans .tk) j q;cases mv with
 |ref i=>
  refine sI v1 λp hp e=>CU q λc fs hi q=>?_;subst e;refine af<|dN<|af<|aS ?_;cases hu:fs.lookup k with
  |some w=>rw[hu]at q;exact ri O.toKe a1 hi hu hk hp λv tk j=>fin j q
  |none=>rw[hu]at q;exact jE q λw hc q=>a1.T.inst hi λp' es n uY y fr y y I=>by cases ay (hp.symm.trans uY);have M:=O.ca c k x w hc hk;exact M.val.elim λb z=>get_cls a1.T.F a1.C.X I M.get M.dict z.2.1 z.2.2 (z.1.vr (U:=r1.U)).handed M.Es (fr.no k x hk hu)<|fin (z.1.vr (U:=r1.U)) q
 |cls c=>refine jE q λw hc q=>(O.cv c k x w hc hk).val.elim λmc z=>z.elim λb z=>?_;cases v1;exact af<|dN<|af<|aS<|cls_val a1.T.F a1.C.X z.2.1 z.2.2.1 z.2.2.2 (z.1.vr (U:=r1.U)).handed<|fin (z.1.vr (U:=r1.U)) q
 |_=>exact q.elim
def gY.bound(O:j3 V.S V.w){e:Expr}{x:Str}{pos:Pos}{k:Nat}(hn:lZ e=true)(hk:V.S.nm[k]?=some x)(h:gY V u e Lc H λv H1=>pR v k H1 λi c fs=>fs.lookup k=none/\jA (V.S.mt c k) λfa=>Q (.jR fa i) H1):gY V u (.Attribute e x pos) Lc H Q:=λG E r a=>by refine(?_:wpAny V.M G.A (eval (.Attribute e x pos)<|V.f.env G.L) _ E r.s);rw[arm_eval_Attribute,BQ hn];refine af<|a.go (h _ _ _ a) λo r1 mv H1 l1 a1 v1 q0=>onE q0 λi c fs e' hi q=>jE q.2 λfa hm q2=>?_;subst e';refine kh (P:=λo=>wpAny V.M G.A (standAt _>>=λz=>holding [o] (getAttr o x true)>>=λw=>letTemporaryGo e o w>>=λz=>pure w) (ku r<|uE V G Lc VR Q) E r1.s) v1 λp hp=>a1.T.inst hi λp' es n uY z fr z z I=>?_;cases ay (hp.symm.trans uY);have M:=O.mt c k x fa hm hk;refine af<|dN<|af<|aS<|kbm_bound a1.T.F a1.C.X a1.T.N I M.get M.dict M.find M.Tc M.ab6 M.takes M.Es (fr.no k x hk q.1) λd h' F' N' fresh=>?_;have Z:=a1.more (tk:=r1.s.toks+1) fresh F' N';exact af<|fN<|aH<|Z.a.fin (J:=VR) (b:=.jR fa i) (v:=.ref d) (l1.trans Z.l) ⟨d,p,rfl,hp,.head _⟩ q2
def vN{env:Env}{pos:Pos}(es:pP):es.all jt=true->(backTo pos<|starEach es env).any (·.1)=false:=
 es.rec (λz=>rfl) λe r ih h=>by have h:=cW.mp h;rw[qB h.1];exact ih h.2
def spliced_cons{A:Around}{s:Shared}{x:Sem Value}{rest:List (Bool×Sem Value)}{M:Model}{Q:lO->Shared->Prop}(h:wpAny M A x (λv s₁=>wpAny M A (spliced rest) (λvs s₂=>Q (v::vs) s₂) E s₁) E s):wpAny M A (spliced<|(false,x)::rest) Q E s:=by rw[spliced];exact af<|cZ h (λv s₁ z=>af (m:=pure [v])<|aH<|af<|aS<|cZ z (λvs s₂ z=>aH z) λy y z=>z) λy y z=>z
def u9{pos:Pos}(es:pP):∀QL H G E r,es.all jt=true->vA V u Lc es H QL->At V u G r Lc H->Go V G E r (spliced<|backTo pos<|starEach es<|V.f.env G.L) (uE V G Lc jr QL):=
 es.rec (λQL H G E r z h a=>aH<|xh (b:=[]) a rfl h) λe es ih QL H G E r hn h a=>by have hn:=cW.mp hn;refine(?_:wpAny V.M G.A (spliced<|backTo pos<|starEach (e::es)<|V.f.env G.L) _ E r.s);rw[qB hn.1];exact spliced_cons (x:=eval e<|V.f.env G.L) (rest:=backTo pos<|starEach es<|V.f.env G.L)<|a.go (h _ _ _ a) λv r1 mv H1 l1 a1 v1 q=>a1.go (ih _ _ _ _ _ hn.2 q a1) λvs r2 Dg H2 l2 a2 v2 q=>a2.fin (l1.trans l2) (oG (v1.ext l2.x) v2) q
def EL{pos:Pos}(kws:List Keyword):∀QL H G E r,vA V u Lc (To kws) H QL->At V u G r Lc H->Go V G E r (evalAll ((backToKw pos<|keywordEach kws<|V.f.env G.L).map (·.2))) (uE V G Lc jr QL):=
 kws.rec (λQL H G E r h a=>aH<|xh (b:=[]) a rfl h) λ⟨n,e,kp⟩ kws ih QL H G E r h a=>wpAny_evalAll_cons (x:=(do let v<-eval e<|V.f.env G.L;standAt pos;pure v)) (af<|a.go (h _ _ _ a) λv r1 mv H1 l1 a1 v1 q=>af<|dN<|aH<|a1.go (ih _ _ _ _ _ q a1) λvs r2 Dg H2 l2 a2 v2 q=>a2.fin (l1.trans l2) (oG (v1.ext l2.x) v2) q)
def zC{env:Env}{pos:Pos}(kws:List Keyword):kwOk kws=true->(backToKw pos<|keywordEach kws env).all (·.1.isSome)=true/\(backToKw pos<|keywordEach kws env).filterMap (·.1)=Px kws:=
 kws.rec (λz=>⟨rfl,rfl⟩) λk kws ih h=>by
  have h:=cW.mp h;obtain⟨_|n,e,kp⟩:=k
  ·exact(aI h.1).elim
  ·exact⟨(ih h.2).1,aq (n::·) (ih h.2).2⟩
def BS{A:Around}{s:Shared}{fv:Value}{es:pP}{kws:List Keyword}{pos:Pos}{M:Model}{env:Env}{Q:Args->Shared->Prop}(hn:es.all jt=true)(hk:kwOk kws=true)
  (h:wpAny M A (spliced<|backTo pos<|starEach es env) (λvs s₁=>wpAny M A (evalAll ((backToKw pos<|keywordEach kws env).map (·.2))) (λks s₂=>Q ⟨vs,(Px kws).zip ks⟩ s₂) E s₁) E s):
  wpAny M A (evalArgs fv true (backTo pos<|starEach es env)<|backToKw pos<|keywordEach kws env) Q E s:=by
 have z:=zC (env:=env) (pos:=pos) kws hk;rw[<-z.2]at h;induction es with
 |nil=>exact evalArgs_kw_nil z.1 λG p hΓ=>h G p hΓ G p hΓ
 |cons e r=>rw[qB (cW.mp hn).1]at h⊢;exact evalArgs_kw z.1 h
def Tp{es:pP}{kws:List Keyword}{env:Env}{pos:Pos}(hn:es.all jt=true)(hk:kwOk kws=true)(hl:decide (es.length+kws.length+(if kws.isEmpty then 0 else 1)<30)=true):
  methodCallForm (es.length+kws.length) (backTo pos<|starEach es env) (backToKw pos<|keywordEach kws env)=true:=by
 have a:(backTo pos<|starEach es env).all (λx=>!x.1)=true:=by rw[List.all_eq_not_any_not];simp only[Bool.not_not];rw[vN es hn];rfl
 have c:(backToKw pos<|keywordEach kws env).isEmpty=kws.isEmpty:=by
  induction kws with
  |nil=>rfl
  |cons k r=>obtain⟨n,e,p⟩:=k;rfl
 unfold methodCallForm;rw[a,(zC kws hk).1,c,hl];rfl
def Kept(V:Th)(G:Gm)(fv:Value):Prop:=∃P:Heap->Prop,(∀h:Heap,P h->∃k,(k=Keeper.frame∨k=Keeper.machine∨k=Keeper.boundFrame)/\Looks V.M h (keeperOf fv) k)/\∀r:Rh,Fr G.h₀ G.L r.s.heap r.m->P r.s.heap
def BU{fv:Value}(C:Ctx V G)(h:keepIn V.K fv=true):Kept V G fv:=⟨λh=>V.K.In h,λz=>keeps_K h _,λr F=>C.X.keeps F.keep⟩
def KQ{id:String}:Kept V G (.builtin id):=⟨λz=>True,λz z=>⟨.machine,.inr<|.inl rfl,Looks.of_pure rfl⟩,λz z=>trivial⟩
def EM{id:String}:Kept V G (.type id):=⟨λz=>True,λz z=>⟨.machine,.inr<|.inl rfl,Looks.of_pure rfl⟩,λz z=>trivial⟩
def kN{fv:Value}{first:lO}{es:pP}{kws:List Keyword}{pos:Pos}{R:gV->gV->MH->Prop}{Q':qT}(hn:es.all jt=true)(hk:kwOk kws=true)(hkeep:Kept V G fv)(a:At V u G r Lc H)
  (h:vA V u Lc es H λvs H1=>vA V u Lc (To kws) H1 λks H2=>R vs ks H2)
  (hq:∀r' H' Dg ws EN ks,Le r r'->At V u G r' Lc H'->jr r'.U Dg ws->jr r'.U EN ks->R Dg EN H'->wpAny V.M G.A (call fv (first++ws)<|(Px kws).zip ks) Q' E r'.s):
  wpAny V.M G.A (callWith pos fv first (backTo pos<|starEach es<|V.f.env G.L)<|backToKw pos<|keywordEach kws<|V.f.env G.L) Q' E r.s:=hkeep.elim λP K=>
 callWith_of (P:=P) (by rw[vN es hn,eW];refine List.any_eq_false.mpr λx hx e=>?_;have:=bK.mp (zC (env:=V.f.env G.L) (pos:=pos) kws hk).1 x hx;rw[Option.isNone_iff_eq_none.mp e]at this;cases this) K.1 (BS hn hk<|a.go (u9 es _ _ _ _ _ hn h a) λws r1 Dg H1 l1 a1 v1 q=>a1.go (EL kws _ _ _ _ _ q a1) λks r2 EN H2 l2 a2 v2 q=>⟨K.2 r2 a2.T.F,hq r2 H2 Dg ws EN ks (l1.trans l2) a2 (v1.ext l2.x) v2 q⟩)
def BV{A:Around}(C:Addr)(g7:lO)(kw:List<|Str×Value):(A.under<|.builtin "type.__call__" ⟨.ref C::g7,kw⟩).frames=A.frames:=by
 have e:(Code.builtin "type.__call__" ⟨.ref C::g7,kw⟩).envs=[]:=by kernel_rfl
 unfold Around.under;simp only[e];cases A.frames<;>rfl
def Dh{A:Around}(C:Addr)(g7:lO)(kw:List<|Str×Value):(A.under<|.builtin "type.__call__" ⟨.ref C::g7,kw⟩).depth=A.depth+1:=by
 have e:(Code.builtin "type.__call__" ⟨.ref C::g7,kw⟩).weight=1:=by kernel_rfl
 unfold Around.under;simp only[e]
def Di{A:Around}(C:Addr)(g7:lO)(kw:List<|Str×Value):(A.under<|.builtin "type.__call__" ⟨.ref C::g7,kw⟩).units=A.units+1:=by
 have e:(Code.builtin "type.__call__" ⟨.ref C::g7,kw⟩).cUnits=1:=by kernel_rfl
 unfold Around.under;simp only[e]
noncomputable def Dj(op:BoolOp)(b:Bool):Bool:=op.casesOn (!b) b
variable{u':Nat}
def At.call(a:At V u G r Lc H)(h:u'<=u):At V u' G r Lc H:=
 ⟨a.C,⟨aa (dU h _) a.rm.depth,aa (dU (f9 12 h) _) a.rm.units⟩,a.T⟩
def vO{fa:Nat}{g7 kv:gV}{kn:oq}{ws ks:lO}(a:At V u G r Lc H)(h:uQ V u fa g7 kn kv H Q)(v1:jr r.U g7 ws)(v2:jr r.U kv ks):Go V G E r (call (.ref fa) ws<|kn.zip ks) (uE V G Lc VR Q):=
 h.elim λl h=>wpAny_call (bY (h.2 V.f Lc G E r ws ks (a.call<|aa (dU (by decide) _) h.1) v1 v2) λo s' z=>by
  induction o with
  |error e=>exact z
  |ok f=>cases f<;>exact z)
def Iv{o:Expr}{apos pos:Pos}{env:Env}(hline:(apos.endLine==pos.line)=true):methodCallPos true o env apos pos=pure pos:=by unfold methodCallPos;simp[hline]
def vP{o:Expr}{x:Str}{apos pos:Pos}{es:pP}{kws:List Keyword}{R:qT}{s:Shared}(hs:lZ o=true)(hn:es.all jt=true)(hk:kwOk kws=true)(hl:decide (es.length+kws.length+(if kws.isEmpty then 0 else 1)<30)=true)(hline:(apos.endLine==pos.line)=true)
  (h:wpAny V.M G.A (eval o<|V.f.env G.L) (λov s₁=>∀pl,wpAny V.M G.A (getMethod ov x pl) (λp s₂=>wpAny V.M G.A (callWith pos p.1 p.2 (backTo pos<|starEach es<|V.f.env G.L)<|backToKw pos<|keywordEach kws<|V.f.env G.L) R E s₂) E s₁) E s):
  wpAny V.M G.A (eval (.Call (.Attribute o x apos) es kws pos)<|V.f.env G.L) R E s:=by
 rw[arm_eval_Call,BQ hs];refine af<|cZ h (λov s₁ z=>af<|dN ?_) λy y z=>z;unfold methodCall;rw[Tp hn hk hl];refine af<|aS ?_;unfold calleeOf;rw[aF rfl];exact cZ (z _) (λp s₂ z=>af<|wpAny_of_eq (Iv hline) z) λy y z=>z
def vA.Zn(es:pP):∀H QL Zm,vA V u Lc es H QL->(∀v H',QL v H'->Zm v H')->vA V u Lc es H Zm:=
 es.rec (λz z z h k=>k _ _ h) λe es ih z z z h k=>Ev.mono h λv H1 q=>ih _ _ _ q λvs H2 q=>k _ _ q
def vA.mono{es:pP}(h:vA V u Lc es H QL)(k:∀v H',QL v H'->Zm v H'):vA V u Lc es H Zm:=vA.Zn es _ _ _ h k
def gY.nQ(O:j3 V.S V.w){o:Expr}{x:Str}{apos pos:Pos}{es:pP}{kws:List Keyword}{k:Nat}(hs:lZ o=true)(hk:V.S.nm[k]?=some x)(hn:es.all jt=true)(hkw:kwOk kws=true)(hl:decide (es.length+kws.length+(if kws.isEmpty then 0 else 1)<30)=true)(hline:(apos.endLine==pos.line)=true)
  (h:gY V u o Lc H λv H1=>pR v k H1 λi c fs=>fs.lookup k=none/\jA (V.S.mt c k) λfa=>vA V u Lc es H1 λvs H2=>vA V u Lc (To kws) H2 λks H3=>uQ V u fa (.ref i::vs) (Px kws) ks H3 Q):gY V u (.Call (.Attribute o x apos) es kws pos) Lc H Q:=
 λG E r a=>vP hs hn hkw hl hline (a.go (h _ _ _ a) λov r1 mv H1 l1 a1 v1 q pl=>YZ (P:=λmv=>VR r1.U mv ov->wpAny V.M G.A (getMethod ov x pl) _ E r1.s) q (λi c fs hi q v1=>jE q.2 λfa hm q2=>kh (P:=λov=>wpAny V.M G.A (getMethod ov x pl) _ E r1.s) v1 λp hp=>a1.T.inst hi λp' es' n uY z fr z z I=>by cases ay (hp.symm.trans uY);have M:=O.mt c k x fa hm hk;exact method_inst a1.T.F a1.C.X I M.get M.find M.Tc (fr.no k x hk q.1)<|kN (first:=[.ref p.1]) hn hkw (BU a1.C M.keep) a1 q2 λr2 H2 Dg ws EN ks l2 a2 v2 v3 q=>(vO a2 q (ws:=.ref p.1::ws) (oG (VR.ext l2.x (v:=.ref i) ⟨p,hp,rfl⟩) v2) v3).from (l1.trans l2)) v1)
def oZ{x:Str}{v:Value}{pos:Pos}{R:qT}(G_x:rY V.K V.f x v)(a:At V u G r Lc H)(h:R v r.s):wpAny V.M G.A (eval (.Name x pos)<|V.f.env G.L) R E r.s:=
 a.C.T.elim λmg T=>T.elim λmb TT=>G_x.here.elim (λe=>nameX_K a.T.F a.C.X TT e h a.C.uD G_x.kind G_x.nd) λe=>nameX_B a.T.F a.C.X TT e.1 e.2.1 e.2.2 h a.C.uD G_x.kind G_x.nd
def gY.glob{x:Str}{v:Value}{mv:MV}{pos:Pos}(G:rY V.K V.f x v)(hv:∀U,VR U mv v)(hq:Q mv H):gY V u (.Name x pos) Lc H Q:=gY.x6 hq λz z r z a k=>oZ G a<|k _ r.s.toks<|hv _
def qp{x:Str}{p:Pos}{es:pP}{kws:List Keyword}{pos:Pos}{R:qT}{s:Shared}(h:wpAny V.M G.A (eval (.Name x p)<|V.f.env G.L) (λv s₁=>wpAny V.M G.A (callWith pos v [] (backTo pos<|starEach es<|V.f.env G.L)<|backToKw pos<|keywordEach kws<|V.f.env G.L) R E s₁) E s):
  wpAny V.M G.A (eval (.Call (.Name x p) es kws pos)<|V.f.env G.L) R E s:=af (m:=eval (.Name x p)<|V.f.env G.L) (f:=λv=>callWith pos v [] (backTo pos<|starEach es<|V.f.env G.L)<|backToKw pos<|keywordEach kws<|V.f.env G.L) h
def gY.F5{x:Str}{p pos:Pos}{es:pP}{kws:List Keyword}{fa:Addr}(G_x:rY V.K V.f x<|.ref fa)(hkeep:keepIn V.K (.ref fa)=true)(hn:es.all jt=true)(hkw:kwOk kws=true)
  (h:vA V u Lc es H λvs H2=>vA V u Lc (To kws) H2 λks H3=>uQ V u fa vs (Px kws) ks H3 Q):gY V u (.Call (.Name x p) es kws pos) Lc H Q:=
 λG E r a=>qp<|oZ G_x a<|kN (first:=[]) hn hkw (BU a.C hkeep) a h λr2 H2 Dg ws EN ks l2 a2 v2 v3 q=>(vO a2 q v2 v3).from l2
def St.Zo{A:Around}(T:St V {G with A:=A} r Lc H):St V G r Lc H:=⟨T.F,T.N,T.R,T.loc⟩
def rS.none{nm:oq}{U:jK}:rS nm U [] []:=⟨λz z z z h=>(by cases h),λz z z z=>rfl⟩
def CT.Zp{A A':Around}{l:Nat}(h:CT (8*l+8) A)(d:A'.depth=A.depth+1)(e:A'.units=A.units+1):CT (8*l+4) A':=⟨d▸aa (by omega) h.depth,e▸aa (by omega) h.units⟩
def Dk{c fI:Addr}{g7 kv:gV}{kn:oq}{ws ks:lO}(M:BK V.K c fI)(a:At V u G r Lc H)(h:uQ V u fI (.ref H.n::g7) kn kv (H.new<|.inst c []) λv H4=>v=.none/\Q (.ref H.n) H4)(v1:jr r.U g7 ws)(v2:jr r.U kv ks):
  Go V G E r (call (.ref c) ws<|kn.zip ks) (uE V G Lc VR Q):=h.elim λl h=>call_cls a.T.F a.C.X a.T.N M.makes M.init M.Tc λxa dx h' F' N' fresh lt=>by
 have Z:=a.new (o:=.inst c []) (d:=xa) (e:=dx) (more:=[(xa,instObj c dx),(dx,dictOf [] 0)]) (tk:=r.s.toks) (bN.mpr ⟨λh=>aQ lt<|aj.mp h,bN.mpr ⟨(by intro h;cases h),List.Pairwise.nil⟩⟩)
  (λp hp p' uY=>av<|(ao.mp hp).elim (λe=>e▸aK (fresh p' uY) lt) λh=>aj.mp h▸fresh p' uY) ⟨_,.head _⟩ ⟨_,.tail _<|.head _⟩ rfl F' N' λy=>vF.mk (xa,dx) [] 0 jK.uq (.head _) (.tail _<|.head _) .none (aD _) (by decide) λy y h=>by cases h
 have b:=Z.a.call (u':=8*l+8) h.1;have a':At V (8*l+4) {G with A:=G.A.under (.builtin "type.__call__" ⟨.ref c::ws,kn.zip ks⟩)} _ Lc (H.new<|.inst c []):=⟨⟨b.C.B,(BV ..).trans b.C.fr,b.C.X,b.C.T,b.C.uD,b.C.nodup,b.C.quiet,b.C.top⟩,b.rm.Zp (Dh ..)<|Di ..,⟨b.T.F,b.T.N,b.T.R,b.T.loc⟩⟩;refine bY (h.2 V.f Lc _ E _ (.ref xa::ws) ks a' (oG jK.q9<|v1.ext Z.l.x)<|v2.ext Z.l.x) λo s' z=>?_;induction o with
 |error e=>exact z
 |ok f=>
  induction f with
  |ret v=>
   obtain⟨r4,rfl,l4,z⟩:=(z:ku _ _ v s');induction z with
   |mk H4 mv T4 j q=>exact⟨(q.1▸j:VR r4.U .none v),r4,rfl,Z.l.trans l4,H4,.ref H.n,T4.Zo,VR.ext l4.x (v:=.ref H.n) (w:=.ref xa) jK.q9,q.2⟩
  |_=>exact z
def gY.make{x:Str}{p pos:Pos}{es:pP}{kws:List Keyword}{c fI:Addr}(G_x:rY V.K V.f x<|.ref c)(M:BK V.K c fI)(hn:es.all jt=true)(hkw:kwOk kws=true)
  (h:vA V u Lc es H λvs H2=>vA V u Lc (To kws) H2 λks H3=>uQ V u fI (.ref H3.n::vs) (Px kws) ks (H3.new<|.inst c []) λv H4=>v=.none/\Q (.ref H3.n) H4):gY V u (.Call (.Name x p) es kws pos) Lc H Q:=
 λG E r a=>qp<|oZ G_x a<|kN (first:=[]) hn hkw (BU a.C M.keep) a h λr2 H2 Dg ws EN ks l2 a2 v2 v3 q=>(Dk M a2 q v2 v3).from l2
def gY.J4{x:Str}{k:Nat}{p pos:Pos}{es:pP}{c fI:Addr}(hx:V.f.ns[k]?=some x)(hv:Lc[k]?=some (some<|.cls c))(hkd:V.f.sc.names.lookup x=some .local)(hd:(x==("__debug__":Str))=false)(M:BK V.K c fI)(hn:es.all jt=true)
  (h:vA V u Lc es H λvs H3=>uQ V u fI (.ref H3.n::vs) [] [] (H3.new<|.inst c []) λv H4=>v=.none/\Q (.ref H3.n) H4):gY V u (.Call (.Name x p) es [] pos) Lc H Q:=
 λG E r a=>qp ((a.T.loc k x _ hx hv).elim λwv z=>nameX_L a.T.F z.1 (by cases z.2;exact kN (first:=[]) (kws:=[]) (R:=λvs ks H3=>ks=[]/\uQ V u fI (.ref H3.n::vs) [] [] (H3.new<|.inst c []) (λv H4=>v=.none/\Q (.ref H3.n) H4)) hn rfl (BU a.C M.keep) a (vA.mono h λvs H3 q=>⟨rfl,q⟩) λr2 H2 Dg ws EN ks l2 a2 v2 v3 q=>(Dk M a2 q.2 v2<|q.1▸v3).from l2) a.C.uD hkd hd)
def gY.J5{x:Str}{p pos:Pos}{es:pP}{fv:Value}(G_x:rY V.K V.f x fv)(hk:∀G,Kept V G fv)(hn:es.all jt=true)(h:vA V u Lc es H λvs H2=>jl V u Lc H2 vs (g5 fv) VR Q):gY V u (.Call (.Name x p) es [] pos) Lc H Q:=
 λG E r a=>qp<|oZ G_x a<|kN (first:=[]) (kws:=[]) (R:=λvs ks H2=>ks=[]/\jl V u Lc H2 vs (g5 fv) VR Q) hn rfl (hk G) a (vA.mono h λvs H3 q=>⟨rfl,q⟩) λr2 H2 Dg ws EN ks l2 a2 v2 v3 q=>(q.2 _ _ _ ws a2 v2).from l2
def gY.F6{o:Expr}{x:Str}{apos pos:Pos}{es:pP}{k:Kind}{id:String}(hs:lZ o=true)(hn:es.all jt=true)(hl:decide (es.length<29)=true)(hline:(apos.endLine==pos.line)=true)(pa:PlainAttrs k.tn)(slot:Slot k.tn x id)(hty:typeOf (.builtin id)=pure (.type "method_descriptor"))
  (h:gY V u o Lc H λv H1=>rj H1 v k/\vA V u Lc es H1 λvs H2=>jl V u Lc H2 (v::vs) (g5<|.builtin id) VR Q):gY V u (.Call (.Attribute o x apos) es [] pos) Lc H Q:=
 λG E r a=>vP (kws:=[]) hs hn rfl (az<|aR<|aJ hl) hline (a.go (h _ _ _ a) λov r1 mv H1 l1 a1 v1 q pl=>have ki:=q.1 a1 v1
  getMethod_builtin ki.1 pa slot hty ki.2 (kN (first:=[ov]) (kws:=[]) (R:=λvs ks H2=>ks=[]/\jl V u Lc H2 (mv::vs) (g5<|.builtin id) VR Q) hn rfl KQ a1 (vA.mono q.2 λvs H3 q=>⟨rfl,q⟩) λr2 H2 Dg ws EN ks l2 a2 v2 v3 q=>(q.2 _ _ _ (ov::ws) a2<|oG (v1.ext l2.x) v2).from (l1.trans l2)))
def gY.J3(O:j3 V.S V.w){o:Expr}{x:Str}{apos pos:Pos}{k:Nat}(hs:lZ o=true)(hk:V.S.nm[k]?=some x)(hline:(apos.endLine==pos.line)=true)
  (h:gY V u o Lc H λv H1=>pR v k H1 λi c fs=>AX (fs.lookup k) λfa j=>(∃c' k',V.S.mt c' k'=some fa)/\uQ V u fa [.ref j] [] [] H1 Q):gY V u (.Call (.Attribute o x apos) [] [] pos) Lc H Q:=
 λG E r a=>vP (es:=[]) (kws:=[]) hs rfl rfl rfl hline (a.go (h _ _ _ a) λov r1 mv H1 l1 a1 v1 q pl=>YZ (P:=λmv=>VR r1.U mv ov->wpAny V.M G.A (getMethod ov x pl) _ E r1.s) q (λi c fs hi q v1=>YX q λfa j hf q=>kh (P:=λov=>wpAny V.M G.A (getMethod ov x pl) _ E r1.s) v1 λp hp=>a1.T.inst hi λp' es' n uY y fr y ow I=>by
  cases ay (hp.symm.trans uY);have ht:=ow k _ hf;have FO:=O.tab c k x ht hk;refine method_usual (a1.C.X.keeps a1.T.F.keep) I (plainGet_of FO.get).1 (plainGet_of FO.get).2 (O.nof c k x ht hk) rfl<|ri O.toKe a1 hi hf hk hp λv tk w=>xd w λd pj e hj hm=>?_;subst e;have a2:=a1.tk tk;refine callWith_M0 (K:=V.K) (g:=fa) (self:=.ref pj.1) ⟨(a2.T.N _ hm).1,a2.C.X.keeps a2.T.F.keep⟩ (q.1.elim λc' z=>z.elim λk' z=>O.mtf c' k' fa z)<|call_meth a2.T.N hm ?_;refine q.2.elim λl h=>bY (h.2 V.f Lc G E _ [.ref pj.1] [] (a2.call<|aa (dU (by decide) _) h.1) (.one ⟨pj,hj,rfl⟩) rfl) λo s' z=>?_;induction o with
  |error e=>exact z
  |ok f=>
   induction f with
   |ret v=>exact(z:ku _ _ v s').elim λr' z=>⟨r',z.1,(l1.trans .tk).trans z.2.1,z.2.2⟩
   |_=>exact z) v1)
noncomputable def tL(n:Nat)(i:Int):Nat:=(max 0<|min (if i<0 then i+n else i) n).toNat
def oH(n:Nat)(o:Option Int):Nat:=o.casesOn 0<|tL n
def qC(n:Nat)(o:Option Int):Nat:=o.casesOn n<|tL n
def pB{α:Type}(l:List α)(lo hi:Option Int):List α:=(l.drop<|oH l.length lo).take<|qC l.length hi-oH l.length lo
def KU(n:Nat)(i:Int):tL n i<=n:=Int.toNat_le.mpr<|Int.max_le.mpr ⟨cB n,Int.min_le_right ..⟩
def A0(n:Nat)(i:Option Int):qC n i<=n:=by induction i with|none=>exact aD _|some i=>exact KU n i
def Dl{α:Type}(c:Nat):∀(l:List α) (a:Nat),a+c<=l.length->((List.range c).map λk=>a+k).filterMap (l[·]?)=(l.drop a).take c:=by
 induction c with
 |zero=>intro l a _;simp
 |succ c ih=>intro l a h;have hl:a<l.length:=aL (gj<|eN c) h;rw[List.range_succ_eq_map,cG,bZ,List.filterMap_cons];rw[show l[a+0]?=some l[a]from bg hl];rw[show(λk=>a+k)∘Nat.succ=λk=>(a+1)+k from funext λk=>(dY a k).symm];show l[a]::_=_;rw[ih l (a+1) (by rw[dY];exact h),bL hl,List.take_succ_cons]
def A1(lo hi:Option Int)(n:Nat):strSliceIndices lo hi 1 n=(List.range<|qC n hi-oH n lo).map (λk=>oH n lo+k):=by
 have h0:strSliceIndices lo hi 1 n=sliceRange (oH n lo:Nat) (qC n hi:Nat) 1:=by have c:∀i:Int,max 0 (min (if i<0 then i+n else i) n)=((tL n i:Nat):Int):=λi=>(Int.toNat_of_nonneg<|Int.le_max_left ..).symm;cases lo<;>cases hi<;>(unfold oH qC;dsimp only;try rw[<-c];try rw[<-c])<;>rfl
 rw[h0];unfold sliceRange;have e:∀a b:Nat,(if(1:Int)>0 then if(a:Int)<b then((b:Int)-a+1-1)/1 else 0 else if(a:Int)>b then((a:Int)-b-1-1)/ -1 else 0).toNat=b-a:=λa b=>by
  rw[aF<|by decide];by_cases h:(a:Int)<b
  ·rw[aF h,Int.add_sub_cancel,Int.ediv_one,Int.toNat_sub]
  ·rw[aE h];exact(Nat.sub_eq_zero_of_le<|Int.ofNat_le.mp<|Int.not_lt.mp h).symm
 dsimp only;rw[e];exact dW λk z=>by rw[Int.one_mul];exact Int.toNat_natCast<|oH n lo+k
def A2{α:Type}(l:List α)(lo hi:Option Int):(strSliceIndices lo hi 1 l.length).filterMap (l[·]?)=pB l lo hi:=by
 rw[A1];by_cases q:oH l.length lo<=qC l.length hi
 ·exact Dl _ _ _<|by rw[Nat.add_sub_cancel' q];exact A0 ..
 ·unfold pB;rw[Nat.sub_eq_zero_of_le<|Nat.le_of_not_le q];rfl
def lo0{a b n:Nat}(h:b-a=n+1)(k:b<=n+1):a=0:=(Nat.sub_sub_self<|cA<|Nat.lt_of_sub_pos<|h▸eN n).symm.trans<|h▸Nat.sub_eq_zero_of_le k
def BW(l:LN)(lo hi:Option Int):Txt.slice (gN l) lo hi=gN (pB l lo hi):=by
 have pick:(List.filterMap (λx=>(gN l).cps[x]?)<|strSliceIndices lo hi 1 (gN l).length)=pB l lo hi:=by rw[nZ,<-A2];exact aq (List.filterMap · _)<|funext λx=>by simp
 unfold Txt.slice;split
 ·rename _=>c
  rw[bB]at c;have c:(strSliceIndices lo hi 1 (gN l).length).length=(gN l).length:=by simpa using c.2
  rw[nZ,A1,aV,List.length_range]at c;have hh:=A0 l.length hi;refine aq gN ?_;unfold pB;induction l with
  |nil=>simp
  |cons x l=>have h1:oH (x::l).length lo=0:=lo0 c hh;rw[h1]at c⊢;rw[c,List.drop_zero,List.take_length]
 ·rw[pick]
def Py(vs:lO)(lo hi:Option Int):slicePick vs.toArray lo hi none=(pB vs lo hi).toArray:=by rw[<-A2];unfold slicePick;rw[show sliceRange (sliceBounds lo hi none vs.toArray.size).1 (sliceBounds lo hi none vs.toArray.size).2.1 (sliceBounds lo hi none vs.toArray.size).2.2=strSliceIndices lo hi 1 vs.length by rw[bR];cases lo<;>cases hi<;>rfl];exact aq (λf=>(List.filterMap f _).toArray)<|funext λx=>by simp
def Pz{α:Type}(l:List α)(lo hi:Option Int):(pB l lo hi).length<=l.length:=by unfold pB;rw[dI,cy];exact aa (Nat.min_le_right ..)<|Nat.sub_le ..
def EO(v:MV)(a b:Option Int)(H:MH)(Q:QV):Prop:=v.casesOn False kG kG (λl=>l.length<gP/\Q (.str<|pB l a b) H) (λi=>qh (H.at_ i) noI (λxs=>Q (.ref H.n)<|H.new<|.list<|pB xs a b) (λxs=>Q (.ref H.n)<|H.new<|.list<|pB xs a b) ur ur ur) kG AR kG λz=>False
def Zq(V:Th)(u:Nat)(Lc:Loc)(e:Option Expr)(H:MH)(Q:Option Int->MH->Prop):Prop:=e.casesOn (Q none H) λe=>gY V u e Lc H λv H1=>qg v λi=>Q (some i) H1
variable{U:jK}
def jr.drop(a:Nat):∀{xs:gV} {vs:lO},jr U xs vs->jr U (xs.drop a) (vs.drop a):=by
 induction a with
 |zero=>exact λh=>h
 |succ a ih=>
  intro xs vs h;cases xs with
  |nil=>cases h;rfl
  |cons x xs=>exact lu h λy ys e z t=>by subst e;exact ih t
def jr.take(c:Nat):∀{xs:gV} {vs:lO},jr U xs vs->jr U (xs.take c) (vs.take c):=by
 induction c with
 |zero=>exact λz=>rfl
 |succ c ih=>
  intro xs vs h;cases xs with
  |nil=>cases h;rfl
  |cons x xs=>exact lu h λy ys e a t=>by subst e;exact oG a<|ih t
def jr.sl{lo hi:Option Int}{xs:gV}{vs:lO}(h:jr U xs vs):jr U (pB xs lo hi) (pB vs lo hi):=by unfold pB;rw[h.length];exact(h.drop _).take _
abbrev PaR(_:jK)(p:Option<|Int×Tok)(v:Value):Prop:=v=partValue p
def part_of{e:Option Expr}{QO:Option Int->MH->Prop}(h:Zq V u Lc e H QO)(a:At V u G r Lc H):Go V G E r (valueOrNone<|evalOpt e<|V.f.env G.L) (uE V G Lc PaR λp:Option (Int×Tok)=>QO<|p.map fst):=by
 induction e with
 |none=>exact aH<|xh (b:=none) a rfl h
 |some e=>exact a.go (h _ _ _ a) λv r1 mv H1 l1 a1 v1 q=>Ay (P:=λmv=>VR r1.U mv v->ku r (uE V G Lc PaR λp:Option (Int×Tok)=>QO<|p.map fst) v r1.s) q (λi q v1=>oV (P:=λv=>ku r (uE V G Lc PaR λp:Option (Int×Tok)=>QO<|p.map fst) v r1.s) v1 λt=>a1.fin (J:=PaR) (QJ:=λp:Option (Int×Tok)=>QO<|p.map fst) (b:=some (i,t)) l1 rfl q) v1
def n7{value slice:Expr}{o i:Value}{T id:String}{ops:lO}{R:qT}{s:Shared}(hT:s.TypeIs o T)(hl:typeLookup (.type T) "__getitem__"=pure (some<|.builtin id))(h:wpAny V.M G.A (getItem o i) R E s)(hs:subscripted slice false o i=operate ops (getItem o i)):
  wpAny V.M G.A (subscriptTail value slice o i) R E s:=by
 unfold subscriptTail;refine af ?_;rw[getitemInPython_of_ne hT.not_modules];refine af<|wpAny_specialOf hT hl<|aH<|af ?_;rw[hs];exact wpAny_operating<|cZ h (λr s₃ h₃=>af<|fN<|aH h₃) λz z x=>x
def gY.sub{value slice:Expr}{pos:Pos}(hn:pJ slice=true)(h:gY V u value Lc H λv H1=>gY V u slice Lc H1 λi H2=>rV v i H2 Q):gY V u (.Subscript value slice pos) Lc H Q:=
 λG E r a=>fM (a.go (h _ _ _ a) λo r1 mv H1 l1 a1 v1 q=>a1.go (q _ _ _ a1) λi r2 mi H2 l2 a2 v2 q=>(Gg (V:=V) (u:=u) (Lc:=Lc) q).elim λk I=>k.yS.elim λid hid=>have w:=v1.ext l2.x;n7 (I.kind a2 w).1 hid ((I.item _ _ _ [o,i] a2<|.two w v2).from (l1.trans l2)) (kK hn))
def At.grow(a:At V u G r Lc H)(ob:Obj):Te V u G r Lc ⟨r.U,r.m,{r.s with heap:=r.s.heap.push ob}⟩ H:=
 ⟨⟨.refl,rfl,rfl⟩,a.at_ ⟨.refl,rfl,rfl⟩ ⟨a.T.F.push _,a.T.N.grown λz z e=>bw _ e,a.T.R,a.T.loc⟩⟩
def Gj(p:Option<|Int×Tok):IsPart (partValue p) (p.map (·.1)):=by induction p with|none=>exact .none|some p=>exact .int p.1 p.2
def slice_list{i:Nat}{l:Rh->ig}{xs:gV}{pa pb:Option (Int×Tok)}{x:Value}{value:Expr}{lo hi:Option Expr}{p:Pos}(a:At V u G r Lc H)(hi':jT r.U i (l r) xs)(hn:∀p∈l r,p∈r.U.news)(v1:VR r.U (.ref i) x)(q:Q (.ref H.n) (H.new (.list (pB xs (pa.map (·.1)) (pb.map (·.1)))))):
  wpAny V.M G.A (subscriptTail value (.Slice lo hi none p) x<|.ref r.s.heap.objs.size) (ku r<|uE V G Lc VR Q) E {r.s with heap:=r.s.heap.push {cls:=.type "slice",data:=.fields #[partValue pa,partValue pb,.none]}}:=
 kh (P:=λx=>wpAny V.M G.A (subscriptTail value (.Slice lo hi none p) x _) _ _ _) v1 λp hp=>hi'.w7 a hn hp λvs n m z w hl e=>by have g:=a.grow {cls:=.type "slice",data:=.fields #[partValue pa,partValue pb,.none]};refine n7 (T:="list") (z.push _).typeIs PySem.slot_list_getitem.lookup (wpAny_getItem_list_slice (z.push _) (Heap.IsSliceOf.new ..) (Gj pa) (Gj pb) .none (by simp) ?_<|kJ<|by rw[bR,e];exact hl) rfl;rw[Py];have Z:=g.a.newL (xs:=pB xs (pa.map (·.1)) (pb.map (·.1))) (n:=0) (tk:=r.s.toks) (λp' h=>bV (g.a.T.N p' h).1) (g.a.T.F.push _) (News.push g.a.T.F g.a.T.N _) w.sl<|aa (Pz ..) hl;exact Z.a.fin (b:=MV.ref H.n) (g.l.trans Z.l) jK.q9 q
def Iw{s:LN}{pa pb:Option (Int×Tok)}{x:Value}{value:Expr}{lo hi:Option Expr}{p:Pos}(a:At V u G r Lc H)(v1:VR r.U (.str s) x)(hb:s.length<gP)(q:Q (.str (pB s (pa.map (·.1)) (pb.map (·.1)))) H):
  wpAny V.M G.A (subscriptTail value (.Slice lo hi none p) x<|.ref r.s.heap.objs.size) (ku r<|uE V G Lc VR Q) E {r.s with heap:=r.s.heap.push {cls:=.type "slice",data:=.fields #[partValue pa,partValue pb,.none]}}:=
 mY (P:=λx=>wpAny V.M G.A (subscriptTail value (.Slice lo hi none p) x _) _ _ _) v1 λt=>by
  have hz:(gN s).length<=sizeLine:=by rw[nZ];exact kJ<|b6 hb
  have fin:∀h' t' k,Fr G.h₀ G.L h' r.m/\News G.h₀ G.L h' r.U.news->ku r (uE V G Lc VR Q) (.str (Txt.slice (gN s) (pa.map (·.1)) (pb.map (·.1))) t') {r.s with heap:=h',toks:=k}:=λh' t' k z=>⟨⟨r.U,r.m,{r.s with heap:=h',toks:=k}⟩,rfl,⟨.refl,rfl,rfl⟩,H,.str (pB s (pa.map (·.1)) (pb.map (·.1))),⟨z.1,z.2,a.T.R,a.T.loc⟩,⟨t',by rw[BW]⟩,q⟩;have item:ItemOn V.M G.A E (.str (gN s) t) (.ref r.s.heap.objs.size) (ku r<|uE V G Lc VR Q) {r.s with heap:=r.s.heap.push {cls:=.type "slice",data:=.fields #[partValue pa,partValue pb,.none]}}:=by
   induction pa with
   |none=>
    induction pb with
    |none=>exact SBH.sliceItem_nn keptFrN ⟨a.T.F,a.T.N⟩ fin hz
    |some b=>exact SBH.sliceItem_ns keptFrN ⟨a.T.F,a.T.N⟩ fin hz
   |some a1=>
    induction pb with
    |none=>exact SBH.sliceItem_sn keptFrN ⟨a.T.F,a.T.N⟩ fin hz
    |some b=>exact SBH.sliceItem_ss keptFrN ⟨a.T.F,a.T.N⟩ fin hz
  exact item.elim λT' z=>z.elim λid z=>n7 z.2.1 z.1 z.2.2 rfl
def Iz{mv:MV}{pa pb:Option (Int×Tok)}{x:Value}{value:Expr}{lo hi:Option Expr}{p:Pos}(a:At V u G r Lc H)(v1:VR r.U mv x)(q:EO mv (pa.map (·.1)) (pb.map (·.1)) H Q):
  wpAny V.M G.A (subscriptTail value (.Slice lo hi none p) x<|.ref r.s.heap.objs.size) (ku r<|uE V G Lc VR Q) E {r.s with heap:=r.s.heap.push {cls:=.type "slice",data:=.fields #[partValue pa,partValue pb,.none]}}:=by
 cases mv with
 |str s=>exact Iw a v1 q.1 q.2
 |ref i=>exact objE q (λz z z=>O5) (λxs hi q=>slice_list (l:=λr=>r.U.news) a (a.T.R.obj i _ hi) (λz h=>h) v1 q) (λxs hi q=>slice_list (l:=λr=>r.U.fix) a (a.T.R.obj i _ hi) a.T.R.uv.2 v1 q) (λz z=>uF) (λz z=>uF) λz z=>uF
 |_=>exact q.elim
def ku.from{α:Type}{P:α->Rh->Prop}{v:α}{s:Shared}(l:Le r r')(z:ku r' P v s):ku r P v s:=z.elim λr2 z=>⟨r2,z.1,l.trans z.2.1,z.2.2⟩
def gY.slice{value:Expr}{lo hi:Option Expr}{p pos:Pos}(h:gY V u value Lc H λv H1=>Zq V u Lc lo H1 λa H2=>Zq V u Lc hi H2 λb H3=>EO v a b H3 Q):gY V u (.Subscript value (.Slice lo hi none p) pos) Lc H Q:=
 λG E r a=>fM (a.go (h _ _ _ a) λo r1 mv H1 l1 a1 v1 q=>af (m:=valueOrNone<|evalOpt lo<|V.f.env G.L) (f:=λl=>do
   let u<-holding [l] (valueOrNone<|evalOpt hi<|V.f.env G.L);let s<-holding [l,u] (valueOrNone<|evalOpt none<|V.f.env G.L);newFields "slice" [l,u,s]) (a1.go (part_of q a1) λx r2 pa H2 l2 a2 e2 q=>af (aS (a2.go (part_of q a2) λy r3 pb H3 l3 a3 e3 q=>af (aS (aH (wpAny_newObj_type (by
  subst e2 e3;exact cZ (Iz a3 (v1.ext (l2.trans l3).x) q) (λv s z=>z.from (l1.trans<|l2.trans l3)) λw w z=>z))))))))
def gY.list{es:pP}{pos:Pos}(hn:es.all jt=true)(h:vA V u Lc es H λvs H1=>vs.length<=gP/\Q (.ref H1.n) (H1.new<|.list vs)):gY V u (.List es pos) Lc H Q:=
 λG E r a=>List_ (a.go (u9 es _ _ _ _ _ hn h a) λws r1 Dg H1 l1 a1 v1 q=>newList_K a1.T.F a1.T.N (λl h' F' N' fresh=>have Z:=a1.newL (n:=0) (tk:=r1.s.toks) fresh F' N' v1 q.1;Z.a.fin (b:=MV.ref H1.n) (l1.trans Z.l) jK.q9 q.2)<|kJ<|by rw[v1.length];exact q.1)
def gY.tuple{es:pP}{k:Nat}{pos:Pos}(hn:es.all jt=true)(h:vA V u Lc es H λvs H1=>vs.length<=gP/\Q (.tup vs) H1):gY V u (.Tuple es k pos) Lc H Q:=
 λG E r a=>Tuple_ (a.go (u9 es _ _ _ _ _ hn h a) λws r1 Dg H1 l1 a1 v1 q=>newTuple_N a1.T.F a1.T.N (λh' F' N'=>have Z:=a1.more (tk:=r1.s.toks) (λp hp=>bV (a1.T.N p hp).1) F' N';Z.a.fin (J:=VR) (b:=.tup Dg) (v:=.ref r1.s.heap.objs.size) (l1.trans Z.l) ⟨_,ws,rfl,.head _,v1.ext Z.l.x⟩ q.2)<|kJ<|by rw[v1.length];exact q.1)
def gY.Tq{Y K:Type}[DecidableEq Y][DecidableEq K]{dec:Y->K}{knd:KeyKind V.S.prog V.w K}{mk:List (Y×MV)->MO}{kv:Y->MV}(c:KC V dec knd mk kv){pos:Pos}(hd:∀o:Obj,o.IsDictOf (strKind V.S.prog V.w) []->o.IsDictOf (intKind V.S.prog V.w) []->o.IsDictOf knd [])(hq:Q (.ref H.n)<|H.new<|mk []):gY V u (.Dict [] [] pos) Lc H Q:=
 λG E r a=>a.C.T.elim λmg T=>T.elim λmb TT=>newDict_K a.T.F a.T.N TT.nolimit λd h' o F' N' fresh lo hs z hi z=>have Z:=a.new1 (o:=mk []) (tk:=r.s.toks) fresh (c.off []) F' N' λU' z q m=>c.mko _ _ _ ⟨d,o,[],q,m,hd o hs hi,.nil,cg _,lo⟩;Z.a.fin (b:=MV.ref H.n) Z.l jK.q9 hq
def gY.Zr{c t e:Expr}{pos:Pos}(h:rN V u c Lc H λb H1=>if b then gY V u t Lc H1 Q else gY V u e Lc H1 Q):gY V u (.IfExp c t e pos) Lc H Q:=
 λG E r a=>wpAny_IfExp (a.go (h _ _ _ a) λb r1 b' H1 l1 a1 e q=>by
  subst e;induction b' with
  |true=>exact(q _ _ _ a1).from l1
  |false=>exact(q _ _ _ a1).from l1)
def gY.not{e:Expr}{pos:Pos}(h:gY V u e Lc H λv H1=>vJ v H1 λb H2=>Q (.bool<|!b) H2):gY V u (.UnaryOp .Not e pos) Lc H Q:=
 λG E r a=>wpAny_UnaryOp<|a.go (h _ _ _ a) λv r1 mv H1 l1 a1 v1 q=>not_of<|a1.go (BE q _ _ _ v a1 v1) λb r2 b' H2 l2 a2 e q=>a2.fin (b:=MV.bool<|!b') (l1.trans l2) (by rw[e];rfl) q
def gY.neg{e:Expr}{pos:Pos}(h:gY V u e Lc H λv H1=>qg v λi=>Q (.int<|-i) H1):gY V u (.UnaryOp .USub e pos) Lc H Q:=
 λG E r a=>wpAny_UnaryOp<|a.go (h _ _ _ a) λv r1 mv H1 l1 a1 v1 q=>Ay (P:=λmv=>VR r1.U mv v->wpAny V.M G.A (unaryOp .USub v) (ku r<|uE V G Lc VR Q) E r1.s) q (λi q v1=>oV (P:=λv=>wpAny V.M G.A (unaryOp .USub v) (ku r<|uE V G Lc VR Q) E r1.s) v1 λt=>PyProof.Rows.neg_int<|(a1.tk _).fin (b:=MV.int<|-i) (l1.trans .tk) ⟨_,rfl⟩ q) v1
def PA{op:BoolOp}{e':Expr}{es:pP}{pos:Pos}{v:Value}{mv:MV}{b:Bool}(a:At V u G r Lc H)(v1:VR r.U mv v)(q:if Dj op b then Q mv H else gY V u (.BoolOp op (e'::es) pos) Lc H Q):
  Go V G E r (match op,b with|.And,false|.Or,true=>pure v|_,_=>boolOp pos op<|evalEach (e'::es)<|V.f.env G.L) (uE V G Lc VR Q):=by
 cases op<;>cases b
 ·exact aH<|xh a v1 q
 ·exact q _ _ _ a
 ·exact q _ _ _ a
 ·exact aH<|xh a v1 q
def gY.IA{op:BoolOp}{e e':Expr}{es:pP}{pos:Pos}(h:gY V u e Lc H λv H1=>vJ v H1 λb H2=>if Dj op b then Q v H2 else gY V u (.BoolOp op (e'::es) pos) Lc H2 Q):gY V u (.BoolOp op (e::e'::es) pos) Lc H Q:=
 λG E r a=>af (m:=eval e<|V.f.env G.L) (f:=λv=>do
  standAt pos
  let t<-holding [v] (truthy v);match op,t with
  |.And,false|.Or,true=>pure v
  |_,_=>boolOp pos op<|evalEach (e'::es)<|V.f.env G.L) (a.go (h _ _ _ a) λv r1 mv H1 l1 a1 v1 q=>af (dN (af (aS (a1.go (BE q _ _ _ v a1 v1) λb r2 b' H2 l2 a2 e q=>by subst e;exact(PA a2 (v1.ext l2.x) q).from (l1.trans l2))))))
def At.cmp{op:CmpOp}{m n:MV}{x y:Value}{t:Bool}{R:qT}(a:At V u G r Lc H)(e:sW op m n H=some t)(v1:VR r.U m x)(v2:VR r.U n y)(k:∀r',Le r r'->At V u G r' Lc H->R (.bool t) r'.s):wpAny V.M G.A (compareOp op x y) R E r.s:=
 a.go (Pc (Q:=λv H'=>v=.bool t/\H'=H) e ⟨rfl,rfl⟩ _ _ _ [x,y] a<|.two v1 v2) λv r1 mv H1 l1 a1 j q=>by obtain⟨rfl,rfl⟩:=q;cases j;exact k r1 l1 a1
abbrev IC(op:CmpOp)(a b:MV)(H:MH)(K:Bool->Prop):Prop:=jA (sW op a b H) K
def gY.cmp{l r:Expr}{op:CmpOp}{pos:Pos}(hm:behindInMarks op r=false)(h:gY V u l Lc H λa H1=>gY V u r Lc H1 λb H2=>IC op a b H2 λt=>Q (.bool t) H2):gY V u (.Compare l [op] [r] pos) Lc H Q:=
 λG E r a=>wpAny_Compare1 (a.go (h _ _ _ a) λx r1 m H1 l1 a1 v1 q=>a1.go (q _ _ _ a1) λy r2 n H2 l2 a2 v2 q=>jE q λt e q=>a2.cmp e (v1.ext l2.x) v2 λr3 l3 a3=>a3.fin (b:=MV.bool t) (l1.trans<|l2.trans l3) rfl q) hm
def rN.cmp{l r:Expr}{op:CmpOp}{pos:Pos}(hm:behindInMarks op r=false)(h:gY V u l Lc H λa H1=>gY V u r Lc H1 λb H2=>IC op a b H2 λt=>QB t H2):rN V u (.Compare l [op] [r] pos) Lc H QB:=
 λG E r a=>eO (a.go (h _ _ _ a) λx r1 m H1 l1 a1 v1 q=>a1.go (q _ _ _ a1) λy r2 n H2 l2 a2 v2 q=>jE q λt e q=>a2.cmp e (v1.ext l2.x) v2 λr3 l3 a3=>cX<|a3.fin (l1.trans<|l2.trans l3) rfl q) hm
def gY.chain{l r₁ r₂:Expr}{op₁ op₂:CmpOp}{pos:Pos}(hm:lastMarks [op₁,op₂] [r₁,r₂]=false)
  (h:gY V u l Lc H λa H1=>gY V u r₁ Lc H1 λb H2=>IC op₁ a b H2 λt=>if t then gY V u r₂ Lc H2 (λd H5=>IC op₂ b d H5 λt=>Q (.bool t) H5)else Q (.bool false) H2):gY V u (.Compare l [op₁,op₂] [r₁,r₂] pos) Lc H Q:=
 λG E r a=>Compare_chain (a.go (h _ _ _ a) λx r1 m H1 l1 a1 v1 q=>chain_link (a1.go (q _ _ _ a1) λy r2 n H2 l2 a2 v2 q=>jE q λt e q=>a2.cmp e (v1.ext l2.x) v2 λr3 l3 a3=>cX (by
  have l:=l1.trans<|l2.trans l3;cases t with
  |false=>exact a3.fin (b:=MV.bool false) l rfl q
  |true=>exact chain_last<|a3.go (q _ _ _ a3) λz r4 p H4 l4 a4 v4 q=>jE q λt e q=>a4.cmp e (v2.ext (l3.trans l4).x) v4 λr5 l5 a5=>a5.fin (b:=MV.bool t) (l.trans<|l4.trans l5) rfl q))) hm
def rN.chain{l r₁ r₂:Expr}{op₁ op₂:CmpOp}{pos:Pos}(hm:lastMarks [op₁,op₂] [r₁,r₂]=false)
  (h:gY V u l Lc H λa H1=>gY V u r₁ Lc H1 λb H2=>IC op₁ a b H2 λt=>if t then gY V u r₂ Lc H2 (λd H5=>IC op₂ b d H5 λt=>QB t H5)else QB false H2):rN V u (.Compare l [op₁,op₂] [r₁,r₂] pos) Lc H QB:=
 λG E r a=>isTrue_chain (a.go (h _ _ _ a) λx r1 m H1 l1 a1 v1 q=>test_link (a1.go (q _ _ _ a1) λy r2 n H2 l2 a2 v2 q=>jE q λt e q=>a2.cmp e (v1.ext l2.x) v2 λr3 l3 a3=>cX (by
  have l:=l1.trans<|l2.trans l3;cases t with
  |false=>exact a3.fin l rfl q
  |true=>exact test_last<|a3.go (q _ _ _ a3) λz r4 p H4 l4 a4 v4 q=>jE q λt e q=>a4.cmp e (v2.ext (l3.trans l4).x) v4 λr5 l5 a5=>cX<|a5.fin (l.trans<|l4.trans l5) rfl q))) hm
def rN.not{e:Expr}{pos:Pos}(h:rN V u e Lc H λb H1=>QB (!b) H1):rN V u (.UnaryOp .Not e pos) Lc H QB:=λG E r a=>isTrue_not (a.go (h _ _ _ a) λb r1 b' H1 l1 a1 e q=>a1.fin l1 (aq (!·) e) q)
def rN.and_nil{pos:Pos}(hq:QB true H):rN V u (.BoolOp .And [] pos) Lc H QB:=λG E r a=>isTrue_and_nil<|xh a rfl hq
def rN.or_nil{pos:Pos}(hq:QB false H):rN V u (.BoolOp .Or [] pos) Lc H QB:=λG E r a=>isTrue_or_nil<|xh a rfl hq
def rN.and_cons{e:Expr}{es:pP}{pos:Pos}(h:rN V u e Lc H λb H1=>if b then rN V u (.BoolOp .And es pos) Lc H1 QB else QB false H1):rN V u (.BoolOp .And (e::es) pos) Lc H QB:=
 λG E r a=>isTrue_and (a.go (h _ _ _ a) λb r1 b' H1 l1 a1 e q=>by
  subst e;cases b' with
  |true=>exact(q _ _ _ a1).from l1
  |false=>exact a1.fin l1 rfl q)
def rN.or_cons{e:Expr}{es:pP}{pos:Pos}(h:rN V u e Lc H λb H1=>if b then QB true H1 else rN V u (.BoolOp .Or es pos) Lc H1 QB):rN V u (.BoolOp .Or (e::es) pos) Lc H QB:=
 λG E r a=>isTrue_or (a.go (h _ _ _ a) λb r1 b' H1 l1 a1 e q=>by
  subst e;cases b' with
  |true=>exact a1.fin l1 rfl q
  |false=>exact(q _ _ _ a1).from l1)
def Plain(e:Expr):Prop:=∀env t,isTrue e env t=(do let v<-t;standAt e.pos;holding [v]<|truthy v)
def rN.plain{e:Expr}(hp:Plain e)(h:gY V u e Lc H λv H1=>vJ v H1 QB):rN V u e Lc H QB:=λG E r a=>by refine(?_:wpAny V.M G.A (isTrue e (V.f.env G.L)<|eval e<|V.f.env G.L) _ E r.s);rw[hp];exact af<|a.go (h _ _ _ a) λv r1 mv H1 l1 a1 v1 q=>af<|dN<|aS<|(BE q _ _ _ v a1 v1).from l1
def x7(U:jK)(mf:MF)(fl:Flow):Prop:=mf.casesOn (fl=.next) (fl=.brk) (fl=.cont) λv=>∃x,fl=.ret x/\VR U v x
inductive DQ(V:Th)(G:Gm)(Q:QF)(fl:Flow)(r:Rh):Prop
 |mk (Lc:Loc) (H:MH) (mf:MF):St V G r Lc H->x7 r.U mf fl->Q mf Lc H->DQ V G Q fl r
def V6(V:Th)(u:Nat)(Lc:Loc)(H:MH)(t:Gm->Sem Flow)(Q:QF):Prop:=∀G E r,At V u G r Lc H->Go V G E r (t G) (DQ V G Q)
def j8(V:Th)(u:Nat)(st:Stmt)(Lc:Loc)(H:MH)(Q:QF):Prop:=V6 V u Lc H (λG=>exec st<|V.f.env G.L) Q
def tM(V:Th)(u:Nat)(ny:sD)(Lc:Loc)(H:MH)(Q:QF):Prop:=V6 V u Lc H (λG=>execs ny<|V.f.env G.L) Q
def yt(K:Loc->MH->Prop)(Q:QF):QF:=λmf L H=>mf.casesOn (K L H) (Q .brk L H) (Q .cont L H) λv=>Q (.ret v) L H
structure pZ(f:Fm)(k:Nat)(x:Str):Prop where
 ns:f.ns[k]?=some x
 kd:f.sc.names.lookup x=some .local
def nJ(ks:LN):gV->Loc->Loc:=ks.rec (λz L=>L) λk z ih vs L=>vs.casesOn L λv vs=>ih vs<|L.set k<|some v
def mh(f:Fm)(es:pP):LN->Bool:=es.rec (λks=>ks.isEmpty) λe z ih ks=>ks.casesOn false λk ks=>oz e λx=>(f.ns[k]?==some x)&&((f.sc.names.lookup x==some .local)&&ih ks)
noncomputable def nW(e:Expr):Bool:=!(e.ctorIdx==8||e.ctorIdx==9||e.ctorIdx==10)
def tN{v:Expr}{t:Option Expr}{l:Nat}{env:Env}(h:nW v=true):swapsWith v t l env=pure false:=by cases v<;>first|rfl|exact(aI h).elim
def Gk{P:pP->LN->Prop}{f:Fm}(nil:P [] [])(cons:∀x p es k ks,pZ f k x->mh f es ks=true->P es ks->P (.Name x p::es) (k::ks))(es:pP):∀ks,mh f es ks=true->P es ks:=by
 induction es with
 |nil=>
  intro ks h;induction ks with
  |nil=>exact nil
  |cons=>exact(aI h).elim
 |cons e es ih=>
  intro ks h;induction ks with
  |nil=>exact(aI h).elim
  |cons k ks=>exact i6 h λx p e h=>e▸have h:=cW.mp h;have h2:=cW.mp h.2;cons x p es k ks ⟨eq_of_beq h.1,eq_of_beq h2.1⟩ h2.2<|ih ks h2.2
def x8{f:Fm}{env:Env}:∀es ks,mh f es ks=true->(assignEach es env).findIdx? (·.1)=none/\(assignEach es env).length=ks.length:=
 Gk (P:=λes ks=>(assignEach es env).findIdx? (·.1)=none/\(assignEach es env).length=ks.length) ⟨rfl,rfl⟩ λx p es k ks y y z=>by rw[show assignEach (.Name x p::es) env=(false,assign (.Name x p) env)::assignEach es env from rfl];exact⟨by rw[List.findIdx?_cons,z.1];rfl,aq (·+1) z.2⟩
end
section
variable{V:Th}{u u':Nat}{G:Gm}{E:qT}{r r':Rh}{Lc:Loc}{H H':MH}{Q Q':QF}{P:Prop}
def At.Zs{t:Sem Flow}{R:Flow->Shared->Prop}(a:At V u G r Lc H)(h:Go V G E r t<|DQ V G Q)(k:∀fl r' mf By H',Le r r'->At V u G r' By H'->x7 r'.U mf fl->Q mf By H'->R fl r'.s):wpAny V.M G.A t R E r.s:=
 h.then λv r' l p=>by induction p with|mk By H' mf T j q=>exact k v r' mf By H' l (a.at_ l T) j q
def At.qS{mf:MF}{fl:Flow}(a:At V u G r' Lc H)(l:Le r r')(j:x7 r'.U mf fl)(q:Q mf Lc H):ku r (DQ V G Q) fl r'.s:=⟨r',rfl,l,Lc,H,mf,a.T,j,q⟩
def V6.mono{t:Gm->Sem Flow}(h:V6 V u Lc H t Q)(k:∀mf L H',Q mf L H'->Q' mf L H'):V6 V u Lc H t Q':=λz z z a=>a.Zs (h _ _ _ a) λz z mf z z l a' j q=>a'.qS l j<|k mf _ _ q
def At.seq{mf:MF}{fl:Flow}{K:Loc->MH->Prop}{R:Flow->Shared->Prop}(a:At V u G r Lc H)(j:x7 r.U mf fl)(q:yt K Q mf Lc H)(k:K Lc H->R .next r.s)(o:∀fl,fl≠.next->x7 r.U mf fl->Q mf Lc H->R fl r.s):R fl r.s:=by
 induction mf with
 |next=>cases j;exact k q
 |brk=>cases j;exact o _ (by intro e;cases e) rfl q
 |cont=>cases j;exact o _ (by intro e;cases e) rfl q
 |ret v=>exact j.elim λx z=>by obtain⟨rfl,z⟩:=z;exact o _ (by intro e;cases e) ⟨x,rfl,z⟩ q
def tM.nil(hq:Q .next Lc H):tM V u [] Lc H Q:=λG E r a=>wpAny_execs_nil<|a.qS (mf:=.next) .refl rfl hq
def tM.cons{st:Stmt}{rest:sD}(h:j8 V u st Lc H<|yt (λL' H'=>tM V u rest L' H' Q) Q):tM V u (st::rest) Lc H Q:=
 λG E r a=>wpAny_execs_cons (a.Zs (h _ _ _ a) λfl r1 mf L1 H1 l1 a1 j q=>a1.seq (R:=λf s'=>match f with|.next=>wpAny V.M G.A (execs rest<|V.f.env G.L) (ku r<|DQ V G Q) E s'|f=>ku r (DQ V G Q) f s') j q (λq=>(q _ _ _ a1).from l1) λfl n j q=>by
  induction fl with
  |next=>exact aG rfl n
  |_=>exact a1.qS l1 j q)
def j8.pass{pos}(hq:Q .next Lc H):j8 V u (.Pass pos) Lc H Q:=λG E r a=>wpAny_Pass<|a.qS (mf:=.next) .refl rfl hq
def j8.brk{pos}(hq:Q .brk Lc H):j8 V u (.Break pos) Lc H Q:=λG E r a=>wpAny_Break<|a.qS (mf:=.brk) .refl rfl hq
def j8.Zt{pos}(hq:Q .cont Lc H):j8 V u (.Continue pos) Lc H Q:=λG E r a=>wpAny_Continue<|a.qS (mf:=.cont) .refl rfl hq
def j8.ret{e:Expr}{pos}(h:gY V u e Lc H λv H'=>Q (.ret v) Lc H'):j8 V u (.Return (some e) pos) Lc H Q:=λG E r a=>wpAny_Return_some<|a.go (h _ _ _ a) λv r1 mv H1 l1 a1 v1 q=>a1.qS (mf:=.ret mv) l1 ⟨v,rfl,v1⟩ q
def j8.KV{pos}(hq:Q (.ret .none) Lc H):j8 V u (.Return none pos) Lc H Q:=λG E r a=>wpAny_Return_none<|a.qS (mf:=.ret .none) .refl ⟨_,rfl,rfl⟩ hq
def j8.ite{c:Expr}{t e:sD}{pos}(h:rN V u c Lc H λb H'=>if b then tM V u t Lc H' Q else tM V u e Lc H' Q):j8 V u (.If c t e pos) Lc H Q:=
 λG E r a=>wpAny_If (a.go (h _ _ _ a) λb r1 b' H1 l1 a1 e q=>by
  subst e;induction b' with
  |true=>exact(q _ _ _ a1).from l1
  |false=>exact(q _ _ _ a1).from l1)
def xm{α:Type}{l:List α}(h:l.Nodup){i j:Nat}{x:α}(hi:l[i]?=some x)(hj:l[j]?=some x):i=j:=by
 obtain⟨a,ea⟩:=bG.mp hi;obtain⟨b,eb⟩:=bG.mp hj;have p:=List.pairwise_iff_getElem.mp h;rcases Nat.lt_trichotomy i j with q|q|q
 ·exact aG (ea.trans eb.symm)<|p i j a b q
 ·exact q
 ·exact aG (eb.trans ea.symm)<|p j i b a q
def zD{v:Value}{a b:Str}(h:v.isStr a=true)(n:a≠b):v.isStr b=false:=by
 cases q:v.isStr b with
 |false=>rfl
 |true=>exact aG (Value.isStr_inj v a b h q) n
section
variable{nm:Str}{h:Int}{t:Tok}{v:Value}
def tO{P:List DictEntry->List DictEntry->Prop}(nil:P []<|putL nm h (.str nm t) v [])(hit:∀e r,e.key.isStr nm=true->P (e::r) ({e with val:=v}::r))(miss:∀e r,e.key.isStr nm=false->P r (putL nm h (.str nm t) v r)->P (e::r) (e::putL nm h (.str nm t) v r))(es:List DictEntry):P es (putL nm h (.str nm t) v es):=by
 induction es with
 |nil=>exact nil
 |cons e r ih=>
  unfold putL;cases q:e.key.isStr nm with
  |true=>exact hit e r q
  |false=>exact miss e r q ih
def Dm:(Value.str nm t).isStr nm=true:=by simp[Value.isStr]
def BX{e:DictEntry}{r:List DictEntry}{x:Str}(q:e.key.isStr x=true):(e::r).find? (·.key.isStr x)=some e:=List.find?_cons_of_pos q
def vd{e:DictEntry}{r:List DictEntry}{x:Str}(q:e.key.isStr x=false):(e::r).find? (·.key.isStr x)=r.find? (·.key.isStr x):=List.find?_cons_of_neg<|by rw[q];exact aI
def ID:∀es:List DictEntry,((putL nm h (.str nm t) v es).find? (·.key.isStr nm)).map (·.val)=some v:=
 tO (P:=λz l=>(l.find? (·.key.isStr nm)).map (·.val)=some v) (by rw[show putL nm h (.str nm t) v []=[⟨h,.str nm t,v⟩]from rfl,BX Dm];rfl) (λe r q=>by rw[BX (e:={e with val:=v}) q];rfl) λe r q ih=>by rw[vd q];exact ih
def IF{x:Str}(n:x≠nm):∀es:List DictEntry,((putL nm h (.str nm t) v es).find? (·.key.isStr x)).map (·.val)=(es.find? (·.key.isStr x)).map (·.val):=
 tO (P:=λes l=>(l.find? (·.key.isStr x)).map (·.val)=(es.find? (·.key.isStr x)).map (·.val)) (by rw[show putL nm h (.str nm t) v []=[⟨h,.str nm t,v⟩]from rfl,vd<|zD Dm n.symm])
  (λe r q=>by rw[vd (e:={e with val:=v})<|zD q n.symm,vd<|zD q n.symm]) λe r q ih=>by
   cases w:e.key.isStr x with
   |true=>rw[BX w,BX w]
   |false=>rw[vd w,vd w];exact ih
def any_put:∀es:List DictEntry,(putL nm h (.str nm t) v es).any (·.refKey)=es.any (·.refKey):=tO (P:=λes l=>l.any (·.refKey)=es.any (·.refKey)) rfl (λz z z=>rfl) λe r z ih=>aq (e.refKey||·) ih
def yT(x:Str)(es:List DictEntry):getL x es=((es.find? (·.key.isStr x)).map (·.val)).elim (if es.any (·.refKey)then none else some none) λv=>some (some v):=by unfold getL;cases es.find? (·.key.isStr x)<;>rfl
def IG(es:List DictEntry):getL nm (putL nm h (.str nm t) v es)=some (some v):=by rw[yT,ID];rfl
def A3{x:Str}(n:x≠nm)(es:List DictEntry):getL x (putL nm h (.str nm t) v es)=getL x es:=by rw[yT,yT,IF n,any_put]
def II:∀es:List DictEntry,(putL nm h (.str nm t) v es).length<=es.length+1:=tO (P:=λes l=>l.length<=es.length+1) (aD _) (λz z z=>bX _) λz z z ih=>aP ih
def IJ:∀{es:List DictEntry} {w:Value},getL nm es=some (some w)->(putL nm h (.str nm t) v es).length=es.length:=λ{es w} e=>
 tO (P:=λes l=>((es.find? (·.key.isStr nm)).map (·.val)).isSome=true->l.length=es.length) (λe=>by cases e) (λy y y y=>rfl) (λe r q ih z=>aq (·+1)<|ih<|by rw[vd q]at z;exact z) es (by
  rw[yT]at e;cases q:(es.find? (·.key.isStr nm)).map (·.val)with
  |some _=>rfl
  |none=>rw[q]at e;dsimp only[Option.elim]at e;split at e<;>cases e)
end
def O0.set{f:Fm}{U:jK}{m:Str->Option Value}{x:Str}{k:Nat}{v:MV}{wv:Value}(hL:O0 f U Lc m)(hn:f.ns.Nodup)(hk:f.ns[k]?=some x)(hv:VR U v wv):O0 f U (Lc.set k<|some v) (λy=>if y=x then some wv else m y):=λj y w hj hu=>by
 by_cases q:j=k
 ·subst q;cases hk.symm.trans hj;rw[List.getElem?_set]at hu;rw[aF rfl]at hu;by_cases ho:j<Lc.length
  ·rw[aF ho]at hu;cases hu;exact⟨wv,aF rfl,hv⟩
  ·rw[aE ho]at hu;cases hu
 ·rw[dP<|f5 q]at hu;exact(hL j y w hj hu).elim λz c=>⟨z,(aE λe:y=x=>q<|xm hn hj<|e▸hk).trans c.1,c.2⟩
def At.store{x:Str}{k:Nat}{v:MV}{wv:Value}{R:Unit->Shared->Prop}(a:At V u G r Lc H)(n:pZ V.f k x)(v1:VR r.U v wv)(hq:∀r',Le r r'->r'.U=r.U->At V u G r' (Lc.set k<|some v) H->R () r'.s):wpAny V.M G.A (storeName (V.f.env G.L) x wv) R E r.s:=
 storeX_L a.T.F a.T.N (λh' F' N'=>have l:Le r ⟨r.U,λy=>if y=x then some wv else r.m y,{r.s with heap:=h',toks:=r.s.toks+1}⟩:=⟨.refl,rfl,rfl⟩
  hq _ l rfl (a.at_ l ⟨F',N',a.T.R,a.T.loc.set a.C.nodup n.ns v1⟩)) a.C.uD n.kd
def At.qD{x:Str}{p:Pos}{k:Nat}{v:MV}{wv:Value}{R:Unit->Shared->Prop}(a:At V u G r Lc H)(n:pZ V.f k x)(v1:VR r.U v wv)(hq:∀r',Le r r'->r'.U=r.U->At V u G r' (Lc.set k<|some v) H->R () r'.s):wpAny V.M G.A (assign (.Name x p) (V.f.env G.L) wv) R E r.s:=
 PyProof.Rows.assign_Name (a.store n v1 hq)
def j8.Dn{x:Str}{k:Nat}{p pos:Pos}{e:Expr}(n:pZ V.f k x)(hn:nW e=true)(h:gY V u e Lc H λv H1=>Q .next (Lc.set k<|some v) H1):j8 V u (.Assign [.Name x p] e pos) Lc H Q:=
 λG E r a=>wpAny_Assign_Name (a.go (h _ _ _ a) λv r1 mv H1 l1 a1 v1 q=>a1.store n v1 λr2 l2 z a2=>a2.qS (mf:=.next) (l1.trans l2) rfl q)<|tN hn
def uR{i c k:Nat}{p:Addr×Addr}{fs:List (Nat×MV)}{x:Str}{v:MV}{wv:Value}{R:Unit->Shared->Prop}(O:Ke V.S V.w)(a:At V u G r Lc H)(h:H.at_ i=some (.inst c fs))(hp:r.U.jY i=some p)(ht:V.S.tab c k=true)(hk:V.S.nm[k]?=some x)(hl:fs.length<tD)(hv:VR r.U v wv)
  (hq:∀r',Le r r'->At V u G r' Lc (H.put i<|.inst c<|rD k v fs)->R () r'.s):wpAny V.M G.A (setAttr (.ref p.1) x wv) R E r.s:=by
 obtain⟨p',es,n,uY,h2,h3,fr,h5,h6,ow⟩:=(a.T.R.obj i _ h:vF _ _ _ _ _);cases ay (hp.symm.trans uY);have F:=O.tab c k x ht hk;have hs:(getL x es).isSome=true:=by
  cases q:fs.lookup k with
  |some w=>exact(fr.yes k x w hk q).elim λw z=>by rw[z.1];rfl
  |none=>rw[fr.no k x hk q];rfl
 have hlen:(putL x (PyData.keyHash V.w.params x) (.str x<|r.s.toks+1) wv es).length<=(rD k v fs).length:=by
  cases q:fs.lookup k with
  |some w=>exact(fr.yes k x w hk q).elim λw z=>aa (dH<|IJ z.1)<|aa h5<|OV k v fs
  |none=>rw[Ib fs q];exact aa (II ..)<|aP h5
 have h9:(rD k v fs).length<=tD:=aa (OU k v fs) hl;refine set_dict (es':=putL x (PyData.keyHash V.w.params x) (.str x<|r.s.toks+1) wv es) (n':=putN x es n) a.T.F a.C.X a.T.N (InstAt.of_news a.T.N h2 h3) rfl F.set F.over F.YT F.dict hs rfl (uo (dictOf (putL x (PyData.keyHash V.w.params x) (.str x<|r.s.toks+1) wv es)<|putN x es n)<|rU a.T.R.nodup h3) (aa hlen<|aa h9<|by decide) λh' F' N'=>?_;have Z:=a.upd (tk:=r.s.toks+2) h rfl ⟨p,hp,.inr rfl⟩ h3 (o':=.inst c<|rD k v fs) (λe=>aG (cu e)<|by decide) (λe=>aG (cu e)<|by decide) rfl F' N' λxT m' kp=>vF.mk p _ _ hp (kp _ _ (λe=>by rw[e]at h2;cases rE a.T.R.nodup h2 h3) h2) m' ⟨λj y w hj hu=>by
   by_cases q:j=k
   ·subst q;cases hk.symm.trans hj;rw[xe]at hu;cases hu;exact⟨wv,IG ..,hv.ext xT⟩
   ·rw[rR v q]at hu;exact(fr.yes j y w hj hu).elim λw z=>⟨w,(A3 (λe=>q<|xm O.nodup (e▸hj) hk) ..).trans z.1,z.2.ext xT⟩,λj y hj hu=>by
   by_cases q:j=k
   ·subst q;rw[xe]at hu;cases hu
   ·rw[rR v q]at hu;exact(A3 (λe=>q<|xm O.nodup (e▸hj) hk) ..).trans (fr.no j y hj hu)⟩ hlen h9 λj w hu=>by
   by_cases q:j=k
   ·exact q▸ht
   ·rw[rR v q]at hu;exact ow j w hu
 exact hq _ Z.l Z.a
end
def IK{es:pP}{k:Nat}{p:Pos}{v:Expr}{env:Env}(h:EJ v=true):swappedStores [.Tuple es k p] v env=pure none:=by cases v<;>first|rfl|exact(aI h).elim
def zE(K:Loc->MH->Prop)(Q:QF):QF:=λmf L H=>mf.casesOn (K L H) (Q .next L H) (K L H) λv=>Q (.ret v) L H
section
variable{V:Th}{u u':Nat}{G:Gm}{E:qT}{r r':Rh}{Lc:Loc}{H H':MH}{Q Q':QF}{P:Prop}
def j8.Dp(O:j3 V.S V.w){x:Str}{k:Nat}{p pos:Pos}{o e:Expr}(hk:V.S.nm[k]?=some x)(hn:nW e=true)
  (h:gY V u e Lc H λv H1=>gY V u o Lc H1 λov H2=>pR ov k H2 λi c fs=>V.S.tab c k=true/\fs.length<tD/\Q .next Lc (H2.put i<|.inst c<|rD k v fs)):j8 V u (.Assign [.Attribute o x p] e pos) Lc H Q:=
 λG E r a=>plainObj_wpAny_Assign_Attribute (a.go (h _ _ _ a) λv r1 mv H1 l1 a1 v1 q=>a1.go (q _ _ _ a1) λov r2 mo H2 l2 a2 v2 q=>YZ (P:=λmo=>VR r2.U mo ov->wpAny V.M G.A (setAttr ov x v) _ E r2.s) q (λi c fs hi q v2=>kh (P:=λov=>wpAny V.M G.A (setAttr ov x v) _ E r2.s) v2 λp hp=>uR O.toKe a2 hi hp q.1 hk q.2.1 (v1.ext l2.x) λr3 l3 a2=>a2.qS (mf:=.next) (l1.trans<|l2.trans l3) rfl q.2.2) v2)<|tN hn
def j8.expr{e:Expr}{pos:Pos}(hn:nW e=true)(h:gY V u e Lc H λz H1=>Q .next Lc H1):j8 V u (.Expr e pos) Lc H Q:=
 λG E r a=>wpAny_Expr_any (a.go (h _ _ _ a) λv r1 mv H1 l1 a1 v1 q=>a1.qS (mf:=.next) l1 rfl q) (by unfold interactive;show((V.f.sc.kind==.module)&&_)=false;rw[a.C.uD];rfl)<|tN hn
def j8.KW{x:Str}{k:Nat}{p pos:Pos}{op:Operator}{e:Expr}{w:MV}(n:pZ V.f k x)(hu:Lc[k]?=some (some w))(h:gY V u e Lc H λb H1=>jl V u Lc H1 [w,b] (Vw op) VR λv H2=>Q .next (Lc.set k<|some v) H2):j8 V u (.AugAssign (.Name x p) op e pos) Lc H Q:=
 λG E r a=>(a.T.loc k x w n.ns hu).elim λwu z=>wpAny_AugAssign_Name<|eT a.C.uD n.kd a.T.F.ns z.1<|a.go (h _ _ _ a) λb r1 mb H1 l1 a1 v1 q=>a1.go (q _ _ _ [wu,b] a1<|.two (z.2.ext l1.x) v1) λv r2 mv H2 l2 a2 v2 q=>a2.store n v2 λr3 l3 y a2=>a2.qS (mf:=.next) (l1.trans<|l2.trans l3) rfl q
def j8.KX(O:j3 V.S V.w){x:Str}{k:Nat}{p pos:Pos}{op:Operator}{o e:Expr}(hk:V.S.nm[k]?=some x)
  (h:gY V u o Lc H λov H1=>pR ov k H1 λi c fs=>jA (fs.lookup k) λw=>gY V u e Lc H1 λb H2=>jl V u Lc H2 [w,b] (Vw op) VR λv H3=>qz (H3.at_ i) λc' fs'=>c'=c/\V.S.tab c k=true/\fs'.length<tD/\Q .next Lc (H3.put i<|.inst c<|rD k v fs')):j8 V u (.AugAssign (.Attribute o x p) op e pos) Lc H Q:=
 λG E r a=>wpAny_AugAssign_AttributeAny (a.go (h _ _ _ a) λov r1 mo H1 l1 a1 v1 q=>YZ (P:=λmo=>VR r1.U mo ov->wpAny V.M G.A (getAttr ov x true) _ E r1.s) q (λi c fs hi q v1=>jE q λw hu q=>kh (P:=λov=>wpAny V.M G.A (getAttr ov x true) (λold s₁=>wpAny V.M G.A (eval e<|V.f.env G.L) (λb s₂=>wpAny V.M G.A (inplaceOp op old b) (λv s₃=>wpAny V.M G.A (setAttr ov x v) (λz s₄=>ku r (DQ V G Q) .next s₄) E s₃) E s₂) E s₁) E r1.s) v1 λp hp=>ri O.toKe a1 hi hu hk hp λold tk vo=>(a1.tk tk).go (q _ _ _<|a1.tk tk) λb r2 mb H2 l2 a2 v2 q=>a2.go (q _ _ _ [old,b] a2<|.two (VR.ext l2.x vo) v2) λv r3 mv H3 l3 a2 v3 q=>CU q λc' fs' hi' q=>by obtain⟨rfl,ht,hl,q⟩:=q;exact uR O.toKe a2 hi' ((Le.tk.trans<|l2.trans l3).x.jY i p hp) ht hk hl v3 λr4 l4 a4=>a4.qS (mf:=.next) (l1.trans<|Le.tk.trans<|l2.trans<|l3.trans l4) rfl q) v1)
def j8.assign2{x y:Str}{k j:Nat}{p p' pos:Pos}{e:Expr}(n1:pZ V.f k x)(n2:pZ V.f j y)(h:gY V u e Lc H λv H1=>Q .next ((Lc.set k<|some v).set j<|some v) H1):j8 V u (.Assign [.Name x p,.Name y p'] e pos) Lc H Q:=
 λG E r a=>wpAny_Assign_two (a.go (h _ _ _ a) λv r1 mv H1 l1 a1 v1 q=>a1.qD n1 v1 λr2 l2 e2 a2=>a2.qD n2 (e2.symm▸v1) λr3 l3 z a2=>a2.qS (mf:=.next) (l1.trans<|l2.trans l3) rfl q) rfl rfl
def j8.PC{x y z:Str}{k j i:Nat}{p p' p'' pos:Pos}{e:Expr}(n1:pZ V.f k x)(n2:pZ V.f j y)(n3:pZ V.f i z)(h:gY V u e Lc H λv H1=>Q .next (((Lc.set k<|some v).set j<|some v).set i<|some v) H1):j8 V u (.Assign [.Name x p,.Name y p',.Name z p''] e pos) Lc H Q:=
 λG E r a=>wpAny_Assign_three (a.go (h _ _ _ a) λv r1 mv H1 l1 a1 v1 q=>a1.qD n1 v1 λr2 l2 e2 a2=>a2.qD n2 (e2.symm▸v1) λr3 l3 e3 a2=>a2.qD n3 (e3.symm▸e2.symm▸v1) λr4 l4 w a4=>a4.qS (mf:=.next) (l1.trans<|l2.trans<|l3.trans l4) rfl q) rfl rfl
def x9:∀(es:pP) (ks:LN),mh V.f es ks=true->∀vs ws Lc r {R:Unit->Shared->Prop},At V u G r Lc H->jr r.U vs ws->vs.length=ks.length->(∀r',Le r r'->At V u G r' (nJ ks vs Lc) H->R () r'.s)->wpAny V.M G.A (assignInOrder ((assignEach es<|V.f.env G.L).map (·.2)) ws) R E r.s:=
 Gk (P:=λes ks=>∀vs ws Lc r {R:Unit->Shared->Prop},At V u G r Lc H->jr r.U vs ws->vs.length=ks.length->(∀r',Le r r'->At V u G r' (nJ ks vs Lc) H->R () r'.s)->wpAny V.M G.A (assignInOrder ((assignEach es<|V.f.env G.L).map (·.2)) ws) R E r.s)
  (λvs ws Lc r R a j hl k=>by
   cases vs with
   |nil=>cases j;exact aH<|k r .refl a
   |cons=>cases hl) λx p es k ks n z ih vs ws Lc r R a j hl q=>by
   cases vs with
   |nil=>cases hl
   |cons v vs=>refine lu j λwv F8 e v1 vr=>?_;subst e;exact af (m:=holding F8<|assign (.Name x p) (V.f.env G.L) wv)<|aS<|a.qD n v1 λr2 l2 e2 a2=>ih vs F8 _ r2 a2 (e2.symm▸vr) (fK hl) λr3 l3 a2=>q r3 (l2.trans l3) a2
def assign_tuple{es:pP}{ks:LN}{vs:gV}{wv:Value}{k:Nat}{pos:Pos}{R:Unit->Shared->Prop}(qt:V.S.quiet=true)(a:At V u G r Lc H)(hn:mh V.f es ks=true)(v1:VR r.U (.tup vs) wv)(hl:vs.length=ks.length)
  (hq:∀r',Le r r'->At V u G r' (nJ ks vs Lc) H->R () r'.s):wpAny V.M G.A (assign (.Tuple es k pos) (V.f.env G.L) wv) R E r.s:=xY v1 λd ws e m w=>by
 subst e;have p:=x8 (env:=V.f.env G.L) es ks hn;refine unpackN_ (items:=ws.toArray) a.T.F a.T.N ⟨_,(a.T.N _ m).1,rfl,_,rfl⟩ (a.C.quiet qt) (by rw[p.2,bR,w.length,hl]) p.1 λh' F' N'=>?_;rw[bT];have l:Le r ⟨r.U,r.m,{r.s with heap:=h'}⟩:=⟨.refl,rfl,rfl⟩;exact x9 es ks hn vs ws Lc _ (a.at_ l ⟨F',N',a.T.R,a.T.loc⟩) w hl λr2 l2 a2=>hq r2 (l.trans l2) a2
def j8.EP{es:pP}{ks:LN}{k:Nat}{p pos:Pos}{e:Expr}(qt:V.S.quiet=true)(hn:EJ e=true)(hc:nW e=true)(hs:mh V.f es ks=true)(h:gY V u e Lc H λv H1=>Ic v λvs=>vs.length=ks.length/\Q .next (nJ ks vs Lc) H1):j8 V u (.Assign [.Tuple es k p] e pos) Lc H Q:=
 λG E r a=>Assign_Tuple (a.go (h _ _ _ a) λv r1 mv H1 l1 a1 v1 q=>Vu q λvs e q=>assign_tuple qt a1 hs (e▸v1) q.1 λr2 l2 a2=>a2.qS (mf:=.next) (l1.trans l2) rfl q.2) (show swapsWith e (some<|.Tuple es k p) pos.line (V.f.env G.L)=pure false from tN hc)<|IK hn
def j8.zG{o i e:Expr}{p pos:Pos}(hn:nW e=true)(h:gY V u e Lc H λv H1=>gY V u o Lc H1 λov H2=>gY V u i Lc H2 λiv H3=>EC ov iv v H3 λH4=>Q .next Lc H4):j8 V u (.Assign [.Subscript o i p] e pos) Lc H Q:=
 λG E r a=>wpAny_Assign_Subscript (a.go (h _ _ _ a) λv r1 mv H1 l1 a1 v1 q=>a1.go (q _ _ _ a1) λov r2 mo H2 l2 a2 v2 q=>a2.go (q _ _ _ a2) λiv r3 mi H3 l3 a2 v3 q=>a2.go (Pk (V:=V) (u:=u) (Lc:=Lc) q _ _ _ [ov,iv,v] a2<|oG (v2.ext l3.x)<|.two v3<|v1.ext (l2.trans l3).x) λz r4 z H4 l4 a4 z q=>a4.qS (mf:=.next) (l1.trans<|l2.trans<|l3.trans l4) rfl q)<|tN hn
def j8.PD{o i:Expr}{p pos:Pos}(h:gY V u o Lc H λov H2=>gY V u i Lc H2 λiv H3=>Ik ov iv H3 λH4=>Q .next Lc H4):j8 V u (.Delete [.Subscript o i p] pos) Lc H Q:=
 λG E r a=>wpAny_Delete<|wpAny_deleteEach_cons<|wpAny_delete_Subscript<|a.go (h _ _ _ a) λov r2 mo H2 l2 a2 v2 q=>a2.go (q _ _ _ a2) λiv r3 mi H3 l3 a2 v3 q=>a2.go (Pn (V:=V) (u:=u) (Lc:=Lc) q _ _ _ [ov,iv] a2<|.two (v2.ext l3.x) v3) λz r4 z H4 l4 a4 z q=>wpAny_deleteEach_nil<|a4.qS (mf:=.next) (l2.trans<|l3.trans l4) rfl q
def j8.PE{e:Expr}{msg:Option Expr}{pos:Pos}(h:rN V u e Lc H λb H1=>b=true/\Q .next Lc H1):j8 V u (.Assert e msg pos) Lc H Q:=
 λG E r a=>wpAny_Assert_holds<|a.go (h _ _ _ a) λb r1 b' H1 l1 a1 e q=>⟨e.symm.trans q.1,a1.qS (mf:=.next) l1 rfl q.2⟩
def Tr(V:Th)(u:Nat)(c:Expr)(body orelse:sD)(Lc:Loc)(H:MH)(Q:QF):Prop:=∀G E r,At V u G r Lc H->∀k,WhlRest V.S.prog V.w G.A E (V.f.env G.L) c body orelse (ku r<|DQ V G Q) k r.s
def Tr.turn{c:Expr}{body orelse:sD}(h:rN V u c Lc H λb H'=>if b then tM V u body Lc H' (zE (λL2 H2=>Tr V u c body orelse L2 H2 Q) Q)else tM V u orelse Lc H' Q):Tr V u c body orelse Lc H Q:=λG E r a k=>by
 refine codeAny_of_tree (?_:wpAny _ G.A ((whileTurn c body orelse<|V.f.env G.L).onRaise λx=>do noteFrame x (V.f.env G.L);theTreesLotGoes x) _ _ r.s);refine wpAny_noted ?_;delta whileTurn;refine af<|a.go (h _ _ _ a) λb r1 b' H1 l1 a1 e q=>?_;subst e;induction b' with
 |false=>exact af<|cZ ((q:tM ..) _ _ _ a1) (λfl s z=>aH<|z.from l1) λy y z=>z
 |true=>
  refine af<|a1.Zs ((q:tM ..) _ _ _ a1) λfl r2 mf L2 H2 l2 a2 j q=>?_;have again:Tr V u c body orelse L2 H2 Q->WhlRest V.S.prog V.w G.A E (V.f.env G.L) c body orelse (ku r<|DQ V G Q) k r2.s:=λq=>bY (q _ _ _ a2 k) λo s' z=>by
   induction o with
   |error e=>exact z
   |ok fl=>exact ku.from (l1.trans l2) z
  induction mf with
  |next=>cases j;exact aH ⟨rfl,again q⟩
  |cont=>cases j;exact aH ⟨rfl,again q⟩
  |brk=>cases j;exact aH<|a2.qS (mf:=.next) (l1.trans l2) rfl q
  |ret v=>exact j.elim λx z=>by obtain⟨rfl,z⟩:=z;exact aH<|a2.qS (mf:=.ret v) (l1.trans l2) ⟨x,rfl,z⟩ q
def j8.V7{c:Expr}{body orelse:sD}{pos:Pos}(h:Tr V u c body orelse Lc H Q):j8 V u (.While c body orelse pos) Lc H Q:=λG E r a=>whl_start 0<|h G E r a 0
def j8.V8{body orelse:sD}{hd:ExceptHandler}{hs:List ExceptHandler}{pos:Pos}(h:tM V u body Lc H<|yt (λL' H'=>tM V u orelse L' H' Q) Q):j8 V u (.Try body (hd::hs) orelse [] pos) Lc H Q:=
 λG E r a=>wpAny_Try_except (a.Zs (h _ _ _ a) λfl r1 mf L1 H1 l1 a1 j q=>by
  exact a1.seq (R:=λf s'=>match f with|.next=>wpAny V.M G.A (execs orelse<|V.f.env G.L) (ku r<|DQ V G Q) E s'|f=>ku r (DQ V G Q) f s') j q (λq=>(q _ _ _ a1).from l1) λfl n j q=>by
   induction fl with
   |next=>exact aG rfl n
   |_=>exact a1.qS l1 j q)
noncomputable def o5(e:Expr):Bool:=!(e.ctorIdx==7)
def mC{e:Expr}{env:Env}{x:Value}(h:o5 e=true):foldedSetIterable e env x=pure x:=by cases e<;>first|rfl|exact(aI h).elim
def pK(V:Th)(u:Nat)(body:sD)(us:List<|Loc->Loc):Loc->MH->QF->Prop:=us.rec (λLc H Q=>Q .next Lc H) λg z ih Lc H Q=>tM V u body (g Lc) H<|zE (λL' H'=>ih L' H' Q) Q
def qE(V:Th)(G:Gm)(r:Rh)(Q:QF)(o:Result)(s:Shared):Prop:=o.casesOn kG λfl=>ku r (DQ V G Q) fl s
inductive V9(V:Th)(u:Nat)(G:Gm)(r:Rh)(wr:List Addr)(pC:Nat->Heap->Prop)(body:sD)(us:List<|Loc->Loc)(Q:QF)(k:Nat)(s:Shared):Prop
 |mk (i:Nat) (r1:Rh) (L1:Loc) (H1:MH):r1.s=s->St V G r1 L1 H1->Le r r1->(∀p∈r1.U.news,p.1∉wr)->pC i s.heap->i<=us.length->k=us.length-i->pK V u body (us.drop i) L1 H1 Q->V9 V u G r wr pC body us Q k s
def St.mT{U':jK}(T:St V G r Lc H)(N:News G.h₀ G.L r.s.heap U'.news)(R:lY V.S V.w U' H')(x:ou r.U U'):St V G ⟨U',r.m,r.s⟩ Lc H':=⟨T.F,N,R,λk y v hy hv=>(T.loc k y v hy hv).elim λw z=>⟨w,z.1,z.2.mT x⟩⟩
def St.off{wr:List Addr}{h':Heap}{tk:Nat}(T:St V G r Lc H)(hL:G.L∉wr)(hwr:∀b∈wr,G.h₀.get? b=none)(hnw:∀p∈r.U.news,p.1∉wr)(hk:∀b o,b∉wr->r.s.heap.get? b=some o->h'.get? b=some o):St V G ⟨r.U,r.m,{r.s with heap:=h',toks:=tk}⟩ Lc H:=
 ⟨⟨T.F.ns.at' λo e=>hk _ o hL e,λb o e=>hk b o (λhb=>nomatch(hwr b hb).symm.trans e)<|T.F.keep b o e,T.F.above⟩,λp hp=>⟨hk _ _ (hnw p hp) (T.N p hp).1,(T.N p hp).2⟩,T.R,T.loc⟩
def yb{h₀:Heap}{wr:List Addr}{h:Heap}(hn:wr.Nodup):((PyProof.Rows.ownOf h₀ wr h).map (·.1)).Nodup:=by
 refine hn.sublist ?_;clear hn;unfold PyProof.Rows.ownOf;induction wr with
 |nil=>exact .slnil
 |cons b r ih=>
  rw[List.filterMap_cons]
  set_option tactic.hygienic true in split
  ·exact ih.cons b
  ·rename_i x hx
   have:x.1=b:=by
    split at hx
    ·obtain⟨o,_,e⟩:=bu.mp hx;rw[<-e]
    ·cases hx
   rw[cG,this];exact ih.cons₂ b
def uw{h₀:Heap}{wr:List Addr}{h:Heap}{p:Addr×Obj}(hp:p∈PyProof.Rows.ownOf h₀ wr h):p.1∈wr/\h.get? p.1=some p.2:=by
 obtain⟨b,hb,e⟩:=List.mem_filterMap.mp hp;split at e
 ·obtain⟨o,ho,e⟩:=bu.mp e;rw[<-e];exact⟨hb,ho⟩
 ·cases e
structure Its(G:Gm)(r:Rh)(fp wr:List Addr)(pC:Nat->Heap->Prop):Prop where
 off:G.L∉wr
 new:∀b∈wr,G.h₀.get? b=none
 nd:wr.Nodup
 nw:∀p∈r.U.news,p.1∉wr
 fps:∀b∈fp,b∈wr∨(∃o,(b,o)∈r.U.iw)∨∃o,G.h₀.get? b=some o
 nv:∀i h,pC i h->∀b∈wr,∃o,h.get? b=some o/\qy o
def KY{target:Expr}{I:Addr}{fp wr:List Addr}{us:List (Loc->Loc)}{Pt Md:Nat->Value->Heap->Prop}{pC:Nat->Heap->Prop}(W:KTurns V.S.prog V.w G.A target I fp wr us.length Pt Md pC)(I0:Its G r fp wr pC)
  {i:Nat}(hlt:i<us.length){r1 r3 r5:Rh}{L1:Loc}{H1 H5:MH}{L5:Loc}{own:ig}(l1:Le r r1)(hn1:∀p∈r1.U.news,p.1∉wr)(R1:lY V.S V.w r1.U H1)(eo:own=PyProof.Rows.ownOf G.h₀ wr r3.s.heap)(e3:r3.U=⟨r1.U.jY,own++r1.U.news,r1.U.iw,r1.U.fix,own++r1.U.its⟩)(x3:ou r1.U r3.U)(g3:r3.s.gens=r1.s.gens)(o3:r3.s.os=r1.s.os)
  (Yp:pC (i+1) r3.s.heap)(T3:St V G r3 L1 H1)(l5:Le r3 r5)(T5:St V G r5 L5 H5)(k:∀r6:Rh,r6.s=r5.s->(∀mf fl,x7 r5.U mf fl->x7 r6.U mf fl)->Le r r6->St V G r6 L5 H5->(∀p∈r6.U.news,p.1∉wr)->pC (i+1) r6.s.heap->P):P:=by
 have ei:r5.U.its=own++r1.U.its:=l5.x.its.trans<|by rw[e3]
 have ep:r5.U.iw=r1.U.iw:=l5.x.iw.trans<|by rw[e3]
 have ef:r5.U.fix=r1.U.fix:=l5.x.fix.trans<|by rw[e3]
 have ow:∀p∈own,p.1∈wr/\r3.s.heap.get? p.1=some p.2:=λp hp=>uw<|eo▸hp;have mo:∀b∈wr,∀o,r3.s.heap.get? b=some o->(b,o)∈own:=λb hb o ho=>eo.symm▸mem_ownOf hb (I0.new b hb) ho;have Z:=T5.R.OZ ei (λb hb=>(I0.nv _ _ Yp b hb).elim λo z=>⟨o,mo b hb o z.1⟩) (λp hp=>⟨(ow p hp).1,(I0.nv _ _ Yp p.1 (ow p hp).1).elim λo z=>(ay<|z.1.symm.trans (ow p hp).2)▸z.2⟩) λp hp=>hn1 p<|R1.pin p<|hp.imp (λh=>ep▸h)<|Or.imp (λh=>ef▸h) id;have l6:Le r ⟨⟨r5.U.jY,rF wr r5.U.news,r5.U.iw,r5.U.fix,r1.U.its⟩,r5.m,r5.s⟩:=⟨⟨((l1.x.toou.trans x3).trans l5.x.toou).trans Z.x,ep.trans l1.x.iw,l1.x.its⟩,l5.g.trans<|g3.trans l1.g,l5.o.trans<|o3.trans l1.o⟩;have T6:=T5.mT (λp hp=>T5.N p (jm.mp hp).1) Z.R Z.x;refine k ⟨⟨r5.U.jY,rF wr r5.U.news,r5.U.iw,r5.U.fix,r1.U.its⟩,r5.m,r5.s⟩ rfl (λmf fl j=>?_) l6 T6 (λp hp=>(jm.mp hp).2)<|W.frame _ _ _ Yp λb hb o e=>(I0.fps b hb).elim (λh=>(T5.N _<|T5.R.pin (b,o)<|.inr<|.inr<|ei.symm▸bW _ (mo b h o e)).1) λh=>h.elim (λh=>h.elim λo' h=>?_) λh=>h.elim λo' h=>(T5.F.keep b o' h).trans<|(T3.F.keep b o' h).symm.trans e
 ·induction mf with
  |ret v=>exact j.elim λx z=>⟨x,z.1,z.2.mT Z.x⟩
  |_=>exact j
 ·have h1:(b,o')∈r5.U.iw:=ep▸l1.x.iw▸h;have h2:=(T5.N _<|T5.R.pin _<|.inl h1).1;have h3:=(T3.N _<|T3.R.pin (b,o')<|.inl<|by rw[e3];exact l1.x.iw▸h).1;exact h2.trans<|h3.symm.trans e
def qF{target:Expr}{body:sD}{I:Addr}{fp wr:List Addr}{us:List (Loc->Loc)}{Pt Md:Nat->Value->Heap->Prop}{pC:Nat->Heap->Prop}(W:KTurns V.S.prog V.w G.A target I fp wr us.length Pt Md pC)(I0:Its G r fp wr pC)(hst:pC 0 r.s.heap)(a:At V u G r Lc H)
  (hit:∀i g v r1 L1 H1 E' (R:Unit->Shared->Prop),us[i]?=some g->Pt i v r1.s.heap->At V u G r1 L1 H1->ou r.U r1.U->(∀r',Le r1 r'->At V u G r' (g L1) H1->R () r'.s)->wpAny V.M G.A (assign target (V.f.env G.L) v) R E' r1.s)
  (hF:pK V u body us Lc H Q):codeAny V.M G.A (.forLoop target (.ref I) body []<|V.f.env G.L) (qE V G r Q) r.s:=by
 refine codeAny_forLoop_any (V9 V u G r wr pC body us Q) (λk s1 z=>?_) us.length ⟨0,r,Lc,H,rfl,a.T,.refl,I0.nw,hst,cg _,rfl,hF⟩;obtain⟨i,r1,L1,H1,rfl,T1,l1,hn1,st1,hi,rfl,F1⟩:=z;by_cases hlt:i<us.length
 ·refine W.item i _ _ _ hlt st1 λv h₁ tk₁ hMd hk₁=>W.go i v _ _ _ hMd λh₂ hP st2 hk₂=>?_;have T2:=T1.off (h':=h₂) (tk:=tk₁) I0.off I0.new hn1 λb o hb e=>hk₂ b o hb<|hk₁ b o hb e;have nd:(((PyProof.Rows.ownOf G.h₀ wr h₂)++r1.U.news).map (·.1)).Nodup:=by rw[bJ];exact fz.mpr ⟨yb I0.nd,T1.R.nodup,λx hx y hy e=>(bU.mp hx).elim λp hp=>(bU.mp hy).elim λq hq=>hn1 q hq.1<|hq.2.trans (e.symm.trans hp.2.symm)▸(uw hp.1).1⟩
  have Z:=T2.R.yR nd;have T3:=T2.mT (U':=⟨r1.U.jY,PyProof.Rows.ownOf G.h₀ wr h₂++r1.U.news,r1.U.iw,r1.U.fix,PyProof.Rows.ownOf G.h₀ wr h₂++r1.U.its⟩) (λp hp=>(bF.mp hp).elim (news_ownOf I0.off p)<|T2.N p) Z.R Z.x;rw[show us.drop i=us[i]::us.drop (i+1)from bL hlt]at F1;refine hit i us[i] v _ L1 H1 _ _ (bg hlt) hP ⟨a.C,a.rm,T3⟩ (l1.x.toou.trans Z.x) λr4 l4 a4=>?_;refine a4.Zs ((F1:tM ..) _ _ _ a4) λfl r5 mf L5 H5 l5 a5 j q=>?_;refine KY (r3:=⟨⟨r1.U.jY,PyProof.Rows.ownOf G.h₀ wr h₂++r1.U.news,r1.U.iw,r1.U.fix,PyProof.Rows.ownOf G.h₀ wr h₂++r1.U.its⟩,r1.m,{r1.s with heap:=h₂,toks:=tk₁}⟩) W I0 hlt l1 hn1 T1.R rfl rfl Z.x rfl rfl st2 T3 (l4.trans l5) a5.T λr6 e6 j6 l6 T6 n6 st6=>?_;have again:pK V u body (us.drop<|i+1) L5 H5 Q->∃m,m<us.length-i/\V9 V u G r wr pC body us Q m r5.s:=λq=>⟨us.length-(i+1),Nat.sub_succ_lt_self _ _ hlt,i+1,r6,L5,H5,e6,T6,l6,n6,e6▸st6,hlt,rfl,q⟩;have fin:∀mf fl,x7 r5.U mf fl->Q mf L5 H5->ku r (DQ V G Q) fl r5.s:=λmf fl j q=>⟨r6,e6,l6,L5,H5,mf,T6,j6 mf fl j,q⟩;induction mf with
  |next=>cases j;exact again q
  |cont=>cases j;exact again q
  |brk=>cases j;exact fin .next _ rfl q
  |ret v=>exact j.elim λx z=>by obtain⟨rfl,z⟩:=z;exact fin (.ret v) _ ⟨x,rfl,z⟩ q
 ·have hin:i=us.length:=Nat.le_antisymm hi<|gg.mp hlt;subst hin;refine W.done _ _ _ st1 λh₁ tk₁ hk₁=>wpAny_execs_nil ?_;rw[List.drop_length]at F1;exact⟨⟨r1.U,r1.m,{r1.s with heap:=h₁,toks:=tk₁}⟩,rfl,l1.trans ⟨.refl,rfl,rfl⟩,L1,H1,.next,T1.off I0.off I0.new hn1 hk₁,rfl,F1⟩
def uS(ks:LN)(i:Nat)(l:LN):List (Loc->Loc):=l.rec (λz=>[]) (λc z ih i=>nJ ks [.int (i:Nat),.str [c]]::ih (i+1)) i
def IL(ks:LN)(l:LN):∀i,(uS ks i l).length=l.length:=l.rec (λz=>rfl) λz z ih i=>aq (·+1)<|ih<|i+1
def IM{P:Prop}(ks:LN)(l:LN):∀(i j:Nat) (g:Loc->Loc),(uS ks i l)[j]?=some g->(∀c,l[j]?=some c->g=nJ ks [.int (i+j:Nat),.str [c]]->P)->P:=
 l.rec (λz z z h z=>by cases h) λc l ih i j g h k=>by
  induction j with
  |zero=>exact k c rfl (ay h).symm
  |succ j=>exact ih (i+1) j g h λc' a b=>k c' a<|by rw[b,dY]
def lG{o:Obj}{t:String}(h:o.cls=.type t)(h1:t≠"tuple")(h2:t≠"method"):qy o:=⟨λe=>h1<|cu<|h.symm.trans e,λe=>h2<|cu<|h.symm.trans e⟩
def yU(T:St V G r Lc H){b:Addr}(hb:r.s.heap.objs.size<=b):G.h₀.get? b=none:=by
 cases z:G.h₀.get? b with
 |none=>rfl
 |some o=>exact aG (bV<|T.F.keep _ _ z)<|gg.mpr hb
def yV{ob:Obj}{a:Addr}{b:Addr}{U':jK}{pC:Nat->Heap->Prop}(T:St V G r Lc H)(en:U'.news=r.U.news)(ep:(∃o,(b,o)∈U'.iw)∨∃o,G.h₀.get? b=some o)(ea:a=r.s.heap.objs.size)(nv:∀i h,pC i h->∃o,h.get? a=some o/\qy o):
  Its G ⟨U',r.m,{r.s with heap:=r.s.heap.push ob}⟩ [a,b] [a] pC:=
 ⟨λh=>av T.F.ns.lt<|(aj.mp h).trans ea,λc hc=>by rw[aj.mp hc,ea];exact yU T<|aD _,bN.mpr ⟨(by intro h;cases h),List.Pairwise.nil⟩,
  λp hp e=>bI _<|(aj.mp e).trans ea▸bV (T.N p<|en▸hp).1,λc hc=>(ao.mp hc).elim (λe=>.inl<|e▸.head _) λh=>.inr<|aj.mp h▸ep,λi h st c hc=>aj.mp hc▸nv i h st⟩
def vQ{r2:Rh}{o:Result}{s:Shared}(z:qE V G r2 Q o s)(l:Le r r')(x:ou r'.U r2.U)(eg:r2.s.gens=r'.s.gens)(eo:r2.s.os=r'.s.os)(back:∀r5 L5 H5 mf,Le r2 r5->St V G r5 L5 H5->Q mf L5 H5->∃ps H6,ps=r'.U.iw/\xZ V.S V.w r5.U ⟨r5.U.jY,r5.U.news,ps,r5.U.fix,r5.U.its⟩ H6/\Q' mf L5 H6)(ei:r2.U.its=r'.U.its):qE V G r Q' o s:=by
 induction o with
 |error e=>exact(z:False).elim
 |ok fl=>
  obtain⟨r5,rfl,l5,z⟩:=(z:ku r2 (DQ V G Q) fl s);obtain⟨L5,H5,mf,T5,j,q⟩:=z;obtain⟨ps,H6,e,Z,q⟩:=back r5 L5 H5 mf l5 T5 q;refine(⟨⟨⟨r5.U.jY,r5.U.news,ps,r5.U.fix,r5.U.its⟩,r5.m,r5.s⟩,rfl,l.trans ⟨⟨(x.trans l5.x.toou).trans Z.x,e,l5.x.its.trans ei⟩,l5.g.trans eg,l5.o.trans eo⟩,L5,H6,mf,T5.mT T5.N Z.R Z.x,?_,q⟩:ku r (DQ V G Q') fl r5.s);induction mf with
  |ret v=>exact j.elim λx z=>⟨x,z.1,z.2.mT Z.x⟩
  |_=>exact j
def qE.out{o:Result}{s:Shared}{R:qT}(h:qE V G r Q o s):(match(generalizing:=false) o with|.ok f=>ku r (DQ V G Q) f s|.error e=>R e s):=by
 induction o with
 |error e=>exact(h:False).elim
 |ok f=>exact h
def j8.KZ{x:Str}{k:Nat}{p pos:Pos}{iter:Expr}{body:sD}(qt:V.S.quiet=true)(hs:o5 iter=true)(n:pZ V.f k x)
  (h:gY V u iter Lc H λv H1=>nR v λj=>kg (H1.at_ j) λxs=>pK V u body (xs.map λv Lc=>Lc.set k<|some v) Lc (H1.del j) Q):j8 V u (.For (.Name x p) iter body [] pos) Lc H Q:=
 λG E r a=>fJ (a.go (h _ _ _ a) λxv r1 mv H1 l1 a1 v1 q=>tG (P:=λmv=>VR r1.U mv xv->wpAny V.M G.A (pyIter xv) _ E r1.s) q (λj q v1=>listE q λxs hj q=>kh (P:=λxv=>wpAny V.M G.A (pyIter xv) _ E r1.s) v1 λpa hp=>jT.w7 (a1.T.R.obj j _ hj) a1 (λd h=>h) hp λvs nn m1 z rv d Wa=>wpAny_pyIter_list z (by
  have hl:pa.1≠r1.s.heap.objs.size:=av<|bV (a1.T.N _ m1).1;have Z:=a1.T.R.Ka hj ⟨pa,hp,.inl rfl⟩ m1;have T2:St V G ⟨⟨r1.U.jY,r1.U.news,(pa.1,listOf vs.toArray nn)::r1.U.iw,r1.U.fix,r1.U.its⟩,r1.m,{r1.s with heap:=r1.s.heap.push {cls:=.type "list_iterator",data:=.fields #[.ref pa.1,.int 0 0]}}⟩ Lc (H1.del j):=
   ⟨a1.T.F.push _,a1.T.N.grown λd d e=>bw _ e,Z.R,λk y v hy hv=>(a1.T.loc k y v hy hv).elim λw z=>⟨w,z.1,z.2.mT Z.x⟩⟩
  have W:=eK (target:=.Name x p) (Walks.list (prog:=V.S.prog) (w:=V.w) (a1.C.quiet qt) r1.s.heap.objs.size pa.1 hl vs.toArray) λi v s Q E st q=>letGo_listiter st.1 q;rw[show vs.toArray.size=(xs.map λv (Lc:Loc)=>Lc.set k<|some v).length by rw[bR,Wa,aV]]at W;refine bY (qF W (yV (U':=⟨r1.U.jY,r1.U.news,(pa.1,listOf vs.toArray nn)::r1.U.iw,r1.U.fix,r1.U.its⟩) a1.T rfl (.inl ⟨_,.head _⟩) rfl λi h st=>st.1.elim λit z=>⟨it,z.1,lG z.2.1 (by decide)<|by decide⟩) ⟨⟨_,cN _ rfl,rfl,rfl⟩,z.at λo e=>bw _ e⟩ ⟨a1.C,a1.rm,T2⟩ (λi g v r3 L3 H3 E' R hg hP a3 x3 hq=>?_) q) λo s z=>qE.out<|vQ z l1 Z.x rfl rfl (λr5 L5 H5 mf l5 T5 q=>⟨_,H5,rfl,T5.R.Kc l5.x.iw (by intro e;exact aG (cu e)<|by decide),q⟩) rfl;rw[bh]at hg;obtain⟨mv,hmv,rfl⟩:=bu.mp hg;refine rv.get hmv λwv hwv jv=>?_;have Zu:vs.toArray[i]?=some v:=hP;rw[dM,hwv]at Zu;cases Zu;exact a3.qD n ((jv.mT Z.x).mT x3) λr4 l4 d a4=>hq r4 l4 a4)) v1) λx=>mC hs
def j8.IP{x:Str}{k:Nat}{p pos:Pos}{iter:Expr}{body:sD}(qt:V.S.quiet=true)(hs:o5 iter=true)(n:pZ V.f k x)
  (h:gY V u iter Lc H λv H1=>nR v λj=>yp (H1.at_ j) λes=>pK V u body (es.map λe Lc=>Lc.set k<|some<|.int e.1) Lc (H1.put j<|.vE es) λmf By H'=>H'.at_ j=some (.vE es)/\Q mf By (H'.put j<|.ju es)):j8 V u (.For (.Name x p) iter body [] pos) Lc H Q:=
 λG E r a=>fJ (a.go (h _ _ _ a) λxv r1 mv H1 l1 a1 v1 q=>tG (P:=λmv=>VR r1.U mv xv->wpAny V.M G.A (pyIter xv) _ E r1.s) q (λj q v1=>Kg q λes hj q=>kh (P:=λxv=>wpAny V.M G.A (pyIter xv) _ E r1.s) v1 λpa hp=>by
  obtain⟨ad,o,kvs,h1,m1,d1,rv,len,lo⟩:=(a1.T.R.obj j _ hj:nG _ _ _ _ _ _);cases ay (h1.symm.trans hp);obtain⟨es',ep,dd⟩:=id d1;have hl:ad≠r1.s.heap.objs.size:=av<|bV (a1.T.N _ m1).1;have hD:r1.s.heap.DictAt (intKind V.S.prog V.w) ad kvs ep:=⟨o,es',(a1.T.N _ m1).1,dd⟩;refine wpAny_pyIter_dict lo hD ?_;have Z:=a1.T.R.YR hj h1 m1 d1 rv len lo;have T2:St V G ⟨⟨r1.U.jY,r1.U.news,(ad,o)::r1.U.iw,r1.U.fix,r1.U.its⟩,r1.m,{r1.s with heap:=r1.s.heap.push {cls:=.type "dict_keyiterator",data:=.fields #[.ref ad,.int 0 0,.int kvs.length 0,.int ep 0]}}⟩ Lc (H1.put j<|.vE es):=
   ⟨a1.T.F.push _,a1.T.N.grown λd d e=>bw _ e,Z.R,λk y v hy hv=>(a1.T.loc k y v hy hv).elim λw z=>⟨w,z.1,z.2.mT Z.x⟩⟩
  have W:=eK (target:=.Name x p) (Walks.dictKeys (knd:=intKind V.S.prog V.w) (a1.C.quiet qt) r1.s.heap.objs.size ad hl kvs ep) λi v s Q E st q=>letGo_keyiter st.1 q;have hlen:kvs.length=(es.map λe (Lc:Loc)=>Lc.set k<|some<|.int e.1).length:=by rw[rv.len,aV]
  rw[show KTurns V.S.prog V.w G.A (.Name x p) r1.s.heap.objs.size [r1.s.heap.objs.size,ad] [r1.s.heap.objs.size] kvs.length=KTurns V.S.prog V.w G.A (.Name x p) r1.s.heap.objs.size [r1.s.heap.objs.size,ad] [r1.s.heap.objs.size] (es.map λe (Lc:Loc)=>Lc.set k<|some<|.int e.1).length by rw[<-hlen]]at W;refine bY (qF W (yV (U':=⟨r1.U.jY,r1.U.news,(ad,o)::r1.U.iw,r1.U.fix,r1.U.its⟩) a1.T rfl (.inl ⟨_,.head _⟩) rfl λi h st=>st.1.elim λit z=>⟨it,z.1,lG z.2.1 (by decide)<|by decide⟩) ⟨⟨_,cN _ rfl,rfl,rfl⟩,hD.at' λo e=>bw _ e⟩ ⟨a1.C,a1.rm,T2⟩ (λi g v r3 L3 H3 E' R hg hP a3 x3 hq=>?_) q) λo' s z=>qE.out<|vQ z l1 Z.x rfl rfl (λr5 L5 H5 mf l5 T5 q=>⟨r1.U.iw,H5.put j<|.ju es,rfl,T5.R.YS l5.x.iw q.1 (l5.x.jY _ _ h1) λp hp e=>a1.T.R.tE p (hp.imp id<|Or.imp (λh=>l5.x.fix▸h) λh=>l5.x.its▸h) j _ hj rfl ⟨_,h1,.inl e⟩,q.2⟩) rfl;rw[bh]at hg;obtain⟨e,hmv,rfl⟩:=bu.mp hg;obtain⟨kk,xx,hk1,hk2⟩:=hP;have e1:(kvs.map (·.1))[i]?=some kk:=by rw[bh,hk1];rfl
  rw[rv.keys,bh,hmv]at e1;cases ay e1;exact a3.qD (v:=.int e.1) n (De hk2) λr4 l4 d a4=>hq r4 l4 a4) v1) λx=>mC hs
def A4{n0 b:Addr}{P:Prop}(h:b∈[n0+1,n0])(k1:b=n0+1->P)(k0:b=n0->P):P:=(ao.mp h).elim k1 λh=>k0<|aj.mp h
def Dq{elts:pP}{kk:Nat}{tp:Pos}{ks:LN}{body:sD}{l:LN}{h':Heap}(qt:V.S.quiet=true)(hn:mh V.f elts ks=true)(hk2:ks.length=2){n0:Nat}{pC:Nat->Heap->Prop}
  (D:Draws V.S.prog V.w G.A.in1 n0 [n0] l.length (λi v=>∃c u,l[i]?=some c/\v=.str ⟨#[c]⟩ u) pC)(hlive:∀i h,pC i h->∃o,h.get? n0=some o/\qy o)(he:IsEnum h' (n0+1) n0 0 .none)(hst:pC 0 h')(a:At V u G ⟨r.U,r.m,{r.s with heap:=h'}⟩ Lc H)
  (hL:G.L<n0)(hnew:∀b,n0<=b->G.h₀.get? b=none)(Tt:∀p∈r.U.news,p.1<n0)(hF:pK V u body (uS ks 0 l) Lc H Q):codeAny V.M G.A (.forLoop (.Tuple elts kk tp) (.ref<|n0+1) body []<|V.f.env G.L) (qE V G ⟨r.U,r.m,{r.s with heap:=h'}⟩ Q) {r.s with heap:=h'}:=by
 have W:=KTurns.ofWalksU (elts:=elts) (k:=kk) (pos:=tp) (WalksT.enumerateD D (n0+1) (eS _) (by simp)<|by simp).toU;rw[show l.length=(uS ks 0 l).length from(IL ks l 0).symm]at W;refine qF (r:=⟨r.U,r.m,{r.s with heap:=h'}⟩) W ⟨λh=>A4 h (λe=>av (aR hL) e) λe=>av hL e,λb hb=>A4 hb (λe=>hnew b<|e▸bX _) λe=>hnew b<|dH e.symm,by simp,λp hp h=>A4 h (λe=>av (aR<|Tt p hp) e) λe=>av (Tt p hp) e,λb hb=>.inl hb,
  λi h st b hb=>A4 hb (λe=>st.1.elim λold z=>⟨_,e▸z,lG rfl (by decide)<|by decide⟩) λe=>e▸hlive i h st.2⟩ ⟨⟨_,he⟩,hst⟩ a (λi g v r1 L1 H1 E' R hg hP a1 x1 hq=>?_) hF
 refine IM ks l 0 i g hg λc hc eg=>?_;subst eg;obtain⟨TT,jJ,rfl,⟨tk,y,⟨c',u',hc',rfl⟩,rfl⟩,hT⟩:=hP;cases hc.symm.trans hc';have p:=x8 (env:=V.f.env G.L) elts ks hn;refine unpackN_ (items:=#[.int i tk,.str ⟨#[c]⟩ u']) a1.T.F a1.T.N hT (a1.C.quiet qt) (by rw[p.2,hk2];rfl) p.1 λh'' F' N'=>?_;have l2:Le r1 ⟨r1.U,r1.m,{r1.s with heap:=h''}⟩:=⟨.refl,rfl,rfl⟩;exact x9 elts ks hn [.int (0+i:Nat),.str [c]] _ L1 _ (a1.at_ l2 ⟨F',N',a1.T.R,a1.T.loc⟩) (.two ⟨tk,by rw[bQ]⟩ ⟨u',rfl⟩) (by rw[hk2];rfl) λr3 l3 a3=>hq r3 (l2.trans l3) a3
def j8.K9{elts:pP}{kk:Nat}{ks:LN}{tp np cp pos:Pos}{e:Expr}{body:sD}(qt:V.S.quiet=true)(G_x:rY V.K V.f "enumerate"<|.type "enumerate")(hn:mh V.f elts ks=true)(hk2:ks.length=2)(he:jt e=true)
  (h:gY V u e Lc H λv H1=>pI v λl=>pK V u body (uS ks 0 l) Lc H1 Q):j8 V u (.For (.Tuple elts kk tp) (.Call (.Name "enumerate" np) [e] [] cp) body [] pos) Lc H Q:=
 λG E r a=>fJ (qp (oZ G_x a (kN (first:=[]) (es:=[e]) (kws:=[]) (R:=λvs ks' H1=>ks'=[]/\∃l,vs=[.str l]/\pK V u body (uS ks 0 l) Lc H1 Q) (by rw[List.all_cons,he];rfl) rfl EM a (Ev.mono h λv H1 q=>zq (P:=λv=>_/\∃l,[v]=[MV.str l]/\pK V u body (uS ks 0 l) Lc H1 Q) q λl q=>⟨rfl,l,rfl,q⟩) λr1 H1 Dg ws EN ks' l1 a1 v1 v2 q=>by
  obtain⟨rfl,l,rfl,hF⟩:=q;cases v2;refine v1.e1 (P:=λws=>wpAny V.M G.A (call (.type "enumerate") ws []) _ E r1.s) λx v=>mY (P:=λx=>wpAny V.M G.A (call (.type "enumerate") [x] []) _ E r1.s) v λt=>call_enumerate_str λh' hE hI j hk=>wpAny_pyIter_enum hE ?_;have l2:Le r1 ⟨r1.U,r1.m,{r1.s with heap:=h'}⟩:=⟨.refl,rfl,rfl⟩;have a2:At V u G ⟨r1.U,r1.m,{r1.s with heap:=h'}⟩ Lc H1:=a1.at_ l2 ⟨a1.T.F.keeps hk,a1.T.N.grown hk,a1.T.R,a1.T.loc⟩;have fin:∀{pC:Nat->Heap->Prop},Draws V.S.prog V.w G.A.in1 r1.s.heap.objs.size [r1.s.heap.objs.size] (gN l).cps.size (λi v=>∃c u,(gN l).cps[i]?=some c/\v=.str ⟨#[c]⟩ u) pC->(∀i h,pC i h->∃o,h.get? r1.s.heap.objs.size=some o/\∃t,o.cls=.type t/\t≠"tuple"/\t≠"method")->pC 0 h'->codeAny V.M G.A (.forLoop (.Tuple elts kk tp) (.ref<|r1.s.heap.objs.size+1) body []<|V.f.env G.L) (qE V G r Q) {r1.s with heap:=h'}:=λ{pC} D hlive hst=>by
   rw[show(λ(i:Nat) (v:Value)=>∃c u,(gN l).cps[i]?=some c/\v=.str ⟨#[c]⟩ u)=λi v=>∃c u,l[i]?=some c/\v=.str ⟨#[c]⟩ u by funext i v;simp,show(gN l).cps.size=l.length by simp]at D;refine bY (Dq (r:=r1) qt hn hk2 D (λi h st=>(hlive i h st).elim λo z=>z.2.elim λt y=>⟨o,z.1,lG y.1 y.2.1 y.2.2⟩) hE hst a2 a1.T.F.ns.lt (λb hb=>yU a1.T hb) (λp hp=>bV (a1.T.N p hp).1) hF) λo s z=>?_;induction o with
   |error e=>exact z
   |ok f=>exact ku.from (l1.trans l2) z
  refine bY (?_:codeAny V.M G.A _ (qE V G r Q) _) λo s z=>z.out;cases ha:(gN l).cps.all (·<128)with
  |false=>exact fin (Draws.strWide (A:=G.A.in1) (a1.C.quiet qt) r1.s.heap.objs.size (gN l) t) (λi h st=>st.elim λo z=>⟨o,z.1,_,z.2.1,by decide,by decide⟩)<|by rw[show strIterType (gN l)="str_iterator" by unfold strIterType;rw[ha];rfl]at hI;exact hI
  |true=>exact fin (Draws.strAscii (A:=G.A.in1) (a1.C.quiet qt) r1.s.heap.objs.size (gN l) t) (λi h st=>st.elim λo z=>⟨o,z.1,_,z.2.1,by decide,by decide⟩)<|by rw[show strIterType (gN l)="str_ascii_iterator" by unfold strIterType;rw[ha];rfl]at hI;exact hI))) λx=>mC rfl
def zH{prog:Program}{w:World}{A:Around}{E:qT}{x:Str}{p:Pos}{it v:Value}{R:Unit->Shared->Prop}{s:Shared}(h:R () s):wpAny (model prog w) A (letOwnedTupleGo (.Name x p) it v) R E s:=aH h
def Gl{U':jK}{h:Heap}{tk:Nat}{a:Addr}{pC:Nat->Heap->Prop}(T:St V G r Lc H)(en:U'.news=r.U.news)(ea:r.s.heap.objs.size<=a)(nv:∀i h,pC i h->∃o,h.get? a=some o/\qy o):Its G ⟨U',r.m,{r.s with heap:=h,toks:=tk}⟩ [a] [a] pC:=
 ⟨λh=>bI _<|aL (aj.mp h▸T.F.ns.lt) ea,λc hc=>by rw[aj.mp hc];exact yU T ea,bN.mpr ⟨(by intro h;cases h),List.Pairwise.nil⟩,
  λp hp e=>bI _<|aL (aj.mp e▸bV (T.N p<|en▸hp).1) ea,λc hc=>.inl hc,λi h st c hc=>aj.mp hc▸nv i h st⟩
def j8.PF{x:Str}{k:Nat}{p pos:Pos}{iter:Expr}{body:sD}(qt:V.S.quiet=true)(hs:o5 iter=true)(n:pZ V.f k x)
  (h:gY V u iter Lc H λv H1=>pI v λl=>pK V u body (l.map λc Lc=>Lc.set k<|some<|.str [c]) Lc H1 Q):j8 V u (.For (.Name x p) iter body [] pos) Lc H Q:=
 λG E r a=>fJ (a.go (h _ _ _ a) λxv r1 mv H1 l1 a1 v1 q=>zq (P:=λmv=>VR r1.U mv xv->wpAny V.M G.A (pyIter xv) _ E r1.s) q (λl q v1=>mY (P:=λxv=>wpAny V.M G.A (pyIter xv) _ E r1.s) v1 λt=>wpAny_pyIter_strU (by
  have up:∀ob b o,r1.s.heap.get? b=some o->(r1.s.heap.push ob).get? b=some o:=λob b o e=>bw _ e;have fin:∀{ty:String} {pC:Nat->Heap->Prop},Walks V.S.prog V.w G.A r1.s.heap.objs.size [r1.s.heap.objs.size] [r1.s.heap.objs.size] (⟨l.toArray⟩:Str).cps.size (SignAt ⟨l.toArray⟩) pC->(∀i h,pC i h->∃o,h.get? r1.s.heap.objs.size=some o/\qy o)->pC 0 (r1.s.heap.push {cls:=.type ty,data:=.fields #[.str ⟨l.toArray⟩ t,.int 0 0]})->
    codeAny V.M G.A (.forLoop (.Name x p) (.ref r1.s.heap.objs.size) body []<|V.f.env G.L) (qE V G r Q) {r1.s with heap:=r1.s.heap.push {cls:=.type ty,data:=.fields #[.str ⟨l.toArray⟩ t,.int 0 0]}}:=λ{ty pC} D hlive hst=>by
   have W:=eK (target:=.Name x p) D λi v s Q E st q=>zH q;rw[show(⟨l.toArray⟩:Str).cps.size=(l.map λc (Lc:Loc)=>Lc.set k<|some<|.str [c]).length by rw[aV];simp]at W;have l2:Le r1 ⟨r1.U,r1.m,{r1.s with heap:=r1.s.heap.push {cls:=.type ty,data:=.fields #[.str ⟨l.toArray⟩ t,.int 0 0]}}⟩:=⟨.refl,rfl,rfl⟩;have a2:=a1.at_ l2 ⟨a1.T.F.keeps<|up _,a1.T.N.grown<|up _,a1.T.R,a1.T.loc⟩;refine bY (qF W (Gl a1.T rfl (aD _) hlive) hst a2 (λi g v r3 L3 H3 E' R hg hP a3 x3 hq=>?_) q) λo s z=>?_
   ·rw[bh]at hg;obtain⟨c,hc,rfl⟩:=bu.mp hg;obtain⟨c',u',hc',rfl⟩:=hP;have acn:l[i]?=some c':=by simpa using hc'
    cases hc.symm.trans acn;exact a3.qD (v:=.str [c]) n ⟨u',rfl⟩ λr4 l4 y a4=>hq r4 l4 a4
   ·induction o with
    |error e=>exact z
    |ok f=>exact ku.from (l1.trans l2) z
  refine bY (?_:codeAny V.M G.A _ (qE V G r Q) _) λo s z=>z.out;cases ha:(⟨l.toArray⟩:Str).cps.all (·<128)with
  |false=>exact fin (Walks.strWide (A:=G.A) (a1.C.quiet qt) r1.s.heap.objs.size _ t) (λi h st=>st.elim λo z=>⟨o,z.1,lG z.2.1 (by decide)<|by decide⟩)<|by rw[show strIterType ⟨l.toArray⟩="str_iterator" by unfold strIterType;rw[ha];rfl];exact⟨_,cN _ rfl,rfl,rfl⟩
  |true=>exact fin (Walks.strAscii (A:=G.A) (a1.C.quiet qt) r1.s.heap.objs.size _ t) (λi h st=>st.elim λo z=>⟨o,z.1,lG z.2.1 (by decide)<|by decide⟩)<|by rw[show strIterType ⟨l.toArray⟩="str_ascii_iterator" by unfold strIterType;rw[ha];rfl];exact⟨_,cN _ rfl,rfl,rfl⟩)) v1) λx=>mC hs
noncomputable def sL(k n:Nat):List (Loc->Loc):=(List.range n).map λi Lc=>Lc.set k<|some<|.int (i:Nat)
def j8.IQ{x:Str}{k:Nat}{p np cp pos:Pos}{e:Expr}{body:sD}(qt:V.S.quiet=true)(G_x:rY V.K V.f "range"<|.type "range")(n:pZ V.f k x)(he:jt e=true)
  (h:gY V u e Lc H λv H1=>qg v λi=>BC i λm=>m<gP/\pK V u body (sL k m) Lc H1 Q):j8 V u (.For (.Name x p) (.Call (.Name "range" np) [e] [] cp) body [] pos) Lc H Q:=
 λG E r a=>fJ (qp (oZ G_x a (kN (first:=[]) (es:=[e]) (kws:=[]) (R:=λvs ks' H1=>ks'=[]/\∃m:Nat,vs=[.int m]/\m<gP/\pK V u body (sL k m) Lc H1 Q) (by rw[List.all_cons,he];rfl) rfl EM a (Ev.mono h λv H1 q=>Ay (P:=λv=>_/\∃m:Nat,[v]=[MV.int m]/\m<gP/\pK V u body (sL k m) Lc H1 Q) q λi q=>O3 (P:=λi=>_/\∃m:Nat,[MV.int i]=[MV.int m]/\m<gP/\pK V u body (sL k m) Lc H1 Q) q λm q=>⟨rfl,m,rfl,q⟩) λr1 H1 Dg ws EN ks' l1 a1 v1 v2 q=>by
  obtain⟨rfl,m,rfl,hm,hF⟩:=q;cases v2;refine v1.e1 (P:=λws=>wpAny V.M G.A (call (.type "range") ws []) _ E r1.s) λxw v=>oV (P:=λxw=>wpAny V.M G.A (call (.type "range") [xw] []) _ E r1.s) v λt=>call_range_1 ?_;have hm':(m:Int)<1000000:=gb.mpr hm;refine wpAny_pyIter_range (IsRange.new _ _ _ _ _ _ _) (small_one (by decide) (by decide) (by omega)<|by omega) ?_;have hsz:Builtin.Range.rangeSize 0 (m:Int) 1=((m:Nat):Int):=by rw[rangeSize_one];split<;>omega
  rw[hsz];have up:∀ob Au b o,r1.s.heap.get? b=some o->((r1.s.heap.push ob).push Au).get? b=some o:=λob Au b o e=>bw _<|bw _ e;refine bY (?_:codeAny V.M G.A _ (qE V G r Q) _) λo s z=>z.out;have W:=λ(I:Addr) (m:Nat)=>eK (target:=.Name x p) (Walks.range (prog:=V.S.prog) (w:=V.w) (A:=G.A) (a1.C.quiet qt) I 0 1 m) λi v s Q E st q=>zH q;have l2:Le r1 ⟨r1.U,r1.m,{r1.s with heap:=(r1.s.heap.push {cls:=.type "range",data:=.fields #[.int 0 r1.s.toks,.int m t,.int 1<|r1.s.toks+1]}).push {cls:=.type "range_iterator",data:=.fields #[rawInt 0,rawInt (m:Int),rawInt 1]},toks:=r1.s.toks+1+1}⟩:=⟨.refl,rfl,rfl⟩;have a2:=a1.at_ l2 ⟨a1.T.F.keeps<|up _ _,a1.T.N.grown<|up _ _,a1.T.R,a1.T.loc⟩;refine bY (qF (W _ (sL k m).length) (Gl a1.T rfl (by rw[fT];exact bX _) λi h st=>⟨_,st,lG rfl (by decide)<|by decide⟩) (by have z:=cN (h:=r1.s.heap.push {cls:=.type "range",data:=.fields #[.int 0 r1.s.toks,.int m t,.int 1<|r1.s.toks+1]}) (o:={cls:=.type "range_iterator",data:=.fields #[rawInt 0,rawInt (m:Int),rawInt 1]}) rfl;show IsRangeIter _ _ _ _ _;rw[<-show m=(sL k m).length by unfold sL;rw[aV,List.length_range]];simpa using z) a2 (λi g v r3 L3 H3 E' R hg hP a3 x3 hq=>?_) hF) λo s z=>?_
  ·unfold sL at hg;rw[bh]at hg;obtain⟨j,hj,rfl⟩:=bu.mp hg;obtain⟨t',rfl⟩:=hP;have e1:j=i:=by obtain⟨h1,h2⟩:=bG.mp hj;rw[<-h2,List.getElem_range]
   subst e1;exact a3.qD (v:=.int (j:Nat)) n ⟨t',by rw[Int.mul_one,Int.zero_add]⟩ λr4 l4 y a4=>hq r4 l4 a4
  ·induction o with
   |error e=>exact z
   |ok f=>exact ku.from (l1.trans l2) z))) λx=>mC rfl
def j8.IT{elts:pP}{kk:Nat}{ks:LN}{tp pos:Pos}{iter:Expr}{body:sD}(qt:V.S.quiet=true)(hs:o5 iter=true)(hn:mh V.f elts ks=true)
  (h:gY V u iter Lc H (λv H1=>nR v λj=>kg (H1.at_ j) λxs=>∃ps:List gV,xs=ps.map .tup/\(∀p∈ps,p.length=ks.length)/\pK V u body (ps.map λp Lc=>nJ ks p Lc) Lc (H1.del j) Q)):j8 V u (.For (.Tuple elts kk tp) iter body [] pos) Lc H Q:=
 λG E r a=>fJ (a.go (h _ _ _ a) λxv r1 mv H1 l1 a1 v1 q=>tG (P:=λmv=>VR r1.U mv xv->wpAny V.M G.A (pyIter xv) _ E r1.s) q (λj q v1=>listE q λxs hj q=>kh (P:=λxv=>wpAny V.M G.A (pyIter xv) _ E r1.s) v1 λpa hp=>jT.w7 (a1.T.R.obj j _ hj) a1 (λd h=>h) hp λvs nn m1 z rv d Wa=>wpAny_pyIter_list z (by
  obtain⟨ps,ex,hps,q⟩:=q;subst ex;have hl:pa.1≠r1.s.heap.objs.size:=av<|bV (a1.T.N _ m1).1;have Z:=a1.T.R.Ka hj ⟨pa,hp,.inl rfl⟩ m1;have T2:St V G ⟨⟨r1.U.jY,r1.U.news,(pa.1,listOf vs.toArray nn)::r1.U.iw,r1.U.fix,r1.U.its⟩,r1.m,{r1.s with heap:=r1.s.heap.push {cls:=.type "list_iterator",data:=.fields #[.ref pa.1,.int 0 0]}}⟩ Lc (H1.del j):=
   ⟨a1.T.F.push _,a1.T.N.grown λd d e=>bw _ e,Z.R,λk y v hy hv=>(a1.T.loc k y v hy hv).elim λw z=>⟨w,z.1,z.2.mT Z.x⟩⟩
  have W:=eK (target:=.Tuple elts kk tp) (Walks.list (prog:=V.S.prog) (w:=V.w) (a1.C.quiet qt) r1.s.heap.objs.size pa.1 hl vs.toArray) λi v s Q E st q=>letGo_listiter st.1 q;rw[show vs.toArray.size=(ps.map λp (Lc:Loc)=>nJ ks p Lc).length by rw[bR,Wa,aV,aV]]at W;refine bY (qF W (yV (U':=⟨r1.U.jY,r1.U.news,(pa.1,listOf vs.toArray nn)::r1.U.iw,r1.U.fix,r1.U.its⟩) a1.T rfl (.inl ⟨_,.head _⟩) rfl λi h st=>st.1.elim λit z=>⟨it,z.1,lG z.2.1 (by decide)<|by decide⟩) ⟨⟨_,cN _ rfl,rfl,rfl⟩,z.at λo e=>bw _ e⟩ ⟨a1.C,a1.rm,T2⟩ (λi g v r3 L3 H3 E' R hg hP a3 x3 hq=>?_) q) λo s z=>qE.out<|vQ z l1 Z.x rfl rfl (λr5 L5 H5 mf l5 T5 q=>⟨_,H5,rfl,T5.R.Kc l5.x.iw (by intro e;exact aG (cu e)<|by decide),q⟩) rfl;rw[bh]at hg;obtain⟨p,hmp,rfl⟩:=bu.mp hg;refine rv.get (i:=i) (v:=.tup p) (by rw[bh,hmp];rfl) λwv hwv jv=>?_;have Zu:vs.toArray[i]?=some v:=hP;rw[dM,hwv]at Zu;cases Zu;exact assign_tuple qt a3 hn ((jv.mT Z.x).mT x3) (hps p<|bP hmp) λr4 l4 a4=>hq r4 l4 a4)) v1) λx=>mC hs
def La{prog:Program}{w:World}{k:Str}{v:Value}(h:(strKind prog w).is k v=true):∃t,v=.str k t:=by
 cases v<;>first|(simp[PySem.strKind,Value.isStrOf]at h;done)|skip
 exact⟨tok,by rw[show s=k by simpa[PySem.strKind,Value.isStrOf]using h]⟩
def Zv(v:MV)(K:Bool->Prop):Prop:=v.casesOn False K kG kG kG kG AR kG λz=>False
def Zw{v:MV}{K:Bool->Prop}{P:MV->Prop}(h:Zv v K)(k:∀b,K b->P (.bool b)):P v:=by cases v<;>first|exact h.elim|exact k _ h
def rN.PI{S:jy}{w:World}{f:Fm}{u:Nat}{Lc:Loc}{H:MH}{l r:Expr}{op:CmpOp}{pos:Pos}{QB:Bool->MH->Prop}(hm:behindInMarks op r=false)(h:gY ⟨S,w,f⟩ u l Lc H λa H1=>gY ⟨S,w,f⟩ u r Lc H1 λb H2=>jl ⟨S,w,f⟩ u Lc H2 [a,b] (jF op) VR λv H3=>Zv v λt=>QB t H3):rN ⟨S,w,f⟩ u (.Compare l [op] [r] pos) Lc H QB:=
 λG E r a=>eO (a.go (h _ _ _ a) λx r1 m H1 l1 a1 v1 q=>a1.go (q _ _ _ a1) λy r2 n H2 l2 a2 v2 q=>a2.go (q _ _ _ [x,y] a2<|.two (v1.ext l2.x) v2) λv r3 b H3 l3 a3 v3 q=>Zw (P:=λb=>VR r3.U b v->wpAny (model S.prog w) G.A (truthy v) (ku r<|uE ⟨S,w,f⟩ G Lc EqR QB) E r3.s) q (λt q v3=>by cases(v3:v=.bool t);exact cX<|a3.fin (l1.trans<|l2.trans l3) rfl q) v3) hm
end
section
variable{S:jy}{w:World}{f:Fm}{u:Nat}{Lc:Loc}{H:MH}{Q:QV}{a:Addr}{es:List (LN×MV)}
def gY.Wb{value slice:Expr}{pos:Pos}(O:j3 S w)(hn:pJ slice=true)(h:gY ⟨S,w,f⟩ u value Lc H λv H1=>gY ⟨S,w,f⟩ u slice Lc H1 λi H2=>Ax v λa=>jA (S.sd a) λes=>pI i λk=>jA (jQ k es) λm=>Q m H2):gY ⟨S,w,f⟩ u (.Subscript value slice pos) Lc H Q:=
 λG E r A=>fM (A.go (h _ _ _ A) λo r1 mv H1 l1 a1 v1 q=>a1.go (q _ _ _ a1) λi r2 mi H2 l2 a2 v2 q=>YV q λa e q1=>jE q1 λes hs q2=>by subst e;have SD:=O.sd a es hs;refine zq (P:=λmi=>VR r2.U mi i->wpAny (model S.prog w) G.A (subscriptTail value slice o i) (ku r<|uE ⟨S,w,f⟩ G Lc VR Q) E r2.s) q2 (λk y v2=>jE y λm hm y=>SD.val.elim λob z=>z.elim λkvs z=>(Kind.yS .abs).elim λid hid=>v2.elim λt e=>?_) v2;cases(v1:o=.ref a);subst e;have hD:r2.s.heap.DictOf (strKind S.prog w) a kvs:=fh.mpr ⟨ob,a2.T.F.keep _ _<|a2.C.X _ _ z.1,z.2.1⟩;exact n7 (V:=⟨S,w,f⟩) (G:=G) (i:=.str (gN k) t) (E:=E) hD.typeIs hid (((z.2.2 r2.U).get rG (k:=k)).yes hm λx g j=>wpAny_getItem_of (knd:=strKind S.prog w) (fL _ _ _ _) hD.mapOf g<|(a2.tk _).fin (J:=VR) ((l1.trans l2).trans .tk) j y)<|kK hn)
def Zx{k:LN}{a:Nat}(O:j3 S w)(hs:S.sd a=some es)(hq:Q (.bool (jQ k es).isSome) H):jl ⟨S,w,f⟩ u Lc H [.str k,.cls a] (jF .In) VR Q:=
 .mJ hq λG E r z x A hz h1 R kk=>by cases(h1:x=.ref a);obtain⟨ob,kvs,z1,z2,z3⟩:=(O.sd a es hs).val;have hD:r.s.heap.DictOf (strKind S.prog w) a kvs:=fh.mpr ⟨ob,A.T.F.keep _ _<|A.C.X _ _ z1,z2⟩;obtain⟨t,rfl⟩:=hz;exact wpAny_in_of (knd:=strKind S.prog w) (fL _ _ _ _) (O.sd a es hs).lo hD.mapOf<|kk _ _<|aq Value.bool ((z3 r.U).get rG (k:=k)).same
def PJ{i j:Nat}{xs ys:gV}(hi:H.at_ i=some (.list xs))(hj:H.at_ j=some (.list ys))(hl:xs.length+ys.length<=gP)(hq:Q (.ref H.n)<|H.new<|.list<|xs++ys):jl ⟨S,w,f⟩ u Lc H [.ref i,.ref j] (bin .Add) VR Q:=
 λG E r ws a y=>y.e2 (P:=λws=>Go ⟨S,w,f⟩ G E r (bin .Add ws) _) λx z h1 hz=>kh (P:=λx=>Go ⟨S,w,f⟩ G E r (bin .Add [x,z]) _) h1 λp hp=>kh (P:=λz=>Go ⟨S,w,f⟩ G E r (bin .Add [_,z]) _) hz λq hp2=>jT.w7 (a.T.R.obj i _ hi) a (λv h=>h) hp λvs n m z1 w1 l1 e=>jT.w7 (a.T.R.obj j _ hj) a (λv h=>h) hp2 λus n2 m2 z2 w2 l2 e2=>add_lists (vs:=vs) (ws:=us) a.T.F a.T.N z1 z2 (λh' F' N'=>have Z:=a.newL (xs:=xs++ys) (vs:=vs++us) (n:=0) (tk:=r.s.toks) (λp' uY=>bV (a.T.N p' uY).1) F' N' (w1.append w2) (by rw[aT];exact hl);Z.a.fin (b:=MV.ref H.n) Z.l jK.q9 hq) (by rw[e,e2];exact kJ hl)
def Av(m:MV)(v:Value):Prop:=m.casesOn False kG (λi=>∃t,v=.int i t) (λl=>∃t,v=.str ⟨l.toArray⟩ t) kG kG AR kG λz=>False
def Av.vr{U:jK}{m:MV}{v:Value}(h:Av m v):VR U m v:=by cases m<;>first|exact h.elim|exact h
def Av.inj{m m':MV}{v:Value}(h:Av m v)(h':Av m' v):m=m':=by
 cases m<;>first|exact h.elim|skip
 ·obtain⟨t,rfl⟩:=h;cases m'<;>first|exact h'.elim|skip
  ·obtain⟨t,e⟩:=h';cases e;rfl
  ·obtain⟨t,e⟩:=h';cases e
 ·obtain⟨t,rfl⟩:=h;cases m'<;>first|exact h'.elim|skip
  ·obtain⟨t,e⟩:=h';cases e
  ·obtain⟨t,e⟩:=h';have:=aq Array.toList<|Str.mk.inj (Value.str.inj e).1;rw[bT,bT]at this;rw[this]
noncomputable def yW(sc:Scope):Bool:=sc.names.all λz=>((z.2==.local)&&(sc.names.lookup z.1==some .local))||(z.2==.globalImplicit)
def uT{sc:Scope}{env:Env}(h:yW sc=true):closureFor sc env=pure []:=by
 have:∀l:List<|Str×NameKind,(l.all λz=>((z.2==.local)&&(sc.names.lookup z.1==some .local))||(z.2==.globalImplicit))=true->∀cs:List<|Str×Addr,
   (forIn l cs λ(x:Str×NameKind) (cs:List (Str×Addr))=>(if(x.2==.free)=true then(do let a<-cellOf env x.1;pure<|ForInStep.yield<|(x.1,a)::cs)else pure (ForInStep.yield cs):Sem<|ForInStep<|List<|Str×Addr))=pure cs:=by
  intro l;induction l with
  |nil=>intro _ cs;rfl
  |cons z r ih=>
   intro hl cs;have hz:(z.2==.free)=false:=by
    have:=bl hl;rw[Bool.or_eq_true]at this;rcases this with h|h
    ·rw[be<|bl h];rfl
    ·rw[be h];rfl
   rw[List.forIn_cons,hz];exact(pure_bind _ _).trans (ih (br hl) cs)
 exact(bind_pure _).trans (this sc.names h [])
def qV{sc:Scope}(h:yW sc=true):∀y∈sc.names,y.2≠.cell/\(y.2=.local->sc.names.lookup y.1=some .local):=λy hy=>by
 have z:=bK.mp h y hy;rw[Bool.or_eq_true]at z;rcases z with z|z
 ·exact⟨λe=>(by have h:=be<|bl z;rw[h]at e;cases e),λw=>be<|br z⟩
 ·exact⟨λe=>(by have h:=be z;rw[h]at e;cases e),λe=>(by have h:=be z;rw[h]at e;cases e)⟩
def ES{α:Type}{vs vs':List α}(hl:vs'.length=vs.length)(h:∀(i:Nat) (x:α),vs'[i]?=some x->vs[i]?=some x):vs'=vs:=List.ext_getElem? λi=>by
 cases e:vs'[i]? with
 |some x=>exact(h i x e).symm
 |none=>exact(eP<|hl▸List.getElem?_eq_none_iff.mp e).symm
def Dr(S:jy)(w:World)(f:Fm)(scope:Scope)(x:Str)(elt:Expr)(D:MV->Prop)(g:MV->MV):Prop:=∀(G:Gm) C m v s₃ m₃ E',Ctx ⟨S,w,f⟩ G->D m->Av m v->(∀b o,G.h₀.get? b=some o->s₃.heap.get? b=some o)->s₃.heap.Ns C m₃->m₃ x=some v->
 wpAny (model S.prog w) G.A (eval elt<|compEnvC scope [] C<|f.env G.L) (λy s₄=>Av (g m) y/\Keeps s₃ s₄) E' s₃
def Ds{U U':jK}{D:MV->Prop}{g:MV->MV}(hD:∀m,D m->∀U v,VR U m v->Av m v)(xs:gV):(∀m∈xs,D m)->∀{vs ys:lO},jr U xs vs->Paired (λv y=>∀m,D m->Av m v->Av (g m) y) vs ys->jr U' (xs.map g) ys:=by
 induction xs with
 |nil=>intro _ vs ys h p;cases h;cases p;rfl
 |cons x xs ih=>
  exact λhx vs ys h p=>lu h λw r e a b=>by
   rw[e]at p;cases p with
   |cons f p=>exact oG (f x (hx x<|.head _)<|hD x (hx x<|.head _) _ _ a).vr<|ih (λm hm=>hx m<|.tail _ hm) b p
def Dt{G:Gm}{r r1:Rh}{h':Heap}{tk:Nat}{D:Addr}{ys:Array Value}{xs:gV}{H1:MH}(a1:At ⟨S,w,f⟩ u G r1 Lc H1)(l1:Le r r1)(ET:∀b o,r1.s.heap.get? b=some o->b≠D)(k1:∀b o,r1.s.heap.get? b=some o->h'.get? b=some o)
  (Wc:h'.PlainList D ys)(rr:∀U',jr U' xs ys.toList)(len:xs.length<=1000000)(q:Q (.ref H1.n)<|H1.new<|.list xs):ku r (uE ⟨S,w,f⟩ G Lc VR Q) (.ref D) {r1.s with heap:=h',toks:=tk}:=by
 obtain⟨nn',Wc⟩:=Wc;have hDh:G.h₀.get? D=none:=by
  cases z:G.h₀.get? D with
  |none=>rfl
  |some o=>exact aG rfl<|ET D o<|a1.T.F.keep _ _ z
 have hDL:D≠G.L:=a1.T.F.ns.elim λoL z=>z.elim λy z=>z.elim λy z=>f5<|ET G.L oL z.1;have Z:=a1.new (o:=.list xs) (d:=D) (e:=D) (more:=[(D,listOf ys nn')]) (h':=h') (tk:=tk) (bN.mpr ⟨(by intro h;cases h),List.Pairwise.nil⟩) (λq hq p' uY=>aj.mp hq▸ET _ _ (a1.T.N p' uY).1) ⟨_,.head _⟩ ⟨_,.head _⟩ rfl (a1.T.F.keeps k1)
  (λq hq=>(ao.mp hq).elim (λe=>e▸⟨Wc,hDL,hDh⟩) λhq=>⟨k1 _ _ (a1.T.N q hq).1,(a1.T.N q hq).2⟩) λy=>jT.mk D ys.toList nn' jK.uq (.head _) (rr _) len
 exact Z.a.fin (J:=VR) (b:=.ref H1.n) (v:=.ref D) (l1.trans Z.l) jK.q9 q
structure EU(scope:Scope)(x:Str)(iter:Expr):Prop where
 kind:scope.kind=.function
 names:yW scope=true
 look:scope.names.lookup x=some .local
 set:o5 iter=true
def gY.ux{iter elt:Expr}{x:Str}{px pos:Pos}{scope:Scope}{D:MV->Prop}{g:MV->MV}(c:EU scope x iter)(qt:S.quiet=true)(hD:∀m,D m->∀U v,VR U m v->Av m v)(he:Dr S w f scope x elt D g)
  (h:gY ⟨S,w,f⟩ u iter Lc H λv H1=>nR v λj=>kg (H1.at_ j) λxs=>(∀m∈xs,D m)/\Q (.ref H1.n) (H1.new<|.list<|xs.map g)):gY ⟨S,w,f⟩ u (.ListComp elt [⟨.Name x px,iter,[],0⟩] scope pos) Lc H Q:=λG E r A=>by
 refine wpAny_ListComp_free (cl:=[]) (λk=>true) (λv y=>∀m,D m->Av m v->Av (g m) y) (uT c.names) (λy hy=>(qV c.names y hy).1) c.kind (λy hy=>(qV c.names y hy).2) c.look (A.go (h _ _ _ A) λxv r1 mv H1 l1 a1 v1 q=>?_) λx=>mC c.set;refine tG (P:=λmv=>VR r1.U mv xv->wpAny (model S.prog w) G.A (pyIter xv) _ E r1.s) q (λj q v1=>listE q λxs hj q=>kh (P:=λxv=>wpAny (model S.prog w) G.A (pyIter xv) _ E r1.s) v1 λp hp=>jT.w7 (a1.T.R.obj j _ hj) a1 (λk h=>h) hp λvs nn m1 hl rv len hlen=>wpAny_pyIter_list hl ?_) v1;have hax:=a1.T.N _ m1;have hlt:p.1<r1.s.heap.objs.size:=bV hax.1;have hne:=av hlt;refine⟨r1.s.heap.objs.size,[r1.s.heap.objs.size,p.1],[r1.s.heap.objs.size],vs.toArray.size,_,_,rfl,Walks.list (a1.C.quiet qt) r1.s.heap.objs.size p.1 hne vs.toArray,by rw[bR,sizeLine_eq,hlen];exact aa len (by decide),⟨⟨_,cN _ rfl,rfl,rfl⟩,hl.at λo e=>bw _ e⟩,λb hb=>?_,⟨?_,?_⟩,?_⟩
 ·show b<(r1.s.heap.push _).objs.size;rw[fT];exact(ao.mp hb).elim (λe=>e▸bS _) λhb=>aj.mp hb▸aR hlt
 ·intro Cc i v s₃ m₃ E' _ _ _ _ _ _;rw[List.forIn_nil];exact aH ⟨rfl,s₃.heap,s₃.toks,rfl,λk k e=>e⟩
 ·intro Cc i v s₃ m₃ E' _ hP _ hns hm hkk _;have hv:vs[i]?=some v:=dM▸(hP:vs.toArray[i]?=some v);have hi:i<xs.length:=by have:=(bG.mp hv).1;rw[hlen]at this;exact this
  have hx:xs[i]?=some xs[i]:=bg hi;have hm0:=q.1 _<|List.getElem_mem hi;refine rv.get hx λwv h1 h2=>?_;cases hv.symm.trans h1;have hf:=hD _ hm0 _ _ h2;refine cZ (he G Cc _ v s₃ m₃ E' a1.C hm0 hf (λb o e=>hkk b o (λhb=>?_)<|bw _<|a1.T.F.keep b o e) hns hm) (λy s' z=>⟨λm k hf'=>Av.inj hf hf'▸z.1,z.2⟩) λk k e=>e;have:=bV<|a1.T.F.keep b o e;rw[aj.mp hb]at this;exact bI _ this
 ·intro D' h' tk ys vs' hD' hLs Wc hlen' hP hF hk;have evs:vs'=vs:=ES (by rw[hlen'];rfl) λi x e=>dM▸(hP i x e:vs.toArray[i]?=some x);rw[evs,List.filter_eq_self.mpr λk k=>rfl]at hF;have rr:=λU'=>Ds (U':=U') hD xs q.1 rv hF;have k1:∀b o,r1.s.heap.get? b=some o->h'.get? b=some o:=λb o e=>hk b o (by rw[aj];exact av<|bV e)<|bw _ e;have ET:∀b o,r1.s.heap.get? b=some o->b≠D':=λb o e q=>by have:=bw {cls:=.type "list_iterator",data:=.fields #[.ref p.1,.int 0 0]} e;rw[q,hD']at this;cases this
  exact Dt a1 l1 ET k1 Wc rr (by rw[aV];exact len) q.2
def gY.Lb{iter elt:Expr}{x:Str}{px pos:Pos}{scope:Scope}{D:MV->Prop}{g:MV->MV}(c:EU scope x iter)(qt:S.quiet=true)(hD:∀m,D m->∀U v,VR U m v->Av m v)(he:Dr S w f scope x elt D g)
  (h:gY ⟨S,w,f⟩ u iter Lc H λv H1=>pI v λl=>l.length<=gP/\(∀c∈l,D<|.str [c])/\Q (.ref H1.n) (H1.new<|.list<|l.map λc=>g<|.str [c])):gY ⟨S,w,f⟩ u (.ListComp elt [⟨.Name x px,iter,[],0⟩] scope pos) Lc H Q:=λG E r A=>by
 refine wpAny_ListComp_free (cl:=[]) (λj=>true) (λv y=>∀m,D m->Av m v->Av (g m) y) (uT c.names) (λy hy=>(qV c.names y hy).1) c.kind (λy hy=>(qV c.names y hy).2) c.look (A.go (h _ _ _ A) λxv r1 mv H1 l1 a1 v1 q=>?_) λx=>mC c.set;refine zq (P:=λmv=>VR r1.U mv xv->wpAny (model S.prog w) G.A (pyIter xv) _ E r1.s) q (λl q v1=>mY (P:=λxv=>wpAny (model S.prog w) G.A (pyIter xv) _ E r1.s) v1 λt=>wpAny_pyIter_str λo St W h0=>?_) v1;have hs:(⟨l.toArray⟩:Str).cps.size=l.length:=by simp
 refine⟨r1.s.heap.objs.size,[r1.s.heap.objs.size],[r1.s.heap.objs.size],_,_,_,rfl,W G.A<|a1.C.quiet qt,by rw[hs,sizeLine_eq];exact aa q.1 (by decide),h0,λb hb=>?_,⟨?_,?_⟩,?_⟩
 ·show b<(r1.s.heap.push _).objs.size;rw[fT];exact aj.mp hb▸bS _
 ·intro Cc i v s₃ m₃ E' _ _ _ _ _ _;rw[List.forIn_nil];exact aH ⟨rfl,s₃.heap,s₃.toks,rfl,λj j e=>e⟩
 ·intro Cc i v s₃ m₃ E' _ hP _ hns hm hkk _;obtain⟨cc,uu,hcc,rfl⟩:=hP;have hc:l[i]?=some cc:=by simpa using hcc
  have hm0:=q.2.1 _<|bP hc;have hf:Av (.str [cc]) (.str ⟨#[cc]⟩ uu):=⟨uu,rfl⟩;refine cZ (he G Cc _ _ s₃ m₃ E' a1.C hm0 hf (λb o e=>hkk b o (λhb=>?_)<|bw _<|a1.T.F.keep b o e) hns hm) (λy s' z=>⟨λm j hf'=>Av.inj hf hf'▸z.1,z.2⟩) λj j e=>e;have:=bV<|a1.T.F.keep b o e;rw[aj.mp hb]at this;exact bI _ this
 ·intro D' h' tk ys vs hD' hLs Wc hlen' hP hF hk;rw[List.filter_eq_self.mpr λj j=>rfl]at hF;have rv:jr r1.U (l.map λc=>MV.str [c]) vs:=jr.of_get (by rw[hlen',hs,aV]) λi v x hv hx=>by
   obtain⟨cc,uu,hcc,rfl⟩:=hP i x hx;have hc:l[i]?=some cc:=by simpa using hcc
   rw[bh,hc]at hv;cases ay hv;exact⟨uu,rfl⟩
  have rr:=λU'=>Ds (U':=U') hD (l.map λc=>MV.str [c]) (λm hm=>(bU.mp hm).elim λc z=>z.2▸q.2.1 c z.1) rv hF;have k1:∀b o,r1.s.heap.get? b=some o->h'.get? b=some o:=λb o e=>hk b o (by rw[aj];exact av<|bV e)<|bw _ e;have ET:∀b o,r1.s.heap.get? b=some o->b≠D':=λb o' e q=>by have:=bw o e;rw[q,hD']at this;cases this
  rw[bZ]at rr;exact Dt a1 l1 ET k1 Wc rr (by rw[aV];exact q.1) q.2.2
def isInt(m:MV):Prop:=∃i,m=.int i
def Tu(m:MV):Prop:=∃c,m=.str [c]
noncomputable def PK(m:MV):MV:=m.casesOn .none .bool (λi=>.int<|i.fmod 27720) .str .ref .tup .jR .cls .ty
noncomputable def Wd(l:iK)(m:MV):MV:=m.casesOn .none .bool (λi=>.str<|l.getD (i.fmod 20).toNat []) .str .ref .tup .jR .cls .ty
noncomputable def We(m:MV):MV:=m.casesOn .none .bool .int (λl=>.str<|if l=[39]then[39,39]else l) .ref .tup .jR .cls .ty
def zI:∀m,isInt m->∀U v,VR U m v->Av m v:=λm h U v=>by obtain⟨i,rfl⟩:=h;exact λh=>h
def EV:∀m,Tu m->∀U v,VR U m v->Av m v:=λm h U v=>by obtain⟨i,rfl⟩:=h;exact λh=>h
def oW(x:Str)(e:Expr):Bool:=oz e λy=>y==x
def Wf(n:Int)(x:Str)(e:Expr):Bool:=EF e λl o r=>(o==.Mod)&&(oW x l&&AA r λc=>c==.int n)
def IU(l:LN)(e:Expr):Bool:=AA e λc=>c==.str (gN l)
def Tv(x:Str)(sc:Scope)(e:Expr):Bool:=Wf 27720 x e
def Tw(x:Str)(sc:Scope)(e:Expr):Bool:=yr e λa i=>pJ i&&(oW vM a&&((sc.names.lookup vM==some .globalImplicit)&&Wf 20 x i))
def Tz(x:Str)(sc:Scope)(e:Expr):Bool:=Zj e λc a b=>BN c (λl os rs=>l1 os λo=>l1 rs λr=>(o==.Eq)&&(oW x l&&IU [39] r))&&(IU [39,39] a&&oW x b)
def aco(md:Nat)(x:Str)(sc:Scope)(e:Expr):Bool:=md.casesOn (Tv x sc e) λmd=>md.casesOn (Tw x sc e) λz=>Tz x sc e
def TA(md:Nat)(e:Expr)(k:Expr->Bool):Bool:=Pp e λelt cs scope=>l1 cs λc=>l0 c.ifs<|(c.is_async==0)&&oz c.target λx=>aco md x scope elt&&((scope.kind==.function)&&(yW scope&&((scope.names.lookup x==some .local)&&(o5 c.iter&&(!(x==("__debug__":Str))&&k c.iter)))))
theorem rZ{env:Env}{k:NameKind}(hk:(k==.free)=false):∀{names:List (Str×NameKind)} {x:Str},names.lookup x=some k->
  (names.map λ(n,k)=>if(k==NameKind.free&&env.scope.kind==.function&&env.kindOf n==some .cell)then(n,NameKind.cell)else(n,k)).lookup x=some k
 |[],_,h=>by cases h
 |(n,k')::r,x,h=>by
  have ih:=@rZ env k hk r x;rw[cG];rw[c7]at h;cases q:x==n with
  |true=>rw[q]at h;cases ay h;show List.lookup x ((if(k==NameKind.free&&_&&_)=true then(n,NameKind.cell)else(n,k))::_)=_;rw[hk];show List.lookup x ((n,k)::_)=_;rw[c7,q]
  |false=>rw[q]at h;show List.lookup x ((if(k'==NameKind.free&&_&&_)=true then(n,NameKind.cell)else(n,k'))::_)=_;split<;>(rw[c7,q];exact ih h)
variable{scope:Scope}{x:Str}{elt:Expr}
structure Yq(scope:Scope)(x:Str):Prop where
 kind:scope.kind=.function
 look:scope.names.lookup x=some .local
 dbg:(x==("__debug__":Str))=false
def Ld{v:MV}{K K':Nat->Prop}(h:nR v K)(m:∀a,K a->K' a):nR v K':=tG (P:=λv=>nR v K') h m
def Lf{o:Option MO}{K K':gV->Prop}(h:kg o K)(m:∀a,K a->K' a):kg o K':=listE h λa e h=>e▸m a h
def Zy{v:MV}{K K':LN->Prop}(h:pI v K)(m:∀a,K a->K' a):pI v K':=zq (P:=λv=>pI v K') h m
def Wg{s:Shared}{n:Nat}:Keeps s {s with toks:=n}:=⟨s.heap,n,rfl,λz z e=>e⟩
def Lg{G:Gm}{C:Addr}{s:Shared}{m:Str->Option Value}{v:Value}{E:qT}{R:qT}{e:Expr}(c:Yq scope x)(hb:oW x e=true)(hns:s.heap.Ns C m)(hm:m x=some v)(h:R v s):
  wpAny (model S.prog w) G.A (eval e<|compEnvC scope [] C<|f.env G.L) R E s:=i6 hb λy p e hc=>by
 subst e;cases be hc;exact wpAny_Name (eT (by show scope.kind=.function;exact c.kind) (rZ rfl c.look) hns hm h) c.dbg
def Zz{G:Gm}{C:Addr}{s:Shared}{m:Str->Option Value}{n i:Int}{t:Tok}{E:qT}{R:qT}{e:Expr}(c:Yq scope x)(hn:n≠0)(hb:Wf n x e=true)(hns:s.heap.Ns C m)(hm:m x=some (.int i t))(h:∀t' tk,R (.int (i.fmod n) t') {s with toks:=tk}):
  wpAny (model S.prog w) G.A (eval e<|compEnvC scope [] C<|f.env G.L) R E s:=zy hb λl o r pb z4 hd=>pS (br<|br hd) λcc kk pc z6 hcc=>by
 rw[z4,z6,be<|bl hd,be hcc];exact wpAny_BinOp<|Lg c (bl<|br hd) hns hm<|wpAny_Constant_int<|mod_int' hn<|h _ _
def acp(c:Yq scope x)(hb:Tv x scope elt=true):Dr S w f scope x elt isInt PK:=λG C m v s₃ m₃ E' K hm hf hk hns hx=>by obtain⟨i,rfl⟩:=hm;obtain⟨t,rfl⟩:=hf;exact Zz c (by decide) hb hns hx λt' tk=>⟨⟨t',rfl⟩,Wg⟩
theorem acq(c:Yq scope x)(hb:Tz x scope elt=true):Dr S w f scope x elt Tu We:=λG C m v s₃ m₃ E' K hm hf hk hns hx=>by
 obtain⟨ch,rfl⟩:=hm;obtain⟨t,rfl⟩:=hf;refine KH hb λcc a b p e0 hb=>rX (bl hb) λl os rs p1 e1 h1=>n5 h1 λo e2 h1=>n5 h1 λr e3 h1=>pS (br<|br h1) λc1 k1 pc1 e4 h4=>pS (bl<|br hb) λc2 k2 pc2 e5 h5=>?_;have e6:=be<|bl h1;have h6:=bl<|br h1;have h7:=br<|br hb;rw[e0,e1,e2,e3,e4,e5,be h4,be h5,e6];refine wpAny_IfExp<|eO (Lg c h6 hns hx<|fj<|P.eq_str<|cX ?_) rfl;by_cases h:ch=39
 ·subst h;show if(([39]:LN)==[39])=true then _ else _;rw[aF<|by decide];exact fj ⟨⟨_,rfl⟩,s₃.heap,_,rfl,λz z e=>e⟩
 ·show if(([ch]:LN)==[39])=true then _ else _;rw[aE<|by simp[h]];refine Lg c h7 hns hx ⟨⟨t,?_⟩,Wg⟩;show _=Value.str ⟨(if[ch]=[39]then[39,39]else[ch]).toArray⟩ t;rw[aE<|by simp[h]]
def acr{ls:iK}(O:j3 S w)(hl:S.sl=some ls)(h20:ls.length=20)(c:Yq scope x)(hb:Tw x scope elt=true):Dr S w f scope x elt isInt (Wd ls):=λG C m v s₃ m₃ E' K hm hf hk hns hx=>by
 obtain⟨i,rfl⟩:=hm;obtain⟨t,rfl⟩:=hf;refine ro hb λa ix p e0 hb=>i6 (bl<|br hb) λy p1 e1 h1=>?_;cases be h1;refine fX λgG=>?_;obtain⟨ad,vs,n,g1,g2,g3⟩:=(O.sl _ hl).val;refine gG ?_;refine fX λgG=>?_;obtain⟨mg,mb,T⟩:=K.T;refine gG ?_;rw[e0,e1];refine fM<|fP (by show scope.kind=.function;exact c.kind) (rZ rfl<|be<|bl<|br<|br hb) (loadGlobal_global (env:=compEnvC scope [] C<|f.env G.L) (T.g.keeps hk) (mg_of K.X T.g g1)<|Zz c (by decide) (br<|br<|br hb) hns hx λt' tk=>?_)<|by decide
 have hL:s₃.heap.IsList ad vs:=⟨_,hk _ _<|K.X _ _ g2,rfl,n,rfl⟩;have hn:i.fmod 20=(((i.fmod 20).toNat:Nat):Int):=(Int.toNat_of_nonneg<|eE _<|by decide).symm;have hlt:(i.fmod 20).toNat<ls.length:=by have:=Int.fmod_lt_of_pos i (b:=20) (by decide);omega
 obtain⟨t2,ht2⟩:=g3 (i.fmod 20).toNat ls[(i.fmod 20).toNat]<|bg hlt;refine n7 (V:=⟨S,w,f⟩) (G:=G) (T:="list") hL.typeIs PySem.slot_list_getitem.lookup (?_:wpAny _ _ (getItem (.ref ad)<|.int (i.fmod 20) t') _ _ _)<|kK<|bl hb;refine PyProof.Rows.getItem_listL (l:=vs.toList) (by simpa using hL) (eE _<|by decide) (by omega) (x:=.str (gN ls[(i.fmod 20).toNat]) t2) (by simpa using ht2) ⟨⟨t2,?_⟩,Wg⟩;show _=Value.str ⟨(ls.getD _ []).toArray⟩ t2;rw[bD,bg hlt];rfl
def Gn(S:jy)(md:Nat)(v:MV)(H:MH)(Q:QV):Prop:=md.casesOn (nR v λj=>kg (H.at_ j) λxs=>(∀m∈xs,isInt m)/\Q (.ref H.n) (H.new<|.list<|xs.map PK)) λmd=>md.casesOn (nR v λj=>kg (H.at_ j) λxs=>jA (S.sl) λls=>ls.length=20/\(∀m∈xs,isInt m)/\Q (.ref H.n) (H.new<|.list<|xs.map<|Wd ls))
 λz=>pI v λl=>l.length<=gP/\Q (.ref H.n) (H.new<|.list<|l.map λc=>We<|.str [c])
def gY.ZA{md:Nat}{e:Expr}{k:Expr->Bool}(O:j3 S w)(hb:TA md e k=true)(qt:S.quiet=true)(h:∀iter,k iter=true->gY ⟨S,w,f⟩ u iter Lc H (λv H1=>Gn S md v H1 Q)):gY ⟨S,w,f⟩ u e Lc H Q:=
 KL hb λelt cs scope pos z0 hb=>n5 hb λcc z1 hb=>qA hb λz2 hb=>i6 (br hb) λx px z3 hc=>by
 have h2:=bl hc;have h3:=be<|bl<|br hc;have h4:=bl<|br<|br hc;have h5:=be<|bl<|br<|br<|br hc;have h6:=bl<|br<|br<|br<|br hc;have h7:=bn<|bl<|br<|br<|br<|br<|br hc;have h:=h _<|br<|br<|br<|br<|br<|br hc;obtain⟨tt,iter,ifs,ia⟩:=cc;cases(z2:ifs=[]);cases(z3:tt=.Name x px);cases(be (bl hb):ia=0);rw[z0,z1];have c:EU scope x iter:=⟨h3,h4,h5,h6⟩;have sc:Yq scope x:=⟨h3,h5,h7⟩;cases md with
 |zero=>exact gY.ux c qt zI (acp sc h2) h
 |succ md=>induction md with
  |zero=>
   cases hs:S.sl with
   |none=>exact gY.ux (g:=id) (D:=λz=>False) c qt (λz h=>h.elim) (λz z z z z z z z h=>h.elim)<|Ev.mono h λv H1 q=>Ld q λj q=>Lf q λxs q=>by rw[hs]at q;exact q.elim
   |some ls=>
    by_cases h20:ls.length=20
    ·exact gY.ux c qt zI (acr O hs h20 sc h2)<|Ev.mono h λv H1 q=>Ld q λj q=>Lf q λxs q=>by rw[hs]at q;exact q.2
    ·exact gY.ux (g:=id) (D:=λz=>False) c qt (λz h=>h.elim) (λz z z z z z z z h=>h.elim)<|Ev.mono h λv H1 q=>Ld q λj q=>Lf q λxs q=>by rw[hs]at q;exact aG q.1 h20
  |succ=>exact gY.Lb c qt EV (acq sc h2)<|Ev.mono h λv H1 q=>Zy q λl q=>⟨q.1,λc z=>⟨c,rfl⟩,q.2⟩
end
section
variable(S:jy)(f:Fm)
noncomputable def pL(k:Nat)(x:Str):Bool:=(f.ns[k]?==some x)&&((f.sc.names.lookup x==some .local)&&!(x==("__debug__":Str)))
noncomputable def tP(x:Str)(v:Value):Bool:=(S.gl.lookup x==some v)&&((f.sc.names.lookup x==some .globalImplicit)&&!(x==("__debug__":Str)))
def Gp(k:Nat)(o:Expr)(x:Str):Bool:=lZ o&&(S.nm[k]?==some x)
def uy(es:pP)(kws:List Keyword):Bool:=es.all jt&&(kwOk kws&&decide (es.length+kws.length+(if kws.isEmpty then 0 else 1)<30))
structure CX where
 E:Expr->Bool
 T:Expr->Bool
 L:pP->Bool
 V:pP->Bool
 B:pP->Bool
 O:Option Expr->Bool
noncomputable def CX.p(E:Expr->Bool):CX:=⟨E,E,λz=>false,λz=>false,λz=>false,λz=>false⟩
noncomputable def CX.e(E:Expr->Bool):CX:=⟨E,λz=>false,λz=>false,λz=>false,λz=>false,λz=>false⟩
noncomputable def CX.t(E T:Expr->Bool):CX:=⟨E,T,λz=>false,λz=>false,λz=>false,λz=>false⟩
noncomputable def CX.o(O:Option Expr->Bool):CX:=⟨λz=>false,λz=>false,λz=>false,λz=>false,λz=>false,O⟩
noncomputable def PM(l:pP):Bool:=l.isEmpty
noncomputable def Gq(p:Expr->Bool)(q:pP->Bool)(l:pP):Bool:=l.casesOn false λe r=>p e&&q r
def Wh(b:Bool)(p:Expr->Bool)(q:pP->Bool)(l:pP):Bool:=Gq p (λr=>cond b r.isEmpty<|!r.isEmpty&&q r) l
def Lh(S:jy)(f:Fm):CX:=.p λe=>AA e λc=>c==.none
def Li(S:jy)(f:Fm)(b:Bool):CX:=.p λe=>AA e λc=>c==.bool b
def TB(S:jy)(f:Fm)(i:Int):CX:=.p λe=>AA e λc=>c==.int i
def TF(S:jy)(f:Fm)(l:LN):CX:=.p λe=>AA e λc=>c==.str (gN l)
def TG(S:jy)(f:Fm)(k:Nat):CX:=.p λe=>oz e λx=>pL f k x
def Lj(S:jy)(f:Fm)(c:Nat):CX:=.p λe=>oz e λx=>tP S f x<|.ref c
def TH(S:jy)(f:Fm)(n:String):CX:=.p λe=>oz e λx=>tP S f x<|.type n
def Lk(S:jy)(f:Fm)(k:Nat)(a:CX):CX:=.p λe=>xj e λo x z=>Gp S k o x&&a.E o
def Gr(S:jy)(f:Fm)(k:Nat)(a:CX):CX:=.p λe=>xj e λo x z=>Gp S k o x&&a.E o
def Gs(S:jy)(f:Fm)(k:Nat)(kn:oq)(o:CX)(as:CX)(ks:CX):CX:=.p λe=>rH e λg es kws pos=>xj g λo' x ap=>Gp S k o' x&&(uy es kws&&((ap.endLine==pos.line)&&((Px kws==kn)&&(o.E o'&&(as.L es&&ks.L (To kws))))))
def Gu(S:jy)(f:Fm)(k:Nat)(o:CX):CX:=.p λe=>rH e λg es kws pos=>l0 es<|l0 kws<|xj g λo' x ap=>Gp S k o' x&&((ap.endLine==pos.line)&&o.E o')
def Gv(S:jy)(f:Fm)(fa:Nat)(kn:oq)(as:CX)(ks:CX):CX:=.p λe=>rH e λg es kws z=>oz g λx=>tP S f x (.ref fa)&&(uy es kws&&((Px kws==kn)&&(as.L es&&ks.L (To kws))))
def Ll(S:jy)(f:Fm)(c:Nat)(kn:oq)(as:CX)(ks:CX):CX:=.p λe=>rH e λg es kws z=>oz g λx=>tP S f x (.ref c)&&(uy es kws&&((Px kws==kn)&&(as.L es&&ks.L (To kws))))
def Gw(S:jy)(f:Fm)(k:Nat)(as:CX):CX:=.p λe=>rH e λg es kws z=>l0 kws<|oz g λx=>pL f k x&&(uy es []&&as.L es)
def Gx(S:jy)(f:Fm)(b:BF)(as:CX):CX:=.p λe=>rH e λg es kws z=>l0 kws<|oz g λx=>(x==b.nm)&&(tP S f x b.fv&&(uy es []&&as.L es))
def Gy(S:jy)(f:Fm)(m:KM)(o:CX)(as:CX):CX:=.p λe=>rH e λg es kws pos=>l0 kws<|xj g λo' x ap=>lZ o'&&((x==m.nm)&&(uy es []&&(decide (es.length<29)&&((ap.endLine==pos.line)&&(o.E o'&&as.L es)))))
def TJ(S:jy)(f:Fm)(op:Operator)(l:CX)(r:CX):CX:=.p λe=>EF e λl' op' r'=>(op'==op)&&(l.E l'&&r.E r')
def TL(S:jy)(f:Fm)(op:CmpOp)(l:CX)(r:CX):CX:=.p λe=>BN e λl' ops rs=>l1 ops λop'=>l1 rs λr'=>(op'==op)&&(!(behindInMarks op' r')&&(l.E l'&&r.E r'))
def Gz(S:jy)(f:Fm)(o1:CmpOp)(o2:CmpOp)(l:CX)(m:CX)(r:CX):CX:=.p λe=>BN e λl' ops rs=>l2 ops λa b=>l2 rs λm' r'=>(a==o1)&&((b==o2)&&(!(lastMarks [a,b] [m',r'])&&(l.E l'&&(m.E m'&&r.E r'))))
def TM(S:jy)(f:Fm)(op:BoolOp)(es:CX):CX:=.t (λe=>Po e λop' es'=>(op'==op)&&es.V es') λe=>Po e λop' es'=>(op'==op)&&es.B es'
def TP(S:jy)(f:Fm)(a:CX):CX:=.t (λe=>Zi e λo b=>(o==.Not)&&a.E b) λe=>Zi e λo b=>(o==.Not)&&a.T b
def TR(S:jy)(f:Fm)(a:CX):CX:=.e λe=>Zi e λo b=>(o==.USub)&&a.E b
def TU(S:jy)(f:Fm)(c:CX)(a:CX)(b:CX):CX:=.e λe=>Zj e λc' a' b'=>c.T c'&&(a.E a'&&b.E b')
def TV(S:jy)(f:Fm)(a:CX)(i:CX):CX:=.p λe=>yr e λa' i'=>pJ i'&&(a.E a'&&i.E i')
def TX(S:jy)(f:Fm)(a:CX)(lo:CX)(hi:CX):CX:=.p λe=>yr e λa' s=>VL s λl h st=>o0 st<|a.E a'&&(lo.O l&&hi.O h)
def Lm(S:jy)(f:Fm)(es:CX):CX:=.e λe=>VN e λes'=>es'.all jt&&es.L es'
def TY(S:jy)(f:Fm)(es:CX):CX:=.e λe=>EG e λes'=>es'.all jt&&es.L es'
def TZ(S:jy)(f:Fm):CX:=.e λe=>KJ e λks vs=>l0 ks<|l0 vs true
def Ua(S:jy)(f:Fm):CX:=.e λe=>KJ e λks vs=>l0 ks<|l0 vs true
def ZC(S:jy)(f:Fm):CX:=.e λz=>true
def Ub(S:jy)(f:Fm):CX:=⟨λz=>false,λz=>false,PM,PM,PM,λz=>false⟩
def Ln(S:jy)(f:Fm)(r':IE)(a:CX)(r:CX):CX:=⟨λz=>false,λz=>false,Gq a.E r.L,Wh (OG r') a.E r.V,Gq a.T r.B,λz=>false⟩
def ZD(S:jy)(f:Fm):CX:=.o λo=>o.isNone
def Uc(S:jy)(f:Fm)(a:CX):CX:=.o λo=>o.casesOn false a.E
def Lo(S:jy)(f:Fm)(l:CX)(r:CX):CX:=.p λe=>EF e λl' op' r'=>(op'==.Add)&&(l.E l'&&r.E r')
def Lp(S:jy)(f:Fm)(l:CX)(r:CX):CX:=.t um λe=>BN e λl' ops rs=>l1 ops λop'=>l1 rs λr'=>(op'==.In)&&(!(behindInMarks .In r')&&(l.E l'&&r.E r'))
def GA(S:jy)(f:Fm)(a:CX)(i:CX):CX:=.e λe=>yr e λa' i'=>pJ i'&&(a.E a'&&i.E i')
def Lq(S:jy)(f:Fm)(md:Nat)(a:CX):CX:=.e λe=>S.quiet&&TA md e a.E
def cx(e:IE):CX:=e.rec (Lh S f) (λb=>Li S f b) (λi=>TB S f i) (λl=>TF S f l) (λk=>TG S f k) (λc=>Lj S f c) (λn=>TH S f n) (λz k a=>Lk S f k a) (λz k a=>Gr S f k a) (λz k z kn z o as ks=>Gs S f k kn o as ks) (λz k o=>Gu S f k o) (λfa z kn z as ks=>Gv S f fa kn as ks) (λc z kn z as ks=>Ll S f c kn as ks) (λk z as=>Gw S f k as) (λb z as=>Gx S f b as) (λm z z o as=>Gy S f m o as) (λop z z l r=>TJ S f op l r) (λop z z l r=>TL S f op l r) (λo1 o2 z z z l m r=>Gz S f o1 o2 l m r) (λop z es=>TM S f op es) (λz a=>TP S f a) (λz a=>TR S f a) (λz z z c a b=>TU S f c a b) (λz z a i=>TV S f a i) (λz z z a lo hi=>TX S f a lo hi) (λz es=>Lm S f es) (λz es=>TY S f es) (TZ S f) (Ua S f) (ZC S f) (Ub S f) (λz r' a r=>Ln S f r' a r) (ZD S f) (λz a=>Uc S f a) (λz z l r=>Lo S f l r) (λz z l r=>Lp S f l r) (λz z a i=>GA S f a i) λmd z a=>Lq S f md a
abbrev pU(e:IE):Expr->Bool:=(cx S f e).E
abbrev PN(e:IE):Expr->Bool:=(cx S f e).T
noncomputable def acu(l:sD):Bool:=l.isEmpty
structure CS where
 S:Stmt->Bool
 B:sD->Bool
noncomputable def CS.s(p:Stmt->Bool):CS:=⟨p,λz=>false⟩
def PO(S:jy)(f:Fm):CS:=.s λst=>V0 st λz=>true
def Wi(S:jy)(f:Fm):CS:=.s λst=>V2 st λz=>true
def PU(S:jy)(f:Fm):CS:=.s λst=>V4 st λz=>true
def Wj(S:jy)(f:Fm)(e:IE):CS:=.s λst=>EI st λv=>o1 v λe'=>pU S f e e'
def PV(S:jy)(f:Fm):CS:=.s λst=>EI st λv=>o0 v true
def PW(S:jy)(f:Fm)(e:IE):CS:=.s λst=>Pq st λe'=>nW e'&&pU S f e e'
def Wk(S:jy)(f:Fm)(k:Nat)(e:IE):CS:=.s λst=>BO st λts e'=>l1 ts λt=>oz t λx=>pL f k x&&(nW e'&&pU S f e e')
def PX(S:jy)(f:Fm)(k:Nat)(j:Nat)(e:IE):CS:=.s λst=>BO st λts e'=>l2 ts λt u=>oz t λx=>oz u λy=>pL f k x&&(pL f j y&&pU S f e e')
def PY(S:jy)(f:Fm)(k:Nat)(j:Nat)(i:Nat)(e:IE):CS:=.s λst=>BO st λts e'=>l3 ts λt u v=>oz t λx=>oz u λy=>oz v λz=>pL f k x&&(pL f j y&&(pL f i z&&pU S f e e'))
def PZ(S:jy)(f:Fm)(ks:LN)(e:IE):CS:=.s λst=>BO st λts e'=>l1 ts λt=>EG t λes=>S.quiet&&(EJ e'&&(nW e'&&(mh f es ks&&pU S f e e')))
def P8(S:jy)(f:Fm)(o:IE)(k:Nat)(e:IE):CS:=.s λst=>BO st λts e'=>l1 ts λt=>xj t λo' x z=>(S.nm[k]?==some x)&&(nW e'&&(pU S f e e'&&pU S f o o'))
def P9(S:jy)(f:Fm)(o:IE)(i:IE)(e:IE):CS:=.s λst=>BO st λts e'=>l1 ts λt=>yr t λo' i'=>nW e'&&(pU S f e e'&&(pU S f o o'&&pU S f i i'))
def Qa(S:jy)(f:Fm)(k:Nat)(op:Operator)(e:IE):CS:=.s λst=>Pu st λt op' e'=>oz t λx=>pL f k x&&((op'==op)&&(!(op==.Mult)&&pU S f e e'))
def Qc(S:jy)(f:Fm)(o:IE)(k:Nat)(op:Operator)(e:IE):CS:=.s λst=>Pu st λt op' e'=>xj t λo' x z=>(S.nm[k]?==some x)&&((op'==op)&&(!(op==.Mult)&&(pU S f o o'&&pU S f e e')))
def Wl(S:jy)(f:Fm)(c:IE)(t:CS)(e:CS):CS:=.s λst=>Pw st λc' t' e'=>PN S f c c'&&(t.B t'&&e.B e')
def Wm(S:jy)(f:Fm)(c:IE)(b:CS)(o:CS):CS:=.s λst=>VP st λc' b' o'=>PN S f c c'&&(b.B b'&&o.B o')
def Qd(S:jy)(f:Fm)(k:Nat)(e:IE)(b:CS):CS:=.s λst=>BP st λt e' b' o=>l0 o<|oz t λx=>S.quiet&&(o5 e'&&(pL f k x&&(pU S f e e'&&b.B b')))
def Qe(S:jy)(f:Fm)(k:Nat)(e:IE)(b:CS):CS:=.s λst=>BP st λt e' b' o=>l0 o<|oz t λx=>S.quiet&&(o5 e'&&(pL f k x&&(pU S f e e'&&b.B b')))
def GB(S:jy)(f:Fm)(ks:LN)(e:IE)(b:CS):CS:=.s λst=>BP st λt i b' o=>l0 o<|EG t λes=>rH i λg as kws z=>l0 kws<|l1 as λe'=>oz g λy=>S.quiet&&((y==("enumerate":Str))&&(tP S f y (.type "enumerate")&&(mh f es ks&&((ks.length==2)&&(jt e'&&(pU S f e e'&&b.B b'))))))
def Qf(S:jy)(f:Fm)(b:CS)(o:CS):CS:=.s λst=>VT st λb' hs o' fb=>!hs.isEmpty&&(fb.isEmpty&&(b.B b'&&o.B o'))
def Wn(S:jy)(f:Fm)(o:IE)(i:IE):CS:=.s λst=>VV st λts=>l1 ts λt=>yr t λo' i'=>pU S f o o'&&pU S f i i'
def Qg(S:jy)(f:Fm)(e:IE):CS:=.s λst=>VY st λe'=>PN S f e e'
def Qh(S:jy)(f:Fm)(i:Nat):CS:=.s λst=>S.quiet&&S.xs i f st
def Wo(S:jy)(f:Fm):CS:=.s λz=>true
def Wq(S:jy)(f:Fm):CS:=⟨λz=>false,acu⟩
noncomputable def Qi(S:jy)(f:Fm)(s:CS)(r:CS):CS:=⟨λz=>false,λl=>l.casesOn false λs' r'=>s.S s'&&r.B r'⟩
def Qj(S:jy)(f:Fm)(ks:LN)(e:IE)(b:CS):CS:=.s λst=>BP st λt e' b' o=>l0 o<|EG t λes=>S.quiet&&(o5 e'&&(mh f es ks&&(pU S f e e'&&b.B b')))
def GC(S:jy)(f:Fm)(k:Nat)(e:IE)(b:CS):CS:=.s λst=>BP st λt e' b' o=>l0 o<|oz t λx=>S.quiet&&(o5 e'&&(pL f k x&&(pU S f e e'&&b.B b')))
def GD(S:jy)(f:Fm)(k:Nat)(e:IE)(b:CS):CS:=.s λst=>BP st λt i b' o=>l0 o<|oz t λx=>rH i λg as kws z=>l0 kws<|l1 as λe'=>oz g λy=>S.quiet&&((y==("range":Str))&&(tP S f y (.type "range")&&(pL f k x&&(jt e'&&(pU S f e e'&&b.B b')))))
def cs(s:IS):CS:=s.rec (PO S f) (Wi S f) (PU S f) (λe=>Wj S f e) (PV S f) (λe=>PW S f e) (λk e=>Wk S f k e) (λk j e=>PX S f k j e) (λk j i e=>PY S f k j i e) (λks e=>PZ S f ks e) (λo k e=>P8 S f o k e) (λo i e=>P9 S f o i e) (λk op e=>Qa S f k op e) (λo k op e=>Qc S f o k op e) (λc z z t e=>Wl S f c t e) (λc z z b o=>Wm S f c b o) (λk e z b=>Qd S f k e b) (λk e z b=>Qe S f k e b) (λks e z b=>GB S f ks e b) (λz z b o=>Qf S f b o) (λo i=>Wn S f o i) (λe=>Qg S f e) (Qh S f) (Wo S f) (Wq S f) (λz z s r=>Qi S f s r) (λks e z b=>Qj S f ks e b) (λk e z b=>GC S f k e b) λk e z b=>GD S f k e b
abbrev Du(s:IS):sD->Bool:=(cs S f s).B
end
section
variable(S:jy)(w:World)(f:Fm)(lv:Nat)
def IV(ic:IE)(ib io:IB)(Lc:Loc)(H:MH)(Q:QF):Prop:=∀c body orelse,PN S f ic c=true->Du S f ib body=true->Du S f io orelse=true->Tr ⟨S,w,f⟩ (8*lv) c body orelse Lc H Q
def xo(ib:IB)(us:List<|Loc->Loc)(Lc:Loc)(H:MH)(Q:QF):Prop:=∀body,Du S f ib body=true->pK ⟨S,w,f⟩ (8*lv) body us Lc H Q
def Ox(ib:IB)(Lc:Loc)(H:MH)(Q:QF):Prop:=∀body,Du S f ib body=true->tM ⟨S,w,f⟩ (8*lv) body Lc H Q
def ff{P:Prop}(h:false=true):P:=aG h aI
def vR(k:KM):PlainAttrs k.kind.tn/\Slot k.kind.tn k.nm k.id/\typeOf (.builtin k.id)=pure (.type "method_descriptor"):=by
 induction k with
 |neg=>exact⟨fD,PySem.F.slot_list_append,PySem.F.type_list_append⟩
 |pos=>exact⟨fD,PySem.F.slot_list_pop,PySem.F.type_list_pop⟩
 |abs=>exact⟨fD,PySem.F.slot_list_extend,PySem.F.type_list_extend⟩
 |invert=>exact⟨PySem.F.plainAttrs_str,PySem.F.slot_str_join,PySem.F.type_str_join⟩
end
section
variable{S:jy}{w:World}{f:Fm}{lv:Nat}{Lc:Loc}{H:MH}{Q:QV}{P:Prop}
def lP.u{fa:Nat}{g7 kv:gV}{kn:oq}(h:lP S w lv fa g7 kn kv H Q):uQ ⟨S,w,f⟩ (8*lv) fa g7 kn kv H Q:=h.elim λl h=>⟨l,f9 8 h.1,h.2⟩
def jh{k:Nat}{x:Str}(h:pL f k x=true):pZ f k x:=⟨be<|bl h,be<|bl<|br h⟩
def yX{k:Nat}{x:Str}(h:pL f k x=true):(x==("__debug__":Str))=false:=bn<|br<|br h
def o6(O:j3 S w){x:Str}{v:Value}(h:tP S f x v=true):rY (S.K w.params) f x v:=⟨O.gl x v<|be<|bl h,be<|bl<|br h,bn<|br<|br h⟩
def onM{v:MV}{k:Nat}{K K':Nat->Nat->List (Nat×MV)->Prop}(h:pR v k H K)(m:∀i c fs,K i c fs->K' i c fs):pR v k H K':=YZ (P:=λv=>pR v k H K') h λi c fs hi q=>(aq (qz · (K' i)) hi).mpr<|m i c fs q
def qG{α:Type}{o:Option α}{K K':α->Prop}(h:jA o K)(m:∀a,K a->K' a):jA o K':=by induction o with|none=>exact h|some a=>exact m a h
def acv{v:MV}{K K':Nat->Nat->Prop}(h:O1 v K)(m:∀a i,K a i->K' a i):O1 v K':=YW h λa i e h=>e▸m a i h
def ZE{o:nF}{K K':Nat->Nat->Prop}(h:AX o K)(m:∀a i,K a i->K' a i):AX o K':=qG h λv h=>acv h m
def Ql{V:Th}{b:BF}:∀G,Kept V G b.fv:=λG=>by cases b<;>first|exact KQ|exact EM
def EW{l:pP}(h:PM l=true)(k:l=[]->P):P:=by induction l with|nil=>exact k rfl|cons=>exact ff h
def yY{p:Expr->Bool}{q:pP->Bool}{l:pP}(h:Gq p q l=true)(k:∀e r,l=e::r->p e=true->q r=true->P):P:=by induction l with|nil=>exact ff h|cons e r=>exact k e r rfl (bl h)<|br h
structure Lr(S:jy)(w:World):Prop extends j3 S w where
 xok:∀(f:Fm) (lv i:Nat) (st:Stmt) (Lc:Loc) (H:MH) (Q:QF),S.quiet=true->S.xs i f st=true->S.xw i Lc H Q->j8 ⟨S,w,f⟩ (8*lv) st Lc H Q
end
section
variable{S:jy}{w:World}{f:Fm}{lv:Nat}{Lc:Loc}{H:MH}{Q:QF}{P:Prop}
def xq{v:MV}{K K':Nat->Prop}(h:nR v K)(m:∀a,K a->K' a):nR v K':=tG (P:=λv=>nR v K') h m
def Dv{v:MV}{K K':LN->Prop}(h:pI v K)(m:∀a,K a->K' a):pI v K':=zq (P:=λv=>pI v K') h m
def BY{o:Option MO}{K K':gV->Prop}(h:kg o K)(m:∀a,K a->K' a):kg o K':=listE h λa e h=>e▸m a h
def Qm{o:Option MO}{K K':List (Int×MV)->Prop}(h:yp o K)(m:∀a,K a->K' a):yp o K':=Kg h λa e h=>e▸m a h
def acw{K K':Loc->MH->Prop}{mf:MF}{L:Loc}{H:MH}(h:yt K Q mf L H)(m:∀L H,K L H->K' L H):yt K' Q mf L H:=by cases mf<;>first|exact m _ _ h|exact h
def rI{v:MV}{K K':Int->Prop}(h:qg v K)(m:∀a,K a->K' a):qg v K':=Ay (P:=λv=>qg v K') h m
def Wr{k:Int}{K K':Nat->Prop}(h:BC k K)(m:∀a,K a->K' a):BC k K':=O3 (P:=λk=>BC k K') h m
def exM{α:Type}{K K':α->Prop}(h:∃a,K a)(m:∀a,K a->K' a):∃a,K' a:=h.elim λa z=>⟨a,m a z⟩
def xo.nil{ib:IB}(h:Q .next Lc H):xo S w f lv ib [] Lc H Q:=λbody hc=>h
def m9(Q:QV):QF:=λmf z H'=>mf.casesOn (Q .none H') False False λv=>Q v H'
end
section
variable{S:jy}{w:World}{l:Nat}{H:MH}{Q:QV}
structure jI(S:jy)(w:World)(fd:FuncData)(ns:oq)(g7:gV)(kn:oq)(kv:gV)(jJ:gV):Prop where
 go:∀(U:jK) (s:Shared) (ws ks:lO),(S.K w.params).In s.heap->jr U g7 ws->jr U kv ks->∃bs:lO,BindsTo s fd ⟨ws,kn.zip ks⟩ ((ns.take jJ.length).zip bs)/\jr U jJ bs
 len:jJ.length<=ns.length
def pq{α Z:Type}[BEq α][LawfulBEq α]{x:α}{v:Z}{l:List (α×Z)}(h:l.lookup x=some v):(x,v)∈l:=by
 induction l with
 |nil=>cases h
 |cons p r ih=>
  obtain⟨a,b⟩:=p;by_cases q:x=a
  ·rw[q,c7,cJ]at h;rw[q];exact ay h▸.head _
  ·rw[c7,eX q]at h;exact .tail _<|ih h
def mem_lookup{x:Str}{v:Value}{l:List (Str×Value)}(hn:(l.map (·.1)).Nodup)(h:(x,v)∈l):l.lookup x=some v:=by
 induction l with
 |nil=>cases h
 |cons p r ih=>
  obtain⟨a,b⟩:=p;have hn:=bN.mp hn;rw[c7];cases h with
  |head=>rw[cJ]
  |tail _ h=>rw[eX λq:x=a=>hn.1 (show a∈r.map (·.1)from q▸cM (f:=(·.1)) h)];exact ih hn.2 h
def EX{x:Str}{v:Value}{l:List (Str×Value)}(hn:(l.map (·.1)).Nodup)(h:(x,v)∈l):l.reverse.lookup x=some v:=
 mem_lookup (by rw[List.map_reverse];exact List.pairwise_reverse.mpr<|List.Pairwise.imp f5 hn) (List.mem_reverse.mpr h)
noncomputable def iQ(ns:oq)(jJ:gV):Loc:=jJ.map some++replicate (ns.length-jJ.length) none
def EY{ns:oq}{jJ:gV}{k:Nat}{v:MV}(h:(iQ ns jJ)[k]?=some (some v)):jJ[k]?=some v:=by
 rcases Nat.lt_or_ge k jJ.length with q|q
 ·rw[iQ,List.getElem?_append_left (by rw[aV];exact q),bh]at h;exact(bu.mp h).elim λy z=>ay z.2▸z.1
 ·rw[iQ,gp (by rw[aV];exact q),List.getElem?_replicate]at h;split at h<;>cases h
def Qn{x:Str}{v:Value}{ns:oq}{bs:lO}{n k:Nat}(h:ns[k]?=some x)(hb:bs[k]?=some v)(hk:k<n):(x,v)∈(ns.take n).zip bs:=
 List.mem_iff_getElem?.mpr ⟨k,by rw[List.getElem?_zip_eq_some,List.getElem?_take,aF hk];exact⟨h,hb⟩⟩
def GF{U:jK}{ns:oq}{jJ:gV}{bs:lO}(hnd:ns.Nodup)(hl:jJ.length<=ns.length)(rb:jr U jJ bs){k:Nat}{x:Str}{v:MV}(hx:ns[k]?=some x)(hv:(iQ ns jJ)[k]?=some (some v)):∃w,((ns.take jJ.length).zip bs).reverse.lookup x=some w/\VR U v w:=
 have hv:=EY hv;rb.get hv λw hw r=>⟨w,EX (by rw[List.map_fst_zip<|by rw[dI,rb.length];exact gu _ _];exact hnd.sublist<|List.take_sublist _ _)<|Qn hx hw (bG.mp hv).1,r⟩
def tQ{A:Around}{l:Nat}{env:Env}(h:CT (8*l+4) A):CT (8*l) (A.deeper env):=⟨(by have:=h.depth;show A.depth+1+_<=_;lia),(by have:=h.units;show A.units+3+_<=_;lia)⟩
abbrev Gm.sub(G:Gm)(f f':Fm)(g:Heap)(L:Addr):Gm:=⟨G.A.deeper<|f'.env L,G.A,G.base,g,f.env G.L::G.outer,L⟩
section
variable{u:Nat}{G:Gm}{E:qT}{r r0:Rh}{Lc:Loc}{f f':Fm}{g:Heap}{L:Addr}
def A5(a:At ⟨S,w,f⟩ u G r Lc H)(l0:Le r r0){V:Flow->Value}(hn:V .next=.none)(hr:∀v,V (.ret v)=v):∀fl s',ku r0 (DQ ⟨S,w,f'⟩ (G.sub f f' g L)<|m9 Q) fl s'->LeaveK G.h₀ G.L r.m g (Df ⟨S,w,f⟩ G E r Lc Q) (V fl) s':=λfl s' z=>z.elim λr1 z=>by
 obtain⟨rfl,l,D⟩:=z;induction D with
 |mk Lc1 H1 mf T j q=>
  have X1:=(l0.trans l).x;have back:∀v mv,VR r1.U mv v->Q mv H1->LeaveK G.h₀ G.L r.m g (Df ⟨S,w,f⟩ G E r Lc Q) v r1.s:=λv mv j q=>⟨L,r1.m,r1.U.news,T.F,T.N,λFF NN=>⟨⟨r1.U,r.m,r1.s⟩,rfl,⟨X1,l.g.trans l0.g,l.o.trans l0.o⟩,H1,mv,⟨FF,NN,T.R,λk x v hx hv=>(a.T.loc k x v hx hv).elim λw h=>⟨w,h.1,h.2.ext X1⟩⟩,j,q⟩⟩;induction mf with
  |next=>cases j;exact hn▸back .none .none rfl q
  |ret v=>exact j.elim λx y=>by obtain⟨rfl,y⟩:=y;exact(hr x).symm▸back x v y q
  |_=>exact q.elim
end
def tK.intro{fa:Nat}{g7 jJ:gV}{kn:oq}{kv:gV}{name qual:Str}{params:Arguments}{body:sD}{scope:Scope}{cl:List (Str×Addr)}{dV kV doc pm cdv ct oc:Value}{an od:Option Addr}{osl:Array (Option Value)}{ns:oq}
  (hK:(S.K w.params).lookup fa=some ⟨oc,od,.func<|fnX name qual params body scope cl dV kV doc pm an cdv ct,osl⟩)(hcd:codeIn (S.K w.params) cdv qual=true)
  (hcell:∀x∈scope.names,x.2≠.cell)(hco:scope.isCoroutine=false)(hgen:scope.isGenerator=false)(hk:scope.kind=.function)(hnd:ns.Nodup)(hloc:∀x∈ns,scope.names.lookup x=some .local)
  (hb:jI S w (fnX name qual params body scope cl dV kV doc pm an cdv ct) ns g7 kn kv jJ)(hne:fa≠S.top)
  (h:tM ⟨S,w,⟨ns,scope,qual,cdv,cl,fa⟩⟩ (8*l) body (iQ ns jJ) H<|m9 Q):tK S w l fa g7 kn kv H Q:=
 λf Lc G E r ws ks a R R2=>(hb.go r.U r.s ws ks (a.C.X.keeps a.T.F.keep) R R2).elim λbs z=>a.C.T.elim λmg t=>t.elim λmb TT=>
  callX_plain (fo:=⟨oc,od,.func<|fnX name qual params body scope cl dV kV doc pm an cdv ct,osl⟩) a.C.B a.T.F a.T.N TT.nolimit a.C.fr rfl a.C.uD (a.C.X.keeps a.T.F.keep _ _ hK) rfl (codeRec_of (a.C.X.keeps a.T.F.keep) hcd)
  (ah (aa (aA _ _) a.rm.depth)<|by decide) z.1 (λy hy=>hloc _<|dB (List.of_mem_zip (a:=y.1) (b:=y.2) hy).1) (λg' L' h₁ FG F' N' B' st j=>have l0:Le r ⟨r.U,λy=>((ns.take jJ.length).zip bs).reverse.lookup y,{r.s with heap:=h₁,toks:=r.s.toks+((ns.take jJ.length).zip bs).length}⟩:=⟨.refl,rfl,rfl⟩;cZ (h (G.sub f ⟨ns,scope,qual,cdv,cl,fa⟩ g' L') _ ⟨r.U,λy=>((ns.take jJ.length).zip bs).reverse.lookup y,{r.s with heap:=h₁,toks:=r.s.toks+((ns.take jJ.length).zip bs).length}⟩ ⟨⟨B',eV a.C.fr,a.C.X.keeps st,⟨mg,mb,TT.keeps st⟩,hk,hnd,a.C.quiet,λe=>aG e hne⟩,tQ a.rm,⟨F',N',a.T.R,λk x v hx hv=>GF hnd hb.len z.2 hx hv⟩⟩) (A5 a l0 rfl λj=>rfl) λj j z=>z) hcell hco hgen hk
end
def qH(f:Fm)(k:Nat)(e:Expr):Bool:=oz e λx=>pL f k x
def AB(S:jy)(f:Fm)(k n:Nat)(e:Expr):Bool:=xj e λo a z=>(S.nm[n]?==some a)&&qH f k o
section
variable{S:jy}{w:World}{f:Fm}{lv u:Nat}{Lc:Loc}{H:MH}{Q:QF}{QE:QV}{e:Expr}{k n:Nat}{v:MV}
def gY.qH(hx:qH f k e=true)(hv:Lc[k]?=some (some v))(h:QE v H):gY ⟨S,w,f⟩ u e Lc H QE:=i6 hx λx p e d=>e▸gY.Vs (jh d).ns hv (jh d).kd (yX d) h
def Ls(h:qH f k e=true):lZ e=true:=i6 h λx p e0 z=>e0▸rfl
def gY.AB(O:j3 S w)(h:AB S f k n e=true)(hv:Lc[k]?=some (some v))(hq:O6 S v n H QE):gY ⟨S,w,f⟩ u e Lc H QE:=pT h λo a p e d=>e▸gY.attr O (Ls<|br d) (be<|bl d) (gY.qH (br d) hv hq)
def Ud{v:MV}{k i c:Nat}{fs:List (Nat×MV)}{K:QV}(hi:H.at_ i=some (.inst c fs))(hl:fs.lookup k=some v)(q:K v H):O6 S (.ref i) k H K:=by show qz (H.at_ i) _;rw[hi];show(fs.lookup k).casesOn _ _;rw[hl];exact q
noncomputable def acy(p0 p1 p2 p3 p4 p5:Pos)(arg:Str):Stmt:=.Expr (.Call (.Attribute (.Call (.Name "super" p0) [] [] p1) "__init__" p2) [.Name arg p3] [] p4) p5
def Qo(arg:Str)(st:Stmt):Bool:=Pq st λe=>rH e λg es ks pos=>l0 ks<|xj g λo a ap=>(a=="__init__")&&(!(arg==("__debug__":Str))&&((ap.endLine==pos.line)&&(rH o (λg es ks z=>l0 es<|l0 ks<|oz g λs=>s=="super")&&l1 es λx=>oz x λy=>y==arg)))
def Ws{P:Prop}{arg:Str}{st:Stmt}(h:Qo arg st=true)(k:∀p0 p1 p2 p3 p4 p5,st=acy p0 p1 p2 p3 p4 p5 arg->(arg==("__debug__":Str))=false->(p2.endLine==p4.line)=true->P):P:=
 KN h λe p5 e0 h=>mZ h λg es ks p4 e1 h=>qA h λe2 h=>pT h λo a p2 e3 h=>mZ (bl<|br<|br<|br h) λg' es' ks' p1 e4 h2=>qA h2 λe5 h2=>qA h2 λe6 h2=>i6 h2 λs p0 e7 h2=>n5 (br<|br<|br<|br h) λx e8 h3=>i6 h3 λy p3 e9 h3=>k p0 p1 p2 p3 p4 p5 (by rw[e0,e1,e2,e3,e4,e5,e6,e7,e8,e9,be h2,be h3,be<|bl h];rfl) (bn<|bl<|br h) (bl<|br<|br h)
structure SD where
 fa:Addr
 name:Str
 qual:Str
 params:Arguments
 body:sD
 scope:Scope
 cc:Addr
 dV:Value
 kV:Value
 doc:Value
 pm:Value
 cda:Addr
 ct:Value
 an:Option Addr
noncomputable abbrev SD.fn(d:SD):FuncData:=fnX d.name d.qual d.params d.body d.scope [("__class__",d.cc)] d.dV d.kV d.doc d.pm d.an (.ref d.cda) d.ct
noncomputable abbrev SD.fm(d:SD)(ns:oq):Fm:=⟨ns,d.scope,d.qual,.ref d.cda,[("__class__",d.cc)],d.fa⟩
structure vS(prog:Program)(K:Frag)(d:SD)(D C f2:Addr)(me arg:Str):Prop where
 fn:∃oc od osl,K.lookup d.fa=some ⟨oc,od,.func d.fn,osl⟩
 head:∃ar,(d.params.posonlyargs++d.params.args).head?=some ar/\ar.arg=me
 code:∃ccl cdd vs ccs file tf,K.lookup d.cda=some ⟨ccl,cdd,.fields vs,ccs⟩/\vs[2]?=some (.str file tf)/\((prog.main.file:Str)==file)=true
 cell:∃cl cld csl,K.lookup d.cc=some ⟨cl,cld,.cell<|some<|.ref D,csl⟩
 cls:∃c d cdD sl,K.lookup D=some ⟨c,d,.cls cdD,sl⟩
 sub:mroIn K C (.ref D)=some true
 sup:nsIn K mainGlobals "super"=some none
 any:nsIn K cStatics "thirdparty.any"=some none
 find:ks_superIn K C D "__init__"=some (some<|.ref f2)
 typ:typeIn K (.ref f2)=some (.type "function")
 Tc:fnIn K f2=true
 n1:d.scope.names.lookup ("super":Str)=some .globalImplicit
 n2:d.scope.names.lookup ("__class__":Str)=some .free
 n3:d.scope.names.lookup me=some .local
 n4:d.scope.names.lookup arg=some .local
 top:(prog.main.scope.names.lookup ("super":Str)).isSome=false
def EZ:bootBuiltins "super"=some (.type "super"):=by kernel_rfl
variable{d:SD}{ns:oq}{G:Gm}{E:qT}{r:Rh}{D C f2:Addr}{me arg:Str}{x:Addr}{ox:Obj}{odx:Option Obj}
def Qp{b0:sD}{p0 p1:Pos}{whole:Sem Value}{Q:qT}(a:At ⟨S,w,d.fm ns⟩ u G r Lc H)(SF:vS S.prog (S.K w.params) d D C f2 me arg)(hv:r.m me=some (.ref x))(I:InstAt r.s.heap x ox C odx)
  (h:∀so h',Fr G.h₀ G.L h' r.m->News G.h₀ G.L h' ((so,ks_superObj D x C)::r.U.news)->(∀p∈r.U.news,p.1<so)->Q (.ref so) {r.s with heap:=h'}):
  PySem.wpAt (model S.prog w) G.A (.func b0<|(d.fm ns).env G.L) (attributeBase (.Call (.Name "super" p0) [] [] p1) "__init__" ((d.fm ns).env G.L) whole) Q E r.s:=
 SF.fn.elim λoc z=>z.elim λod z=>z.elim λosl hfn=>SF.head.elim λar har=>SF.code.elim λccl z=>z.elim λcdd z=>z.elim λvs z=>z.elim λccs z=>z.elim λfile z=>z.elim λtf hc=>SF.cell.elim λcl z=>z.elim λcld z=>z.elim λcsl hcell=>SF.cls.elim λc1 z=>z.elim λd1 z=>z.elim λcdD z=>z.elim λsl hD=>a.C.T.elim λmg z=>z.elim λmb TT=>by
 have xT:=a.C.X.keeps a.T.F.keep;refine ks_wpAt_super_base (env:=(d.fm ns).env G.L) SF.n1 SF.n2 (by decide+kernel) rfl (xT _ _ hfn) rfl har.1 rfl (xT _ _ hc.1) rfl hc.2.1 hc.2.2 SF.top ?_;refine ks_loadName_global a.C.uD SF.n1<|loadGlobal_builtin (env:=(d.fm ns).env G.L) (TT.g.keeps a.T.F.keep) (mg_none_of a.C.X TT.g SF.sup) (TT.b.keeps a.T.F.keep) ((TT.builtins _<|by decide+kernel).trans EZ) ⟨rfl,?_⟩;refine wpAny_loadName_free a.C.uD SF.n2 rfl ⟨_,xT _ _ hcell,rfl⟩ ?_;rw[har.2];refine eT a.C.uD SF.n3 a.T.F.ns hv<|ks_wpAny_isType_cls (xT _ _ hD) rfl ⟨rfl,ks_wpAny_call_super (xT _ _ hD) rfl I.at_ I.cls (λc e=>?_) (looks_mroIn xT SF.sub) λh' e k=>?_⟩
 ·have:=I.no;unfold notCls at this;rw[e]at this;exact Bool.noConfusion this
 ·have Z:=ks_newsPush a.T.F a.T.N rfl e k;exact h _ _ Z.1 Z.2.1 Z.2.2
def IW{V:Th}{i c:Nat}{fs:List (Nat×MV)}{p:Addr×Addr}(T:St V G r Lc H)(h:H.at_ i=some (.inst c fs))(hp:r.U.jY i=some p):(p.1,instObj c p.2)∈r.U.news:=by obtain⟨q,es,n,h1,h2,_⟩:=(T.R.obj i _ h:vF _ _ _ _ _);cases ay (h1.symm.trans hp);exact h2
def Lu{b0:sD}{st:Stmt}{i:Nat}{v:MV}{fs:List (Nat×MV)}{Q:MH->Prop}{R:Flow->Shared->Prop}(a:At ⟨S,w,d.fm ns⟩ u G r Lc H)(SF:vS S.prog (S.K w.params) d D C f2 me arg)(hst:Qo arg st=true)(n0:ns[0]?=some me)(n1:ns[1]?=some arg)(hp:Lc[0]?=some (some<|.ref i))(hv:Lc[1]?=some (some v))(hi:H.at_ i=some (.inst C fs))
  (h:uQ ⟨S,w,d.fm ns⟩ u f2 [.ref i,v] [] [] H λg H'=>Q H')(hR:∀r' H',Le r r'->At ⟨S,w,d.fm ns⟩ u G r' Lc H'->Q H'->R .next r'.s):PySem.wpAt (model S.prog w) G.A (.func b0<|(d.fm ns).env G.L) (exec st<|(d.fm ns).env G.L) R E r.s:=
 Ws hst λp0 p1 p2 p3 p4 p5 e hdg hline=>e▸(a.T.loc 1 arg v n1 hv).elim λwv z=>(a.T.loc 0 me (.ref i) n0 hp).elim λwp y=>sI y.2 λp hp e'=>a.T.inst hi λq es n hq m2 g g g I=>by
 cases ay (hq.symm.trans hp);have y1:=y.1;rw[e']at y1;refine ks_wpAt_Expr_any ?_ (hi:=by unfold interactive;show(d.scope.kind==.module&&_)=false;rw[a.C.uD];rfl);rw[arm_eval_Call];refine PySem.wpAt_bind<|Qp a SF y1 I λso h2 F2 N2 lt2=>PySem.wpAt_of_wpAny<|af<|dN ?_;unfold methodCall;rw[Tp (es:=[.Name arg p3]) (kws:=[]) rfl rfl rfl];refine af<|aS ?_;unfold calleeOf;rw[aF rfl];have I2:InstAt h2 p.1 (instObj C p.2) C (some<|dictOf es n):=⟨(N2 _<|.tail _<|IW a.T hi hp).1,rfl,rfl,(N2 _<|.tail _ m2).1⟩;refine ks_method (s:={r.s with heap:=h2,toks:=_}) F2 a.C.X N2 (.head _) I2 SF.any SF.find SF.typ (by decide+kernel) λq' h3 F3 N3 lt3=>af<|wpAny_of_eq (?_:methodCallPos true _ _ p2 p4=pure p4) ?_
 ·unfold methodCallPos;simp[hline]
 refine callWith_M (K:=S.K w.params) (first:=[]) a.C.X N3 (.head _) SF.Tc ?_;refine spliced_cons (x:=eval (.Name arg p3)<|(d.fm ns).env G.L) (rest:=[])<|nameX_L F3 z.1 (aH ⟨⟨(N3 _<|.head _).1,a.C.X.keeps F3.keep⟩,call_meth N3 (.head _) ?_⟩) a.C.uD SF.n4 hdg;have nd:((([(q',methodObj (.ref f2)<|.ref p.1),(so,ks_superObj D p.1 C)]:ig)++r.U.news).map (·.1)).Nodup:=bN.mpr ⟨λh=>(bU.mp h).elim λp z=>av (lt3 p z.1) z.2,bN.mpr ⟨λh=>(bU.mp h).elim λp z=>av (lt2 p z.1) z.2,a.T.R.nodup⟩⟩;have Z:=a.T.R.more nd;have l3:Le r ⟨⟨r.U.jY,[(q',methodObj (.ref f2)<|.ref p.1),(so,ks_superObj D p.1 C)]++r.U.news,r.U.iw,r.U.fix,r.U.its⟩,r.m,{r.s with heap:=h3,toks:=r.s.toks+1}⟩:=⟨Z.x,rfl,rfl⟩;have a3:=a.at_ l3 ⟨F3,N3,Z.R,λk x v hx hv=>(a.T.loc k x v hx hv).elim λw h=>⟨w,h.1,h.2.ext Z.x⟩⟩;exact h.elim λl' z'=>bY (z'.2 (d.fm ns) Lc G E _ [.ref p.1,wv] [] (a3.call<|aa (dU (by decide) _) z'.1) (.two (VR.ext Z.x ⟨p,hp,rfl⟩)<|z.2.ext Z.x) rfl) λo s' y=>by
  induction o with
  |error e=>exact y
  |ok fl=>
   induction fl with
   |ret rv=>exact y.elim λr2 y=>y.1▸(by induction y.2.2 with|mk H2 b T j q=>exact hR r2 H2 (l3.trans y.2.1) (a3.at_ y.2.1 T) q)
   |_=>exact y
end
section
variable{S:jy}{w:World}{l:Nat}{H:MH}{Q:QV}{d:SD}{D C f2:Addr}{me arg:Str}{IX:oq}{i:Nat}{v:MV}{fs:List (Nat×MV)}{st:Stmt}{rest:sD}
def tK.Wt(SF:vS S.prog (S.K w.params) d D C f2 me arg)(hbd:d.body=st::rest)(hcd:codeIn (S.K w.params) (.ref d.cda) d.qual=true)(hcell:∀x∈d.scope.names,x.2≠.cell)(hco:d.scope.isCoroutine=false)(hgen:d.scope.isGenerator=false)(hk:d.scope.kind=.function)(hnd:(me::arg::IX).Nodup)(hloc:∀x∈me::arg::IX,d.scope.names.lookup x=some .local)
  (hst:Qo arg st=true)(hb:jI S w d.fn (me::arg::IX) [.ref i,v] [] [] [.ref i,v])(hne:d.fa≠S.top)(hi:H.at_ i=some (.inst C fs))
  (h:lP S w l f2 [.ref i,v] [] [] H λj H'=>tM ⟨S,w,d.fm<|me::arg::IX⟩ (8*l) rest (iQ (me::arg::IX) [.ref i,v]) H'<|m9 Q):tK S w l d.fa [.ref i,v] [] [] H Q:=
 λf Lc G E r ws ks a R R2=>(hb.go r.U r.s ws ks (a.C.X.keeps a.T.F.keep) R R2).elim λbs z=>a.C.T.elim λmg t=>t.elim λmb TT=>SF.fn.elim λoc y=>y.elim λod y=>y.elim λosl hfn=>by
 have G_x:=groundX (R:=Df ⟨S,w,f⟩ G E r Lc Q) a.C.B a.T.F a.T.N a.C.fr rfl a.C.uD;generalize hg:hideAll r.s.heap (r.U.news.map (·.1))=g at G_x;have X₁:=a.C.X.keeps a.T.F.keep;refine ks_codeAny_call_defAt (fd:=d.fn) (body:=d.body) (binds:=((me::arg::IX).take 2).zip bs) (ah (aa (aA _ _) a.rm.depth)<|by decide) (X₁ _ _ hfn) rfl (TT.nolimit.keeps a.T.F.keep) (codeRec_of X₁ hcd) rfl z.1 hcell (λy hy=>hloc _<|dB (List.of_mem_zip (a:=y.1) (b:=y.2) hy).1) (λh₁ hns hk₁=>?_) hco hgen hk;have l0:Le r ⟨r.U,λx=>(((me::arg::IX).take 2).zip bs).reverse.lookup x,{r.s with heap:=h₁,toks:=r.s.toks+(((me::arg::IX).take 2).zip bs).length}⟩:=⟨.refl,rfl,rfl⟩;have a0:At ⟨S,w,d.fm<|me::arg::IX⟩ (8*l) (G.sub f (d.fm<|me::arg::IX) g r.s.heap.objs.size) ⟨r.U,λx=>(((me::arg::IX).take 2).zip bs).reverse.lookup x,{r.s with heap:=h₁,toks:=r.s.toks+(((me::arg::IX).take 2).zip bs).length}⟩ (iQ (me::arg::IX) [.ref i,v]) H:=
  ⟨⟨G_x.2.1,eV a.C.fr,a.C.X.keeps G_x.2.2.1,⟨mg,mb,TT.keeps G_x.2.2.1⟩,hk,hnd,a.C.quiet,λe=>aG e hne⟩,tQ a.rm,
   ⟨⟨hns,λb o e=>hk₁ b o<|of_hideAll _<|hg▸e,dH<|hg▸hideAll_size _ _⟩,λq hq=>⟨hk₁ _ _ (a.T.N q hq).1,av<|bV (a.T.N q hq).1,hg▸hideAll_none _ (cM hq)⟩,a.T.R,λk x v hx hv=>GF hnd hb.len z.2 hx hv⟩⟩
 rw[hbd];exact ks_wpAt_execs_cons<|Lu (b0:=st::rest) a0 SF hst rfl rfl rfl rfl hi h.u λr1 H1 l1 a1 q=>PySem.wpAt_of_wpAny<|(q _ _ _ a1).then λfl r2 l2 p=>G_x.2.2.2 _ _<|A5 (V:=λfl=>match fl with|.ret v=>v|_=>.none) a l0 rfl (λj=>rfl) fl r2.s ⟨r2,rfl,l1.trans l2,p⟩
def GG(ks:iK):List (Option Expr)->Bool:=ks.rec (λes=>es.isEmpty) λl z ih es=>es.casesOn false λe r=>o1 e (IU l)&&ih r
def PrR(ks:iK)(U:jK)(vs:gV)(Wu:List<|Value×Value):Prop:=allStrKeys Wu=true/\sJ gN U (ks.zip vs) (strPairs Wu)
variable{U:jK}
def lY.acz{p:Addr×Obj}{its:ig}(R:lY S w U H)(hp:U.its=p::its):lY S w ⟨U.jY,U.news,U.iw,U.fix,its⟩ H:=
 have hd:∀q,jK.held ⟨U.jY,U.news,U.iw,U.fix,its⟩ q->U.held q:=λq h=>h.imp id (Or.imp id λh=>hp▸.tail _ h);⟨R.nodup,R.lt,R.dom,R.El,R.inj,λi o h=>(R.obj i o h).move ⟨λz z h=>h,λz z m=>m,λz z z m=>m,rfl⟩ (λz z z z m=>m) λz z z z m=>m,λq h=>R.pin q<|hd q h,λq h=>R.uX q<|hp▸.tail _ h,λq h=>R.tE q<|hd q h⟩
def lY.fill{d:Addr}{o o':Obj}(R:lY S w U H)(hm:(d,o)∈U.news)(hc:o.cls=.type "dict")(off:∀i,¬AV U i d)(hh:∀p,U.held p->p.1≠d):Step S w U ⟨U.jY,rT d o' U.news,U.iw,U.fix,U.its⟩ H:=
 have ne:∀{a x},(a,x)∈U.news->x.cls≠.type "dict"->(a,x)∈rT d o' U.news:=λ{a x} m n=>vG (λe=>n<|(aq Obj.cls<|rE R.nodup (show(d,x)∈U.news from e▸m) hm).trans hc) m;have xT:Ext U ⟨U.jY,rT d o' U.news,U.iw,U.fix,U.its⟩:=⟨⟨λz z h=>h,λa vs m=>ne m λe=>aG (cu e) (by decide),λa f x m=>ne m λe=>aG (cu e) (by decide),rfl⟩,rfl,rfl⟩;⟨xT,by rw[CR];exact R.nodup,R.lt,R.dom,λi a m=>(R.El i a m).elim λx h=>⟨x,vG (λe=>off i<|e▸m) h⟩,R.inj,λi o h=>(R.obj i o h).move xT.toou (λz a x m h=>vG (λe=>off i<|e▸m) h) λz z z z m=>m,λp h=>vG (hh p h)<|R.pin p h,R.uX,R.tE⟩
variable{f:Fm}{u:Nat}{Lc:Loc}{pos:Pos}
def Qq(ks:iK):∀{keys:List (Option Expr)} {nO:pP} {H:MH} {QL:gV->MH->Prop} {G:Gm} {E:qT} {r:Rh},GG ks keys=true->nO.length=ks.length->vA ⟨S,w,f⟩ u Lc nO H QL->At ⟨S,w,f⟩ u G r Lc H->Go ⟨S,w,f⟩ G E r (evalPairs<|pairTrees keys nO (f.env G.L) pos) (uE ⟨S,w,f⟩ G Lc (PrR ks) QL):=by
 induction ks with
 |nil=>
  intro keys nO H QL G E r h1 hl h a;induction keys with
  |cons=>exact ff h1
  |nil=>induction nO with
   |cons=>cases hl
   |nil=>exact pairTrees_nil_walk<|a.fin (b:=[]) .refl ⟨rfl,.nil⟩ h
 |cons l ks ih=>
  intro keys nO H QL G E r h1 hl h a;cases keys with
  |nil=>exact ff h1
  |cons k keys=>induction nO with
   |nil=>cases hl
   |cons e nO=>exact Iq (bl h1) λe1 ee h2=>pS h2 λc n p ec h3=>by rw[ee,ec,be h3];have a0:=a.tk<|r.s.toks+1;exact pairTrees_cons_walk<|fj<|a0.go (h _ _ _ a0) λv r1 mv H1 l1 a1 v1 q=>a1.go (ih (br h1) (fK hl) q a1) λWu r2 vs H2 l2 a2 v2 q=>a2.fin (b:=mv::vs) (v:=(.str (gN l) r.s.toks,v)::Wu) (Le.tk.trans<|l1.trans l2) ⟨v2.1,.cons (v1.ext l2.x) v2.2⟩ q
def IY{ks:iK}:∀{es:List (Option Expr)},GG ks es=true->es.all (·.isSome)=true/\es.length=ks.length:=by
 induction ks with
 |nil=>intro es h;induction es with|nil=>exact⟨rfl,rfl⟩|cons=>exact ff h
 |cons l ks ih=>
  intro es h;induction es with
  |nil=>exact ff h
  |cons e es=>exact Iq (bl h) λe1 ee z=>⟨by rw[ee];exact(ih<|br h).1,aq (·+1) (ih<|br h).2⟩
def gY.ZF{H:MH}{QE:QV}{ks:iK}{keys:List (Option Expr)}{nO:pP}(h1:GG ks keys=true)(hl:nO.length=ks.length)(h0:ks≠[])(h15:ks.length<=15)(hn:(ks.map gN).Nodup)
  (h:vA ⟨S,w,f⟩ u Lc nO H λvs H1=>vs.length=ks.length/\QE (.ref H1.n) (H1.new<|.iN<|ks.zip vs)):gY ⟨S,w,f⟩ u (.Dict keys nO pos) Lc H QE:=λG E r a=>a.C.T.elim λmg t=>t.elim λmb TT=>
 have K:=IY h1;kdn_eval (knd:=strKind S.prog w) a.T.F a.T.N TT.nolimit K.1 (K.2.trans hl.symm) (λe=>h0<|bH.mp<|by rw[<-K.2,e];rfl) (by rw[K.2];exact h15) λd h' o F' N' lt lo hd=>by
 have nd:(([(d,o)]++r.U.news).map (·.1)).Nodup:=bN.mpr ⟨λh=>(bU.mp h).elim λp z=>av (lt p z.1) z.2,a.T.R.nodup⟩;have hc:o.cls=.type "dict":=hd.elim λy h=>h.elim λy h=>h.1.1;have Z:=a.T.R.yR nd;have a1:At ⟨S,w,f⟩ u G ⟨⟨r.U.jY,(d,o)::r.U.news,r.U.iw,r.U.fix,(d,o)::r.U.its⟩,r.m,{r.s with heap:=h'}⟩ Lc H:=⟨a.C,a.rm,⟨F',N',Z.R,λk x v hx hv=>(a.T.loc k x v hx hv).elim λw h=>⟨w,h.1,h.2.mT Z.x⟩⟩⟩;refine a1.go (Qq ks h1 hl h a1) λWu r2 vs H2 l2 a2 pr q=>?_;have ei:r2.U.its=(d,o)::r.U.its:=l2.x.its;have hm:=a2.T.R.pin (d,o)<|.inr<|.inr<|ei▸.head _;have off:=a2.T.R.uX (d,o)<|ei▸.head _;have hh:∀p,jK.held ⟨r2.U.jY,r2.U.news,r2.U.iw,r2.U.fix,r.U.its⟩ p->p.1≠d:=λp h=>av<|lt p<|a.T.R.pin p<|h.imp (λh=>l2.x.iw▸h)<|Or.imp (λh=>l2.x.fix▸h) id;refine kdn_made_str a2.T.F a2.T.N (rU a2.T.R.nodup hm) hd pr.1 (by rw[pr.2.keys,show(ks.zip vs).map (λe=>gN e.1)=ks.map gN from(bZ (g:=gN) (f:=fst)).symm.trans (aq (List.map gN)<|List.map_fst_zip<|dH q.1.symm)];exact hn) λh3 o' F3 N3 hd'=>?_;have x0:ou r2.U ⟨r2.U.jY,r2.U.news,r2.U.iw,r2.U.fix,r.U.its⟩:=⟨λy y h=>h,λy y m=>m,λy y y m=>m,rfl⟩;have Y:=(a2.T.R.acz ei).fill (o':=o') hm hc off hh;have V:=Y.R.place (o:=.iN<|ks.zip vs) (a:=d) (d:=d) (more:=[]) List.Pairwise.nil (λy h=>by cases h) ⟨⟨o',tF hm⟩,off,hh⟩ ⟨⟨o',tF hm⟩,off,hh⟩ λxT=>nG.mk d o' (strPairs Wu) jK.uq (tF hm) hd' (pr.2.mT<|x0.trans<|Y.x.toou.trans xT.toou) (by rw[List.length_zip];exact aa (gu _ _)<|aa h15<|by decide) lo;have x:ou r.U (jK.new ⟨r2.U.jY,rT d o' r2.U.news,r2.U.iw,r2.U.fix,r.U.its⟩ H2.n d d []):=((Z.x.trans l2.x.toou).trans x0).trans<|Y.x.toou.trans V.x.toou;exact⟨⟨jK.new ⟨r2.U.jY,rT d o' r2.U.news,r2.U.iw,r2.U.fix,r.U.its⟩ H2.n d d [],r2.m,{r2.s with heap:=h3,toks:=r2.s.toks+Wu.length}⟩,rfl,⟨⟨x,l2.x.iw,rfl⟩,l2.g,l2.o⟩,.mk (H2.new<|.iN<|ks.zip vs) (.ref H2.n) ⟨F3,N3,V.R,λk x v hx hv=>(a2.T.loc k x v hx hv).elim λw h=>⟨w,h.1,h.2.mT<|x0.trans<|Y.x.toou.trans V.x.toou⟩⟩ jK.q9 q.2⟩
def Ue(S:jy)(f:Fm)(ks:iK)(iv:IE)(st:Stmt):Bool:=EI st λe=>o1 e λe=>KJ e λkeys nO=>GG ks keys&&((nO.length==ks.length)&&(cx S f iv).L nO)
def Qs{lv:Nat}{H:MH}{Q:QF}{ks:iK}{iv:IE}{st:Stmt}(O:j3 S w)(hb:Ue S f ks iv st=true)(h0:ks≠[])(h15:ks.length<=15)(hn:(ks.map gN).Nodup)(h:∀es,(cx S f iv).L es=true->vA ⟨S,w,f⟩ (8*lv) Lc es H λvs H1=>vs.length=ks.length/\Q (.ret<|.ref H1.n) Lc (H1.new<|.iN<|ks.zip vs)):j8 ⟨S,w,f⟩ (8*lv) st Lc H Q:=
 zB hb λe p e0 d=>e0▸Iq d λe e0 d=>e0▸EH d λkeys nO p e0 d=>e0▸j8.ret (gY.ZF (bl d) (be<|bl<|br d) h0 h15 hn<|h _<|br<|br d)
end
section
open PySem.AutoSeq1 (wpAny_loadPart')
open PySem.MeetsSeq PySem.MeetsSeq2 PySem.MeetsSeq3 PySem.SeqRoads2 PySem.SeqAt
def JW(prog:Program)(w:World)(A:Around)(s:Shared)(y x:Value):Prop:=∀(E:qT) (Q:Bool->Shared->Prop),Q true s->wpAny (model prog w) A (eqBool y x) Q E s
structure BZ(prog:Program)(w:World)(A:Around)(s:Shared)(v u:Array Value):Prop where
 len:v.size=u.size
 go:∀j (h1:j<v.size) (h2:j<u.size),JW prog w A s v[j] u[j]
section
variable{prog:Program}{w:World}{l b:Addr}{v u:Array Value}{n n2:Nat}
def JW.of{A:Around}{s:Shared}{y x:Value}{b:Bool}(h:EqAt A s y x b)(e:b=true):JW prog w A s y x:=λE Q hq=>h prog w E Q<|e▸hq
def JW.refs{A:Around}{s:Shared}(h:∀(E:qT) (Q:qT),Q (.bool true) s->wpAny (model prog w) A (richCompare .Eq (.ref l)<|.ref b) Q E s):JW prog w A s (.ref l) (.ref b):=by
 by_cases e:l=b
 ·rw[e];exact .of (EqAt.same _) rfl
 ·exact λE Q hq=>aS<|wpAny_ite_split (λhab=>aG (Value.ref.inj<|eq_of_beq hab) e) λz=>af<|h E _<|cX hq
abbrev Lv(prog:Program)(w:World)(l b:Addr)(v u:Array Value)(n n2:Nat)(A:Around)(R:Result->Shared->Prop)(s:Shared):Prop:=s.heap.get? l=some (listOf v n)/\s.heap.get? b=some (listOf u n2)/\BZ prog w A.in1 s v u/\R (.ok<|.ret<|.bool true) s
def IZ(k:Nat):∀i:Nat,v.size-i=k->MeetsIn prog w (Builtin.«list.__eq__.loop» ⟨[.ref l,.ref b,rawInt i,rawInt 2],[]⟩) (Lv prog w l b v u n n2):=by
 induction k with
 |zero=>
  intro i hk A R s h;obtain⟨hp,g,d,tk,os⟩:=s;obtain⟨hl,hb,he,h⟩:=h
  wp_walk using wpAny_loadPart' hl,wpAny_loadPart' hb
  have le:v.size<=i:=Nat.sub_eq_zero_iff_le.mp hk;rw[show v[((i:Nat):Int).toNat]?=none from Array.getElem?_eq_none le,show u[((i:Nat):Int).toNat]?=none from Array.getElem?_eq_none<|he.len▸le];wp_walk using wpAny_loadPart' hl,wpAny_loadPart' hb
  show R (.ok<|.ret<|.bool<|v.size==u.size) _;rw[he.len,cJ];exact h
 |succ k ih=>
  intro i hk A R s h;obtain⟨hp,g,d,tk,os⟩:=s;obtain⟨hl,hb,he,h⟩:=h
  wp_walk using wpAny_loadPart' hl,wpAny_loadPart' hb
  have lt:i<v.size:=Nat.lt_of_sub_pos<|hk▸Nat.zero_lt_succ k;have lt2:i<u.size:=he.len▸lt;rw[show v[((i:Nat):Int).toNat]?=some v[i]from Array.getElem?_eq_getElem lt,show u[((i:Nat):Int).toNat]?=some u[i]from Array.getElem?_eq_getElem lt2];refine af (he.go i lt lt2 _ _ ?_);wp_walk
  rw[show((i:Int)+1)=((i+1:Nat):Int)from rfl];exact⟨plainId_quiet plain_eq_loop _,codeAny_builtin entry_eq_loop (by rw[Around.under_plainId plain_eq_loop _];exact ih (i+1) (by rw[Nat.sub_add_eq,hk];rfl) A R _ ⟨hl,hb,he,h⟩)⟩
def Qt:MeetsIn prog w (Builtin.«list.__eq__» ⟨[.ref l,.ref b],[]⟩) (Lv prog w l b v u n n2):=by
 intro A R s h;obtain⟨hp,g,d,tk,os⟩:=s;obtain⟨hl,hb,he,h⟩:=h;have f3:=AutoSeq1.sub_list_list;have hne:¬(v.size !=u.size)=true:=by simp[he.len]
 wp_walk using wpAny_loadPart' hl,wpAny_loadPart' hb
 exact⟨plainId_quiet plain_eq_loop _,codeAny_builtin entry_eq_loop (by rw[Around.under_plainId plain_eq_loop _];exact IZ _ 0 rfl A R _ ⟨hl,hb,he,h⟩)⟩
def Lw{vs us:lO}:MeetsIn prog w (Builtin.«tuple.__eq__» ⟨[.ref l,.ref b],[]⟩) (λA R s=>s.heap.get? l=some (tB vs)/\s.heap.get? b=some (tB us)/\BZ prog w A.in1 s vs.toArray us.toArray/\R (.ok<|.ret<|.bool true) s):=
 .of_wp λA R s h=>by
  obtain⟨hp,g,d,tk,os⟩:=s;obtain⟨hl,hb,he,h⟩:=h;have f2:=AutoSeq1.sub_tuple_tuple;have hsz:vs.length=us.length:=he.len;have hZ:(vs.zip us).length=vs.length:=by rw[List.length_zip,hsz,Nat.min_self]
  wp_walk using wpAny_loadPart' hl,wpAny_loadPart' hb,wpAny_forIn_list _ (λrest b s'=>b.1=none/\s'=⟨hp,g,d,tk,os⟩/\∃i,rest=(vs.zip us).drop i) _
  case turn=>
   rintro ⟨y,x⟩ rest b s' ⟨hb',rfl,i,hz⟩;have hlt:i<(vs.zip us).length:=Nat.lt_of_not_le λh'=>by rw[List.drop_of_length_le h']at hz;cases hz
   rw[bL hlt,List.getElem_zip]at hz;cases hz;refine af (he.go i (show i<vs.length from hZ▸hlt) (show i<us.length from hsz▸hZ▸hlt) _ _ ?_)
   wp_walk
   exact⟨rfl,rfl,i+1,rfl⟩
  case fin=>
   rintro ⟨b1,b2⟩ s' ⟨hb',rfl,i,hz⟩;cases hb'
   wp_walk
   exact⟨_,rfl,by simpa[Builtin.Tuple.tupleCompareSizes,hsz]using h⟩
  case h=>exact⟨rfl,rfl,0,rfl⟩
end
end
section
open PySem.SeqAt
def Ug(v:MV):Prop:=v.casesOn True (λz=>True) (λz=>True) (λz=>True) kG kG AR kG λz=>False
inductive xr(H:MH):Nat->gV->gV->Prop
 |nil {n:Nat}:xr H n [] []
 |flat {n:Nat} {v:MV} {l m:gV}:Ug v->xr H n l m->xr H n (v::l) (v::m)
 |tup {n:Nat} {a b l m:gV}:xr H n a b->xr H (n+1) l m->xr H (n+1) (.tup a::l) (.tup b::m)
 |dict {n i j:Nat} {es:List (LN×LN)} {l m:gV}:H.at_ i=some (.iN<|es.map λe=>(e.1,.str e.2))->H.at_ j=some (.iN<|es.map λe=>(e.1,.str e.2))->xr H n l m->xr H n (.ref i::l) (.ref j::m)
def Lx{Y:Type}[DecidableEq Y]{k:Y}{v:MV}{es:List (Y×MV)}(hn:(es.map (·.1)).Nodup)(h:(k,v)∈es):jQ k es=some v:=by
 induction es with
 |nil=>cases h
 |cons p r ih=>
  have hn:=bN.mp hn;by_cases q:p.1=k
  ·have e:(k,v)=p:=(ao.mp h).elim id λm=>aG (show p.1∈r.map (·.1) by rw[q];exact cM (f:=(·.1)) m) hn.1;rw[jQ,List.find?_cons_of_pos (by rw[q];exact az rfl),<-e];rfl
  ·rw[jQ,List.find?_cons_of_neg<|by rw[au q];exact aI];exact ih hn.2<|(ao.mp h).elim (λe=>aG (aq fst e).symm q) id
section
variable{prog:Program}{w:World}{S:jy}{U:jK}{H:MH}{h₀:Heap}{L:Addr}{s:Shared}
def BZ.cons{A:Around}{x y:Value}{xs ys:lO}(h:JW prog w A s x y)(t:BZ prog w A s xs.toArray ys.toArray):BZ prog w A s (x::xs).toArray (y::ys).toArray:=
 ⟨aq (·+1) (t.len:xs.length=ys.length),λj h1 h2=>by
  induction j with
  |zero=>exact h
  |succ j=>exact t.go j (Nat.lt_of_succ_lt_succ h1)<|Nat.lt_of_succ_lt_succ h2⟩
def Qu{A:Around}{v:MV}{x y:Value}(hv:Ug v)(h1:VR U v x)(h2:VR U v y):JW prog w A s x y:=by
 cases v with
 |none=>exact h1▸h2▸.of (EqAt.same _) rfl
 |bool=>exact h1▸h2▸.of (EqAt.same _) rfl
 |int i=>exact h1.elim λt e=>h2.elim λu e'=>e▸e'▸.of (EqAt.int_int i t i u) (cJ _)
 |str l=>exact h1.elim λt e=>h2.elim λu e'=>e▸e'▸.of (EqAt.str_str _ t _ u) (cJ _)
 |_=>exact hv.elim
def Qv{A:Around}{es r:List (LN×LN)}{kb ka:List (Str×Value)}(hn:(es.map (·.1)).Nodup)(hb:sJ gN U (es.map λe=>(e.1,MV.str e.2)) kb)(hm:∀e∈r,e∈es)(h:sJ gN U (r.map λe=>(e.1,MV.str e.2)) ka):KeqHits A s kb ka true:=by
 induction r generalizing ka with
 |nil=>cases h;exact .nil
 |cons e r ih=>
  cases h with
  |cons r1 h2=>exact(hb.get rG (k:=e.1)).yes (Lx (by rw[bZ];exact hn)<|bU.mpr ⟨e,hm e<|.head _,rfl⟩) λy g g2=>by obtain⟨t,rfl⟩:=r1;obtain⟨u,rfl⟩:=g2;have z:=EqAt.str_str (A:=A) (s:=s) (gN e.2) t (gN e.2) u;rw[cJ]at z;exact .hit (e:=true) (b:=true) g z<|ih (λx hx=>hm x<|.tail _ hx) h2
variable(N:News h₀ L s.heap U.news)(R:lY S w U H)
include N R
def Qw{A:Around}{i j:Nat}{es:List (LN×LN)}{x y:Value}(hi:H.at_ i=some (.iN<|es.map λe=>(e.1,.str e.2)))(hj:H.at_ j=some (.iN<|es.map λe=>(e.1,.str e.2)))(hu:A.units<9900)(h1:VR U (.ref i) x)(h2:VR U (.ref j) y):JW S.prog w A s x y:=
 kh (P:=λx=>JW S.prog w A s x y) h1 λp hp=>kh (P:=λy=>JW S.prog w A s (.ref p.1) y) h2 λp' uY=>by
 obtain⟨a1,o1,k1,e1,m1,d1,q1,Wv,lo1⟩:=(R.obj i _ hi:nG _ _ _ _ _ _);obtain⟨a2,o2,k2,e2,m2,d2,q2,len2,lo2⟩:=(R.obj j _ hj:nG _ _ _ _ _ _);cases ay (e1.symm.trans hp);cases ay (e2.symm.trans uY);have hn:(es.map (·.1)).Nodup:=by obtain⟨_,_,_,_,_,_,nd⟩:=d2;rw[q2.keys,bZ]at nd;exact List.Pairwise.of_map gN (λa b h e=>h<|e▸rfl) (show((es.map (·.1)).map gN).Nodup by rw[bZ];exact nd)
 refine JW.refs λE Q hq=>keq_eq lo1 lo2 (fh.mpr ⟨o1,(N _ m1).1,d1⟩) (fh.mpr ⟨o2,(N _ m2).1,d2⟩) hu (λz=>Qv hn q2 (λe he=>he) q1) ?_;rw[q1.len,q2.len,cJ];exact hq
def Qx{n:Nat}{a b:gV}(h:xr H n a b):∀{A:Around} {wa wb:lO},A.units+n<9900->jr U a wa->jr U b wb->BZ S.prog w A s wa.toArray wb.toArray:=by
 induction h with
 |nil=>intro A wa wb hu h1 h2;cases h1;cases h2;exact⟨rfl,λj h=>aG h<|Nat.not_lt_zero _⟩
 |flat hv _ ih=>exact λhu h1 h2=>lu h1 λx xs e a1 b1=>lu h2 λy ys e' a2 b2=>e▸e'▸BZ.cons (Qu hv a1 a2) (ih hu b1 b2)
 |dict hi hj _ ih=>exact λhu h1 h2=>lu h1 λx xs e a1 b1=>lu h2 λy ys e' a2 b2=>e▸e'▸BZ.cons (Qw N R hi hj (ah (aA _ _) hu) a1 a2) (ih hu b1 b2)
 |tup _ _ ih1 ih=>exact λ{A wa wb} hu h1 h2=>lu h1 λx xs e a1 b1=>lu h2 λy ys e' a2 b2=>e▸e'▸BZ.cons (xY a1 λp vs ex m1 r1=>xY a2 λp' us ey m2 r2=>ex▸ey▸JW.refs λE Q hq=>have g1:=(N _ m1).1;have g2:=(N _ m2).1;wpAny_richCompare_same_room (op:=.Eq) (T:="tuple") ⟨_,g1,rfl⟩ ⟨_,g2,rfl⟩ PySem.F.slot_tuple_eq (call_meetsIn PySem.F.slot_tuple_eq ⟨_,g1,rfl⟩ PySem.F.entry_tuple_eq (PySem.F.args_tuple_eq_2 _ _) Lw ⟨g1,g2,ih1 (A:=A.in1) (by rw[Nat.add_succ]at hu;rw[show A.in1.units=A.units+1 from rfl,Nat.succ_add];exact hu) r1 r2,(λx=>nomatch x),hq⟩) (ah (aA _ _) hu)) (ih hu b1 b2)
end
section
variable{S:jy}{w:World}{f:Fm}{u n:Nat}{Lc:Loc}{H:MH}{Q:QF}{QE:QV}{i j:Nat}{xs ys:gV}
def I8(hi:H.at_ i=some (.list xs))(hj:H.at_ j=some (.list ys))(hd:xr H n xs ys)(hn:n<=100)(hq:QE (.bool true) H):jl ⟨S,w,f⟩ u Lc H [.ref i,.ref j] (jF .Eq) VR QE:=
 .mJ hq λG E r x y a h1 h2 R k=>kh (P:=λx=>wpAny _ _ (jF .Eq [x,y]) R E r.s) h1 λp hp=>kh (P:=λy=>wpAny _ _ (jF .Eq [.ref p.1,y]) R E r.s) h2 λp' uY=>jT.w7 (a.T.R.obj i _ hi) a (λz h=>h) hp λvs n1 m1 z r1 z z=>jT.w7 (a.T.R.obj j _ hj) a (λz h=>h) uY λus n2 m2 z r2 z z=>have g1:=(a.T.N _ m1).1;have g2:=(a.T.N _ m2).1;have hu:G.A.units+1+n<9900:=ah (fW (aP<|aa (aA _ _) a.rm.units) hn) (by decide);wpAny_richCompare_same_room (op:=.Eq) (T:="list") ⟨_,g1,rfl⟩ ⟨_,g2,rfl⟩ PySem.F.slot_list_eq (call_meetsIn PySem.F.slot_list_eq ⟨_,g1,rfl⟩ PySem.F.entry_list_eq (PySem.F.args_list_eq_2 _ _) Qt ⟨g1,g2,Qx a.T.N a.T.R hd (A:=G.A.in1) hu r1 r2,(λx=>nomatch x),k _ r.s.toks rfl⟩) (ah (aa (aA _ 1)<|aA _ n) hu)
def eqB(f:Fm)(ka kb:Nat)(st:Stmt):Bool:=EI st λe=>o1 e λe=>BN e λl os rs=>l1 os λo=>l1 rs λr=>(o==.Eq)&&(qH f ka l&&qH f kb r)
def gY.PI{l r:Expr}{op:CmpOp}{pos:Pos}(hm:behindInMarks op r=false)(h:gY ⟨S,w,f⟩ u l Lc H λa H1=>gY ⟨S,w,f⟩ u r Lc H1 λb H2=>jl ⟨S,w,f⟩ u Lc H2 [a,b] (jF op) VR QE):gY ⟨S,w,f⟩ u (.Compare l [op] [r] pos) Lc H QE:=λz z z a=>wpAny_Compare1 (ev2 a h) hm
def Ww{st:Stmt}{ka kb:Nat}(hb:eqB f ka kb st=true)(h1:Lc[ka]?=some (some<|.ref i))(h2:Lc[kb]?=some (some<|.ref j))(hi:H.at_ i=some (.list xs))(hj:H.at_ j=some (.list ys))(hd:xr H n xs ys)(hn:n<=100)(hq:Q (.ret<|.bool true) Lc H):j8 ⟨S,w,f⟩ u st Lc H Q:=
 zB hb λe p e0 d=>e0▸Iq d λe' e0 d=>e0▸rX d λl os rs p2 e0 d=>e0▸n5 d λo e0 d=>e0▸n5 d λr e0 d=>e0▸be (bl d)▸j8.ret (gY.PI (i6 (br<|br d) λz z e z=>e▸rfl)<|gY.qH (bl<|br d) h1<|gY.qH (br<|br d) h2<|I8 hi hj hd hn hq)
end
end
structure Yr(S:jy)(w:World)(a:Addr)(es:List<|LN×LN):Prop where
 val:∃o kvs,(S.K w.params).lookup a=some o/\o.IsDictOf (strKind S.prog w) kvs/\∀U,sJ gN U (es.map λe=>(e.1,MV.str e.2)) kvs
 lo:(a==sysModules)=false
section
variable{S:jy}{w:World}{f:Fm}{u:Nat}{Lc:Loc}{H:MH}{Q:QF}{QE:QV}{a:Addr}{es:List (LN×LN)}
def j8.E0{x:Str}{k:Nat}{p pos:Pos}{iter:Expr}{body:sD}(SD:Yr S w a es)(qt:S.quiet=true)(hs:o5 iter=true)(n:pZ f k x)
  (h:gY ⟨S,w,f⟩ u iter Lc H λv H1=>v=.cls a/\pK ⟨S,w,f⟩ u body (es.map λe Lc=>Lc.set k<|some<|.str e.1) Lc H1 Q):j8 ⟨S,w,f⟩ u (.For (.Name x p) iter body [] pos) Lc H Q:=
 λG E r A=>fJ (A.go (h _ _ _ A) λxv r1 mv H1 l1 a1 v1 q=>by
  obtain⟨rfl,q⟩:=q;cases(v1:xv=.ref a);obtain⟨o,kvs,hK,d1,rv⟩:=SD.val;obtain⟨es',ep,dd⟩:=id d1;have h0:=a1.C.X _ _ hK;have hax:=a1.T.F.keep _ _ h0;have hl:a≠r1.s.heap.objs.size:=av<|bV hax;have hD:r1.s.heap.DictAt (strKind S.prog w) a kvs ep:=⟨o,es',hax,dd⟩;refine wpAny_pyIter_dict SD.lo hD ?_;have T2:St ⟨S,w,f⟩ G ⟨r1.U,r1.m,{r1.s with heap:=r1.s.heap.push {cls:=.type "dict_keyiterator",data:=.fields #[.ref a,.int 0 0,.int kvs.length 0,.int ep 0]}}⟩ Lc H1:=⟨a1.T.F.push _,a1.T.N.grown λy y e=>bw _ e,a1.T.R,a1.T.loc⟩;have W:=eK (target:=.Name x p) (Walks.dictKeys (knd:=strKind S.prog w) (a1.C.quiet qt) r1.s.heap.objs.size a hl kvs ep) λi v s Q E st q=>letGo_keyiter st.1 q;have hlen:kvs.length=(es.map λe (Lc:Loc)=>Lc.set k<|some<|.str e.1).length:=by rw[(rv r1.U).len,aV,aV]
  rw[show KTurns S.prog w G.A (.Name x p) r1.s.heap.objs.size [r1.s.heap.objs.size,a] [r1.s.heap.objs.size] kvs.length=KTurns S.prog w G.A (.Name x p) r1.s.heap.objs.size [r1.s.heap.objs.size,a] [r1.s.heap.objs.size] (es.map λe (Lc:Loc)=>Lc.set k<|some<|.str e.1).length by rw[<-hlen]]at W;refine bY (qF W (yV (U':=r1.U) a1.T rfl (.inr ⟨_,h0⟩) rfl λi h st=>st.1.elim λit z=>⟨it,z.1,lG z.2.1 (by decide)<|by decide⟩) ⟨⟨_,cN _ rfl,rfl,rfl⟩,hD.at' λo e=>bw _ e⟩ ⟨a1.C,a1.rm,T2⟩ (λi g v r3 L3 H3 E' R hg hP a3 x3 hq=>?_) q) λo' s z=>qE.out<|vQ z l1 ⟨λy y h=>h,λy y m=>m,λy y y m=>m,rfl⟩ rfl rfl (λr5 L5 H5 mf l5 T5 q=>⟨_,H5,l5.x.iw,⟨⟨λy y h=>h,λy y m=>m,λy y y m=>m,rfl⟩,T5.R⟩,q⟩) rfl;rw[bh]at hg;obtain⟨e,hmv,rfl⟩:=bu.mp hg;obtain⟨kk,xx,hk1,hk2⟩:=hP;have e1:(kvs.map (·.1))[i]?=some kk:=by rw[bh,hk1];rfl
  rw[(rv r1.U).keys,bh,bh,hmv]at e1;cases ay e1;exact a3.qD (v:=.str e.1) n (La hk2) λr4 l4 y a4=>hq r4 l4 a4) λx=>mC hs
def gY.E2{value slice:Expr}{pos:Pos}(SD:Yr S w a es)(hn:pJ slice=true)(h:gY ⟨S,w,f⟩ u value Lc H λv H1=>gY ⟨S,w,f⟩ u slice Lc H1 λi H2=>v=.cls a/\pI i λk=>jA (jQ k<|es.map λe=>(e.1,MV.str e.2)) λm=>QE m H2):gY ⟨S,w,f⟩ u (.Subscript value slice pos) Lc H QE:=
 λG E r A=>fM (A.go (h _ _ _ A) λo r1 mv H1 l1 a1 v1 q=>a1.go (q _ _ _ a1) λi r2 mi H2 l2 a2 v2 q=>zq (P:=λmi=>VR r2.U mi i->wpAny (model S.prog w) G.A (subscriptTail value slice o i) (ku r<|uE ⟨S,w,f⟩ G Lc VR QE) E r2.s) q.2 (λk y v2=>jE y λm hm y=>SD.val.elim λob z=>z.elim λkvs z=>(Kind.yS .abs).elim λid hid=>v2.elim λt e=>by rw[q.1]at v1;cases(v1:o=.ref a);subst e;have hD:r2.s.heap.DictOf (strKind S.prog w) a kvs:=fh.mpr ⟨ob,a2.T.F.keep _ _<|a2.C.X _ _ z.1,z.2.1⟩;exact n7 (V:=⟨S,w,f⟩) (G:=G) (i:=.str (gN k) t) hD.typeIs hid (((z.2.2 r2.U).get rG (k:=k)).yes hm λx g j=>wpAny_getItem_of (knd:=strKind S.prog w) (fL _ _ _ _) hD.mapOf g<|(a2.tk _).fin (J:=VR) ((l1.trans l2).trans .tk) j y)<|kK hn) v2)
def vf(es:List<|LN×MV)(t:LN×LN):List (LN×MV):=if(jQ t.1 es).isSome then es else yq t.1 (.str t.2) es
def Wx(S:jy)(f:Fm)(s2:Stmt):Bool:=Pw s2 λc bt bo=>l0 bo<|BN c (λl os rs=>l1 os λop=>l1 rs λr=>(op==.NotIn)&&(qH f 1 l&&AB S f 0 22 r))&&l1 bt λs3=>BO s3 λts v=>l1 ts λt=>yr t (λa i=>AB S f 0 22 a&&qH f 1 i)&&(nW v&&yr v λa i=>pJ i&&(AB S f 0 98 a&&qH f 1 i))
def Uh(S:jy)(f:Fm)(st:Stmt):Bool:=BP st λt i b o=>l0 o<|oz t λk=>pL f 1 k&&(o5 i&&(AB S f 0 98 i&&l1 b (Wx S f)))
def Ui{v:MV}{k i c:Nat}{fs:List (Nat×MV)}{K:QV}(hi:H.at_ i=some (.inst c fs))(hl:fs.lookup k=none)(hc:S.ca c k=some v)(q:K v H):O6 S (.ref i) k H K:=by show qz (H.at_ i) _;rw[hi];show(fs.lookup k).casesOn _ _;rw[hl];show jA (S.ca c k) _;rw[hc];exact q
def Wy{α:Type}{o:Option α}{x:α}{K:α->Prop}(e:o=some x)(h:K x):jA o K:=e▸h
def ZG{d:Nat}{em:List (LN×MV)}{K:List (LN×MV)->Prop}(e:H.at_ d=some (.iN em))(h:K em):Ie (H.at_ d) K:=e▸h
def Ly{s2:Stmt}{p c d:Nat}{fs:List (Nat×MV)}{em:List (LN×MV)}{t:LN×LN}(O:j3 S w)(SD:Yr S w a es)(hb:Wx S f s2=true)(h0:Lc[0]?=some (some<|.ref p))(hk:Lc[1]?=some (some<|.str t.1))(hi:H.at_ p=some (.inst c fs))(hca:S.ca c 98=some (.cls a))(Wz:fs.lookup 98=none)(h22:fs.lookup 22=some (.ref d))(hd:H.at_ d=some (.iN em))(hlen:em.length<tD)(ht:jQ t.1 (es.map λe=>(e.1,MV.str e.2))=some (.str t.2))
  (hy:(jQ t.1 em).isSome=true->Q .next Lc H)(hq:(jQ t.1 em).isSome=false->Q .next Lc (H.put d<|.iN<|yq t.1 (.str t.2) em)):tM ⟨S,w,f⟩ u [s2] Lc H Q:=
 KP hb λc bt bo p0 e0 d0=>e0▸qA d0 λe0 d0=>e0.symm▸rX (bl d0) λl os rs p2 e0 d1=>e0▸n5 d1 λop e0 d1=>e0▸n5 d1 λr e0 d1=>e0▸n5 (br d0) λs3 e0 d2=>e0▸uZ d2 λts v p3 e0 d2=>e0▸n5 d2 λtt e0 d2=>e0▸ro (bl d2) λa1 i1 p4 e0 d3=>e0▸be (bl d1)▸
  have go:(jQ t.1 em).isSome=false->j8 ⟨S,w,f⟩ u (.Assign [.Subscript a1 i1 p4] v p3) Lc H (yt (λL' H'=>tM ⟨S,w,f⟩ u [] L' H'<|yt (λL' H'=>tM ⟨S,w,f⟩ u [] L' H' Q) Q)<|yt (λL' H'=>tM ⟨S,w,f⟩ u [] L' H' Q) Q):=λhg=>j8.zG (bl<|br d2) (ro (br<|br d2) λa2 i2 p5 e0 d4=>e0▸gY.E2 SD (bl d4) (gY.AB O (bl<|br d4) h0<|Ui hi Wz hca<|gY.qH (br<|br d4) hk ⟨rfl,Wy ht<|gY.AB O (bl d3) h0<|Ud (K:=λov H2=>gY ⟨S,w,f⟩ u i1 Lc H2 λiv H3=>EC ov iv _ H3 _) hi h22<|gY.qH (br d3) hk<|ZG hd ⟨hlen,tM.nil<|tM.nil<|hq hg⟩⟩));tM.cons (j8.ite (rN.PI (pT (br<|br d1) λz z z e z=>e▸rfl) (gY.qH (bl<|br d1) hk (gY.AB O (br<|br d1) h0 (Ud hi h22 ((Vy _).Tf hd (by
   cases hg:(jQ t.1 em).isSome with
   |true=>exact tM.nil<|tM.nil<|hy hg
   |false=>exact tM.cons<|go hg)))))))
def MH.Lz{i:Nat}{o:MO}(h:H.at_ i=some o):H.put i o=H:=aq (MH.mk H.n) (funext λj=>by
 by_cases e:j=i
 ·rw[aF e,e,h]
 ·exact aE e)
def MH.Qy{i:Nat}{o o':MO}:(H.put i o).put i o'=H.put i o':=aq (MH.mk H.n) (funext λj=>by
 by_cases e:j=i
 ·rw[aF e,aF e]
 ·exact(aE e).trans ((aE e).trans (aE e).symm))
def E3{em:List (LN×MV)}{t:LN×LN}:(vf em t).length<=em.length+1:=by
 unfold vf yq;split
 ·exact bX _
 ·split<;>simp
def A6{s2:Stmt}{p c d:Nat}{fs:List (Nat×MV)}{em:List (LN×MV)}{t:LN×LN}(O:j3 S w)(SD:Yr S w a es)(hb:Wx S f s2=true)(h0:Lc[0]?=some (some<|.ref p))(hk:Lc[1]?=some (some<|.str t.1))(hi:H.at_ p=some (.inst c fs))(hca:S.ca c 98=some (.cls a))(Wz:fs.lookup 98=none)(h22:fs.lookup 22=some (.ref d))(hd:H.at_ d=some (.iN em))(hlen:em.length<tD)(ht:jQ t.1 (es.map λe=>(e.1,MV.str e.2))=some (.str t.2))
  (hq:Q .next Lc<|H.put d<|.iN<|vf em t):tM ⟨S,w,f⟩ u [s2] Lc H Q:=
 Ly O SD hb h0 hk hi hca Wz h22 hd hlen ht (λg=>by rw[vf,aF g,MH.Lz hd]at hq;exact hq) λg=>by rw[vf,aE<|by rw[g];exact aI]at hq;exact hq
def Qz{st:Stmt}{p c d:Nat}{fs:List (Nat×MV)}{em:List (LN×MV)}{t1 t2:LN×LN}(O:j3 S w)(SD:Yr S w a [t1,t2])(g1:jQ t1.1 ([t1,t2].map λe=>(e.1,MV.str e.2))=some (.str t1.2))(g2:jQ t2.1 ([t1,t2].map λe=>(e.1,MV.str e.2))=some (.str t2.2))(qt:S.quiet=true)(hb:Uh S f st=true)
  (h0:Lc[0]?=some (some<|.ref p))(hl:1<Lc.length)(hi:H.at_ p=some (.inst c fs))(hca:S.ca c 98=some (.cls a))(Wz:fs.lookup 98=none)(h22:fs.lookup 22=some (.ref d))(hd:H.at_ d=some (.iN em))(hlen:em.length<100)(hq:Q .next (Lc.set 1<|some<|.str t2.1)<|H.put d<|.iN<|vf (vf em t1) t2):j8 ⟨S,w,f⟩ u st Lc H Q:=
 have pd:p≠d:=λe=>by rw[<-e,hi]at hd;cases hd
 have z0:∀v,(Lc.set 1<|some v)[0]?=some (some<|.ref p):=λv=>(dP<|by decide).trans h0;have z1:∀v,(Lc.set 1<|some v)[1]?=some (some v):=λv=>fH hl;u0 hb λtt ii b o p0 e0 d0=>e0▸qA d0 λe0 d0=>e0▸i6 d0 λk p1 e0 d0=>e0▸n5 (br<|br<|br d0) λs2 e0 d1=>e0▸j8.E0 SD qt (bl<|br d0) (jh<|bl d0) (gY.AB O (bl<|br<|br d0) h0 (Ui hi Wz hca ⟨rfl,
  A6 (Q:=zE _ Q) (t:=t1) O SD d1 (z0 _) (z1 _) hi hca Wz h22 hd (aK hlen<|by decide) g1 (A6 (Q:=zE _ Q) (t:=t2) O SD d1 ((aq (·[0]?)<|List.set_set _).trans<|z0 _) ((aq (·[1]?)<|List.set_set _).trans<|z1 _) ((aE pd).trans hi) hca Wz h22 (aF rfl) (ah E3<|ah hlen<|by decide) g2 (by show Q .next ((Lc.set 1<|some<|.str t1.1).set 1<|some<|.str t2.1) ((H.put d _).put d _);rw[List.set_set,MH.Qy];exact hq))⟩))
def I9:oq:=[q "name",q "stream",q "stream_pointer",q "eof",q "buffer",q "pointer",q "raw_buffer",q "raw_decode",q "encoding",q "index",q "line",q "column",q "done",q "flow_level",q "tokens",q "tokens_taken",q "indent",q "indents",q "allow_simple_key",q "possible_simple_keys",q "current_event",q "yaml_version",q "tag_handles",q "states",q "marks",q "state",q "context",q "context_mark",q "problem",q "problem_mark",q "note",q "start_mark",q "end_mark",q "value",q "plain",q "style",q "anchor",q "explicit",q "version",q "tags",q "tag",q "implicit",q "check_printable",q "update",q "token_number",q "required",q "mark",q "fetch_stream_start",q "need_more_tokens",q "fetch_more_tokens",q "id",q "stale_possible_simple_keys",q "next_possible_simple_key",q "scan_to_next_token",q "unwind_indent",q "peek",q "fetch_stream_end",q "check_directive",q "fetch_directive",q "check_document_start",q "fetch_document_start",q "check_document_end",q "fetch_document_end",q "check_block_entry",q "check_key",q "check_value",q "fetch_alias",q "fetch_single",q "fetch_double",q "check_plain",q "fetch_plain",q "remove_possible_simple_key",q "get_mark",q "scan_directive",q "fetch_document_indicator",q "forward",q "save_possible_simple_key",q "scan_anchor",q "fetch_flow_scalar",q "scan_flow_scalar",q "scan_plain",q "prefix",q "scan_line_break",q "scan_directive_name",q "scan_yaml_directive_value",q "scan_tag_directive_value",q "scan_directive_ignored_line",q "scan_yaml_directive_number",q "scan_tag_directive_handle",q "scan_tag_directive_prefix",q "scan_tag_handle",q "scan_tag_uri",q "scan_flow_scalar_non_spaces",q "scan_plain_spaces",q "parse_stream_start",q "get_token",q "parse_implicit_document_start",q "check_token",q "DEFAULT_TAGS",q "peek_token",q "parse_document_end",q "parse_block_node",q "parse_document_start",q "process_directives",q "parse_document_content",q "process_empty_scalar",q "parse_node",q "get_event",q "flow_style",q "fetch_block_entry",q "fetch_literal",q "fetch_folded",q "add_indent",q "fetch_block_scalar",q "scan_block_scalar",q "scan_block_scalar_indicators",q "scan_block_scalar_ignored_line",q "scan_block_scalar_indentation",q "scan_block_scalar_breaks",q "scan_flow_scalar_spaces",q "ESCAPE_REPLACEMENTS",q "ESCAPE_CODES",q "scan_flow_scalar_breaks",q "parse_block_sequence_first_entry",q "parse_block_sequence_entry"]
noncomputable def ZH:List (Nat×LN):=[(53,[0,9,10,11,4,5]),(763,[44,45,9,10,11,46]),(227,[31,32]),(179,[31,32,8]),(191,[31,32]),(147,[31,32]),(311,[31,32]),(203,[31,32]),(400,[33,34,31,32,35]),(501,[31,32,8]),(533,[31,32,37,38,39]),(513,[31,32]),(553,[31,32,37]),(585,[36,40,41,33,31,32,35]),(597,[36,40,41,31,32,108]),(609,[31,32]),(1521,[20,21,22,23,24,25,12,13,14,15,16,17,18,19,0,1,2,3,4,5,6,7,8,9,10,11])]
noncomputable def mtL:List (Nat×Nat):=[(42,720),(43,727),(47,869),(48,813),(49,820),(51,834),(52,827),(53,1100),(54,855),(55,690),(56,876),(59,1058),(60,890),(63,1072),(64,1079),(65,1086),(67,1023),(68,1030),(69,1093),(70,1044),(71,848),(72,713),(74,904),(75,706),(76,841),(78,1037),(79,1212),(80,1243),(81,698),(82,1278),(92,1222),(93,1250),(94,1340),(95,806),(96,1347),(97,792),(99,799),(100,1361),(101,1382),(102,1354),(103,1375),(104,1368),(106,1404),(107,1333),(109,960),(110,1002),(111,1009),(112,862),(113,1016),(114,1177),(115,1184),(116,1191),(117,1198),(118,1205),(119,1229),(122,1236),(123,1411),(124,1418)]
noncomputable def ZI:List (Nat×Nat×MV):=[(227,50,.str [60,98,108,111,99,107,32,101,110,100,62]),(179,50,.str [60,115,116,114,101,97,109,32,115,116,97,114,116,62]),(191,50,.str [60,115,116,114,101,97,109,32,101,110,100,62]),(147,50,.str [60,100,111,99,117,109,101,110,116,32,115,116,97,114,116,62]),(311,50,.str [45]),(203,50,.str [60,98,108,111,99,107,32,115,101,113,117,101,110,99,101,32,115,116,97,114,116,62]),(400,50,.str [60,115,99,97,108,97,114,62]),(1521,98,.cls 1304),(1521,120,.cls 1213),(1521,121,.cls 1215)]
noncomputable def cvL:List (Nat×Nat×MV):=[(135,50,.str [60,100,105,114,101,99,116,105,118,101,62]),(147,50,.str [60,100,111,99,117,109,101,110,116,32,115,116,97,114,116,62]),(159,50,.str [60,100,111,99,117,109,101,110,116,32,101,110,100,62]),(179,50,.str [60,115,116,114,101,97,109,32,115,116,97,114,116,62]),(191,50,.str [60,115,116,114,101,97,109,32,101,110,100,62]),(203,50,.str [60,98,108,111,99,107,32,115,101,113,117,101,110,99,101,32,115,116,97,114,116,62]),(215,50,.str [60,98,108,111,99,107,32,109,97,112,112,105,110,103,32,115,116,97,114,116,62]),(227,50,.str [60,98,108,111,99,107,32,101,110,100,62]),(239,50,.str [91]),(251,50,.str [123]),(263,50,.str [93]),(275,50,.str [125]),(287,50,.str [63]),(299,50,.str [58]),(311,50,.str [45]),(323,50,.str [44]),(342,50,.str [60,97,108,105,97,115,62]),(361,50,.str [60,97,110,99,104,111,114,62]),(380,50,.str [60,116,97,103,62]),(400,50,.str [60,115,99,97,108,97,114,62])]
noncomputable def LA:List (Nat×Nat):=[(53,35),(763,760),(227,111),(179,176),(191,111),(147,111),(311,111),(203,111),(400,397),(501,498),(533,530),(513,417),(553,550),(585,582),(597,466),(609,417),(1521,1312)]
noncomputable def ZJ:List (Nat×Nat×Bool):=[(501,469,false),(501,481,false),(501,501,true),(501,513,false),(501,533,false),(501,553,false),(501,565,false),(501,585,false),(501,597,false),(501,609,false),(501,621,false),(501,633,false),(533,469,false),(533,481,false),(533,501,false),(533,513,false),(533,533,true),(533,553,false),(533,565,false),(533,585,false),(533,597,false),(533,609,false),(533,621,false),(533,633,false),(513,469,false),(513,481,false),(513,501,false),(513,513,true),(513,533,false),(513,553,false),(513,565,false),(513,585,false),(513,597,false),(513,609,false),(513,621,false),(513,633,false),(553,469,false),(553,481,false),(553,501,false),(553,513,false),(553,533,false),(553,553,true),(553,565,false),(553,585,false),(553,597,false),(553,609,false),(553,621,false),(553,633,false),(585,469,false),(585,481,false),(585,501,false),(585,513,false),(585,533,false),(585,553,false),(585,565,false),(585,585,true),(585,597,false),(585,609,false),(585,621,false),(585,633,false),(597,469,true),(597,481,false),(597,501,false),(597,513,false),(597,533,false),(597,553,false),(597,565,false),(597,585,false),(597,597,true),(597,609,false),(597,621,false),(597,633,false),(609,469,false),(609,481,true),(609,501,false),(609,513,false),(609,533,false),(609,553,false),(609,565,false),(609,585,false),(609,597,false),(609,609,true),(609,621,false),(609,633,false)]
def glL:List (Str×Value):=[(q "Mark",.ref 53),(q "YAMLError",.ref 67),(q "MarkedYAMLError",.ref 95),(q "Token",.ref 114),(q "DirectiveToken",.ref 135),(q "DocumentStartToken",.ref 147),(q "DocumentEndToken",.ref 159),(q "StreamStartToken",.ref 179),(q "StreamEndToken",.ref 191),(q "BlockSequenceStartToken",.ref 203),(q "BlockMappingStartToken",.ref 215),(q "BlockEndToken",.ref 227),(q "FlowSequenceStartToken",.ref 239),(q "FlowMappingStartToken",.ref 251),(q "FlowSequenceEndToken",.ref 263),(q "FlowMappingEndToken",.ref 275),(q "KeyToken",.ref 287),(q "ValueToken",.ref 299),(q "BlockEntryToken",.ref 311),(q "FlowEntryToken",.ref 323),(q "AliasToken",.ref 342),(q "AnchorToken",.ref 361),(q "TagToken",.ref 380),(q "ScalarToken",.ref 400),(q "Event",.ref 427),(q "NodeEvent",.ref 449),(q "CollectionStartEvent",.ref 469),(q "CollectionEndEvent",.ref 481),(q "StreamStartEvent",.ref 501),(q "StreamEndEvent",.ref 513),(q "DocumentStartEvent",.ref 533),(q "DocumentEndEvent",.ref 553),(q "AliasEvent",.ref 565),(q "ScalarEvent",.ref 585),(q "SequenceStartEvent",.ref 597),(q "SequenceEndEvent",.ref 609),(q "MappingStartEvent",.ref 621),(q "MappingEndEvent",.ref 633),(q "ReaderError",.ref 659),(q "Reader",.ref 730),(q "ScannerError",.ref 744),(q "SimpleKey",.ref 763),(q "Scanner",.ref 1281),(q "ParserError",.ref 1293),(q "Parser",.ref 1521),(q "_is_printable",.ref 668),(q "_law_ENDS",.ref 1531),(q "_law_ESCAPES",.ref 1538),(q "_law_flag",.ref 1545),(q "_law_pick",.ref 1552),(q "_law_ends",.ref 1557),(q "_law_runs",.ref 1564),(q "_law_apart",.ref 1571),(q "_law_bare",.ref 1578),(q "_law_broken",.ref 1585),(q "_law_open",.ref 1592),(q "_law_double",.ref 1599),(q "_law_block",.ref 1606),(q "_law_told",.ref 1613),(q "len",.builtin "len"),(q "isinstance",.builtin "isinstance"),(q "int",.type "int"),(q "list",.type "list"),(q "str",.type "str"),(q "enumerate",.type "enumerate"),(q "range",.type "range"),(q "max",.builtin "max"),(q "chr",.builtin "chr")]
noncomputable def r7:Nat:=1521
def Ja(c k:Nat):Bool:=match ZH.lookup c with
 |some l=>l.contains k
 |none=>false
def LD(c k:Nat):Option Nat:=if c=r7 then mtL.lookup k else none
def QA(c d:Nat):Option Bool:=(ZJ.find? λx=>x.1==c&&x.2.1==d).map (·.2.2)
noncomputable def find3(l:List<|Nat×Nat×MV)(c k:Nat):nF:=(l.find? λx=>x.1==c&&x.2.1==k).map (·.2.2)
noncomputable def yZ:List (LN×LN):=[([33],[33]),([33,33],[116,97,103,58,121,97,109,108,46,111,114,103,44,50,48,48,50,58])]
def B0(es:List<|LN×MV):List (LN×LN)->List (LN×MV)
 |[]=>es
 |t::ts=>B0 (if(jQ t.1 es).isSome then es else yq t.1 (.str t.2) es) ts
noncomputable def zJ:List (LN×MV):=[([48],.str [0]),([97],.str [7]),([98],.str [8]),([116],.str [9]),([9],.str [9]),([110],.str [10]),([118],.str [11]),([102],.str [12]),([114],.str [13]),([101],.str [27]),([32],.str [32]),([34],.str [34]),([92],.str [92]),([47],.str [47]),([78],.str [133]),([95],.str [160]),([76],.str [8232]),([80],.str [8233])]
noncomputable def E4:List (LN×MV):=[([120],.int 2),([117],.int 4),([85],.int 8)]
noncomputable def pieces:iK:=[[97],[32],[10],[98],[39],[34],[92],[35],[58],[45],[9],[233],[8232],[7],[99,32,100],[63],[101,32,102],[10,10],[107,58,32,118],[32,35]]
noncomputable def xt:List (LN×MV):=[([34],.str [92,34]),([92],.str [92,92]),([10],.str [92,110]),([8232],.str [92,76]),([7],.str [92,97]),([9],.str [92,116])]
noncomputable def GH:IE:=[.str [92,34],.str [92,92],.str [92,110],.str [92,76],.str [92,97],.str [92,116]].foldr .cons .nil
def xwF(i:Nat)(L:Loc)(H:MH)(Q:QF):Prop:=match i with
 |2=>∃p fs d es,L[0]?=some (some<|.ref p)/\1<L.length/\H.at_ p=some (.inst r7 fs)/\fs.lookup 98=none/\fs.lookup 22=some (.ref d)/\H.at_ d=some (.iN es)/\es.length<100/\Q .next (L.set 1<|some<|.str [33,33]) (H.put d<|.iN<|B0 es yZ)
 |3=>Q (.ret<|.ref H.n) L<|H.new<|.iN xt
 |4=>∃i j xs ys,L[14]?=some (some<|.ref i)/\L[12]?=some (some<|.ref j)/\H.at_ i=some (.list xs)/\H.at_ j=some (.list ys)/\xr H 100 xs ys/\Q (.ret<|.bool true) L H
 |_=>False
def Ys(a:Nat):Option (List<|LN×MV):=cond (Nat.beq a 1213) (some zJ)<|cond (Nat.beq a 1215) (some E4) none
def S0:jy:=⟨pw,K,qv,loose,I9,Ja,LD,true,QA,find3 ZI,find3 cvL,Ys,some pieces,λc=>LA.lookup c,glL,λz z z=>false,λz z z z=>False,1293,1618⟩
def xsF(i:Nat)(f:Fm)(st:Stmt):Bool:=match i with
 |2=>Uh S0 f st
 |3=>Ue S0 f (xt.map (·.1)) GH st
 |4=>eqB f 14 12 st
 |_=>false
def SG(quiet:Bool):jy:=⟨pw,K,qv,loose,I9,Ja,LD,quiet,QA,find3 ZI,find3 cvL,Ys,some pieces,λc=>LA.lookup c,glL,xsF,xwF,1293,1618⟩
def flB(m:MV)(v:Value):Bool:=match m,v with
 |.int i,.int j _=>i==j
 |.str l,.str x _=>x==gN l
 |_,_=>false
def WA{m:MV}{v:Value}(h:flB m v=true):Av m v:=by cases m<;>first|exact(aI h).elim|(cases v<;>first|exact(aI h).elim|exact⟨_,by rw[cQ.mp h]⟩)
abbrev Jb:=LN×MV×Tok×Value
def WB{U:jK}(T:List Jb)(h:(T.all λx=>flB x.2.1 x.2.2.2)=true):sJ gN U (T.map λx=>(x.1,x.2.1)) (T.map λx=>(gN x.1,x.2.2.2)):=by
 induction T with
 |nil=>exact .nil
 |cons x T ih=>exact .cons (WA<|bl h).vr<|ih<|br h
def LF{prog:Program}{w:World}(T:List Jb):Pairs (strKind prog w) (T.map λx=>en w.params (gN x.1) x.2.2.1 x.2.2.2) (T.map λx=>(gN x.1,x.2.2.2)):=by
 induction T with
 |nil=>exact .nil
 |cons x T ih=>exact .cons (fL _ _ _ _) rfl ih
def LG{w:World}{a n:Nat}{es:List (LN×MV)}(T:List Jb)(h:(T.all λx=>flB x.2.1 x.2.2.2)=true)(hn:(T.map λx=>gN x.1).Nodup)(hes:es=T.map λx=>(x.1,x.2.1))(hs:(a==sysModules)=false)
  (hK:(K w.params).lookup a=some ⟨.type "dict",none,.dict (T.map λx=>en w.params (gN x.1) x.2.2.1 x.2.2.2).toArray n,#[]⟩):Zg pw w (K w.params) a es where
 val:=⟨_,T.map λx=>(gN x.1,x.2.2.2),hK,⟨_,_,⟨rfl,rfl,rfl⟩,rfl,λe he=>(bU.mp<|List.mem_toArray.mp he).elim λx z=>z.2▸⟨gN x.1,fL _ _ _ _,rfl⟩,by rw[bT];exact LF T,by rw[bZ];exact hn⟩,λU=>hes▸WB T h⟩
 lo:=hs
def ZK:List Jb:=[([48],.str [0],1905,.str (gN [0]) 1906),([97],.str [7],1908,.str (gN [7]) 1909),([98],.str [8],1911,.str (gN [8]) 1912),([116],.str [9],1914,.str (gN [9]) 1915),([9],.str [9],1917,.str (gN [9]) 1918),([110],.str [10],1920,.str (gN [10]) 1921),([118],.str [11],1923,.str (gN [11]) 1924),([102],.str [12],1926,.str (gN [12]) 1927),([114],.str [13],1929,.str (gN [13]) 1930),([101],.str [27],1932,.str (gN [27]) 1933),([32],.str [32],1935,.str (gN [32]) 1936),([34],.str [34],1938,.str (gN [34]) 1939),([92],.str [92],1941,.str (gN [92]) 1942),([47],.str [47],1944,.str (gN [47]) 1945),([78],.str [133],1947,.str (gN [133]) 1948),([95],.str [160],1950,.str (gN [160]) 1951),([76],.str [8232],1953,.str (gN [8232]) 1954),([80],.str [8233],1956,.str (gN [8233]) 1957)]
noncomputable def ZL:List Jb:=[([120],.int 2,1960,.int 2 1961),([117],.int 4,1962,.int 4 1963),([85],.int 8,1964,.int 8 1965)]
def ZM:List Jb:=[([33],.str [33],2128,.str (gN [33]) 2129),([33,33],.str [116,97,103,58,121,97,109,108,46,111,114,103,44,50,48,48,50,58],2130,.str (gN [116,97,103,58,121,97,109,108,46,111,114,103,44,50,48,48,50,58]) 2131)]
def WC(P:Params):(K P).lookup 1213=some ⟨.type "dict",none,.dict (ZK.map λx=>en P (gN x.1) x.2.2.1 x.2.2.2).toArray 18,#[]⟩:=by kernel_rfl
def WD(P:Params):(K P).lookup 1215=some ⟨.type "dict",none,.dict (ZL.map λx=>en P (gN x.1) x.2.2.1 x.2.2.2).toArray 3,#[]⟩:=by kernel_rfl
def WE(P:Params):(K P).lookup 1304=some ⟨.type "dict",none,.dict (ZM.map λx=>en P (gN x.1) x.2.2.1 x.2.2.2).toArray 2,#[]⟩:=by kernel_rfl
noncomputable def pcR:List (LN×Tok):=[([97],2421),([32],2422),([10],2423),([98],2424),([39],2425),([34],2426),([92],2427),([35],2428),([58],2429),([45],2430),([9],2431),([233],2432),([8232],2433),([7],2434),([99,32,100],2435),([63],2436),([101,32,102],2437),([10,10],2438),([107,58,32,118],2439),([32,35],2440)]
def LH(P:Params):(nsIn (K P) mainGlobals vM,(K P).lookup 1524)=(some<|some<|.ref 1524,some<|listOf (pcR.map λx=>.str (gN x.1) x.2).toArray 0):=by kernel_rfl
def acE(P:Params):Zh (K P) vM pieces where
 val:=⟨1524,_,_,aq fst<|LH P,aq snd<|LH P,λi c h=>by have h:(pcR.map (·.1))[i]?=some c:=h;rw[bh]at h;obtain⟨x,hx,rfl⟩:=bu.mp h;exact⟨x.2,by rw[dM,bh,hx];rfl⟩⟩
 len:=by decide
noncomputable def B8(K:Frag)(c:Addr)(x:Str):Bool:=plainGet K c x&&hasDictIn K c&&(findIn K (.ref c) x==some none)&&noGet K none&&(findIn K (.ref c) "__setattr__"==some (some<|.builtin "object.__setattr__"))&&plainOver K c&&(takerIn K c x==some none)
def A7{K:Frag}{c:Addr}{x:Str}(h:B8 K c x=true):F9 K c x/\findIn K (.ref c) x=some none:=by unfold B8 at h;simp only[bB,cQ]at h;obtain⟨⟨⟨⟨⟨⟨a,b⟩,c⟩,d⟩,e⟩,f⟩,g⟩:=h;exact⟨⟨a,b,⟨_,c,d⟩,e,f,g⟩,c⟩
def acF(P:Params):Bool:=ZH.all λp=>p.2.all λk=>match I9[k]? with
 |some x=>B8 (K P) p.1 x
 |none=>true
def QC:(λP=>acF P)=λz=>true:=by kernel_rfl
noncomputable def LI(K:Frag)(c:Addr)(x:Str)(f:Addr):Bool:=plainGet K c x&&(findIn K (.ref c) x==some (some<|.ref f))&&isFn K (.ref f)&&fnIn K f&&keepIn K (.ref f)&&hasDictIn K c&&(specialIn K (.ref f) "__get__"==some (some<|.builtin "function.__get__"))&&(takesIn K (.ref f)==some false)&&!(copiedNames.contains x)
def Dw{K:Frag}{c f:Addr}{x:Str}(h:LI K c x f=true):Kd K c x f:=by unfold LI at h;simp only[bB,cQ,dG]at h;obtain⟨⟨⟨⟨⟨⟨⟨⟨a,b⟩,c⟩,d⟩,e⟩,f⟩,g⟩,i⟩,j⟩:=h;exact⟨a,b,c,d,e,f,g,i,j⟩
def mtB(P:Params):Bool:=mtL.all λp=>match I9[p.1]? with
 |some x=>LI (K P) r7 x p.2
 |none=>true
def LJ:(λP=>mtB P)=λz=>true:=by kernel_rfl
def srB(v:MV)(a:Value):Bool:=match v,a with
 |.str l,.str x _=>x==gN l
 |.cls c,.ref d=>c==d
 |_,_=>false
def LK{v:MV}{a:Value}(h:srB v a=true):SR v a:=by cases v<;>first|exact(aI h).elim|(cases a<;>first|exact(aI h).elim|exact⟨_,by rw[cQ.mp h]⟩|exact aq _ (cQ.mp h).symm)
def ZN(K:Frag)(c:Addr)(x:Str)(v:MV):Bool:=(plainGet K c x&&hasDictIn K c&&!(copiedNames.contains x))&&(findIn K (.ref c) x).any λo=>o.any λa=>srB v a&&(specialIn K a "__get__"==some none)
def QD{K:Frag}{c:Addr}{x:Str}{v:MV}(h:ZN K c x v=true):Ze K c x v:=by obtain⟨p,q⟩:=cW.mp h;obtain⟨o,e,q⟩:=(gm _ _).mp q;obtain⟨v',f,q⟩:=(gm _ _).mp q;simp only[bB,dG,cQ]at p q;exact⟨p.1.1,p.1.2,p.2,v',LK q.1,f▸e,q.2⟩
def caB(P:Params):Bool:=ZI.all λp=>match I9[p.2.1]? with
 |some x=>ZN (K P) p.1 x p.2.2
 |none=>true
def WG:(λP=>caB P)=λz=>true:=by kernel_rfl
def ZO(K:Frag)(c:Addr)(x:Str)(v:MV):Bool:=(typeIn K<|.ref c).any λmc=>readsIn K c mc&&(findCls K (.ref c) mc x).any λf=>f.casesOn (srB v) λz z z z=>false
def QG{K:Frag}{c:Addr}{x:Str}{v:MV}(h:ZO K c x v=true):Zf K c x v:=by
 obtain⟨mc,hm,q⟩:=(gm _ _).mp h;obtain⟨a,q⟩:=cW.mp q;obtain⟨f,hf,q⟩:=(gm _ _).mp q;cases f with
 |val a'=>exact⟨mc,a',LK q,hm,a,hf⟩
 |_=>exact(aI q).elim
def cvB(P:Params):Bool:=cvL.all λp=>match I9[p.2.1]? with
 |some x=>ZO (K P) p.1 x p.2.2
 |none=>true
def WH:(λP=>cvB P)=λz=>true:=by kernel_rfl
noncomputable def LL(K:Frag)(c d:Addr)(b:Bool):Bool:=(kitOne K (.ref c) (.ref d)==some b)&&plainGet K c "__class__"&&hasDictIn K c&&(findIn K (.ref c) "__class__"==some (some<|.builtin "object.__class__"))&&(specialIn K (.builtin "object.__class__") "__get__"==some (some<|.builtin "getset_descriptor.__get__"))&&(takesIn K (.builtin "object.__class__")==some true)&&(mroIn K c (.type "object")==some true)
def LM{K:Frag}{c d:Addr}{b:Bool}(h:LL K c d b=true):Tg K c d b:=by unfold LL at h;simp only[bB,cQ]at h;obtain⟨⟨⟨⟨⟨⟨a,b⟩,c⟩,d⟩,e⟩,f⟩,g⟩:=h;exact⟨a,b,c,d,e,f,g⟩
def acH(P:Params):Bool:=ZJ.all λp=>LL (K P) p.1 p.2.1 p.2.2
def QH:(λP=>acH P)=λz=>true:=by kernel_rfl
def acI(P:Params):Bool:=LA.all λp=>makesIn (K P) p.1&&(findIn (K P) (.ref p.1) "__init__"==some (some<|.ref p.2))&&isFn (K P) (.ref p.2)&&keepIn (K P) (.ref p.1)
def QI:(λP=>acI P)=λz=>true:=by kernel_rfl
noncomputable def acJ(K:Frag)(x:Str)(v:Value):Bool:=((nsIn K mainGlobals x==some (some v))||((nsIn K mainGlobals x==some none)&&(bootBuiltins x==some v)&&!(x=="__name__")))&&(match v with
 |.ref a=>keepIn K<|.ref a
 |_=>true)
def glB(P:Params):Bool:=glL.all λp=>acJ (K P) p.1 p.2
def LO:(λP=>glB P)=λz=>true:=by kernel_rfl
def Jc:I9.Nodup:=aJ<|by kernel_rfl
def Dx{α:Type}{l:List α}{p:α->Bool}{a:α}(h:l.find? p=some a):a∈l/\p a=true:=⟨List.mem_of_find?_eq_some h,List.find?_some h⟩
def A8{l:List (Nat×Nat×MV)}{c k:Nat}{v:MV}(h:find3 l c k=some v):(c,k,v)∈l:=by unfold find3 at h;obtain⟨⟨a,b,d⟩,h1,h2⟩:=bu.mp h;obtain⟨m,p⟩:=Dx h1;simp only[bB,cQ]at p;obtain⟨rfl,rfl⟩:=p;simp only at h2;subst h2;exact m
def LQ{c k:Nat}{x:Str}(P:Params)(h:Ja c k=true)(hx:I9[k]?=some x):B8 (K P) c x=true:=by
 unfold Ja at h
 set_option tactic.hygienic true in split at h
 ·rename_i l hl
  have m:=pq hl;have z:=dQ QC P;have z:=bK.mp z _ m;have z:=bK.mp z k<|by simpa using h
  rw[hx]at z;exact z
 ·cases h
def WI(b:Bool)(w:World):j3 (SG b) w where
 nodup:=Jc
 tab:=λc k x h hx=>(A7<|LQ w.params h hx).1
 mt:=λc k x f h hx=>by
  have h:LD c k=some f:=h;unfold LD at h;set_option tactic.hygienic true in split at h
  ·rename_i e;subst e
   have z:=bK.mp (dQ LJ w.params) _<|pq h;have hx:I9[k]?=some x:=hx;simp only[hx]at z;exact Dw z
  ·cases h
 YQ:=λc d b' h=>by have h:QA c d=some b':=h;unfold QA at h;obtain⟨⟨a,b,d'⟩,h1,h2⟩:=bu.mp h;obtain⟨m,p⟩:=Dx h1;simp only[bB,cQ]at p;obtain⟨rfl,rfl⟩:=p;have z:=bK.mp (dQ QH w.params) _ m;simp only at h2;subst h2;exact LM z
 ca:=λc k x v h hx=>by have z:=bK.mp (dQ WG w.params) _<|A8 h;have hx:I9[k]?=some x:=hx;simp only[hx]at z;exact QD z
 cv:=λc k x v h hx=>by have z:=bK.mp (dQ WH w.params) _<|A8 h;have hx:I9[k]?=some x:=hx;simp only[hx]at z;exact QG z
 sd:=λa es h=>by
  have h:Ys a=some es:=h;unfold Ys at h;cases q:Nat.beq a 1213 with
  |true=>rw[q]at h;cases ay h;cases dw q;exact LG ZK (by kernel_rfl) (aJ<|by kernel_rfl) rfl (by kernel_rfl)<|WC _
  |false=>
   rw[q]at h;cases q2:Nat.beq a 1215 with
   |true=>rw[q2]at h;cases ay h;cases dw q2;exact LG ZL (by kernel_rfl) (aJ<|by kernel_rfl) rfl (by kernel_rfl)<|WD _
   |false=>rw[q2]at h;cases h
 sl:=λl h=>by cases(show some pieces=some l from h);exact acE _
 mtf:=λc k fa h=>by
  have h:LD c k=some fa:=h;unfold LD at h;split at h
  ·have m:=pq h;have z:=bK.mp (dQ LJ w.params) _ m;have lt:k<I9.length:=by have q:=bK.mp (show mtL.all (λp=>decide<|p.1<I9.length)=true by kernel_rfl) _ m;exact aJ q
   simp only[bg lt]at z;exact(Dw z).fn
  ·cases h
 nof:=λc k x h hx=>(A7<|LQ w.params h hx).2
 glk:=λx a h=>by have z:=bK.mp (dQ LO w.params) _<|pq h;exact(cW.mp z).2
 ini:=λc fI h=>by have z:=bK.mp (dQ QI w.params) _<|pq h;simp only[bB,cQ]at z;obtain⟨⟨⟨a,b⟩,c⟩,d⟩:=z;exact⟨a,b,c,d⟩
 gl:=λx v h=>by
  have z:=bK.mp (dQ LO w.params) _<|pq h;have z:=(cW.mp z).1;simp only[bB,Bool.or_eq_true,cQ,dG,cK]at z;rcases z with h|h
  ·exact .inl h
  ·exact .inr ⟨h.1.1,h.1.2,h.2⟩
noncomputable def ZP(sc:Scope)(ns:oq):Bool:=sc.names.all (λx=>!(x.2==.cell))&&(!sc.isCoroutine&&(!sc.isGenerator&&((sc.kind==.function)&&ns.all λx=>sc.names.lookup x==some .local)))
structure acK(sc:Scope)(ns:oq):Prop where
 cell:∀x∈sc.names,x.2≠.cell
 co:sc.isCoroutine=false
 gen:sc.isGenerator=false
 kind:sc.kind=.function
 loc:∀x∈ns,sc.names.lookup x=some .local
def GI{sc:Scope}{ns:oq}(h:ZP sc ns=true):acK sc ns:=
 ⟨λx hx e=>(by have:=bn<|bK.mp (bl h) x hx;rw[e]at this;cases this),bn<|bl<|br h,bn<|bl<|br<|br h,be<|bl<|br<|br<|br h,λx hx=>be<|bK.mp (br<|br<|br<|br h) x hx⟩
def WJ(w:World):Yr (SG true) w 1304 yZ:=
 have z:=LG (w:=w) (a:=1304) (es:=yZ.map λ(e:LN×LN)=>(e.1,MV.str e.2)) ZM (by kernel_rfl) (aJ<|by kernel_rfl) rfl (by kernel_rfl) (WE _);⟨z.val,z.lo⟩
variable{lv:Nat}{st:Stmt}
abbrev XK(i:Nat)(w:World)(f:Fm)(lv:Nat)(st:Stmt)(Lc:Loc)(H:MH)(Q:QF):Prop:=xsF i f st=true->xwF i Lc H Q->j8 ⟨SG true,w,f⟩ (8*lv) st Lc H Q
def xk4:XK 4 w f lv st Lc H Q:=λhb h=>h.elim λi h=>h.elim λj h=>h.elim λxs h=>h.elim λys h=>Ww hb h.1 h.2.1 h.2.2.1 h.2.2.2.1 h.2.2.2.2.1 (aD _) h.2.2.2.2.2
def xk2:XK 2 w f lv st Lc H Q:=λhb h=>h.elim λp h=>h.elim λfs h=>h.elim λd h=>h.elim λes h=>Qz (S:=SG true) (WI true w) (WJ w) rfl rfl rfl hb h.1 h.2.1 h.2.2.1 rfl h.2.2.2.1 h.2.2.2.2.1 h.2.2.2.2.2.1 h.2.2.2.2.2.2.1 h.2.2.2.2.2.2.2
def QM{S:jy}{lv:Nat}(ls:iK):∀{QL:gV->MH->Prop},QL (ls.map .str) H->∀es,(cx S f<|ls.foldr (λl r=>.cons (.str l) r) .nil).L es=true->vA ⟨S,w,f⟩ (8*lv) Lc es H QL:=by
 induction ls with
 |nil=>exact λ{QL} h es hc=>EW hc λe=>e▸h
 |cons l ls ih=>exact λ{QL} h es hc=>yY hc λe r E h1 h2=>E▸(pS h1 λc n p e d=>e▸be d▸gY.AW (ih (QL:=λvs H=>QL (.str l::vs) H) h r h2))
def xk3:XK 3 w f lv st Lc H Q:=λhb h=>Qs (S:=SG true) (iv:=GH) (WI true w) hb (by intro e;cases e) (by decide) (by decide)<|QM [[92,34],[92,92],[92,110],[92,76],[92,97],[92,116]] ⟨rfl,h⟩
def lP.ZQ{S:jy}{l fa:Nat}{g7 kv:gV}{kn:oq}{QV' ZR:QV}(h:lP S w l fa g7 kn kv H QV')(k:∀v H',QV' v H'->ZR v H'):lP S w l fa g7 kn kv H ZR:=
 h.elim λl z=>⟨l,z.1,λf Lc G E r ws ks a v1 v2=>bY (z.2 f Lc G E r ws ks a v1 v2) λo s' y=>by
  induction o with
  |error e=>exact y
  |ok fl=>
   induction fl with
   |ret v=>exact y.elim λr2 y=>⟨r2,y.1,y.2.1,by induction y.2.2 with|mk H2 b T j q=>exact .mk H2 b T j<|k _ _ q⟩
   |_=>exact y⟩
def xok(i:Nat):XK i w f lv st Lc H Q:=by
 rcases i with _|_|_|_|_|i
 ·exact λh=>ff h
 ·exact λh=>ff h
 ·exact xk2
 ·exact xk3
 ·exact xk4
 ·exact λh=>ff h
def Dy(b:Bool)(w:World):Lr (SG b) w:={WI b w with
 xok:=λf lv i st Lc H Q hq hxs h=>by cases(hq:b=true);exact xok i hxs h}
def scB(sc:Scope)(ns:oq):Bool:=ZP sc ns&&decide ns.Nodup
def QN(n:Nat):(lO->Prop)->Prop:=n.rec (λP=>P []) λz ih P=>∀x,ih λl=>P<|x::l
def GJ{n:Nat}:∀{P:lO->Prop} {ws:lO},QN n P->ws.length=n->P ws:=by
 induction n with
 |zero=>
  intro P ws h e;induction ws with
  |nil=>exact h
  |cons=>cases e
 |succ n ih=>
  intro P ws h e;induction ws with
  |nil=>cases e
  |cons x ws=>exact ih (P:=λl=>P<|x::l) (h x)<|fK e
inductive Src where
 |a (i:Nat)
 |k (i:Nat)
 |c (m:MV) (t:Nat)
noncomputable def Src.m(g7 kv:gV)(s:Src):MV:=s.casesOn (λi=>g7.getD i .none) (λi=>kv.getD i .none) λm z=>m
noncomputable def cV(t:Nat)(v:MV):Value:=v.casesOn .none (λb=>.bool b) (λi=>.int i t) (λz=>.none) (λz=>.none) (λz=>.none) (λz z=>.none) (λz=>.none) λz=>.none
def Src.v(ws ks:lO)(s:Src):Value:=s.casesOn (λi=>ws.getD i .none) (λi=>ks.getD i .none) λm t=>cV t m
noncomputable def isK(v:MV):Bool:=v.casesOn true (λz=>true) (λz=>true) um um um As um λz=>false
def Src.ok(n m:Nat)(s:Src):Bool:=s.casesOn (λi=>decide<|i<n) (λi=>decide<|i<m) λv z=>isK v
variable{U:jK}{g7 kv:gV}{ws ks:lO}
def jr.getD{i:Nat}(R:jr U g7 ws)(h:i<g7.length):VR U (g7.getD i .none) (ws.getD i .none):=R.get (i:=i) (v:=g7.getD i .none) (by rw[bD,bg h];rfl) λwv a b=>by rw[bD (l:=ws),a];exact b
def WL(R:jr U g7 ws)(R2:jr U kv ks)(s:Src)(h:s.ok g7.length kv.length=true):VR U (s.m g7 kv) (s.v ws ks):=by
 induction s with
 |a i=>exact R.getD<|aJ h
 |k i=>exact R2.getD<|aJ h
 |c v t=>cases v<;>first|exact rfl|exact⟨_,rfl⟩|cases h
def acM(R:jr U g7 ws)(R2:jr U kv ks)(Z:List Src):Z.all (Src.ok g7.length kv.length)=true->jr U (Z.map<|Src.m g7 kv) (Z.map<|Src.v ws ks):=Z.rec (λz=>rfl) λs r ih h=>oG (WL R R2 s<|bl h)<|ih<|br h
def jI.of{b:Bool}{w:World}{fd:FuncData}{ns:oq}{g7 kv jJ:gV}{kn:oq}(Z:List Src)(hv:Z.map (Src.m g7 kv)=jJ)(hn:(Nat.ble Z.length ns.length&&Z.all (Src.ok g7.length kv.length))=true)
  (h:∀s,(K w.params).In s.heap->QN g7.length λws=>QN kv.length λks=>BindsTo s fd ⟨ws,kn.zip ks⟩<|(ns.take Z.length).zip<|Z.map<|Src.v ws ks):jI (SG b) w fd ns g7 kn kv jJ:=by
 have hl:jJ.length=Z.length:=by rw[<-hv,aV]
 refine⟨λU s ws ks X R R2=>⟨_,?_,hv▸acM R R2 Z (br hn)⟩,hl▸aB (bl hn)⟩;rw[hl];exact GJ (P:=λks=>BindsTo s fd ⟨ws,kn.zip ks⟩<|(ns.take Z.length).zip<|Z.map<|Src.v ws ks) (GJ (P:=λws=>QN kv.length λks=>BindsTo s fd ⟨ws,kn.zip ks⟩<|(ns.take Z.length).zip<|Z.map<|Src.v ws ks) (h s X) R.length) R2.length
def CLT(fa:Nat)(fd:FuncData)(fm:Fm)(ns:oq)(ib:IB):Prop:=∀{w:World} {lv:Nat} {g7 jJ:gV} {kn:oq} {kv:gV} {H:MH} {Q:QV},jI (SG true) w fd ns g7 kn kv jJ->
  Ox (SG true) w fm lv ib (iQ ns jJ) H (m9 Q)->tK (SG true) w lv fa g7 kn kv H Q
noncomputable def hdS(l:sD):Stmt:=l.headD<|.Pass ⟨0,0,0,0⟩
noncomputable def tlS(l:sD):sD:=l.tail
noncomputable def Uj(b:IB):IB:=b.casesOn .nil .nil .nil Ej .nil Ej Ek sE (λz z z z=>.nil) Ek sE sE sE (λz z z z=>.nil) sE sE sE sE sE Ek Ek Ej Ej .nil .nil (λz r=>r) sE sE sE
def FR.dflt{fd:FuncData}{s:Shared}{g7:Args}{binds:List (Str×Value)}{w:World}{T:Addr}{items:Array Value}{k:Option (Array Value)->Sem (List<|Str×Value)}(df:∀P,(K P).lookup T=some ⟨.type "tuple",none,.seq items 0,#[]⟩)(X:(K w.params).In s.heap)(hd:fd.defaults=.ref T)
  (h₁:bindArgs fd g7=seqItems? fd.defaults>>=k)(h₂:k (some items)=pure binds):BindsTo s fd g7 binds:=BindsTo.of_defaults hd (X _ _<|df w.params) rfl h₁ h₂
def tK.WM{S:jy}{w:World}{l:Nat}{H:MH}{Q:QV}{fa:Nat}{g7 jJ:gV}{kn:oq}{kv:gV}{name qual:Str}{params:Arguments}{body:sD}{scope:Scope}{cl:List (Str×Addr)}{dV kV doc pm cdv ct oc:Value}{an od:Option Addr}{osl:Array (Option Value)}{ns:oq}{ib:IB}
  (hK:(S.K w.params).lookup fa=some ⟨oc,od,.func<|fnX name qual params body scope cl dV kV doc pm an cdv ct,osl⟩)(hcd:codeIn (S.K w.params) cdv qual=true)(hsc:scB scope ns=true)
  (O:Lr S w)(hck:Du S ⟨ns,scope,qual,cdv,cl,fa⟩ ib body=true)(hne:fa≠S.top)
  (hb:jI S w (fnX name qual params body scope cl dV kV doc pm an cdv ct) ns g7 kn kv jJ)
  (h:Ox S w ⟨ns,scope,qual,cdv,cl,fa⟩ l ib (iQ ns jJ) H<|m9 Q):tK S w l fa g7 kn kv H Q:=
 have z:=GI (bl hsc);tK.intro hK hcd z.cell z.co z.gen z.kind (aJ<|br hsc) z.loc hb hne (h _ hck)
abbrev ZS(fa:Addr)(ql:Str)(st:Stmt)(cc:Addr)(dV doc pm:Value)(cda:Addr)(ct:Value):SD:=⟨fa,q "__init__",ql,ym st,nV st,je st,cc,dV,.none,doc,pm,cda,ct,none⟩
def GK{K:Frag}{D:Addr}(h:(clsIn K D).isSome=true):∃c d cdD sl,K.lookup D=some ⟨c,d,.cls cdD,sl⟩:=by
 have g:∀o:Option Obj,(match o with|some ⟨_,_,.cls cd,_⟩=>some cd|_=>none).isSome=true->∃c d cdD sl,o=some ⟨c,d,.cls cdD,sl⟩:=λo=>by
  rcases o with z|⟨c,d,p,sl⟩
  ·exact λh=>(aI h).elim
  ·cases p<;>first|exact λz=>⟨_,_,_,_,rfl⟩|exact λh=>(aI h).elim
 exact g _ h
def CLS{fa f2 C cda:Nat}{ql:Str}{st:Stmt}{cc:Addr}{ct pm dV doc:Value}{ns:oq}{ir:IB}(hsc:scB (je st) (q "self"::q "stream"::ns)=true)(hck:Du (SG true) ⟨q "self"::q "stream"::ns,je st,ql,.ref cda,[("__class__",cc)],fa⟩ (Uj ir) (tlS<|nV st)=true)(hbody:nV st=hdS (nV st)::tlS (nV st))(hsb:Qo (q "stream") (hdS<|nV st)=true)(hne:fa≠1618)
  (hcd:∀P,codeIn (K P) (.ref cda) ql=true)(SF:∀P,vS pw (K P) (ZS fa ql st cc dV doc pm cda ct) C r7 f2 (q "self")<|q "stream")
  {w:World}{lv:Nat}{p:Nat}{v:MV}{H:MH}{Q:QV}(hb:jI (SG true) w (fnX (q "__init__") ql (ym st) (nV st) (je st) [("__class__",cc)] dV .none doc pm none (.ref cda) ct) (q "self"::q "stream"::ns) [.ref p,v] [] [] [.ref p,v])
  {fs:List (Nat×MV)}(o:H.at_ p=some (.inst r7 fs))(h:lP (SG true) w lv f2 [.ref p,v] [] [] H λz H'=>Ox (SG true) w ⟨q "self"::q "stream"::ns,je st,ql,.ref cda,[("__class__",cc)],fa⟩ lv (Uj ir) (iQ (q "self"::q "stream"::ns) [.ref p,v]) H'<|m9 Q):tK (SG true) w lv fa [.ref p,v] [] [] H Q:=
 have y:=GI (bl hsc);tK.Wt (S:=SG true) (d:=ZS fa ql st cc dV doc pm cda ct) (SF w.params) hbody (hcd _) y.cell y.co y.gen y.kind (aJ<|br hsc) y.loc hsb hb hne o (lP.ZQ h λz H2 q2=>q2 _ hck)
abbrev sN:FuncData:=fnX (q "__init__") (q "Scanner.__init__") (ym<|kc 49 0) (nV<|kc 49 0) (je<|kc 49 0) [((q "__class__"),771)] .none .none .none (.str (q "yaml.scanner") 1285) none (.ref 782)<|.ref 776
def yu:Fm:=⟨lX,je<|kc 49 0,q "Scanner.__init__",.ref 782,[((q "__class__"),771)],783⟩
abbrev tR:FuncData:=fnX (q "__init__") (q "Parser.__init__") (ym<|kc 52 1) (nV<|kc 52 1) (je<|kc 52 1) [((q "__class__"),1299)] .none .none .none (.str (q "yaml.parser") 2098) none (.ref 1311)<|.ref 1305
def zK:Fm:=⟨mX,je<|kc 52 1,q "Parser.__init__",.ref 1311,[((q "__class__"),1299)],1312⟩
abbrev E5:FuncData:=iP.fd
def B9:Fm:=iP.fm
def FT:List FR:=[rQ,kX,i7,iM,mz,iG,i8,gW,i9,jS,pQ,qw,jB,lB,gS,lQ,iY,oY,oF,ji,mG,mV,jW,jL,ja,iV,jb,iW,jz,j7,jC,iy,jn,jc,iH,kY,lC,iD,lD,lE,iI,lR,jo,jM,mW,lS,lT,gX,gw,iR,iJ,gK,g6,gT,gF,gU,g9,iO,gQ,jZ,lA,jN,iu,iX,jO,jj,jP,jk,jf,iE,iz,pG,qx,s9,n9,n9,pH,lU,jD,lq,oh,jX,gJ,tu]
def acO:(λP=>FT.map λr=>(K P).lookup r.fa)=λP=>FT.map λr=>some ⟨.type "function",none,.func r.fd,#[]⟩:=by kernel_rfl
def acP:(λP=>FT.all λr=>codeIn (K P) (.ref r.cd) r.ql&&(scB (je r.st) r.ns&&(Du (SG true) r.fm r.ib (nV r.st)&&!(r.fa==1618))))=λz=>true:=by kernel_rfl
def LR{r:FR}(i:Nat)(hi:FT[i]?=some r)(P:Params):(K P).lookup r.fa=some ⟨.type "function",none,.func r.fd,#[]⟩:=by have z:=aq (λl=>l[i]?)<|dQ acO P;rw[bh,bh,hi]at z;exact ay z
def CLG{r:FR}(i:Nat)(hi:FT[i]?=some r):CLT r.fa r.fd r.fm r.ns r.ib:=λ{w} {v v v v v v _} hb h=>have z:=bK.mp (dQ acP w.params) r (bP hi);tK.WM (S:=SG true) (LR i hi w.params) (bl z) (bl<|br z) (Dy true w) (bl<|br<|br z) (λe=>by have e:r.fa=1618:=e;have y:=bn<|br<|br<|br z;rw[e]at y;cases y) hb h
def acR:(λf:Nat->Value=>FT.map λr=>@Nat.rec (λz=>Sem<|List<|Str×Value) (pure []) (λn z=>bindArgs r.fd ⟨(List.range n).map f,[]⟩) r.np)=λf=>FT.map λr=>@Nat.rec (λz=>Sem<|List<|Str×Value) (pure []) (λn z=>pure<|(r.ns.take n).zip<|(List.range n).map f) r.np:=by kernel_rfl
def acS:(FT.all λr=>Nat.ble r.np<|r.ns.length+1)=true:=by kernel_rfl
def Jd{α:Type}{d:α}(l:List α):(List.range l.length).map (λi=>l.getD i d)=l:=List.ext_getElem? λi=>by
 rw[bh];by_cases h:i<l.length
 ·rw[List.getElem?_range h,bg h];show some (l.getD i d)=_;rw[bD,bg h];rfl
 ·rw[eP (by rw[List.length_range];exact gg.mp h),eP<|gg.mp h];rfl
def BDP{r:FR}{b:Bool}{w:World}{g7:gV}(h:(FT[r.i]?,r.np)=(some r,g7.length+1)):jI (SG b) w r.fd r.ns g7 [] [] g7:=by have h1:FT[r.i]?=some r:=aq fst h;have h2:r.np=g7.length+1:=aq snd h;have l:=bK.mp acS r<|bP h1;rw[h2]at l;refine⟨λU s ws ks X R R2=>⟨ws,.of_eq ?_,R⟩,Nat.le_of_succ_le_succ<|aB l⟩;have z:=aq (λl=>l[r.i]?)<|dQ acR λi=>ws.getD i .none;rw[bh,bh,h1]at z;have z:@Nat.rec (λy=>Sem<|List<|Str×Value) (pure []) (λn y=>bindArgs r.fd ⟨(List.range n).map λi=>ws.getD i .none,[]⟩) r.np=@Nat.rec (λy=>Sem<|List<|Str×Value) (pure []) (λn y=>pure<|(r.ns.take n).zip<|(List.range n).map λi=>ws.getD i .none) r.np:=ay z;rw[h2,<-R.length]at z;have z:bindArgs r.fd ⟨(List.range ws.length).map λi=>ws.getD i .none,[]⟩=pure ((r.ns.take ws.length).zip<|(List.range ws.length).map λi=>ws.getD i .none):=z;rw[Jd]at z;rw[<-R.length];exact z
def rq(P:Params):(K P).lookup 169=some ⟨.type "tuple",none,.seq #[.none,.none,.none] 0,#[]⟩:=by kernel_rfl
def nS{b:Bool}{w:World}{a0 a1 a2 b0:MV}:jI (SG b) w i7.fd i7.ns [a0,a1,a2] [q "encoding"] [b0] [a0,a1,a2,b0]:=.of [.a 0,.a 1,.a 2,.k 0] rfl rfl λs X z z z z=>FR.dflt rq X rfl (by rfl)<|by rfl
def qa(P:Params):(K P).lookup 390=some ⟨.type "tuple",none,.seq #[.none] 0,#[]⟩:=by kernel_rfl
def sX{b:Bool}{w:World}{a0 a1 a2 a3 a4:MV}:jI (SG b) w iM.fd iM.ns [a0,a1,a2,a3,a4] [] [] [a0,a1,a2,a3,a4,.none]:=.of [.a 0,.a 1,.a 2,.a 3,.a 4,.c .none 0] rfl rfl λs X z z z z z=>FR.dflt qa X rfl (by rfl)<|by rfl
def sY{b:Bool}{w:World}{a0 a1 a2 a3 a4 a5:MV}:jI (SG b) w iM.fd iM.ns [a0,a1,a2,a3,a4,a5] [] [] [a0,a1,a2,a3,a4,a5]:=.of [.a 0,.a 1,.a 2,.a 3,.a 4,.a 5] rfl rfl λs X z z z z z z=>FR.dflt qa X rfl (by rfl)<|by rfl
def AD(P:Params):(K P).lookup 410=some ⟨.type "tuple",none,.seq #[.none,.none] 0,#[]⟩:=by kernel_rfl
def sO{b:Bool}{w:World}{a0 a1 a2:MV}:jI (SG b) w mz.fd mz.ns [a0,a1,a2] [] [] [a0,a1,a2]:=.of [.a 0,.a 1,.a 2] rfl rfl λs X z z z=>FR.dflt AD X rfl (by rfl)<|by rfl
def pV(P:Params):(K P).lookup 459=some ⟨.type "tuple",none,.seq #[.none,.none,.none] 0,#[]⟩:=by kernel_rfl
def mq{b:Bool}{w:World}{a0 a1 a2 a3 a4 a5 b0:MV}:jI (SG b) w iG.fd iG.ns [a0,a1,a2,a3,a4,a5] [q "flow_style"] [b0] [a0,a1,a2,a3,a4,a5,b0]:=.of [.a 0,.a 1,.a 2,.a 3,.a 4,.a 5,.k 0] rfl rfl λs X z z z z z z z=>FR.dflt pV X rfl (by rfl)<|by rfl
def rt(P:Params):(K P).lookup 491=some ⟨.type "tuple",none,.seq #[.none,.none,.none] 0,#[]⟩:=by kernel_rfl
def nT{b:Bool}{w:World}{a0 a1 a2 b0:MV}:jI (SG b) w i8.fd i8.ns [a0,a1,a2] [q "encoding"] [b0] [a0,a1,a2,b0]:=.of [.a 0,.a 1,.a 2,.k 0] rfl rfl λs X z z z z=>FR.dflt rt X rfl (by rfl)<|by rfl
def ng(P:Params):(K P).lookup 523=some ⟨.type "tuple",none,.seq #[.none,.none,.none,.none,.none] 0,#[]⟩:=by kernel_rfl
def nC{b:Bool}{w:World}{a0 a1 a2 b0:MV}:jI (SG b) w gW.fd gW.ns [a0,a1,a2] [q "explicit"] [b0] [a0,a1,a2,b0,.none,.none]:=.of [.a 0,.a 1,.a 2,.k 0,.c .none 0,.c .none 0] rfl rfl λs X z z z z=>FR.dflt ng X rfl (by rfl)<|by rfl
def j4{b:Bool}{w:World}{a0 a1 a2 b0 b1 b2:MV}:jI (SG b) w gW.fd gW.ns [a0,a1,a2] [q "explicit",q "version",q "tags"] [b0,b1,b2] [a0,a1,a2,b0,b1,b2]:=.of [.a 0,.a 1,.a 2,.k 0,.k 1,.k 2] rfl rfl λs X z z z z z z=>FR.dflt ng X rfl (by rfl)<|by rfl
def ru(P:Params):(K P).lookup 543=some ⟨.type "tuple",none,.seq #[.none,.none,.none] 0,#[]⟩:=by kernel_rfl
def nU{b:Bool}{w:World}{a0 a1 a2 b0:MV}:jI (SG b) w i9.fd i9.ns [a0,a1,a2] [q "explicit"] [b0] [a0,a1,a2,b0]:=.of [.a 0,.a 1,.a 2,.k 0] rfl rfl λs X z z z z=>FR.dflt ru X rfl (by rfl)<|by rfl
def uG(P:Params):(K P).lookup 575=some ⟨.type "tuple",none,.seq #[.none,.none,.none] 0,#[]⟩:=by kernel_rfl
def qi{b:Bool}{w:World}{a0 a1 a2 a3 a4 a5 a6 b0:MV}:jI (SG b) w jS.fd jS.ns [a0,a1,a2,a3,a4,a5,a6] [q "style"] [b0] [a0,a1,a2,a3,a4,a5,a6,b0]:=.of [.a 0,.a 1,.a 2,.a 3,.a 4,.a 5,.a 6,.k 0] rfl rfl λs X z z z z z z z z=>FR.dflt uG X rfl (by rfl)<|by rfl
def tS(P:Params):(K P).lookup 683=some ⟨.type "tuple",none,.seq #[(.int (0) 1211)] 0,#[]⟩:=by kernel_rfl
def xu{b:Bool}{w:World}{a0:MV}:jI (SG b) w jB.fd jB.ns [a0] [] [] [a0,.int 0]:=.of [.a 0,.c (.int 0) 1211] rfl rfl λs X z=>FR.dflt tS X rfl (by rfl)<|by rfl
def xy{b:Bool}{w:World}{a0 a1:MV}:jI (SG b) w jB.fd jB.ns [a0,a1] [] [] [a0,a1]:=.of [.a 0,.a 1] rfl rfl λs X z z=>FR.dflt tS X rfl (by rfl)<|by rfl
def xA(P:Params):(K P).lookup 691=some ⟨.type "tuple",none,.seq #[(.int (1) 1220)] 0,#[]⟩:=by kernel_rfl
def vg{b:Bool}{w:World}{a0 a1:MV}:jI (SG b) w lB.fd lB.ns [a0,a1] [] [] [a0,a1]:=.of [.a 0,.a 1] rfl rfl λs X z z=>FR.dflt xA X rfl (by rfl)<|by rfl
def qW(P:Params):(K P).lookup 699=some ⟨.type "tuple",none,.seq #[(.int (1) 1229)] 0,#[]⟩:=by kernel_rfl
def uH{b:Bool}{w:World}{a0:MV}:jI (SG b) w gS.fd gS.ns [a0] [] [] [a0,.int 1]:=.of [.a 0,.c (.int 1) 1229] rfl rfl λs X z=>FR.dflt qW X rfl (by rfl)<|by rfl
def uI{b:Bool}{w:World}{a0 a1:MV}:jI (SG b) w gS.fd gS.ns [a0,a1] [] [] [a0,a1]:=.of [.a 0,.a 1] rfl rfl λs X z z=>FR.dflt qW X rfl (by rfl)<|by rfl
def yw{w:World}{lv:Nat}{p:Nat}{v:MV}{H:MH}{Q:QV}(hb:jI (SG true) w sN lX [.ref p,v] [] [] [.ref p,v])
  {fs:List (Nat×MV)}(o:H.at_ p=some (.inst r7 fs))(h:lP (SG true) w lv 682 [.ref p,v] [] [] H λz H'=>Ox (SG true) w yu lv (Uj sH) (iQ lX [.ref p,v]) H'<|m9 Q):tK (SG true) w lv 783 [.ref p,v] [] [] H Q:=
 CLS (fa:=783) (ir:=sH) (ns:=lX.drop 2) (f2:=682) (C:=1281) (cc:=771) (cda:=782) (st:=(kc 49 0)) (ql:=q "Scanner.__init__") (by kernel_rfl) (by kernel_rfl) (by kernel_rfl) (by kernel_rfl) (by decide) (λP=>by kernel_rfl) (λP=>{
  fn:=⟨_,_,_,(show(K P).lookup 783=some ⟨.type "function",none,(.func<|fnX (q "__init__") (q "Scanner.__init__") (ym<|kc 49 0) (nV<|kc 49 0) (je<|kc 49 0) [((q "__class__"),771)] .none .none .none (.str (q "yaml.scanner") 1285) none (.ref 782)<|.ref 776),#[]⟩ by kernel_rfl)⟩
  head:=⟨_,rfl,by kernel_rfl⟩
  code:=⟨_,_,_,_,_,_,(show(K P).lookup 782=some ⟨.type "code",none,(.fields #[(.str (q "__init__") 1354),(.str (q "Scanner.__init__") 1355),(.str (q "/claim/cut.py") 1356),(.int (306) 0),(.int (2) 0),(.int (0) 0),(.int (0) 0),(.int (3) 0),.ref 777,.bool true,(.int (181) 0),.ref 778,.none,.ref 779,.ref 780,.ref 781,(.int (1360) 0),(.int (306) 0),(.str (q "/claim/cut.py") 1361)]),#[]⟩ by kernel_rfl),rfl,by kernel_rfl⟩
  cell:=⟨_,_,_,(show(K P).lookup 771=some ⟨.type "cell",none,(.cell<|some<|.ref 1281),#[]⟩ by kernel_rfl)⟩
  cls:=GK (show(clsIn (K P) 1281).isSome=true by kernel_rfl)
  sub:=by kernel_rfl
  sup:=by kernel_rfl
  any:=by kernel_rfl
  find:=by kernel_rfl
  typ:=by kernel_rfl
  Tc:=by kernel_rfl
  n1:=by kernel_rfl
  n2:=by kernel_rfl
  n3:=by kernel_rfl
  n4:=by kernel_rfl
  top:=by kernel_rfl}) hb o h
def vU{b:Bool}{w:World}{a0 a1:MV}:jI (SG b) w sN lX [a0,a1] [] [] [a0,a1]:=.of [.a 0,.a 1] rfl rfl λs X z z=>.of_eq<|by rfl
def r8(P:Params):(K P).lookup 785=some ⟨.type "tuple",none,.seq #[.ref 784] 0,#[]⟩:=by kernel_rfl
def ry{b:Bool}{w:World}{a0 a1:MV}:jI (SG b) w ji.fd ji.ns [a0,a1] [] [] [a0,a1]:=.of [.a 0,.a 1] rfl rfl λs X z z=>FR.dflt r8 X rfl (by rfl)<|by rfl
def nD{b:Bool}{w:World}{a0 b0:MV}:jI (SG b) w iD.fd iD.ns [a0] [q "style"] [b0] [a0,b0]:=.of [.a 0,.k 0] rfl rfl λs X z z=>.of_eq<|by rfl
def nK{b:Bool}{w:World}{a0 b0:MV}:jI (SG b) w iI.fd iI.ns [a0] [q "style"] [b0] [a0,b0]:=.of [.a 0,.k 0] rfl rfl λs X z z=>.of_eq<|by rfl
def zM{w:World}{lv:Nat}{p:Nat}{v:MV}{H:MH}{Q:QV}(hb:jI (SG true) w tR mX [.ref p,v] [] [] [.ref p,v])
  {fs:List (Nat×MV)}(o:H.at_ p=some (.inst r7 fs))(h:lP (SG true) w lv 783 [.ref p,v] [] [] H λz H'=>Ox (SG true) w zK lv (Uj tw) (iQ mX [.ref p,v]) H'<|m9 Q):tK (SG true) w lv 1312 [.ref p,v] [] [] H Q:=
 CLS (fa:=1312) (ir:=tw) (ns:=mX.drop 2) (f2:=783) (C:=1521) (cc:=1299) (cda:=1311) (st:=(kc 52 1)) (ql:=q "Parser.__init__") (by kernel_rfl) (by kernel_rfl) (by kernel_rfl) (by kernel_rfl) (by decide) (λP=>by kernel_rfl) (λP=>{
  fn:=⟨_,_,_,(show(K P).lookup 1312=some ⟨.type "function",none,(.func<|fnX (q "__init__") (q "Parser.__init__") (ym<|kc 52 1) (nV<|kc 52 1) (je<|kc 52 1) [((q "__class__"),1299)] .none .none .none (.str (q "yaml.parser") 2098) none (.ref 1311)<|.ref 1305),#[]⟩ by kernel_rfl)⟩
  head:=⟨_,rfl,by kernel_rfl⟩
  code:=⟨_,_,_,_,_,_,(show(K P).lookup 1311=some ⟨.type "code",none,(.fields #[(.str (q "__init__") 2135),(.str (q "Parser.__init__") 2136),(.str (q "/claim/cut.py") 2137),(.int (1151) 0),(.int (2) 0),(.int (0) 0),(.int (0) 0),(.int (3) 0),.ref 1306,.bool true,(.int (181) 0),.ref 1307,.none,.ref 1308,.ref 1309,.ref 1310,(.int (2141) 0),(.int (1151) 0),(.str (q "/claim/cut.py") 2142)]),#[]⟩ by kernel_rfl),rfl,by kernel_rfl⟩
  cell:=⟨_,_,_,(show(K P).lookup 1299=some ⟨.type "cell",none,(.cell<|some<|.ref 1521),#[]⟩ by kernel_rfl)⟩
  cls:=GK (show(clsIn (K P) 1521).isSome=true by kernel_rfl)
  sub:=by kernel_rfl
  sup:=by kernel_rfl
  any:=by kernel_rfl
  find:=by kernel_rfl
  typ:=by kernel_rfl
  Tc:=by kernel_rfl
  n1:=by kernel_rfl
  n2:=by kernel_rfl
  n3:=by kernel_rfl
  n4:=by kernel_rfl
  top:=by kernel_rfl}) hb o h
def xB{b:Bool}{w:World}{a0 a1:MV}:jI (SG b) w tR mX [a0,a1] [] [] [a0,a1]:=.of [.a 0,.a 1] rfl rfl λs X z z=>.of_eq<|by rfl
def tT(P:Params):(K P).lookup 1397=some ⟨.type "tuple",none,.seq #[.bool false,.bool false] 0,#[]⟩:=by kernel_rfl
def mu{b:Bool}{w:World}{a0 b0:MV}:jI (SG b) w jf.fd jf.ns [a0] [q "block"] [b0] [a0,b0,.bool false]:=.of [.a 0,.k 0,.c (.bool false) 0] rfl rfl λs X z z=>FR.dflt tT X rfl (by rfl)<|by rfl
def WN(P:Params):(K P).lookup 1618=some ⟨.type "function",none,.func E5,#[]⟩:=by kernel_rfl
def WO:Du (SG true) B9 iP.ib (nV<|sG 68)=true:=by kernel_rfl
structure P4 where
 iU:Nat
 idx:Nat
 line:Nat
 col:Nat
structure PS where
 gA:LN
 pos:P4
 done:Bool
 tA:Nat
 taken:Nat
 indent:Int
 j9:Nat
 ask:Bool
 iZ:Nat
 cur:MV
 Dz:MV
 zN:MV
 uz:Nat
 w9:Nat
 state:MV
noncomputable def Ca:LN:=[60,117,110,105,99,111,100,101,32,115,116,114,105,110,103,62]
def gZ(s:PS):List (Nat×MV):=[(0,.str Ca),(1,.none),(2,.int 0),(3,.bool true),(4,.str s.gA),(5,.int s.pos.iU),(6,.none),(7,.none),(8,.none),(9,.int s.pos.idx),(10,.int s.pos.line),(11,.int s.pos.col),(12,.bool s.done),(13,.int 0),(14,.ref s.tA),(15,.int s.taken),(16,.int s.indent),(17,.ref s.j9),(18,.bool s.ask),(19,.ref s.iZ),(20,s.cur),(21,s.Dz),(22,s.zN),(23,.ref s.uz),(24,.ref s.w9),(25,s.state)]
def gB{H:MH}{i:Nat}{o:MO}:(H.put i o).at_ i=some o:=aF rfl
def gD{H:MH}{i j:Nat}{o:MO}(h:j≠i):(H.put i o).at_ j=H.at_ j:=aE h
def r9{H:MH}{i:Nat}{o o':MO}:(H.put i o).put i o'=H.put i o':=by unfold MH.put;congr 1;funext j;dsimp only;split<;>rfl
def gz{H:MH}{o:MO}:(H.new o).at_ H.n=some o:=aF rfl
def qI{H:MH}{o o':MO}:(H.new o).put H.n o'=H.new o':=by unfold MH.put MH.new;congr 1;funext j;dsimp only;split<;>rfl
end
section
variable{S:jy}{w:World}{f:Fm}{lv:Nat}{Q:QV}{QQ:QF}{QT:Bool->MH->Prop}{QL:gV->MH->Prop}{QU:Option Int->MH->Prop}{L:Loc}{H:MH}
def aO{i k c fs u}(o:H.at_ i=some (.inst c fs))(l:fs.lookup k=some u)(h:Q u H):O6 S (.ref i) k H Q:=by show qz (H.at_ i) _;rw[o];show(fs.lookup k).casesOn _ _;rw[l];exact h
def aC{i k c fs u}(o:H.at_ i=some (.inst c fs))(l:fs.lookup k=none)(a:S.ca c k=some u)(h:Q u H):O6 S (.ref i) k H Q:=by show qz (H.at_ i) _;rw[o];show(fs.lookup k).casesOn _ _;rw[l];show jA (S.ca c k) _;rw[a];exact h
def ZT{i k c fs}{K:Nat->Nat->List (Nat×MV)->Prop}(o:H.at_ i=some (.inst c fs))(h:K i c fs):pR (.ref i) k H K:=by show qz (H.at_ i) _;rw[o];exact h
def yc{α:Type}{o:Option α}{a:α}{k:α->Prop}(e:o=some a)(h:k a):jA o k:=by rw[e];exact h
def cS(c d:Nat):sW .Eq (.str [c]) (.str [d]) H=some (decide<|c=d):=by
 show some ([c]==[d])=_;by_cases h:c=d
 ·subst h;simp
 ·rw[au h];simpa using h
def rJ{i xs u}(o:H.at_ i=some (.list xs))(h:xs.length<gP/\Q .none (H.put i<|.list<|xs++[u])):Ij .neg (.ref i) [u] H Q:=by show kg (H.at_ i) _;rw[o];exact h
def JX{i j xs ys}(o:H.at_ i=some (.list xs))(p:H.at_ j=some (.list ys))(h:xs.length+ys.length<=gP/\Q .none (H.put i<|.list<|xs++ys)):Ij .abs (.ref i) [.ref j] H Q:=by show kg (H.at_ i) _;rw[o];show kg (H.at_ j) _;rw[p];exact h
def kmJ{s i xs}(o:H.at_ i=some (.list xs))(h:s=[]/\jA (nY xs) λys=>(ys.map length).sum+ys.length<=gP/\Q (.str ys.flatten) H):Ij .invert (.str s) [.ref i] H Q:=⟨h.1,by show kg (H.at_ i) _;rw[o];exact h.2⟩
def sS_{l a b}(h:l.length<gP/\Q (.str<|pB l a b) H):EO (.str l) a b H Q:=h
def uL{i xs}(o:H.at_ i=some (.list xs))(h:QT (!xs.isEmpty) H):vJ (.ref i) H QT:=by show qh (H.at_ i) _ _ _ _ _ _;rw[o];exact h
section
variable{P:Prop}[Decidable P]{A B:Prop}
end
end
noncomputable def tV(e:IE):Bool:=ieK (λk=>Nat.beq k 0) false e
section
variable(S:jy)(c:Nat)(fs:List<|Nat×MV)(L:Loc)
end
section
variable{S:jy}{w:World}{f:Fm}{lv p c:Nat}{fs:List (Nat×MV)}{Q:QV}{QQ:QF}{QT:Bool->MH->Prop}{QL:gV->MH->Prop}{L:Loc}{H:MH}
def LU{e:IE}(h:tV e=true):e=.loc 0:=by cases e<;>first|exact aq IE.loc (dw h)|exact(aI h).elim
noncomputable def vV(b:Bool):MV:=if b then .bool true else .none
def rlW{i xs}{K:Nat->gV->Prop}(o:H.at_ i=some (.list xs))(h:K i xs):nR (.ref i) λj=>kg (H.at_ j) (K j):=by show kg (H.at_ i) _;rw[o];exact h
def itP{i es k u}(o:H.at_ i=some (.vE es))(g:jQ k es=some u)(h:Q u H):rV (.ref i) (.int k) H Q:=by show qh (H.at_ i) _ _ _ _ _ _;rw[o];show jA (jQ k es) _;rw[g];exact h
def fLi{i es}(o:H.at_ i=some (.ju es))(q:S.quiet=true)(h:Q (.ref H.n)<|H.new<|.list<|es.map λe=>.int e.1):Zc S .maximum [.ref i] H Q:=by show yp (H.at_ i) _;rw[o];exact⟨q,h⟩
def itD{i es k u}(o:H.at_ i=some (.ju es))(g:jQ k es=some u)(h:Q u H):rV (.ref i) (.int k) H Q:=by show qh (H.at_ i) _ _ _ _ _ _;rw[o];show jA (jQ k es) _;rw[g];exact h
def A9{i xs}{n:Nat}{u}(o:H.at_ i=some (.list xs))(g:xs[n]?=some u)(h:Q u H):rV (.ref i) (.int (n:Int)) H Q:=by show qh (H.at_ i) _ _ _ _ _ _;rw[o];show jA xs[n]? _;rw[g];exact h
def deD{i es k}{K:MH->Prop}(o:H.at_ i=some (.ju es))(g:(jQ k es).isSome=true)(h:K<|H.put i<|.ju<|Ih k es):Ik (.ref i) (.int k) H K:=by show yp (H.at_ i) _;rw[o];exact⟨g,h⟩
def seD{i es k v}{K:MH->Prop}(o:H.at_ i=some (.ju es))(h:es.length<tD/\K (H.put i<|.ju<|yq k v es)):EC (.ref i) (.int k) v H K:=by show yp (H.at_ i) _;rw[o];exact h
def ZU{i es k}{K:Bool->Prop}(o:H.at_ i=some (.ju es))(h:K (jQ k es).isSome):jA (sW .In (.int k) (.ref i) H) K:=by show jA (inI (H.at_ i) k) K;rw[o];exact h
def LV{i ys u}(o:H.at_ i=some (.list<|ys++[u]))(h:Q u<|H.put i<|.list ys):Ij .pos (.ref i) [] H Q:=by show kg (H.at_ i) _;rw[o];exact⟨ys,u,rfl,h⟩
def acV{i xs u}(o:H.at_ i=some (.list<|u::xs))(h:Q u<|H.put i<|.list xs):Ij .pos (.ref i) [.int 0] H Q:=by show kg (H.at_ i) _;rw[o];exact⟨rfl,_,_,rfl,h⟩
abbrev Fs:=List<|Nat×MV
abbrev se:=MV->Fs->MH->Prop
structure En where
 s:Bool
 b:Bool
 f:Fm
 lv:Nat
 p:Nat
 c:Nat
structure Sg where
 A:Fs
 L:Loc
 F:Fs
 fs:Fs
 H:MH
abbrev VQ:=MV->Sg->Prop
abbrev VF:=MF->Sg->Prop
def Sg.loc(Z:Sg):Loc:=Z.A.rec Z.L λkv z ih=>ih.set kv.1<|some kv.2
def Sg.all(Z:Sg):Fs:=Z.F.rec Z.fs λkv z ih=>rD kv.1 kv.2 ih
end
def Sg.lv(Z:Sg)(k:Nat):Option nF:=Z.A.rec Z.L[k]? λkv z ih=>cond (Nat.beq kv.1 k) (cond (Nat.blt k Z.L.length) (some<|some kv.2) none) ih
def Sg.fl(Z:Sg)(k:Nat):nF:=Z.F.rec (Z.fs.lookup k) λkv z ih=>cond (Nat.beq k kv.1) (some kv.2) ih
noncomputable def Sg.as(Z:Sg)(k:Nat)(v:MV):Sg:=Z.casesOn λA L F fs H=>⟨(k,v)::A,L,F,fs,H⟩
noncomputable def Sg.st(Z:Sg)(k:Nat)(v:MV):Sg:=Z.casesOn λA L F fs H=>⟨A,L,(k,v)::F,fs,H⟩
noncomputable def Sg.bk(Z:Sg)(fs:Fs)(H:MH):Sg:=Z.casesOn λA L z z z=>⟨A,L,[],fs,H⟩
def hp(z:En)(Z:Sg):MH:=Z.F.casesOn Z.H λy y=>Z.H.put z.p<|.inst z.c Z.all
inductive RS(p c:Nat)(K:Fs->MH->Prop)(H:MH):Prop
 |mk {fs:Fs}:H.at_ p=some (.inst c fs)->K fs H->RS p c K H
inductive RL(p c:Nat)(K:Sg->Prop)(L:Loc)(H:MH):Prop
 |mk {fs:Fs}:H.at_ p=some (.inst c fs)->L[0]?=some (some<|.ref p)->K ⟨[],L,[],fs,H⟩->RL p c K L H
def rr(z:En)(Z:Sg)(K:Sg->Prop)(H:MH):Prop:=@Bool.rec (λy=>Prop) (K<|Z.bk [] H) (RS z.p z.c (λfs H=>K<|Z.bk fs H) H) z.s
def rl(z:En)(K:Sg->Prop)(L:Loc)(H:MH):Prop:=@Bool.rec (λy=>Prop) (K ⟨[],L,[],[],H⟩) (RL z.p z.c K L H) z.s
def CW(b:Bool)(lv fa:Nat)(vs:gV)(kn:oq)(us:gV)(H:MH)(Q:QV):Prop:=∀w,lP (SG b) w lv fa vs kn us H Q
def SC(lv fa p c:Nat)(vs:gV)(kn:oq)(us:gV)(H:MH)(Q:se)(b:Bool:=true):Prop:=CW b lv fa (.ref p::vs) kn us H λv=>RS p c<|Q v
abbrev pW(lv fa p:Nat)(H:MH)(Q:se):Prop:=SC lv fa p 1521 [] [] [] H Q
def LW(z:En)(c:IE)(b o:IS)(L:Loc)(H:MH)(Q:QF):Prop:=∀w,IV (SG z.b) w z.f z.lv c b o L H Q
def FW(z:En)(b:IS)(us:List<|Loc->Loc)(L:Loc)(H:MH)(Q:QF):Prop:=∀w,xo (SG z.b) w z.f z.lv b us L H Q
abbrev TQ:=Bool->Sg->Prop
abbrev AQ:=gV->Sg->Prop
abbrev OQ:=Option Int->Sg->Prop
structure VX where
 E:En->Sg->VQ->Prop
 T:En->Sg->TQ->Prop
 L:En->Sg->AQ->Prop
 V:BoolOp->En->Sg->VQ->Prop
 B:BoolOp->En->Sg->TQ->Prop
 O:En->Sg->OQ->Prop
def nm(z:En)(Z:Sg)(K:Bool->Nat->Nat->Nat->Sg->MH->Prop):Prop:=z.casesOn λy b y lv p c=>Z.casesOn λA L F fs H=>F.casesOn (K b lv p c ⟨A,L,[],fs,H⟩ H) λkv F=>K b lv p c ⟨A,L,kv::F,fs,H⟩<|H.put p<|.inst c<|Sg.all ⟨A,L,kv::F,fs,H⟩
def Je{z:En}{Z:Sg}{K:Bool->Nat->Nat->Nat->Sg->MH->Prop}(h:nm z Z K):K z.b z.lv z.p z.c Z (hp z Z):=by obtain⟨A,L,F,fs,H⟩:=Z;cases F<;>exact h
def kU(Z:Sg)(Q:VQ):QV:=λu z=>Q u Z
def kB(Z:Sg)(Q:VQ):se:=λv fs H=>Q v<|Z.bk fs H
def kR(z:En)(Z:Sg)(Q:VQ):QV:=λv=>rr z Z<|Q v
def kM(Z:Sg)(Q:TQ):Bool->MH->Prop:=λb z=>Q b Z
def kT(z:En)(Q:TQ):VQ:=λv Z=>vJ v (hp z Z)<|kM Z Q
def kO(Q:VQ):TQ:=λt Z=>Q (.bool t) Z
def kP(Z:Sg)(Q:TQ):Bool->Prop:=λt=>Q t Z
noncomputable def VX.t(E:En->Sg->VQ->Prop)(T:En->Sg->TQ->Prop):VX:=⟨E,T,λz z z=>False,λz z z z=>False,λz z z z=>False,λz z z=>False⟩
def VX.e(E:En->Sg->VQ->Prop):VX:=.t E λz Z Q=>E z Z<|kT z Q
noncomputable def VX.o(O:En->Sg->OQ->Prop):VX:=⟨λz z z=>False,λz z z=>False,λz z z=>False,λz z z z=>False,λz z z z=>False,O⟩
def kAt(k:Nat)(z:En)(Q:VQ):VQ:=λv Z=>O6 (SG z.b) v k (hp z Z)<|kU Z Q
def LX(e:IE)(k:Nat)(a:VX):VX:=.e λz Z Q=>@Bool.rec (λy=>Prop) (a.E z Z<|kAt k z Q) ((Z.fl k).casesOn (jA (find3 ZI z.c k) λu=>Q u Z) λu=>Q u Z)<|z.s&&tV e
def GL(e:IE)(k:Nat):VX:=.e λz Z Q=>@Bool.rec (λy=>Prop) False ((Z.fl k).casesOn (jA (LD z.c k) λfa=>Q (.jR fa z.p) Z) λy=>False)<|z.s&&tV e
def kSc(fa:Nat)(kn:oq)(vs:gV)(z:En)(Q:VQ):AQ:=λus Z=>nm z Z λb lv p c Z H=>SC lv fa p c vs kn us H (kB Z Q) b
def kSa(fa:Nat)(kn:oq)(ks:VX)(z:En)(Q:VQ):AQ:=λvs Z=>ks.L z Z<|kSc fa kn vs z Q
def kCc(fa:Nat)(kn:oq)(vs:gV)(z:En)(Q:VQ):AQ:=λus Z=>nm z Z λb lv y y Z H=>CW b lv fa vs kn us H<|kR z Z Q
def kCa(fa:Nat)(kn:oq)(ks:VX)(z:En)(Q:VQ):AQ:=λvs Z=>ks.L z Z<|kCc fa kn vs z Q
def kCi(fa:Nat)(kn:oq)(i:Nat)(ks:VX)(z:En)(Q:VQ):AQ:=λvs Z=>ks.L z Z<|kCc fa kn (.ref i::vs) z Q
def kMo(k:Nat)(kn:oq)(as ks:VX)(z:En)(Q:VQ):VQ:=λv Z=>pR v k (hp z Z) λi c fs=>fs.lookup k=none/\jA (LD c k) λfa=>as.L z Z<|kCi fa kn i ks z Q
def GN(e:IE)(k:Nat)(kn:oq)(a as ks:VX):VX:=.e λz Z Q=>@Bool.rec (λy=>Prop) (a.E z Z<|kMo k kn as ks z Q) ((Z.fl k).casesOn (jA (LD z.c k) λfa=>as.L z Z<|kSa fa kn ks z Q) λy=>False)<|z.s&&tV e
def GO(e:IE)(k:Nat):VX:=.e λz Z Q=>@Bool.rec (λy=>Prop) False (AX (Z.fl k) λfa j=>(∃c' k',LD c' k'=some fa)/\CW z.b z.lv fa [.ref j] [] [] (hp z Z) (kR z Z Q))<|z.s&&tV e
def GP(fa:Nat)(kn:oq)(as ks:VX):VX:=.e λz Z Q=>as.L z Z<|kCa fa kn ks z Q
def kNr(z:En)(Z:Sg)(i:Nat)(Q:VQ):QV:=λv H=>v=.none/\rr z Z (Q<|.ref i) H
def kNc(c fI:Nat)(kn:oq)(vs:gV)(z:En)(Q:VQ):AQ:=λus Z=>nm z Z λb lv y y Z H=>CW b lv fI (.ref H.n::vs) kn us (H.new<|.inst c [])<|kNr z Z H.n Q
def kNa(c fI:Nat)(kn:oq)(ks:VX)(z:En)(Q:VQ):AQ:=λvs Z=>ks.L z Z<|kNc c fI kn vs z Q
def LY(c:Nat)(kn:oq)(as ks:VX):VX:=.e λz Z Q=>jA (LA.lookup c) λfI=>as.L z Z<|kNa c fI kn ks z Q
def kNl(c fI:Nat)(z:En)(Q:VQ):AQ:=λvs=>kNc c fI [] vs z Q []
def GQ(k:Nat)(as:VX):VX:=.e λz Z Q=>BA (Z.lv k) λv=>Ax v λc=>jA (LA.lookup c) λfI=>as.L z Z<|kNl c fI z Q
def kFr(b:BF)(z:En)(Z:Sg)(Q:VQ):QV:=λu H=>b.casesOn (Q u Z) (Q u Z) (Q u Z) (rr z Z (Q u) H) (Q u Z) (Q u Z)<|Q u Z
def kFa(b:BF)(z:En)(Q:VQ):AQ:=λvs Z=>Zc (SG z.b) b vs (hp z Z)<|kFr b z Z Q
def GR(b:BF)(as:VX):VX:=.e λz Z Q=>as.L z Z<|kFa b z Q
def kKr(m:KM)(z:En)(Z:Sg)(Q:VQ):QV:=λu H=>m.casesOn (rr z Z (Q u) H) (rr z Z (Q u) H) (rr z Z (Q u) H)<|Q u Z
def kKa(m:KM)(v:MV)(z:En)(Q:VQ):AQ:=λvs Z=>Ij m v vs (hp z Z)<|kKr m z Z Q
def kKo(m:KM)(as:VX)(z:En)(Q:VQ):VQ:=λv Z=>Kh v (hp z Z) m.kind/\as.L z Z (kKa m v z Q)
def GS(m:KM)(a as:VX):VX:=.e λz Z Q=>a.E z Z<|kKo m as z Q
def kBr(op:Operator)(a:MV)(z:En)(Q:VQ):VQ:=λb Z=>CV op a b (hp z Z)<|kU Z Q
def kBl(op:Operator)(r:VX)(z:En)(Q:VQ):VQ:=λa Z=>r.E z Z<|kBr op a z Q
def Uk(op:Operator)(l r:VX):VX:=.e λz Z Q=>l.E z Z<|kBl op r z Q
def kEr(op:CmpOp)(a:MV)(z:En)(Q:TQ):VQ:=λb Z=>jA (sW op a b<|hp z Z)<|kP Z Q
def kEl(op:CmpOp)(r:VX)(z:En)(Q:TQ):VQ:=λa Z=>r.E z Z<|kEr op a z Q
def Ul(op:CmpOp)(l r:VX):VX:=.t (λz Z Q=>l.E z Z<|kEl op r z<|kO Q) λz Z Q=>l.E z Z<|kEl op r z Q
def kHt(op:CmpOp)(b:MV)(r:VX)(z:En)(Z:Sg)(Q:TQ):Bool->Prop:=λt=>@Bool.rec (λy=>Prop) (Q false Z) (r.E z Z<|kEr op b z Q) t
def kHm(o1 o2:CmpOp)(a:MV)(r:VX)(z:En)(Q:TQ):VQ:=λb Z=>jA (sW o1 a b<|hp z Z)<|kHt o2 b r z Z Q
def kHl(o1 o2:CmpOp)(m r:VX)(z:En)(Q:TQ):VQ:=λa Z=>m.E z Z<|kHm o1 o2 a r z Q
def GU(o1 o2:CmpOp)(l m r:VX):VX:=.t (λz Z Q=>l.E z Z<|kHl o1 o2 m r z<|kO Q) λz Z Q=>l.E z Z<|kHl o1 o2 m r z Q
def kNo(Q:TQ):TQ:=λb Z=>Q (!b) Z
def v_not(a:VX):VX:=.t (λz Z Q=>a.E z Z<|kT z<|kNo<|kO Q) λz Z Q=>a.T z Z<|kNo Q
def kNg(Q:VQ):VQ:=λv Z=>qg v λi=>Q (.int<|-i) Z
def Um(a:VX):VX:=.e λz Z Q=>a.E z Z<|kNg Q
def kIf(a b:VX)(z:En)(Q:VQ):TQ:=λt Z=>@Bool.rec (λy=>Prop) (b.E z Z Q) (a.E z Z Q) t
def Un(c a b:VX):VX:=.e λz Z Q=>c.T z Z<|kIf a b z Q
def kIr(v:MV)(z:En)(Q:VQ):VQ:=λj Z=>rV v j (hp z Z)<|kU Z Q
def kIl(i:VX)(z:En)(Q:VQ):VQ:=λv Z=>i.E z Z<|kIr v z Q
def v_sub(a i:VX):VX:=.e λz Z Q=>a.E z Z<|kIl i z Q
def kSl(v:MV)(z:En)(Z:Sg)(Q:VQ):QV:=λu H=>v.casesOn False kG kG (λy=>Q u Z) (λy=>rr z Z (Q u) H) kG AR kG λy=>False
def kLh(v:MV)(x:Option Int)(z:En)(Q:VQ):OQ:=λy Z=>EO v x y (hp z Z)<|kSl v z Z Q
def kLl(v:MV)(hi:VX)(z:En)(Q:VQ):OQ:=λx Z=>hi.O z Z<|kLh v x z Q
def kLo(lo hi:VX)(z:En)(Q:VQ):VQ:=λv Z=>lo.O z Z<|kLl v hi z Q
def Uo(a lo hi:VX):VX:=.e λz Z Q=>a.E z Z<|kLo lo hi z Q
def kLs(z:En)(Q:VQ):AQ:=λvs Z=>@Bool.rec (λy=>Prop) False (rr z Z (Q<|.ref (hp z Z).n)<|(hp z Z).new<|.list vs)<|Nat.ble vs.length 1000
def LZ(es:VX):VX:=.e λz Z Q=>es.L z Z<|kLs z Q
def kTu(Q:VQ):AQ:=λvs Z=>@Bool.rec (λz=>Prop) False (Q (.tup vs) Z)<|Nat.ble vs.length 1000
def Uq(es:VX):VX:=.e λz Z Q=>es.L z Z<|kTu Q
def GV(o:MO):VX:=.e λz Z Q=>rr z Z (Q<|.ref (hp z Z).n)<|(hp z Z).new o
noncomputable def Ur:VX:=⟨λz z z=>False,λz z z=>False,λz Z Q=>Q [] Z,λz z z z=>False,λop z Z Q=>op.casesOn (Q true Z)<|Q false Z,λz z z=>False⟩
def kAc(v:MV)(Q:AQ):AQ:=λvs Z=>Q (v::vs) Z
def kAr(r:VX)(z:En)(Q:AQ):VQ:=λv Z=>r.L z Z<|kAc v Q
def kVt(op:BoolOp)(r:VX)(v:MV)(z:En)(Q:VQ):TQ:=λb Z=>op.casesOn (@Bool.rec (λy=>Prop) (Q v Z) (r.V .And z Z Q) b)<|@Bool.rec (λy=>Prop) (r.V .Or z Z Q) (Q v Z) b
def kV(op:BoolOp)(r:VX)(z:En)(Q:VQ):VQ:=λv Z=>vJ v (hp z Z)<|kM Z<|kVt op r v z Q
def kBt(op:BoolOp)(r:VX)(z:En)(Q:TQ):TQ:=λb Z=>op.casesOn (@Bool.rec (λy=>Prop) (Q false Z) (r.B .And z Z Q) b)<|@Bool.rec (λy=>Prop) (r.B .Or z Z Q) (Q true Z) b
noncomputable def L0(r':IE)(a r:VX):VX:=⟨λy y y=>False,λy y y=>False,λz Z Q=>a.E z Z<|kAr r z Q,λop z Z Q=>@Bool.rec (λy=>Prop) (a.E z Z<|kV op r z Q) (a.E z Z Q)<|OG r',λop z Z Q=>a.T z Z<|kBt op r z Q,λy y y=>False⟩
def kYe(Q:OQ):VQ:=λv Z=>qg v λi=>Q (some i) Z
def kLL(a:MV)(z:En)(Q:VQ):VQ:=λb Z=>nR a λi=>nR b λj=>kg ((hp z Z).at_ i) λxs=>kg ((hp z Z).at_ j) λys=>xs.length+ys.length<=gP/\rr z Z (Q<|.ref (hp z Z).n) ((hp z Z).new<|.list<|xs++ys)
def L4(l r:VX):VX:=.e λz Z Q=>l.E z Z λa Z=>r.E z Z<|kLL a z Q
def kId(a:MV)(Q:TQ):VQ:=λb Z=>pI a λk=>Ax b λc=>jA (Ys c) λes=>Q (jQ k es).isSome Z
def L6(l r:VX):VX:=.t (λy y y=>False) λz Z Q=>l.E z Z λa Z=>r.E z Z<|kId a Q
def kSd(a:MV)(Q:VQ):VQ:=λj Z=>Ax a λc=>jA (Ys c) λes=>pI j λk=>jA (jQ k es) λm=>Q m Z
def GW(a i:VX):VX:=.e λz Z Q=>a.E z Z λv Z=>i.E z Z<|kSd v Q
def kCp(z:En)(Z:Sg)(Q:VQ):QV:=λu H=>rr z Z (Q u) H
def L7(md:Nat)(a:VX):VX:=.e λz Z Q=>a.E z Z λv Z=>Gn (SG z.b) md v (hp z Z)<|kCp z Z Q
def vx(e:IE):VX:=e.rec (.e λy Z Q=>Q .none Z) (λb=>.e λy Z Q=>Q (.bool b) Z) (λi=>.e λy Z Q=>Q (.int i) Z) (λl=>.e λy Z Q=>Q (.str l) Z) (λk=>.e λy Z Q=>BA (Z.lv k) λv=>Q v Z) (λc=>.e λy Z Q=>Q (.cls c) Z) (λn=>.e λy Z Q=>Q (.ty n) Z)
 LX (λe k y=>GL e k) (λe k y kn y a as ks=>GN e k kn a as ks) (λe k y=>GO e k) (λfa y kn y as ks=>GP fa kn as ks) (λc y kn y as ks=>LY c kn as ks) (λk y as=>GQ k as) (λb y as=>GR b as) (λm y y a as=>GS m a as) (λop y y l r=>Uk op l r) (λop y y l r=>Ul op l r) (λo1 o2 y y y l m r=>GU o1 o2 l m r)
 (λop y es=>.t (es.V op)<|es.B op) (λy a=>v_not a) (λy a=>Um a) (λy y y c a b=>Un c a b) (λy y a i=>v_sub a i) (λy y y a lo hi=>Uo a lo hi) (λy es=>LZ es) (λy es=>Uq es) (GV<|.iN []) (GV<|.ju []) (.e λy y y=>False) Ur (λy r' a r=>L0 r' a r) (.o λy Z Q=>Q none Z) (λy a=>.o λz Z Q=>a.E z Z<|kYe Q) (λy y l r=>L4 l r) (λy y l r=>L6 l r) (λy y a i=>GW a i) (λmd y a=>L7 md a)
structure Cx where
 z:En
 Q:VF
abbrev Nx:=Cx->List IS->Sg->Prop
abbrev PQ:=Sg->Prop
def stk(N:Nx)(C:Cx)(rs:List IS):VF:=λmf Z=>mf.casesOn (N C rs Z) (C.Q .brk Z) (C.Q .cont Z) λv=>C.Q (.ret v) Z
def kRe(C:Cx):VQ:=λv Z=>C.Q (.ret v) Z
def kEx(P:PQ):VQ:=λz Z=>P Z
def ZV(k:Nat)(P:PQ):VQ:=λv Z=>@Bool.rec (λz=>Prop) (P<|Z.as k v) False<|Nat.beq k 0
def L8(k:Nat)(e:IE):Nx->Nx:=λN C rs Z=>(vx e).E C.z Z<|ZV k<|N C rs
def kA2(k j:Nat)(P:PQ):VQ:=λv Z=>@Bool.rec (λz=>Prop) (P<|(Z.as k v).as j v) False<|Nat.beq (k*j) 0
def GX(k j:Nat)(e:IE):Nx->Nx:=λN C rs Z=>(vx e).E C.z Z<|kA2 k j<|N C rs
def kA3(k j i:Nat)(P:PQ):VQ:=λv Z=>@Bool.rec (λz=>Prop) (P<|((Z.as k v).as j v).as i v) False<|Nat.beq (k*j*i) 0
def GY(k j i:Nat)(e:IE):Nx->Nx:=λN C rs Z=>(vx e).E C.z Z<|kA3 k j i<|N C rs
def Us(ks:LN)(vs:gV)(Z:Sg)(K:Sg->Prop):Prop:=ks.rec (motive:=λz=>gV->Sg->Prop) (λvs Z=>vs.casesOn (K Z) λz z=>False) (λk z ih vs Z=>vs.casesOn False λv vs=>@Bool.rec (λz=>Prop) (ih vs<|Z.as k v) False<|Nat.beq k 0) vs Z
def kA4(ks:LN)(P:PQ):VQ:=λv Z=>Ic v λvs=>Us ks vs Z P
def GZ(ks:LN)(e:IE):Nx->Nx:=λN C rs Z=>(vx e).E C.z Z<|kA4 ks<|N C rs
def putK(z:En)(k:Nat)(v:MV)(Z:Sg)(K:Sg->Prop):Prop:=@Bool.rec (λy=>Prop) False (K<|Z.st k v)<|Ja z.c k&&Nat.ble Z.all.length 100
def kSe(z:En)(k:Nat)(P:PQ):VQ:=λv Z=>putK z k v Z P
def G0(o:IE)(k:Nat)(e:IE):Nx->Nx:=λN C rs Z=>@Bool.rec (λy=>Prop) False ((vx e).E C.z Z<|kSe C.z k<|N C rs)<|C.z.s&&tV o
def G7(o i e:IE):Nx->Nx:=λN C rs Z=>(vx e).E C.z Z λv Z=>(vx o).E C.z Z λov Z=>(vx i).E C.z Z λiv Z=>EC ov iv v (hp C.z Z)<|rr C.z Z<|N C rs
def kSu(k:Nat)(Z:Sg)(P:PQ):QV:=λv z=>@Bool.rec (λz=>Prop) (P<|Z.as k v) False<|Nat.beq k 0
def kAu(k:Nat)(op:Operator)(u:MV)(z:En)(P:PQ):VQ:=λb Z=>CV op u b (hp z Z)<|kSu k Z P
def G8(k:Nat)(op:Operator)(e:IE):Nx->Nx:=λN C rs Z=>BA (Z.lv k) λu=>(vx e).E C.z Z<|kAu k op u C.z<|N C rs
def kSv(z:En)(k:Nat)(Z:Sg)(P:PQ):QV:=λv y=>putK z k v Z P
def kAg(k:Nat)(op:Operator)(u:MV)(z:En)(P:PQ):VQ:=λb Z=>CV op u b (hp z Z)<|kSv z k Z P
def Hf(o:IE)(k:Nat)(op:Operator)(e:IE):Nx->Nx:=λN C rs Z=>@Bool.rec (λy=>Prop) False (jA (Z.fl k) λu=>(vx e).E C.z Z<|kAg k op u C.z<|N C rs)<|C.z.s&&tV o
def kIt(P P':PQ):TQ:=λb Z=>@Bool.rec (λz=>Prop) (P' Z) (P Z) b
def L9(c:IE)(t e:Nx->Nx):Nx->Nx:=λN C rs Z=>(vx c).T C.z Z<|kIt (t N C rs)<|e N C rs
def kW(z:En)(Q:VF):QF:=λmf=>rl z<|Q mf
def Ma(c:IE)(b o:IS):Nx->Nx:=λN C rs Z=>nm C.z Z λy y y y Z H=>LW C.z c b o Z.loc H<|kW C.z<|stk N C rs
def Hg(k:Nat)(e:IE)(b:IS):Nx->Nx:=λN C rs Z=>(vx e).E C.z Z λv Z=>nR v λj=>kg ((hp C.z Z).at_ j) λxs=>FW C.z b (xs.map λv Lc=>Lc.set k<|some v) Z.loc ((hp C.z Z).del j)<|kW C.z<|stk N C rs
def Hh(k:Nat)(e:IE)(b:IS):Nx->Nx:=λN C rs Z=>(vx e).E C.z Z λv Z=>nR v λj=>yp ((hp C.z Z).at_ j) λes=>FW C.z b (es.map λe Lc=>Lc.set k<|some<|.int e.1) Z.loc ((hp C.z Z).put j<|.vE es) λmf L H=>H.at_ j=some (.vE es)/\kW C.z (stk N C rs) mf L (H.put j<|.ju es)
def Hi(ks:LN)(e:IE)(b:IS):Nx->Nx:=λN C rs Z=>(vx e).E C.z Z λv Z=>pI v λl=>FW C.z b (uS ks 0 l) Z.loc (hp C.z Z)<|kW C.z<|stk N C rs
def Hj(ks:LN)(e:IE)(b:IS):Nx->Nx:=λN C rs Z=>(vx e).E C.z Z (λv Z=>nR v λj=>kg ((hp C.z Z).at_ j) λxs=>∃ps:List gV,xs=ps.map .tup/\(∀p∈ps,p.length=ks.length)/\FW C.z b (ps.map λp Lc=>nJ ks p Lc) Z.loc ((hp C.z Z).del j) (kW C.z<|stk N C rs))
def Hl(k:Nat)(e:IE)(b:IS):Nx->Nx:=λN C rs Z=>(vx e).E C.z Z λv Z=>pI v λl=>FW C.z b (l.map λc Lc=>Lc.set k<|some<|.str [c]) Z.loc (hp C.z Z)<|kW C.z<|stk N C rs
def Ho(k:Nat)(e:IE)(b:IS):Nx->Nx:=λN C rs Z=>(vx e).E C.z Z λv Z=>qg v λi=>BC i λm=>m<gP/\FW C.z b (sL k m) Z.loc (hp C.z Z) (kW C.z<|stk N C rs)
def Mc(o i:IE):Nx->Nx:=λN C rs Z=>(vx o).E C.z Z λov Z=>(vx i).E C.z Z λiv Z=>Ik ov iv (hp C.z Z)<|rr C.z Z<|N C rs
def kAe(P:PQ):TQ:=λb Z=>b=true/\P Z
def Hp(i:Nat):Nx->Nx:=λN C rs Z=>∀Q',(∀mf L H,kW C.z (stk N C rs) mf L H->Q' mf L H)->xwF i Z.loc (hp C.z Z) Q'
noncomputable def Hq(r:IS)(rs:List IS):List IS:=cond (Vj r) rs<|r::rs
def vsN(s:IS):Nx->Nx:=s.rec (λN=>N) (λy C y Z=>C.Q .brk Z) (λy C y Z=>C.Q .cont Z) (λe y C y Z=>(vx e).E C.z Z<|kRe C) (λy C y Z=>C.Q (.ret .none) Z) (λe N C rs Z=>(vx e).E C.z Z<|kEx<|N C rs) L8 GX GY GZ G0 G7 G8 Hf (λc y y t e=>L9 c t e) (λc b o y y=>Ma c b o) (λk e b y=>Hg k e b) (λk e b y=>Hh k e b) (λks e b y=>Hi ks e b)
 (λy y b o N C rs Z=>b N ⟨C.z,λmf Z=>mf.casesOn (o N C rs Z) (C.Q .brk Z) (C.Q .cont Z) λv=>C.Q (.ret v) Z⟩ [] Z) Mc (λe N C rs Z=>(vx e).T C.z Z<|kAe<|N C rs) Hp (λy y y y=>False) (λN=>N) (λy r s y N C rs Z=>s N C (Hq r rs) Z) (λks e b y=>Hj ks e b) (λk e b y=>Hl k e b) (λk e b y=>Ho k e b)
def run(n:Nat):Nx:=n.rec (λz z z=>False) λz N C rs Z=>rs.casesOn (C.Q .next Z) λr rs=>vsN r N C rs Z
section
variable{S:jy}{w:World}{Q Q':QV}{H:MH}{α:Type}{P:Prop}
def ZW{v:MV}{K K':Nat->Prop}(h:Ax v K)(m:∀a,K a->K' a):Ax v K':=Vv (P:=λv=>Ax v K') h m
def acZ{v:MV}{K K':gV->Prop}(h:Ic v K)(m:∀a,K a->K' a):Ic v K':=Vu h λa e h=>e▸m a h
def Me{o:Option MO}{kI kI':Nat->List (Nat×MV)->Prop}{kL kL' kF kF':gV->Prop}{kS kS':List (LN×MV)->Prop}{kD kD' kP kP':List (Int×MV)->Prop}(h:qh o kI kL kF kS kD kP)(mI:∀c fs,kI c fs->kI' c fs)(mL:∀x,kL x->kL' x)(mF:∀x,kF x->kF' x)(mS:∀x,kS x->kS' x)(mD:∀x,kD x->kD' x)(mP:∀x,kP x->kP' x):qh o kI' kL' kF' kS' kD' kP':=
 qG h λa h=>by cases a<;>first|exact mI _ _ h|exact mL _ h|exact mF _ h|exact mS _ h|exact mD _ h|exact mP _ h|exact h
def vh{vs:gV}{K K':MV->Prop}(h:arg1 vs K)(m:∀v,K v->K' v):arg1 vs K':=rW (P:=λvs=>arg1 vs K') h m
def ZX{o:Option MO}{K K':Nat->List (Nat×MV)->Prop}(h:qz o K)(m:∀c fs,K c fs->K' c fs):qz o K':=Me h m (λz h=>h) (λz h=>h) (λz h=>h) (λz h=>h) λz h=>h
def ZY{o:Option MO}{K K':List (LN×MV)->Prop}(h:Ie o K)(m:∀x,K x->K' x):Ie o K':=Me h (λz z h=>h) (λz h=>h) (λz h=>h) m (λz h=>h) λz h=>h
def ZZ{v:MV}{k:Nat}(h:O6 S v k H Q)(m:∀u,Q u H->Q' u H):O6 S v k H Q':=by
 cases v with
 |ref i=>
  exact ZX h λc fs h=>by
   cases q:fs.lookup k with
   |none=>rw[q]at h;exact qG h λu=>m u
   |some u=>rw[q]at h;exact m u h
 |cls c=>exact qG h λu=>m u
 |_=>exact h
def E6{op:Operator}{a b:MV}(h:CV op a b H Q)(m:∀u,Q u H->Q' u H):CV op a b H Q':=by
 induction op with
 |Add=>cases a with
  |int x=>exact rI h λy=>m _
  |str x=>exact Dv h λy h=>⟨h.1,m _ h.2⟩
  |_=>exact h
 |Sub=>exact rI h λx h=>rI h λy=>m _
 |Mult=>cases a with
  |int x=>exact rI h λy h=>⟨h.1,m _ h.2⟩
  |str x=>exact rI h λy h=>⟨h.1,m _ h.2⟩
  |_=>exact h
 |Mod=>exact rI h λx h=>rI h λy h=>⟨h.1,m _ h.2⟩
 |FloorDiv=>exact rI h λx h=>rI h λy h=>⟨h.1,m _ h.2⟩
 |_=>exact h
def E7{v:MV}{K K':Bool->MH->Prop}(h:vJ v H K)(m:∀b,K b H->K' b H):vJ v H K':=by
 cases v with
 |str=>exact⟨h.1,m _ h.2⟩
 |tup=>exact⟨h.1,m _ h.2⟩
 |ref i=>exact Me h (λz z h=>h) (λz=>m _) (λz h=>h) (λz=>m _) (λz=>m _) λz h=>h
 |_=>first|exact m _ h|exact h
def ac0{n:Nat}{k:Int}{K K':Nat->Prop}(h:O2 n k K)(m:∀a,K a->K' a):O2 n k K':=by induction k with|ofNat a=>exact m a h|negSucc a=>exact⟨h.1,m _ h.2⟩
def WQ{v i:MV}(h:rV v i H Q)(m:∀u,Q u H->Q' u H):rV v i H Q':=by
 cases v with
 |str l=>exact rI h λk h=>⟨h.1,ac0 h.2 λn h=>qG h λc=>m _⟩
 |tup l=>exact rI h λk h=>⟨h.1,Wr h.2 λn h=>qG h λc=>m _⟩
 |ref j=>cases i with
  |int k=>exact Me h (λz z h=>h) (λz h=>Wr h λn h=>qG h λc=>m _) (λz h=>h) (λz h=>h) (λz h=>qG h λc=>m _) λz h=>qG h λc=>m _
  |str k=>exact ZY h λz h=>qG h λc=>m _
  |_=>exact h
 |_=>exact h
def WR{o i v:MV}{K K':MH->Prop}(h:EC o i v H K)(m:∀H,K H->K' H):EC o i v H K':=xq h λj h=>by
 cases i with
 |int k=>exact Qm h λz h=>⟨h.1,m _ h.2⟩
 |str k=>exact ZY h λz h=>⟨h.1,m _ h.2⟩
 |_=>exact h
def WS{o i:MV}{K K':MH->Prop}(h:Ik o i H K)(m:∀H,K H->K' H):Ik o i H K':=xq h λj h=>rI h λk h=>Qm h λz h=>⟨h.1,m _ h.2⟩
def Z0{b:BF}{vs:gV}(h:Zc S b vs H Q)(m:∀u H1,(b≠.maximum->H1=H)->Q u H1->Q' u H1):Zc S b vs H Q':=by
 induction b with
 |add=>
  exact vh h λv h=>by
   cases v with
   |str=>exact⟨h.1,m _ _ (λz=>rfl) h.2⟩
   |ref i=>exact Me h (λz z h=>h) (λz=>m _ _ λz=>rfl) (λz=>m _ _ λz=>rfl) (λz h=>h) (λz h=>h) λz h=>h
   |_=>exact h
 |subtract=>exact vh h λv h=>Dv h λl h=>⟨h.1,qG h.2 λn=>m _ _ λz=>rfl⟩
 |multiply=>
  exact xg (P:=λvs=>arg2 vs λv d=>VC S v d H Q') h λv d h=>by
   cases v with
   |str l=>exact tyE h λn e h=>e▸⟨h.1,m _ _ (λz=>rfl) h.2⟩
   |ref i=>exact ZW h λd h=>ZX h λc z h=>qG h λb=>m _ _ λz=>rfl
   |_=>exact h
 |minimum=>exact xg (P:=λvs=>arg2 vs λv d=>AY v d λx y=>S.quiet=true/\Q' (.int<|if x<y then y else x) H) h λv d h=>rI h λx h=>rI h λy h=>⟨h.1,m _ _ (λz=>rfl) h.2⟩
 |fmax=>exact vh h λv h=>rI h λx h=>⟨h.1,m _ _ (λz=>rfl) h.2⟩
 |fmin=>exact xg (P:=λvs=>arg2 vs λv d=>pI v λl=>l=[101,57]/\qg d λb=>b=16/\Q' (.int 233) H) h λv d h=>Dv h λl h=>⟨h.1,rI h.2 λb h=>⟨h.1,m _ _ (λz=>rfl) h.2⟩⟩
 |maximum=>exact vh h λv h=>xq h λi h=>Qm h λes h=>⟨h.1,m _ _ (λq=>aG rfl q) h.2⟩
def Z1{k:KM}{v:MV}{vs:gV}(h:Ij k v vs H Q)(m:∀u H1,(k=.invert->H1=H)->Q u H1->Q' u H1):Ij k v vs H Q':=by
 induction k with
 |neg=>exact xq h λi h=>vh h λu h=>BY h λxs h=>⟨h.1,m _ _ nofun h.2⟩
 |abs=>exact xq h λi h=>vh h λu h=>xq h λj h=>BY h λxs h=>BY h λys h=>⟨h.1,m _ _ nofun h.2⟩
 |invert=>exact Dv h λs h=>⟨h.1,vh h.2 λu h=>xq h λi h=>BY h λxs h=>qG h λys h=>⟨h.1,m _ _ (λz=>rfl) h.2⟩⟩
 |pos=>
  exact xq h λi h=>BY h λxs h=>by
   cases vs with
   |nil=>exact h.elim λys h=>h.elim λu h=>⟨ys,u,h.1,m _ _ nofun h.2⟩
   |cons v r=>induction r with
    |nil=>exact rI h λk h=>⟨h.1,h.2.elim λu h=>h.elim λys h=>⟨u,ys,h.1,m _ _ nofun h.2⟩⟩
    |cons=>exact h
def QX{md:Nat}{v:MV}(h:Gn S md v H Q)(m:∀u H1,Q u H1->Q' u H1):Gn S md v H Q':=by
 cases md with
 |zero=>exact xq h λj h=>BY h λxs h=>⟨h.1,m _ _ h.2⟩
 |succ md=>induction md with
  |zero=>exact xq h λj h=>BY h λxs h=>qG h λls h=>⟨h.1,h.2.1,m _ _ h.2.2⟩
  |succ md=>exact Dv h λl h=>⟨h.1,m _ _ h.2⟩
def lP.m{lv fa:Nat}{vs us:gV}{kn:oq}(h:lP S w lv fa vs kn us H Q)(m:∀u H1,Q u H1->Q' u H1):lP S w lv fa vs kn us H Q':=
 h.elim λl h=>⟨l,h.1,λf Lc G E r ws ks a v1 v2=>bY (h.2 f Lc G E r ws ks a v1 v2) λo s z=>by
  induction o with
  |error e=>exact z
  |ok f=>induction f with
   |ret v=>exact z.elim λr' z=>⟨r',z.1,z.2.1,by induction z.2.2 with|mk H' b T j q=>exact⟨H',b,T,j,m _ _ q⟩⟩
   |_=>exact z⟩
def IV.m{f:Fm}{lv:Nat}{c:IE}{b o:IS}{L:Loc}{Q Q':QF}(h:IV S w f lv c b o L H Q)(m:∀mf L H,Q mf L H->Q' mf L H):IV S w f lv c b o L H Q':=
 λy y y h1 h2 h3 G E r a k=>bY (h _ _ _ h1 h2 h3 G E r a k) λo s z=>by
  induction o with
  |error e=>exact z
  |ok f=>exact z.elim λr' z=>⟨r',z.1,z.2.1,by induction z.2.2 with|mk mf L H' T j q=>exact⟨mf,L,H',T,j,m _ _ _ q⟩⟩
def pK.m{V:Th}{u:Nat}{bd:sD}(us:List<|Loc->Loc):∀{L:Loc} {H:MH} {Q Q':QF},pK V u bd us L H Q->(∀mf L H,Q mf L H->Q' mf L H)->pK V u bd us L H Q':=by
 induction us with
 |nil=>intro L H Q Q' h m;exact m _ _ _ h
 |cons g us ih=>
  intro L H Q Q' h m;refine V6.mono (Q:=zE (λL' H'=>pK V u bd us L' H' Q) Q) h λmf L1 H1 q=>?_;induction mf with
  |next=>exact ih q m
  |cont=>exact ih q m
  |brk=>exact m _ _ _ q
  |ret v=>exact m _ _ _ q
def xo.m{f:Fm}{lv:Nat}{b:IS}{us:List (Loc->Loc)}{L:Loc}{Q Q':QF}(h:xo S w f lv b us L H Q)(m:∀mf L H,Q mf L H->Q' mf L H):xo S w f lv b us L H Q':=λbd hb=>pK.m us (h bd hb) m
def Gd(z:En)(Z:Sg):Prop:=z.s=true->Z.H.at_ z.p=some (.inst z.c Z.fs)/\Z.loc[0]?=some (some<|.ref z.p)
end
section
variable{w:World}{z:En}{Z:Sg}{α:Type}{P:Prop}
def Sg.len(Z:Sg):Z.loc.length=Z.L.length:=by
 obtain⟨A,L,F,fs,H⟩:=Z;induction A with
 |nil=>rfl
 |cons a A ih=>exact(List.length_set ..).trans ih
def nL{b:Bool}{A B:Prop}(h:@Bool.rec (λz=>Prop) B A b)(t:b=true->A->P)(f:b=false->B->P):P:=by cases b<;>first|exact t rfl h|exact f rfl h
def Sg.Z2{Z:Sg}{k:Nat}{v:MV}(h:Z.lv k=some (some v)):Z.loc[k]?=some (some v):=by
 obtain⟨A,L,F,fs,H⟩:=Z;induction A with
 |nil=>exact h
 |cons a A ih=>
  have n:=Sg.len ⟨A,L,F,fs,H⟩;show((Sg.loc ⟨A,L,F,fs,H⟩).set a.1<|some a.2)[k]?=_;have h:cond (Nat.beq a.1 k) (cond (Nat.blt k L.length) (some<|some a.2) none) (Sg.lv ⟨A,L,F,fs,H⟩ k)=some (some v):=h;cases e:Nat.beq a.1 k with
  |true=>
   rw[e]at h;rw[dw e];cases e2:Nat.blt k L.length with
   |true=>rw[e2]at h;rw[fH<|n▸aB e2];exact h
   |false=>rw[e2]at h;cases h
  |false=>rw[e]at h;rw[dP<|fG e];exact ih h
def Sg.lvW{K K':MV->Prop}{k:Nat}(h:BA (Z.lv k) K)(m:∀v,K v->K' v):BA Z.loc[k]? K':=O4 h λv e h=>by rw[Sg.Z2 e];exact m v h
def Sg.DA(Z:Sg)(k:Nat):Z.fl k=Z.all.lookup k:=by
 obtain⟨A,L,F,fs,H⟩:=Z;induction F with
 |nil=>rfl
 |cons a F ih=>
  show cond (Nat.beq k a.1) (some a.2) (Sg.fl ⟨A,L,F,fs,H⟩ k)=(rD a.1 a.2<|Sg.all ⟨A,L,F,fs,H⟩).lookup k;cases e:Nat.beq k a.1 with
  |true=>rw[dw e,xe];rfl
  |false=>rw[rR _<|fG e];exact ih
def sP(g:Gd z Z)(h:z.s=true):(hp z Z).at_ z.p=some (.inst z.c Z.all):=by
 obtain⟨A,L,F,fs,H⟩:=Z;induction F with
 |nil=>exact(g h).1
 |cons=>exact gB
def Ut{k:Nat}{v:MV}:(hp z Z).put z.p (.inst z.c<|rD k v Z.all)=hp z (Z.st k v):=by
 obtain⟨A,L,F,fs,H⟩:=Z;induction F with
 |nil=>rfl
 |cons=>exact r9
def Gd.bk{fs:Fs}{H:MH}(g:Gd z Z)(o:H.at_ z.p=some (.inst z.c fs)):Gd z (Z.bk fs H):=λh=>⟨o,(g h).2⟩
def uJ{K:Sg->Prop}{H:MH}{P:MH->Prop}(h:rr z Z K H)(g:Gd z Z)(k:∀σ1,Gd z σ1->σ1.loc=Z.loc->K σ1->P (hp z σ1)):P H:=
 nL h (λy h=>by induction h with|mk o q=>exact k (Z.bk _ H) (g.bk o) rfl q) λe h=>k (Z.bk [] H) (λh=>ff<|e.symm.trans h) rfl h
def ac2{K:Sg->Prop}{L:Loc}{H:MH}{P:MH->Prop}(h:rl z K L H)(k:∀σ1,Gd z σ1->σ1.loc=L->K σ1->P (hp z σ1)):P H:=
 nL h (λy h=>by induction h with|mk o l q=>exact k ⟨[],L,[],_,H⟩ (λy=>⟨o,l⟩) rfl q) λe h=>k ⟨[],L,[],[],H⟩ (λh=>ff<|e.symm.trans h) rfl h
abbrev Imp(z:En)(L:Loc)(Q:α->Sg->Prop)(Q':α->MH->Prop):Prop:=∀v σ1,Gd z σ1->σ1.loc=L->Q v σ1->Q' v (hp z σ1)
structure OX(w:World)(z:En)(c:CX)(x:VX):Prop where
 E:∀{Z L Q Q'} e,c.E e=true->x.E z Z Q->Gd z Z->Z.loc=L->Imp z L Q Q'->gY ⟨SG z.b,w,z.f⟩ (8*z.lv) e L (hp z Z) Q'
 T:∀{Z L Q Q'} e,c.T e=true->x.T z Z Q->Gd z Z->Z.loc=L->Imp z L Q Q'->rN ⟨SG z.b,w,z.f⟩ (8*z.lv) e L (hp z Z) Q'
 L:∀{Z L Q Q'} e,c.L e=true->x.L z Z Q->Gd z Z->Z.loc=L->Imp z L Q Q'->vA ⟨SG z.b,w,z.f⟩ (8*z.lv) L e (hp z Z) Q'
 V:∀{op p Z L Q Q'} e,c.V e=true->x.V op z Z Q->Gd z Z->Z.loc=L->Imp z L Q Q'->gY ⟨SG z.b,w,z.f⟩ (8*z.lv) (.BoolOp op e p) L (hp z Z) Q'
 B:∀{op p Z L Q Q'} e,c.B e=true->x.B op z Z Q->Gd z Z->Z.loc=L->Imp z L Q Q'->rN ⟨SG z.b,w,z.f⟩ (8*z.lv) (.BoolOp op e p) L (hp z Z) Q'
 O:∀{Z L Q Q'} e,c.O e=true->x.O z Z Q->Gd z Z->Z.loc=L->Imp z L Q Q'->Zq ⟨SG z.b,w,z.f⟩ (8*z.lv) L e (hp z Z) Q'
abbrev OE(w:World)(z:En)(c:Expr->Bool)(F:En->Sg->VQ->Prop):Prop:=∀{Z L Q Q'} e,c e=true->F z Z Q->Gd z Z->Z.loc=L->Imp z L Q Q'->gY ⟨SG z.b,w,z.f⟩ (8*z.lv) e L (hp z Z) Q'
abbrev OT(w:World)(z:En)(c:Expr->Bool)(F:En->Sg->TQ->Prop):Prop:=∀{Z L Q Q'} e,c e=true->F z Z Q->Gd z Z->Z.loc=L->Imp z L Q Q'->rN ⟨SG z.b,w,z.f⟩ (8*z.lv) e L (hp z Z) Q'
def ot{c d:Expr->Bool}{F:En->Sg->VQ->Prop}{T:En->Sg->TQ->Prop}(h:OE w z c F)(t:OT w z d T):OX w z (.t c d) (.t F T):=⟨h,t,λy y h=>h.elim,λy y h=>h.elim,λy y h=>h.elim,λy y h=>h.elim⟩
def op{c:Expr->Bool}{F:En->Sg->VQ->Prop}(pl:∀e,c e=true->Plain e)(h:OE w z c F):OX w z (.p c) (.e F):=⟨h,λe hc q g l k=>rN.plain (pl e hc)<|h e hc q g l λv σ1 g1 l1 q=>E7 q λb q=>k b σ1 g1 l1 q,λy h=>ff h,λy h=>ff h,λy h=>ff h,λy h=>ff h⟩
def oe{c:Expr->Bool}{F:En->Sg->VQ->Prop}(h:OE w z c F):OX w z (.e c) (.e F):=⟨h,λy h=>ff h,λy h=>ff h,λy h=>ff h,λy h=>ff h,λy h=>ff h⟩
def xC{e:IE}(h:(z.s&&tV e)=true)(k:z.s=true->e=.loc 0->P):P:=k (bl h)<|LU<|br h
def CW.e{b:Bool}{lv fa:Nat}{vs us:gV}{kn:oq}{H:MH}{Q Q':QV}(h:CW b lv fa vs kn us H Q)(m:∀v H,Q v H->Q' v H):lP (SG b) w lv fa vs kn us H Q':=(h w).m m
def og(w:World)(z:En):j3 (SG z.b) w:=(Dy z.b w).toj3
abbrev cz(z:En)(e:IE):CX:=cx (SG z.b) z.f e
def Ba{L:Loc}{Q':QV}{o:Expr}(hc:(cz z<|.loc 0).E o=true)(s:z.s=true)(g:Gd z Z)(l:Z.loc=L)(h:Q' (.ref z.p)<|hp z Z):gY ⟨SG z.b,w,z.f⟩ (8*z.lv) o L (hp z Z) Q':=
 i6 hc λx p e d=>e▸gY.Vs (jh d).ns (l▸(g s).2) (jh d).kd (yX d) h
variable{e a i r:IE}{x y u:VX}{A B C:CX}
def QY{p:Const->Bool}:∀e,(AA e λc=>p c)=true->Plain e:=λz hc=>pS hc λz z z e z=>e▸λz z=>rfl
def WT{p:Str->Bool}:∀e,(oz e λc=>p c)=true->Plain e:=λz hc=>i6 hc λz z e z=>e▸λz z=>rfl
def Z3{p:Expr->Str->Pos->Bool}:∀e,(xj e λa b c=>p a b c)=true->Plain e:=λz hc=>pT hc λz z z e z=>e▸λz z=>rfl
def E8{p:Expr->pP->List Keyword->Pos->Bool}:∀e,(rH e λa b c d=>p a b c d)=true->Plain e:=λz hc=>mZ hc λz z z z e z=>e▸λz z=>rfl
def Z4{p:Expr->Operator->Expr->Bool}:∀e,(EF e λa b c=>p a b c)=true->Plain e:=λz hc=>zy hc λz z z z e z=>e▸λz z=>rfl
def Z6{p:Expr->Expr->Bool}:∀e,(yr e λa b=>p a b)=true->Plain e:=λz hc=>ro hc λz z z e z=>e▸λz z=>rfl
def WU:OX w z (Lh (SG z.b) z.f) (.e λy Z Q=>Q .none Z):=op QY λy hc h g l m=>pS hc λc n p e d=>e▸be d▸gY.const_none (m _ _ g l h)
def WW{b:Bool}:OX w z (Li (SG z.b) z.f b) (.e λy Z Q=>Q (.bool b) Z):=op QY λy hc h g l m=>pS hc λc n p e d=>e▸be d▸gY.Eu (m _ _ g l h)
def Z7{b:Int}:OX w z (TB (SG z.b) z.f b) (.e λy Z Q=>Q (.int b) Z):=op QY λy hc h g l m=>pS hc λc n p e d=>e▸be d▸gY.const_int (m _ _ g l h)
def Z8{b:LN}:OX w z (TF (SG z.b) z.f b) (.e λy Z Q=>Q (.str b) Z):=op QY λy hc h g l m=>pS hc λc n p e d=>e▸be d▸gY.AW (m _ _ g l h)
def Z9{k:Nat}:OX w z (TG (SG z.b) z.f k) (.e λy Z Q=>BA (Z.lv k) λv=>Q v Z):=op WT λ{Z L Q Q'} y hc h g l m=>i6 hc λx p e d=>e▸O4 (l▸Z.lvW h λv h=>m v Z g l h:BA L[k]? λv=>Q' v<|hp z Z) λv hv h=>gY.Vs (jh d).ns hv (jh d).kd (yX d) h
def WX{c:Nat}:OX w z (Lj (SG z.b) z.f c) (.e λy Z Q=>Q (.cls c) Z):=op WT λy hc h g l m=>i6 hc λx p e d=>e▸gY.glob (mv:=.cls c) (o6 (og w z) d) (λy=>rfl) (m _ _ g l h)
def aaa{c:String}:OX w z (TH (SG z.b) z.f c) (.e λy Z Q=>Q (.ty c) Z):=op WT λy hc h g l m=>i6 hc λx p e d=>e▸gY.glob (mv:=.ty c) (o6 (og w z) d) (λy=>rfl) (m _ _ g l h)
def WY{k:Nat}(A:OX w z (cz z e) x):OX w z (Lk (SG z.b) z.f k<|cz z e) (LX e k x):=op Z3 λ{Z L Q Q'} y hc hh g l m=>pT hc λo n p ee d=>ee▸nL hh (λss h=>xC ss λs qq=>by
 subst qq;refine gY.attr (og w z) (bl<|bl d) (be<|br<|bl d)<|Ba (br d) s g l ?_;rw[Z.DA]at h;cases q:Z.all.lookup k with
 |none=>rw[q]at h;exact jE h λu e h=>aC (sP g s) q e<|m u Z g l h
 |some u=>rw[q]at h;exact aO (sP g s) q<|m u Z g l h) λy h=>gY.attr (og w z) (bl<|bl d) (be<|br<|bl d)<|A.E _ (br d) h g l λv σ1 g1 l1 q=>ZZ q λu q=>m u σ1 g1 l1 q
def QZ{k:Nat}:OX w z (Gr (SG z.b) z.f k<|cz z e) (GL e k):=op Z3 λ{Z L Q Q'} y hc hh g l m=>pT hc λo n p ee d=>ee▸nL hh (λss h=>xC ss λs qq=>by
 subst qq;refine gY.bound (og w z) (bl<|bl d) (be<|br<|bl d)<|Ba (br d) s g l ?_;rw[Z.DA]at h;cases q:Z.all.lookup k with
 |none=>rw[q]at h;exact jE h λfa e h=>ZT (sP g s) ⟨q,yc e<|m _ Z g l h⟩
 |some u=>rw[q]at h;exact h.elim) λy h=>h.elim
def Q0{k:Nat}{kn:oq}(A:OX w z (cz z e) x)(B:OX w z (cz z a) y)(C:OX w z (cz z i) u):OX w z (Gs (SG z.b) z.f k kn (cz z e) (cz z a)<|cz z i) (GN e k kn x y u):=op E8 λ{Z L Q Q'} j hc hh g l m=>mZ hc λg' es ks p ee d=>ee▸pT d λo' n ap ee d=>ee▸
 have h1:=br d;have h3:=br (br h1);gY.nQ (og w z) (bl<|bl d) (be<|br<|bl d) (bl<|bl h1) (bl<|br<|bl h1) (br<|br<|bl h1) (bl<|br h1) (nL hh (λss h=>xC ss λs qq=>by
  subst qq;refine Ba (bl<|br h3) s g l ?_;rw[Z.DA]at h;cases q:Z.all.lookup k with
  |none=>rw[q]at h;exact jE h λfa e h=>ZT (sP g s) ⟨q,yc e (B.L _ (bl<|br<|br h3) h g l λvs σ1 g1 l1 h=>C.L _ (br<|br<|br h3) h g1 l1 λus σ2 g2 l2 h=>(be<|bl h3).symm▸lP.u (CW.e (Je h) λv H r=>by induction r with|mk o q=>exact m v (σ2.bk _ H) (g2.bk o) l2 q))⟩
  |some u=>rw[q]at h;exact h.elim) λj h=>A.E _ (bl<|br h3) h g l λv σ1 g1 l1 h=>onM h λi c fs h=>⟨h.1,qG h.2 λfa h=>B.L _ (bl<|br<|br h3) h g1 l1 λvs σ2 g2 l2 h=>C.L _ (br<|br<|br h3) h g2 l2 λus σ3 g3 l3 h=>(be<|bl h3).symm▸lP.u (CW.e (Je h) λv H r=>uJ r g3 λσ4 g4 l4 q=>m v σ4 g4 (l4.trans l3) q)⟩)
def Q1{k:Nat}:OX w z (Gu (SG z.b) z.f k<|cz z e) (GO e k):=op E8 λ{Z L Q Q'} y hc hh g l m=>mZ hc λg' es ks p ee d=>ee▸qA d λee d=>ee▸qA d λee d=>ee▸pT d λo' n ap ee d=>ee▸nL hh (λss h=>xC ss λs qq=>by subst qq;refine gY.J3 (og w z) (bl<|bl d) (be<|br<|bl d) (bl<|br d)<|Ba (br<|br d) s g l<|ZT (sP g s) ?_;rw[Z.DA]at h;exact ZE h λfa j h=>⟨h.1,lP.u<|CW.e h.2 λv H r=>uJ r g λσ4 g4 l4 q=>m v σ4 g4 (l4.trans l) q⟩) λy h=>h.elim
def Q2{fa:Nat}{kn:oq}(B:OX w z (cz z a) y)(C:OX w z (cz z i) u):OX w z (Gv (SG z.b) z.f fa kn (cz z a)<|cz z i) (GP fa kn y u):=op E8 λj hc h g l m=>mZ hc λg' es ks p ee d=>ee▸i6 d λx xp ee d=>ee▸
 have h1:=br d;have h2:=br h1;gY.F5 (o6 (og w z)<|bl d) ((og w z).glk _ _<|be<|bl<|bl d) (bl<|bl h1) (bl<|br<|bl h1) (B.L _ (bl<|br h2) h g l λvs σ1 g1 l1 h=>C.L _ (br<|br h2) h g1 l1 λus σ2 g2 l2 h=>(be<|bl h2).symm▸lP.u (CW.e (Je h) λv H r=>uJ r g2 λσ4 g4 l4 q=>m v σ4 g4 (l4.trans l2) q))
def WZ{c:Nat}{kn:oq}(B:OX w z (cz z a) y)(C:OX w z (cz z i) u):OX w z (Ll (SG z.b) z.f c kn (cz z a)<|cz z i) (LY c kn y u):=op E8 λj hc h g l m=>mZ hc λg' es ks p ee d=>ee▸i6 d λx xp ee d=>ee▸jE h λfI hi h=>have h1:=br d;have h2:=br h1;gY.make (o6 (og w z)<|bl d) ((og w z).ini _ _ hi) (bl<|bl h1) (bl<|br<|bl h1) (B.L _ (bl<|br h2) h g l λvs σ1 g1 l1 h=>C.L _ (br<|br h2) h g1 l1 λus σ2 g2 l2 h=>(be<|bl h2).symm▸lP.u (CW.e (Je h) λv H r=>⟨r.1,uJ r.2 g2 λσ4 g4 l4 q=>m _ σ4 g4 (l4.trans l2) q⟩))
def Q3{k:Nat}(B:OX w z (cz z a) y):OX w z (Gw (SG z.b) z.f k<|cz z a) (GQ k y):=op E8 λ{Z L Q Q'} j hc h g l m=>mZ hc λg' es ks p ee d=>ee▸qA d λee d=>ee▸i6 d λx xp ee d=>ee▸O4 (Z.lvW h λv h=>h) λv hv h=>YV h λc ec h=>jE h λfI hi h=>gY.J4 (jh<|bl d).ns (l▸ec▸hv) (jh<|bl d).kd (yX<|bl d) ((og w z).ini _ _ hi) (bl<|bl<|br d) (B.L _ (br<|br d) h g l λvs σ2 g2 l2 h=>lP.u<|CW.e (Je<|show kNc c fI [] vs z Q [] σ2 from h) λv H r=>⟨r.1,uJ r.2 g2 λσ4 g4 l4 q=>m _ σ4 g4 (l4.trans l2) q⟩)
def Q4{b:BF}(B:OX w z (cz z a) y):OX w z (Gx (SG z.b) z.f b<|cz z a) (GR b y):=op E8 λv hc h g l m=>mZ hc λg' es ks p ee d=>ee▸qA d λee d=>ee▸i6 d λx xp ee d=>ee▸
 gY.J5 (o6 (og w z)<|bl<|br d) Ql (bl<|bl<|br<|br d) (B.L _ (br<|br<|br d) h g l λvs σ1 g1 l1 h=>VI (og w z) (Z0 h λu H1 e q=>by
  induction b with
  |maximum=>exact uJ q g1 λσ4 g4 l4 q=>m u σ4 g4 (l4.trans l1) q
  |_=>exact(e nofun).symm▸m u σ1 g1 l1 q))
def Q5{k:KM}(A:OX w z (cz z e) x)(B:OX w z (cz z a) y):OX w z (Gy (SG z.b) z.f k (cz z e)<|cz z a) (GS k x y):=op E8 λj hc h g l m=>mZ hc λg' es ks p ee d=>ee▸qA d λee d=>ee▸pT d λo n ap ee d=>ee▸
 have h2:=br<|br d;have h3:=br h2;have K:=vR k;be (bl<|br d)▸gY.F6 (bl d) (bl<|bl h2) (bl h3) (bl<|br h3) K.1 K.2.1 K.2.2 (A.E _ (bl<|br<|br h3) h g l λv σ1 g1 l1 h=>⟨Kw h.1,B.L _ (br<|br<|br h3) h.2 g1 l1 λvs σ2 g2 l2 h=>VK (Z1 h λu H1 e q=>by
  induction k with
  |invert=>exact(e rfl).symm▸m u σ2 g2 l2 q
  |_=>exact uJ q g2 λσ4 g4 l4 q=>m u σ4 g4 (l4.trans l2) q)⟩)
def aab{k:Operator}(A:OX w z (cz z e) x)(B:OX w z (cz z a) y):OX w z (TJ (SG z.b) z.f k (cz z e)<|cz z a) (Uk k x y):=op Z4 λj hc h g l m=>zy hc λl' o' r' p ee d=>ee▸be (bl d)▸gY.binop (A.E _ (bl<|br d) h g l λv σ1 g1 l1 h=>B.E _ (br<|br d) h g1 l1 λb σ2 g2 l2 h=>Gb<|E6 h λu q=>m u σ2 g2 l2 q)
def aac{k:CmpOp}(A:OX w z (cz z e) x)(B:OX w z (cz z a) y):OX w z (TL (SG z.b) z.f k (cz z e)<|cz z a) (Ul k x y):=
 ot (λj hc h g l m=>rX hc λl' os rs p ee d=>ee▸n5 d λo ee d=>ee▸n5 d λr ee d=>ee▸be (bl d)▸gY.cmp (be (bl d)▸bn (bl<|br d)) (A.E _ (bl<|br<|br d) h g l λv σ1 g1 l1 h=>B.E _ (br<|br<|br d) h g1 l1 λb σ2 g2 l2 h=>qG h λu q=>m _ σ2 g2 l2 q))
  λj hc h g l m=>rX hc λl' os rs p ee d=>ee▸n5 d λo ee d=>ee▸n5 d λr ee d=>ee▸be (bl d)▸rN.cmp (be (bl d)▸bn (bl<|br d)) (A.E _ (bl<|br<|br d) h g l λv σ1 g1 l1 h=>B.E _ (br<|br<|br d) h g1 l1 λb σ2 g2 l2 h=>qG h λu q=>m _ σ2 g2 l2 q)
def W0{b:Bool}{A B A' B':Prop}(h:@Bool.rec (λz=>Prop) B A b)(m:A->A')(n:B->B'):if b then A' else B':=by cases b<;>first|exact m h|exact n h
def Q6{o1 o2:CmpOp}(A:OX w z (cz z e) x)(B:OX w z (cz z a) y)(C:OX w z (cz z i) u):OX w z (Gz (SG z.b) z.f o1 o2 (cz z e) (cz z a)<|cz z i) (GU o1 o2 x y u):=
 ot (λj hc h g l m=>rX hc λl' os rs p ee d=>ee▸Ip d λp1 p2 ee d=>ee▸Ip d λm' r ee d=>ee▸
   have h2:=br<|br d;have e1:=be<|bl d;have e2:=be<|bl<|br d;have q:=bn (bl h2);e1▸e2▸gY.chain (by rw[<-e1,<-e2];exact q) (A.E _ (bl<|br h2) h g l λv σ1 g1 l1 h=>B.E _ (bl<|br<|br h2) h g1 l1 λb σ2 g2 l2 h=>qG h λt q=>W0 q (λh=>C.E _ (br<|br<|br h2) h g2 l2 λd σ3 g3 l3 h=>qG h λt q=>m _ σ3 g3 l3 q) λq=>m _ σ2 g2 l2 q))
  λj hc h g l m=>rX hc λl' os rs p ee d=>ee▸Ip d λp1 p2 ee d=>ee▸Ip d λm' r ee d=>ee▸
   have h2:=br<|br d;have e1:=be<|bl d;have e2:=be<|bl<|br d;have q:=bn (bl h2);e1▸e2▸rN.chain (by rw[<-e1,<-e2];exact q) (A.E _ (bl<|br h2) h g l λv σ1 g1 l1 h=>B.E _ (bl<|br<|br h2) h g1 l1 λb σ2 g2 l2 h=>qG h λt q=>W0 q (λh=>C.E _ (br<|br<|br h2) h g2 l2 λd σ3 g3 l3 h=>qG h λt q=>m _ σ3 g3 l3 q) λq=>m _ σ2 g2 l2 q)
def aad{k:BoolOp}(A:OX w z (cz z e) x):OX w z (TM (SG z.b) z.f k<|cz z e) (.t (x.V k)<|x.B k):=
 ot (λy hc h g l m=>KD hc λo es p ee d=>ee▸be (bl d)▸A.V _ (br d) h g l m) λy hc h g l m=>KD hc λo es p ee d=>ee▸be (bl d)▸A.B _ (br d) h g l m
def aae(A:OX w z (cz z e) x):OX w z (TP (SG z.b) z.f<|cz z e) (v_not x):=
 ot (λy hc h g l m=>KG hc λo b p ee d=>ee▸be (bl d)▸gY.not (A.E _ (br d) h g l λv σ1 g1 l1 h=>E7 h λb q=>m _ σ1 g1 l1 q)) λy hc h g l m=>KG hc λo b p ee d=>ee▸be (bl d)▸rN.not (A.T _ (br d) h g l λb σ1 g1 l1 q=>m _ σ1 g1 l1 q)
def aaf(A:OX w z (cz z e) x):OX w z (TR (SG z.b) z.f<|cz z e) (Um x):=oe λy hc h g l m=>KG hc λo b p ee d=>ee▸be (bl d)▸gY.neg (A.E _ (br d) h g l λv σ1 g1 l1 h=>rI h λb q=>m _ σ1 g1 l1 q)
def aag(A:OX w z (cz z e) x)(B:OX w z (cz z a) y)(C:OX w z (cz z i) u):OX w z (TU (SG z.b) z.f (cz z e) (cz z a)<|cz z i) (Un x y u):=oe λv hc h g l m=>KH hc λc' a' b' p ee d=>ee▸gY.Zr (A.T _ (bl d) h g l λt σ1 g1 l1 h=>W0 h (λh=>B.E _ (bl<|br d) h g1 l1 m) λh=>C.E _ (br<|br d) h g1 l1 m)
def aah(A:OX w z (cz z e) x)(B:OX w z (cz z a) y):OX w z (TV (SG z.b) z.f (cz z e)<|cz z a) (v_sub x y):=op Z6 λj hc h g l m=>ro hc λa' i' p ee d=>ee▸gY.sub (bl d) (A.E _ (bl<|br d) h g l λv σ1 g1 l1 h=>B.E _ (br<|br d) h g1 l1 λb σ2 g2 l2 h=>WQ h λu q=>m u σ2 g2 l2 q)
def aai(A:OX w z (cz z e) x)(B:OX w z (cz z a) y)(C:OX w z (cz z i) u):OX w z (TX (SG z.b) z.f (cz z e) (cz z a)<|cz z i) (Uo x y u):=op Z6 λ{Z L Q Q'} j hc h g l m=>ro hc λa' s p ee d=>ee▸VM d λl' u st q ee d=>ee▸Zl d λee d=>ee▸
 gY.slice (A.E _ (bl d) h g l λv σ1 g1 l1 h=>B.O _ (bl<|br d) h g1 l1 λb σ2 g2 l2 h=>C.O _ (br<|br d) h g2 l2 λc σ3 g3 l3 h=>by
  cases v with
  |str s=>exact sS_ ⟨h.1,m _ σ3 g3 l3 h.2⟩
  |ref i=>
   have h:qh ((hp z σ3).at_ i) _ _ _ _ _ _:=h;show qh ((hp z σ3).at_ i) _ _ _ _ _ _;generalize(hp z σ3).at_ i=o at h⊢;induction o with
   |none=>exact h
   |some o=>induction o with
    |list xs=>exact uJ (P:=λH=>Q' (.ref (hp z σ3).n) H) h g3 λσ4 g4 l4 q=>m _ σ4 g4 (l4.trans l3) q
    |Bu xs=>exact uJ (P:=λH=>Q' (.ref (hp z σ3).n) H) h g3 λσ4 g4 l4 q=>m _ σ4 g4 (l4.trans l3) q
    |_=>exact h
  |_=>exact h.elim)
def W2(A:OX w z (cz z e) x):OX w z (Lm (SG z.b) z.f<|cz z e) (LZ x):=oe λy hc h g l m=>VO hc λes p ee d=>ee▸gY.list (bl d) (A.L _ (br d) h g l λv σ1 g1 l1 h=>nL h (λn h=>⟨aa (aB n) (by decide),uJ h g1 λσ4 g4 l4 q=>m _ σ4 g4 (l4.trans l1) q⟩) λy h=>h.elim)
def aaj(A:OX w z (cz z e) x):OX w z (TY (SG z.b) z.f<|cz z e) (Uq x):=oe λy hc h g l m=>zA hc λes k p ee d=>ee▸gY.tuple (bl d) (A.L _ (br d) h g l λv σ1 g1 l1 h=>nL h (λn h=>⟨aa (aB n) (by decide),m _ σ1 g1 l1 h⟩) λy h=>h.elim)
def aak:OX w z (TZ (SG z.b) z.f) (GV<|.iN []):=oe λ{Z L Q Q'} y hc h g l m=>EH hc λks vs p ee d=>ee▸qA d λee d=>ee▸qA d λee y=>ee▸gY.Tq (Vy _) (λy h y=>h) (uJ (P:=λH=>Q' (.ref (hp z Z).n) H) h g λσ4 g4 l4 q=>m _ σ4 g4 (l4.trans l) q)
def aal:OX w z (Ua (SG z.b) z.f) (GV<|.ju []):=oe λ{Z L Q Q'} y hc h g l m=>EH hc λks vs p ee d=>ee▸qA d λee d=>ee▸qA d λee y=>ee▸gY.Tq (Td _) (λy y h=>h) (uJ (P:=λH=>Q' (.ref (hp z Z).n) H) h g λσ4 g4 l4 q=>m _ σ4 g4 (l4.trans l) q)
def W3(A:OX w z (cz z e) x)(B:OX w z (cz z a) y):OX w z (Lo (SG z.b) z.f (cz z e)<|cz z a) (L4 x y):=op Z4 λk hc h g l m=>zy hc λl' o' r' p ee d=>ee▸be (bl d)▸gY.binop (A.E _ (bl<|br d) h g l λv σ1 g1 l1 h=>B.E _ (br<|br d) h g1 l1 λb σ2 g2 l2 h=>tG (P:=λv=>jl _ _ _ _ [v,b] _ _ _) h λi q=>tG (P:=λb=>jl _ _ _ _ [_,b] _ _ _) q λj q=>listE q λxs hi q=>listE q λys hj q=>PJ hi hj q.1<|uJ q.2 g2 λσ4 g4 l4 q=>m _ σ4 g4 (l4.trans l2) q)
def W4(A:OX w z (cz z e) x)(B:OX w z (cz z a) y):OX w z (Lp (SG z.b) z.f (cz z e)<|cz z a) (L6 x y):=
 ot (λj h=>ff h) λj hc h g l m=>rX hc λl' os rs p ee d=>ee▸n5 d λo ee d=>ee▸n5 d λr ee d=>ee▸be (bl d)▸rN.PI (bn<|bl<|br d) (A.E _ (bl<|br<|br d) h g l λv σ1 g1 l1 h=>B.E _ (br<|br<|br d) h g1 l1 λb σ2 g2 l2 h=>zq (P:=λv=>jl _ _ _ _ [v,b] _ _ _) h λk q=>Vv (P:=λb=>jl _ _ _ _ [_,b] _ _ _) q λc q=>jE q λes hs q=>Zx (og w z) hs<|m _ σ2 g2 l2 q)
def Q7(A:OX w z (cz z e) x)(B:OX w z (cz z a) y):OX w z (GA (SG z.b) z.f (cz z e)<|cz z a) (GW x y):=oe λj hc h g l m=>ro hc λa' i' p ee d=>ee▸gY.Wb (og w z) (bl d) (A.E _ (bl<|br d) h g l λv σ1 g1 l1 h=>B.E _ (br<|br d) h g1 l1 λb σ2 g2 l2 h=>ZW h λc h=>qG h λes h=>Dv h λk h=>qG h λu h=>m _ σ2 g2 l2 h)
def W5{md:Nat}(A:OX w z (cz z e) x):OX w z (Lq (SG z.b) z.f md<|cz z e) (L7 md x):=oe λ{Z L Q Q'} y hc h g l m=>gY.ZA (og w z) (br hc) (bl hc) λit hi=>A.E _ hi h g l λv σ1 g1 l1 h=>QX h λu H1 q=>uJ (P:=Q' u) q g1 λσ4 g4 l4 q=>m _ σ4 g4 (l4.trans l1) q
def aam:OX w z (Ub (SG z.b) z.f) Ur:=⟨λy h=>ff h,λy h=>ff h,λy hc h g l m=>EW hc λe=>e▸m _ _ g l h,λy y h=>h.elim,λ{k p Z L Q Q'} y hc h g l m=>EW hc λe=>e▸(by
 induction k with
 |And=>exact rN.and_nil<|m _ _ g l h
 |Or=>exact rN.or_nil<|m _ _ g l h),λy h=>ff h⟩
def W6(A:OX w z (cz z e) x)(B:OX w z (cz z r) y):OX w z (Ln (SG z.b) z.f r (cz z e)<|cz z r) (L0 r x y):=⟨λj h=>ff h,λj h=>ff h,
 λj hc h g l m=>yY hc λe r E h1 h2=>E▸(A.E _ h1 h g l λv σ1 g1 l1 h=>B.L _ h2 h g1 l1 λvs σ2 g2 l2 h=>m _ σ2 g2 l2 h),
 λ{k p Z L Q Q'} j hc h g l m=>yY hc λe r' E h1 h2=>E▸(by
  have h:@Bool.rec (λj=>Prop) _ _ (OG r):=h;cases hn:OG r with
  |true=>
   rw[hn]at h h2;cases r' with
   |nil=>exact A.E e h1 h g l m
   |cons=>cases h2
  |false=>
   rw[hn]at h h2;cases r' with
   |nil=>cases h2
   |cons e2 r2=>exact gY.IA (A.E _ h1 h g l λv σ1 g1 l1 h=>E7 h λb h=>by cases k<;>cases b<;>first|exact m _ σ1 g1 l1 h|exact B.V _ h2 h g1 l1 m)),
 λ{k p Z L Q Q'} j hc h g l m=>yY hc λe r' E h1 h2=>E▸(by
  induction k with
  |And=>exact rN.and_cons<|A.T _ h1 h g l λb σ1 g1 l1 h=>W0 h (λh=>B.B _ h2 h g1 l1 m) λq=>m _ σ1 g1 l1 q
  |Or=>exact rN.or_cons<|A.T _ h1 h g l λb σ1 g1 l1 h=>W0 h (λq=>m _ σ1 g1 l1 q) λh=>B.B _ h2 h g1 l1 m),λj h=>ff h⟩
def oo{c:Option Expr->Bool}{O:En->Sg->OQ->Prop}(h:∀{Z L Q Q'} e,c e=true->O z Z Q->Gd z Z->Z.loc=L->Imp z L Q Q'->Zq ⟨SG z.b,w,z.f⟩ (8*z.lv) L e (hp z Z) Q'):OX w z (.o c) (.o O):=⟨λy h=>ff h,λy h=>ff h,λy h=>ff h,λy h=>ff h,λy h=>ff h,h⟩
def ac3:OX w z (ZD (SG z.b) z.f) (.o λy Z Q=>Q none Z):=oo λe hc h g l m=>by induction e with|none=>exact m _ _ g l h|some=>exact ff hc
def aan(A:OX w z (cz z e) x):OX w z (Uc (SG z.b) z.f<|cz z e) (.o λz Z Q=>x.E z Z<|kYe Q):=oo λe hc h g l m=>by induction e with|none=>exact ff hc|some e=>exact A.E _ hc h g l λv σ1 g1 l1 h=>rI h λi q=>m _ σ1 g1 l1 q
def sv(w:World)(z:En)(e:IE):OX w z (cz z e) (vx e):=e.rec (motive:=λe=>OX w z (cz z e)<|vx e) WU (λy=>WW) (λy=>Z7) (λy=>Z8) (λy=>Z9) (λy=>WX) (λy=>aaa)
 (λy y A=>WY A) (λy y y=>QZ) (λy y y y y A B C=>Q0 A B C) (λy y y=>Q1) (λy y y y A B=>Q2 A B) (λy y y y A B=>WZ A B) (λy y A=>Q3 A) (λy y A=>Q4 A) (λy y y A B=>Q5 A B) (λy y y A B=>aab A B) (λy y y A B=>aac A B) (λy y y y y A B C=>Q6 A B C) (λy y A=>aad A) (λy A=>aae A) (λy A=>aaf A) (λy y y A B C=>aag A B C) (λy y A B=>aah A B) (λy y y A B C=>aai A B C) (λy A=>W2 A) (λy A=>aaj A)
 aak aal (oe λy y h=>h.elim) aam (λy y A B=>W6 A B) ac3 (λy A=>aan A) (λy y A B=>W3 A B) (λy y A B=>W4 A B) (λy y A B=>Q7 A B) (λy y A=>W5 A)
def Mf(z:En)(c:IE)(b o:IS)(Q:QF):VF:=λmf Z=>mf.casesOn (LW z c b o Z.loc (hp z Z) Q) (Q .next Z.loc<|hp z Z) (LW z c b o Z.loc (hp z Z) Q) λv=>Q (.ret v) Z.loc<|hp z Z
def turnF(z:En)(b:IS)(us:List<|Loc->Loc)(Q:QF):VF:=λmf Z=>mf.casesOn (FW z b us Z.loc (hp z Z) Q) (Q .next Z.loc<|hp z Z) (FW z b us Z.loc (hp z Z) Q) λv=>Q (.ret v) Z.loc<|hp z Z
def aao(z:En)(Q:QF):VF:=λmf Z=>Q mf Z.loc<|hp z Z
end
section
variable{w:World}{z:En}{Z:Sg}{P:Prop}{b o s r:IS}{x y N:Nx}{e i c:IE}{rs:List IS}
abbrev Mh(z:En)(Q:VF)(Q':QF):Prop:=∀mf σ1,Gd z σ1->Q mf σ1->Q' mf σ1.loc (hp z σ1)
def Hr(w:World)(z:En)(Q:QF)(rs:List IS):QF:=rs.rec Q λr y ih=>yt (λL H=>Ox (SG z.b) w z.f z.lv r L H ih) ih
def Yt{Q:QF}{mf:MF}{L:Loc}{H:MH}(h:Q mf L H)(n:mf.casesOn False True True λz=>True):Hr w z Q rs mf L H:=by
 induction rs with
 |nil=>exact h
 |cons r rs ih=>cases mf<;>first|exact n.elim|exact ih
def ON(w:World)(N:Nx):Prop:=∀{C rs Z Q},N C rs Z->Gd C.z Z->Mh C.z C.Q Q->Hr w C.z Q rs .next Z.loc (hp C.z Z)
abbrev cq(z:En)(s:IS):CS:=cs (SG z.b) z.f s
structure OS1(w:World)(z:En)(c:CS)(L:Loc)(H:MH)(Q:QF):Prop where
 A:∀st,c.S st=true->j8 ⟨SG z.b,w,z.f⟩ (8*z.lv) st L H Q
 B:∀b,c.B b=true->tM ⟨SG z.b,w,z.f⟩ (8*z.lv) b L H Q
def OS(w:World)(s:IS)(x:Nx):Prop:=∀{C rs Z L Q},x C rs Z->Gd C.z Z->Z.loc=L->Mh C.z C.Q Q->OS1 w C.z (cq C.z s) L (hp C.z Z) (Hr w C.z Q rs)
def yd{p:Stmt->Bool}{L:Loc}{H:MH}{Q:QF}(h:∀st,p st=true->j8 ⟨SG z.b,w,z.f⟩ (8*z.lv) st L H Q):OS1 w z (.s p) L H Q:=⟨h,λy h=>ff h⟩
def Gd.as{k:Nat}{v:MV}(g:Gd z Z)(n:Nat.beq k 0=false):Gd z (Z.as k v):=λh=>⟨(g h).1,(dP<|fG n).trans (g h).2⟩
def Gd.st{k:Nat}{v:MV}(g:Gd z Z):Gd z (Z.st k v):=g
def Mi{k:Nat}{v:MV}{K:Sg->Prop}(h:putK z k v Z K)(m:Ja z.c k=true->Z.all.length<tD->K (Z.st k v)->P):P:=nL h (λe h=>m (bl e) (ah (aB<|br e)<|by decide) h) λy h=>h.elim
def Q8(ks:LN){K:Sg->Prop}:∀{vs:gV} {Z:Sg},Us ks vs Z K->Gd z Z->vs.length=ks.length/\∃σ1,Gd z σ1/\σ1.loc=nJ ks vs Z.loc/\hp z σ1=hp z Z/\K σ1:=by
 induction ks with
 |nil=>
  intro vs Z h g;induction vs with
  |nil=>exact⟨rfl,Z,g,rfl,rfl,h⟩
  |cons=>exact h.elim
 |cons k ks ih=>
  intro vs Z h g;induction vs with
  |nil=>exact h.elim
  |cons v vs=>exact nL h (λy h=>h.elim) λn h=>have q:=ih h<|g.as n;⟨aq (·+1) q.1,q.2⟩
def E9{a b:Nat}(h:Nat.beq (a*b) 0=false):Nat.beq a 0=false/\Nat.beq b 0=false:=by
 cases a with
 |zero=>rw[Nat.zero_mul]at h;cases h
 |succ a=>induction b with
  |zero=>cases h
  |succ b=>exact⟨rfl,rfl⟩
def ac4(hN:ON w N){C:Cx}{Q:QF}{mf:MF}(h:stk N C rs mf Z)(g:Gd C.z Z)(m:Mh C.z C.Q Q):Hr w C.z Q rs mf Z.loc (hp C.z Z):=by
 induction mf with
 |next=>exact hN h g m
 |_=>exact Yt (m _ _ g h) ⟨⟩
def Uu{C:Cx}{Q:QF}{mf:MF}{L:Loc}{H:MH}(hN:ON w N)(h:rl C.z (stk N C rs mf) L H)(m:Mh C.z C.Q Q):Hr w C.z Q rs mf L H:=ac2 (P:=Hr w C.z Q rs mf L) h λσ1 g1 l1 q=>l1▸ac4 hN q g1 m
def W7{x y:Nx->Nx}(A:OS w b<|x N)(B:OS w o<|y N):OS w (.ite c b o) (L9 c x y N):=λ{C rs Z L Q} h g l m=>yd λv hc=>KP hc λc' a' b' p ee d=>ee▸j8.ite ((sv w C.z c).T _ (bl d) h g l λt σ1 g1 l1 h=>W0 h (λh=>(A h g1 l1 m).B _<|bl<|br d) λh=>(B h g1 l1 m).B _<|br<|br d)
def W8:OS w (.ret e) λC y Z=>(vx e).E C.z Z (kRe C):=λ{C rs Z L Q} h g l m=>yd λy hc=>zB hc λv p ee d=>ee▸Iq d λe' ee d=>ee▸j8.ret ((sv w C.z e).E _ d h g l λv σ1 g1 l1 h=>l1▸Yt (m _ σ1 g1 h) ⟨⟩)
def Q9(hN:ON w N):OS w (.Vh e) λC rs Z=>(vx e).T C.z Z (kAe<|N C rs):=λ{C rs Z L Q} h g l m=>yd λy hc=>VZ hc λe' n p ee d=>ee▸j8.PE ((sv w C.z e).T _ d h g l λb σ1 g1 l1 h=>⟨h.1,l1▸hN h.2 g1 m⟩)
section
variable{S:jy}{f:Fm}{lv k:Nat}{ks:LN}{Lc:Loc}{H:MH}{Q:QF}{B:CS}{st:Stmt}
def Ra(O:j3 S w)(hc:(GB S f ks e B).S st=true)(h:∀e' b',pU S f e e'=true->B.B b'=true->gY ⟨S,w,f⟩ (8*lv) e' Lc H (λv H1=>pI v λl=>pK ⟨S,w,f⟩ (8*lv) b' (uS ks 0 l) Lc H1 Q)):j8 ⟨S,w,f⟩ (8*lv) st Lc H Q:=u0 hc λt i a o p ee d=>ee▸qA d λee d=>ee▸zA d λes n p' ee d=>ee▸mZ d λg' as kws p2 ee d=>ee▸qA d λee d=>ee▸n5 d λe' ee d=>ee▸i6 d λy p3 ee d=>ee▸
 have d2:=br<|br d;have d3:=br (br d2);be (bl<|br d)▸j8.K9 (bl d) (be (bl<|br d)▸o6 O (bl d2)) (bl<|br d2) (be<|bl d3) (bl<|br d3) (h _ _ (bl<|br<|br d3)<|br<|br<|br d3)
def Rb(hc:(GC S f k e B).S st=true)(h:∀e' b',pU S f e e'=true->B.B b'=true->gY ⟨S,w,f⟩ (8*lv) e' Lc H (λv H1=>pI v λl=>pK ⟨S,w,f⟩ (8*lv) b' (l.map λc Lc=>Lc.set k<|some<|.str [c]) Lc H1 Q)):j8 ⟨S,w,f⟩ (8*lv) st Lc H Q:=u0 hc λt i a o p ee d=>ee▸qA d λee d=>ee.symm▸i6 d λx p' e1 d=>e1▸
 have d2:=br (br d);j8.PF (bl d) (bl<|br d) (jh<|bl d2) (h _ _ (bl<|br d2)<|br<|br d2)
def Rc(O:j3 S w)(hc:(GD S f k e B).S st=true)(h:∀e' b',pU S f e e'=true->B.B b'=true->gY ⟨S,w,f⟩ (8*lv) e' Lc H (λv H1=>qg v λi=>BC i λm=>m<gP/\pK ⟨S,w,f⟩ (8*lv) b' (sL k m) Lc H1 Q)):j8 ⟨S,w,f⟩ (8*lv) st Lc H Q:=u0 hc λt i a o p ee d=>ee▸qA d λee d=>ee▸i6 d λx p' ee d=>ee▸mZ d λg' as kws p2 ee d=>ee▸qA d λee d=>ee▸n5 d λe' ee d=>ee▸i6 d λy p3 ee d=>ee▸
 have d2:=br<|br d;have d3:=br (br d2);be (bl<|br d)▸j8.IQ (bl d) (be (bl<|br d)▸o6 O (bl d2)) (jh<|bl<|br d2) (bl d3) (h _ _ (bl<|br d3)<|br<|br d3)
end
variable(hN:ON w N)
include hN
def Rd:OS w (.expr e) λC rs Z=>(vx e).E C.z Z (kEx<|N C rs):=λ{C rs Z L Q} h g l m=>yd λy hc=>KN hc λv p ee d=>ee▸j8.expr (bl d) ((sv w C.z e).E _ (br d) h g l λv σ1 g1 l1 h=>l1▸hN h g1 m)
def W9{k:Nat}:OS w (.asg k e) (L8 k e N):=λ{C rs Z L Q} h g l m=>yd λy hc=>uZ hc λts v p ee d=>ee▸n5 d λt ee d=>ee▸i6 d λx p' ee d=>ee▸j8.Dn (jh<|bl d) (bl<|br d) ((sv w C.z e).E _ (br<|br d) h g l λv σ1 g1 l1 h=>nL h (λy h=>h.elim) λn h=>l1▸hN h (g1.as n) m)
def Rf{k j:Nat}:OS w (.OF k j e) (GX k j e N):=λ{C rs Z L Q} h g l m=>yd λq hc=>uZ hc λts v p ee d=>ee▸Ip d λt u ee d=>ee▸i6 d λx p1 ee d=>ee▸i6 d λy p2 ee d=>ee▸j8.assign2 (jh<|bl d) (jh<|bl<|br d) ((sv w C.z e).E _ (br<|br d) h g l λv σ1 g1 l1 h=>nL h (λq h=>h.elim) λn h=>l1▸hN h ((g1.as (E9 n).1).as (E9 n).2) m)
def Rg{k j i:Nat}:OS w (.YD k j i e) (GY k j i e N):=λ{C rs Z L Q} h g l m=>yd λq hc=>uZ hc λts v p ee d=>ee▸Zk d λt u z ee d=>ee▸i6 d λx p1 ee d=>ee▸i6 d λy p2 ee d=>ee▸i6 d λy' p3 ee d=>ee▸j8.PC (jh<|bl d) (jh<|bl<|br d) (jh<|bl<|br<|br d) ((sv w C.z e).E _ (br<|br<|br d) h g l λv σ1 g1 l1 h=>nL h (λq h=>h.elim) λn h=>l1▸hN h (((g1.as (E9 (E9 n).1).1).as (E9 (E9 n).1).2).as (E9 n).2) m)
def Ri{ks:LN}:OS w (.CM ks e) (GZ ks e N):=λ{C rs Z L Q} h g l m=>yd λy hc=>uZ hc λts v p ee d=>ee▸n5 d λt ee d=>ee▸zA d λes n p' ee d=>ee▸
 have d2:=br (br d);j8.EP (bl d) (bl<|br d) (bl d2) (bl<|br d2) ((sv w C.z e).E _ (br<|br d2) h g l λv σ1 g1 l1 h=>acZ h λvs h=>(Q8 ks h g1).elim λn h=>h.elim λσ2 h=>⟨n,l1▸h.2.1▸h.2.2.1▸hN h.2.2.2 h.1 m⟩)
def Rj{k:Nat}:OS w (.YE i k e) (G0 i k e N):=λ{C rs Z L Q} hh g l m=>yd λy hc=>uZ hc λts v p ee d=>ee▸n5 d λt ee d=>ee▸pT d λo' x p' ee d=>ee▸nL hh (λss h=>xC ss λs qq=>by subst qq;have d2:=br<|br d;exact j8.Dp (og w C.z) (be<|bl d) (bl<|br d)<|(sv w C.z e).E _ (bl d2) h g l λv σ1 g1 l1 h=>Ba (br d2) s g1 l1<|ZT (sP g1 s)<|Mi h λt n h=>⟨t,n,Ut▸l1▸hN h g1.st m⟩) λy h=>h.elim
def Rk{a:IE}:OS w (.sets a i e) (G7 a i e N):=λ{C rs Z L Q} h g l m=>yd λy hc=>uZ hc λts v p ee d=>ee▸n5 d λt ee d=>ee▸ro d λo' i' p' ee d=>ee▸
 have d2:=br (br d);j8.zG (bl d) ((sv w C.z e).E _ (bl<|br d) h g l λv σ1 g1 l1 h=>(sv w C.z a).E _ (bl d2) h g1 l1 λov σ2 g2 l2 h=>(sv w C.z i).E _ (br d2) h g2 l2 λiv σ3 g3 l3 h=>WR h λH r=>uJ r g3 λσ4 g4 l4 q=>l3▸l4▸hN q g4 m)
def Rl{k:Nat}{op:Operator}:OS w (.CN k op e) (G8 k op e N):=λ{C rs Z L Q} h g l m=>yd λy hc=>KO hc λt o' v p ee d=>ee▸i6 d λx p' ee d=>ee▸O4 (Z.lvW h λv h=>h) λu hu h=>be (bl<|br d)▸j8.KW (jh<|bl d) (l▸hu) ((sv w C.z e).E _ (br<|br<|br d) h g l λv σ1 g1 l1 h=>AZ (bn<|bl<|br<|br d)<|E6 h λv h=>nL h (λy h=>h.elim) λn h=>l1▸hN h (g1.as n) m)
def Rm{k:Nat}{op:Operator}:OS w (.HX i k op e) (Hf i k op e N):=λ{C rs Z L Q} hh g l m=>yd λy hc=>KO hc λt o' v p ee d=>ee▸pT d λo'' x p' ee d=>ee▸nL hh (λss h=>xC ss λs qq=>by subst qq;have d1:=br<|br d;have d2:=br d1;rw[Z.DA]at h;exact be (bl<|br d)▸j8.KX (og w C.z) (be<|bl d) (Ba (bl d2) s g l (ZT (sP g s) (jE h λu eu h=>yc eu ((sv w C.z e).E _ (br d2) h g l λv σ1 g1 l1 h=>AZ (bn<|bl d1) (E6 h λv h=>by show qz ((hp C.z σ1).at_ C.z.p) _;rw[sP g1 s];exact Mi h λt n h=>⟨rfl,t,n,Ut▸l1▸hN h g1.st m⟩)))))) λy h=>h.elim
def Xa:OS w (.whl c b o) (Ma c b o N):=λ{C rs Z L Q} h g l m=>yd λy hc=>VS hc λc' a' b' p ee d=>ee▸j8.V7 ((IV.m (l▸(Je h:LW C.z c b o Z.loc (hp C.z Z)<|kW C.z<|stk N C rs) w) λmf L1 H1 r=>Uu hN r m:IV (SG C.z.b) w C.z.f C.z.lv c b o L (hp C.z Z)<|Hr w C.z Q rs) _ _ _ (bl d) (bl<|br d)<|br<|br d)
def Rn{k:Nat}:OS w (.YF k e b) (Hg k e b N):=λ{C rs Z L Q} h g l m=>yd λy hc=>u0 hc λt i a o p ee d=>ee▸qA d λee d=>ee▸i6 d λx p' ee d=>ee▸
 have d2:=br (br d);j8.KZ (bl d) (bl<|br d) (jh<|bl d2) ((sv w C.z e).E _ (bl<|br d2) h g l λv σ1 g1 l1 h=>xq h λj h=>BY h λxs h=>xo.m (l1▸h w) (λmf L1 H1 r=>Uu hN r m) _<|br<|br d2)
def Ro{k:Nat}:OS w (.YG k e b) (Hh k e b N):=λ{C rs Z L Q} h g l m=>yd λy hc=>u0 hc λt i a o p ee d=>ee▸qA d λee d=>ee▸i6 d λx p' ee d=>ee▸
 have d2:=br (br d);j8.IP (bl d) (bl<|br d) (jh<|bl d2) ((sv w C.z e).E _ (bl<|br d2) h g l λv σ1 g1 l1 h=>xq h λj h=>Qm h λxs h=>xo.m (l1▸h w) (λmf L1 H1 r=>⟨r.1,Uu hN r.2 m⟩) _<|br<|br d2)
def Rp{ks:LN}:OS w (.YH ks e b) (Hi ks e b N):=λ{C rs Z L Q} h g l m=>yd λy hc=>Ra (og w C.z) hc λe' b' he hb=>(sv w C.z e).E _ he h g l λv σ1 g1 l1 h=>Dv h λxs h=>xo.m (l1▸h w) (λmf L1 H1 r=>Uu hN r m) _ hb
def Rq{ks:LN}:OS w (.Vi ks e b) (Hj ks e b N):=λ{C rs Z L Q} h g l m=>yd λy hc=>u0 hc λt i a o p ee d=>ee▸qA d λee d=>ee▸zA d λes n p' ee d=>ee▸
 have d2:=br (br d);j8.IT (bl d) (bl<|br d) (bl d2) ((sv w C.z e).E _ (bl<|br d2) h g l λv σ1 g1 l1 h=>xq h λj h=>BY h λxs h=>exM h λps h=>⟨h.1,h.2.1,xo.m (l1▸h.2.2 w) (λmf L1 H1 r=>Uu hN r m) _<|br<|br d2⟩)
def Rr{k:Nat}:OS w (.YJ k e b) (Hl k e b N):=λ{C rs Z L Q} h g l m=>yd λy hc=>Rb hc λe' b' he hb=>(sv w C.z e).E _ he h g l λv σ1 g1 l1 h=>Dv h λxs h=>xo.m (l1▸h w) (λmf L1 H1 r=>Uu hN r m) _ hb
def Rt{k:Nat}:OS w (.Eo k e b) (Ho k e b N):=λ{C rs Z L Q} h g l m=>yd λy hc=>Rc (og w C.z) hc λe' b' he hb=>(sv w C.z e).E _ he h g l λv σ1 g1 l1 h=>rI h λi h=>Wr h λn h=>⟨h.1,xo.m (l1▸h.2 w) (λmf L1 H1 r=>Uu hN r m) _ hb⟩
def Xb{a:IE}:OS w (.del a i) (Mc a i N):=λ{C rs Z L Q} h g l m=>yd λy hc=>VW hc λts p ee d=>ee▸n5 d λt ee d=>ee▸ro d λo' i' p' ee d=>ee▸j8.PD ((sv w C.z a).E _ (bl d) h g l λov σ2 g2 l2 h=>(sv w C.z i).E _ (br d) h g2 l2 λiv σ3 g3 l3 h=>WS h λH r=>uJ r g3 λσ4 g4 l4 q=>l3▸l4▸hN q g4 m)
def Ru{k:Nat}:OS w (.spec k) (Hp k N):=λ{C rs Z L Q} h g l m=>yd λst hc=>(Dy C.z.b w).xok C.z.f C.z.lv k st _ _ _ (bl hc) (br hc) (l▸h _ λmf L1 H1 r=>Uu hN r m)
omit hN
def Xc{Q:QF}{mf:MF}{L:Loc}{H:MH}(h:Hr w z Q (Hq r rs) mf L H){bs:sD}(hb:(cq z r).B bs=true):yt (λL H=>tM ⟨SG z.b,w,z.f⟩ (8*z.lv) bs L H<|Hr w z Q rs) (Hr w z Q rs) mf L H:=by
 unfold Hq at h;cases q:Vj r with
 |false=>rw[q]at h;exact acw (show yt (λL H=>Ox (SG z.b) w z.f z.lv r L H<|Hr w z Q rs) (Hr w z Q rs) mf L H from h) λy y h=>h _ hb
 |true=>
  have e:=Vk q;subst e;rw[q]at h;cases bs with
  |nil=>cases mf<;>first|exact tM.nil h|exact h
  |cons=>exact ff hb
def Xd(hN:ON w N):OS w .nil λC rs Z=>N C rs Z:=λ{C rs Z L Q} h g l m=>⟨λz h=>ff h,λb hb=>by
 cases b with
 |nil=>exact tM.nil<|l▸hN h g m
 |cons=>exact ff hb⟩
def Rv(A:OS w s x):OS w (.cons s r) λC rs Z=>x C (Hq r rs) Z:=λ{C rs Z L Q} h g l m=>⟨λz h=>ff h,λb hb=>by
 cases b with
 |nil=>exact ff hb
 |cons st b=>exact tM.cons<|V6.mono ((A h g l m).A _<|bl hb) λmf L' H' q=>Xc q<|br hb⟩
def Xe(A:OS w s x)(B:OS w r y):OS w (.YI s r) λC rs Z=>x ⟨C.z,λmf Z=>mf.casesOn (y C rs Z) (C.Q .brk Z) (C.Q .cont Z) λv=>C.Q (.ret v) Z⟩ [] Z:=λ{C rs Z L Q} h g l m=>yd λj hc=>VU hc λb' hs o' fb p ee d=>ee▸by
 cases hs with
 |nil=>exact ff<|bl d
 |cons x xs=>induction fb with
  |cons y ys=>exact ff<|bl<|br d
  |nil=>
   refine j8.V8<|(A (Q:=yt (λL' H'=>tM ⟨SG C.z.b,w,C.z.f⟩ (8*C.z.lv) o' L' H'<|Hr w C.z Q rs)<|Hr w C.z Q rs) h g l λmf σ1 g1 q=>?_).B _<|bl<|br<|br d;induction mf with
   |next=>exact(B q g1 rfl m).B _ (br<|br<|br d)
   |_=>exact Yt (m _ _ g1 q) ⟨⟩
def svN(hN:ON w N)(s:IS):OS w s (vsN s N):=s.rec (motive:=λs=>OS w s<|vsN s N) (λh g l m=>yd λz hc=>V1 hc λp e z=>e▸j8.pass (l▸hN h g m)) (λh g l m=>yd λz hc=>V3 hc λp e z=>e▸j8.brk (l▸Yt (m _ _ g h) ⟨⟩)) (λh g l m=>yd λz hc=>V5 hc λp e z=>e▸j8.Zt (l▸Yt (m _ _ g h) ⟨⟩)) (λz=>W8) (λh g l m=>yd λz hc=>zB hc λv p e d=>e▸Zl d λe z=>e▸j8.KV (l▸Yt (m _ _ g h) ⟨⟩)) (λz=>Rd hN) (λz z=>W9 hN) (λz z z=>Rf hN) (λz z z z=>Rg hN) (λz z=>Ri hN) (λz z z=>Rj hN) (λz z z=>Rk hN) (λz z z=>Rl hN) (λz z z z=>Rm hN)
 (λz z z A B=>W7 A B) (λz z z z z=>Xa hN) (λz z z z=>Rn hN) (λz z z z=>Ro hN) (λz z z z=>Rp hN) (λz z A B=>Xe A B) (λz z=>Xb hN) (λz=>Q9 hN) (λz=>Ru hN) (λh=>h.elim) (Xd hN) (λz z A z=>Rv A) (λz z z z=>Rq hN) (λz z z z=>Rr hN) (λz z z z=>Rt hN)
def Xf(w:World)(n:Nat):ON w (run n):=by
 induction n with
 |zero=>exact λh=>h.elim
 |succ n ih=>
  intro C rs Z Q h g m;induction rs with
  |nil=>exact m _ _ g h
  |cons r rs=>exact λb hb=>(svN ih r h g rfl m).B b hb
def vj(w:World)(n:Nat){C:Cx}{r:IS}{Z:Sg}{Q:QF}(h:run n C [r] Z)(g:Gd C.z Z)(m:Mh C.z C.Q Q):Ox (SG C.z.b) w C.z.f C.z.lv r Z.loc (hp C.z Z) Q:=Xf w n h g m
def LW.turn{L:Loc}{H:MH}{Q:QF}{fs:Fs}(g:Gd z ⟨[],L,[],fs,H⟩)(h:(vx c).T z ⟨[],L,[],fs,H⟩<|kIt (run 400 ⟨z,Mf z c b o Q⟩ [b])<|run 400 ⟨z,aao z Q⟩ [o]):LW z c b o L H Q:=λw c' body orelse h1 h2 h3=>
 Tr.turn ((sv w z c).T c' h1 h g rfl λt σ1 g1 l1 h=>l1▸W0 h (λh=>vj w 400 (Q:=zE (λL H=>Tr ⟨SG z.b,w,z.f⟩ (8*z.lv) c' body orelse L H Q) Q) h g1 (λmf σ2 g2 q=>by
  induction mf with
  |next=>exact q w c' body orelse h1 h2 h3
  |cont=>exact q w c' body orelse h1 h2 h3
  |_=>exact q) _ h2) λh=>vj w 400 h g1 (λmf σ2 g2 q=>q) _ h3)
def FW.nil{L:Loc}{H:MH}{Q:QF}(h:Q .next L H):FW z b [] L H Q:=λw=>xo.nil h
def FW.cons{u:Loc->Loc}{us:List (Loc->Loc)}{L:Loc}{H:MH}{Q:QF}{fs:Fs}(g:Gd z ⟨[],u L,[],fs,H⟩)(h:run 400 ⟨z,turnF z b us Q⟩ [b] ⟨[],u L,[],fs,H⟩):FW z b (u::us) L H Q:=λw body hc=>
 vj w 400 (Q:=zE (λL H=>pK ⟨SG z.b,w,z.f⟩ (8*z.lv) body us L H Q) Q) h g (λmf σ2 g2 q=>by
  induction mf with
  |next=>exact q w body hc
  |cont=>exact q w body hc
  |_=>exact q) _ hc
def ac5(z:En)(Q:se):VF:=λmf Z=>mf.casesOn (Q .none Z.all<|hp z Z) False False λv=>Q v Z.all<|hp z Z
def ac6(z:En)(Q:QV):VF:=λmf Z=>mf.casesOn (Q .none<|hp z Z) False False λv=>Q v<|hp z Z
noncomputable abbrev CK(f:Fm)(lv c p:Nat)(Q:se):Cx:=⟨⟨true,true,f,lv,p,c⟩,ac5 ⟨true,true,f,lv,p,c⟩ Q⟩
noncomputable abbrev Rw(f:Fm)(lv:Nat)(Q:QV):Cx:=⟨⟨false,true,f,lv,0,0⟩,ac6 ⟨false,true,f,lv,0,0⟩ Q⟩
section
variable{fa p c:Nat}{fd:FuncData}{fm:Fm}{ns:oq}{ib:IB}{lv n:Nat}{g7 us jJ:gV}{kn:oq}{fs:Fs}{H:MH}
def enS(cl:CLT fa fd fm ns ib){Q:se}(bd:∀{w},jI (SG true) w fd ns (.ref p::g7) kn us<|.ref p::jJ)(o:H.at_ p=some (.inst c fs))(h:run 400 (CK fm lv c p Q) [ib] ⟨[],iQ ns<|.ref p::jJ,[],fs,H⟩):SC (n+(lv+1)) fa p c g7 kn us H Q:=λw=>
 ⟨lv,aM ..,cl bd (vj w 400 h (λz=>⟨o,rfl⟩) λmf σ1 g1 q=>by
  induction mf with
  |next=>exact⟨sP g1 rfl,q⟩
  |ret v=>exact⟨sP g1 rfl,q⟩
  |_=>exact q.elim)⟩
def enW(cl:CLT fa fd fm ns ib){Q:QV}(bd:∀{w},jI (SG true) w fd ns g7 kn us jJ)(h:run 400 (Rw fm lv Q) [ib] ⟨[],iQ ns jJ,[],[],H⟩):CW true (n+(lv+1)) fa g7 kn us H Q:=λw=>
 ⟨lv,aM ..,cl bd (vj w 400 h (λh=>nomatch h) λmf σ1 g1 q=>by
  induction mf with
  |next=>exact q
  |ret v=>exact q
  |_=>exact q.elim)⟩
def SC.Aw{Q:QV}{b:Bool}(h:SC lv fa p c g7 kn us H (λv z=>Q v) b):CW b lv fa (.ref p::g7) kn us H Q:=λw=>lP.m (h w) λv H r=>by induction r with|mk o q=>exact q
end
end
noncomputable def hdI(s:IS):IS:=s.casesOn .nil .nil .nil Ej .nil Ej Ek sE (λz z z z=>.nil) Ek sE sE sE (λz z z z=>.nil) sE sE sE sE sE Ek Ek Ej Ej .nil .nil (λx z=>x) sE sE sE
noncomputable def rC(s:IS):IS:=s.casesOn .nil .nil .nil Ej .nil Ej Ek sE (λz z z z=>.nil) Ek sE sE sE (λz z z z=>.nil) (λz x z=>x) (λz x z=>x) (λz z x=>x) (λz z x=>x) (λz z x=>x) (λx z=>x) Ek Ej Ej .nil .nil Ek (λz z x=>x) (λz z x=>x) λz z x=>x
noncomputable def elI(s:IS):IS:=s.casesOn .nil .nil .nil Ej .nil Ej Ek sE (λz z z z=>.nil) Ek sE sE sE (λz z z z=>.nil) (λz z x=>x) (λz z x=>x) sE sE sE (λz x=>x) Ek Ej Ej .nil .nil Ek sE sE sE
noncomputable def cdI(s:IS):IE:=s.casesOn .nil .nil .nil (λx=>x) .nil (λx=>x) (λz x=>x) (λz z z=>.nil) (λz z z z=>.nil) (λz z=>.nil) (λz z z=>.nil) (λz z z=>.nil) (λz z z=>.nil) (λz z z z=>.nil) (λx z z=>x) (λx z z=>x) (λz x z=>x) (λz x z=>x) (λz x z=>x) (λz z=>.nil) (λz z=>.nil) (λz=>.nil) (λz=>.nil) .nil .nil (λz z=>.nil) (λz x z=>x) (λz x z=>x) λz x z=>x
def iT(s:IS)(n:Nat):IS:=n.rec s λz ih=>Uj ih
def ye(s:IS)(n:Nat):IS:=hdI<|iT s n
noncomputable abbrev zP(f:Fm)(lv p:Nat):En:=⟨true,true,f,lv,p,1521⟩
abbrev LP(f:Fm)(lv p:Nat)(s:IS)(L:Loc)(H:MH)(Q:QF):Prop:=LW (zP f lv p) (cdI s) (rC s) (elI s) L H Q
abbrev lcX(f:Fm)(lv p:Nat)(s:IS)(Q:QF):Cx:=⟨zP f lv p,Mf (zP f lv p) (cdI s) (rC s) (elI s) Q⟩
section
variable{b:Bool}{A B P:Prop}{c k:Nat}
def cT(e:b=true)(h:A):@Bool.rec (λz=>Prop) B A b:=by rw[e];exact h
def cF(e:b=false)(h:B):@Bool.rec (λz=>Prop) B A b:=by rw[e];exact h
def both(h:A)(g:B):@Bool.rec (λz=>Prop) B A b:=by cases b<;>assumption
def dT[Decidable P](p:P)(h:A):@Bool.rec (λz=>Prop) B A (decide P):=cT (az p) h
def dF[Decidable P](p:¬P)(h:B):@Bool.rec (λz=>Prop) B A (decide P):=cF (au p) h
def Jf[Decidable P](p:P)(h:B):@Bool.rec (λz=>Prop) B A (!decide P):=cF (aq not<|az p) h
def Mj[Decidable P](p:¬P)(h:A):@Bool.rec (λz=>Prop) B A (!decide P):=cT (aq not<|au p) h
def sEq(e:c=k):([c]==[k])=true:=e▸cJ _
def sNe(n:c≠k):([c]==[k])=false:=cK.mpr λe=>n<|List.head_eq_of_cons_eq e
def sT(e:c=k)(h:A):@Bool.rec (λz=>Prop) B A ([c]==[k]):=cT (sEq e) h
def sF(e:c≠k)(h:B):@Bool.rec (λz=>Prop) B A ([c]==[k]):=cF (sNe e) h
def Xg(e:c=k)(h:B):@Bool.rec (λz=>Prop) B A ([c]!=[k]):=cF (aq not<|sEq e) h
def Oz(e:c≠k)(h:A):@Bool.rec (λz=>Prop) B A ([c]!=[k]):=cT (aq not<|sNe e) h
def rlS{z:En}{fs:Fs}{K:Sg->Prop}{L:Loc}{H:MH}(o:H.at_ z.p=some (.inst z.c fs))(l:L[0]?=some (some<|.ref z.p))(h:K ⟨[],L,[],fs,H⟩)(e:z.s=true):rl z K L H:=cT e ⟨o,l,h⟩
def rlN{z:En}{fs:Fs}{K:Sg->Prop}{L:Loc}{H:MH}(e:z.s=true)(L':Loc)(q:L=L')(o:H.at_ z.p=some (.inst z.c fs))(l:L'[0]?=some (some<|.ref z.p))(h:K ⟨[],L',[],fs,H⟩):rl z K L H:=q▸rlS o l h e
def LW.cast{z:En}{c:IE}{b o:IS}{L L':Loc}{H:MH}{Q:QF}(e:L=L')(h:LW z c b o L' H Q):LW z c b o L H Q:=e▸h
variable{p lv n:Nat}{g7 us jJ:gV}{kn:oq}{fs:Fs}{H:MH}
def nM(r:FR){Q:se}(hi:(FT[r.i]?,r.np)=(some r,g7.length+2))(o:H.at_ p=some (.inst c fs))(h:run 400 (CK r.fm lv c p Q) [r.ib] ⟨[],iQ r.ns<|.ref p::g7,[],fs,H⟩):SC (n+(lv+1)) r.fa p c g7 [] [] H Q:=enS (CLG r.i<|aq fst hi) (BDP hi) o h
def AE(r:FR){Q:se}(hi:FT[r.i]?=some r)(bd:∀{w},jI (SG true) w r.fd r.ns (.ref p::g7) kn us<|.ref p::jJ)(o:H.at_ p=some (.inst c fs))(h:run 400 (CK r.fm lv c p Q) [r.ib] ⟨[],iQ r.ns<|.ref p::jJ,[],fs,H⟩):SC (n+(lv+1)) r.fa p c g7 kn us H Q:=enS (CLG r.i hi) bd o h
def xD(r:FR){Q:QV}(hi:(FT[r.i]?,r.np)=(some r,g7.length+1))(h:run 400 (Rw r.fm lv Q) [r.ib] ⟨[],iQ r.ns g7,[],[],H⟩):CW true (n+(lv+1)) r.fa g7 [] [] H Q:=enW (CLG r.i<|aq fst hi) (BDP hi) h
noncomputable def PS.wp(s:PS)(v:P4):PS:={s with pos:=v}
noncomputable def PS.wa(s:PS)(v:Bool):PS:={s with ask:=v}
noncomputable def PS.wd(s:PS)(v:Bool):PS:={s with done:=v}
noncomputable def PS.wk(s:PS)(v:Nat):PS:={s with taken:=v}
noncomputable def PS.wK(s:PS)(v:Nat):PS:={s with iZ:=v}
noncomputable def PS.wi(s:PS)(v:Int):PS:={s with indent:=v}
noncomputable def PS.wc(s:PS)(v:MV):PS:={s with cur:=v}
noncomputable def PS.wy(s:PS)(v:MV):PS:={s with Dz:=v}
noncomputable def PS.wg(s:PS)(v:MV):PS:={s with zN:=v}
noncomputable def PS.wq(s:PS)(v:MV):PS:={s with state:=v}
end
section
variable{A B P:Prop}{a b:Nat}{o:Option MO}{H:MH}{i p n:Nat}{x y:MO}
def xT(e:a=b)(h:A):@Bool.rec (λz=>Prop) B A ((a:Int)==(b:Int)):=cT (cQ.mpr<|aq Int.ofNat e) h
def xF(e:a≠b)(h:B):@Bool.rec (λz=>Prop) B A ((a:Int)==(b:Int)):=cF (cK.mpr λq=>e<|gk q) h
def xF'(e:a=b)(h:B):@Bool.rec (λz=>Prop) B A ((a:Int)!=(b:Int)):=cF (aq not<|cQ.mpr<|aq Int.ofNat e) h
def xT'(e:a≠b)(h:A):@Bool.rec (λz=>Prop) B A ((a:Int)!=(b:Int)):=cT (aq not<|cK.mpr λq=>e<|gk q) h
def n8{c:Nat}{fs:Fs}{K:Nat->Fs->Prop}(e:o=some (.inst c fs))(h:K c fs):qz o K:=by rw[e];exact h
def aaq{xs:List (Int×MV)}{K:List (Int×MV)->Prop}(e:o=some (.ju xs))(h:K xs):yp o K:=by rw[e];exact h
def tW{o o':MO}{K:MH->Prop}(h:K<|H.new o'):K ((H.new o).put H.n o'):=qI.symm▸h
def yx{j:Nat}{xs:gV}{Q:QV}(o:H.at_ j=some (.list xs))(h:Q (.int xs.length) H):VB (.ref j) H Q:=by show qh (H.at_ j) _ _ _ _ _ _;rw[o];exact h
def Mk{xs:gV}{kI:Nat->Fs->Prop}{kL kF:gV->Prop}{kS:List (LN×MV)->Prop}{kD kP:List (Int×MV)->Prop}(e:o=some (.list xs))(h:kL xs):qh o kI kL kF kS kD kP:=by rw[e];exact h
def putAt(n:p≠i)(e:H.at_ p=some x):(H.put i y).at_ p=some x:=(gD n).trans e
structure qJ(H:MH)(p:Nat)(s:PS):Prop where
 obj:H.at_ p=some (.inst 1521<|gZ s)
 len:s.gA.length<gP
def o7(n a:Nat):tL n (a:Int)=min a n:=by
 show(max 0<|min (if(a:Int)<0 then(a:Int)+n else(a:Int)) (n:Int)).toNat=min a n;rw[aE<|Int.not_lt.mpr<|cB a];rcases Nat.le_total a n with h|h
 ·rw[eZ h,Int.min_eq_left<|Int.ofNat_le.mpr h,Int.max_eq_right<|cB a];rfl
 ·rw[fE h,Int.min_eq_right<|Int.ofNat_le.mpr h,Int.max_eq_right<|cB n];rfl
def Ml{α:Type}(l:List α)(a b:Nat):pB l (some (a:Int)) (some<|(a:Int)+(b:Int))=(l.drop a).take b:=by
 have e1:oH l.length (some (a:Int))=min a l.length:=o7 _ _;have e2:qC l.length (some<|(a:Int)+(b:Int))=min (a+b) l.length:=o7 _<|a+b;unfold pB;rw[e1,e2];rcases Nat.le_total a l.length with h|h
 ·rw[eZ h];rcases Nat.le_total (a+b) l.length with h2|h2
  ·rw[eZ h2,Nat.add_sub_cancel_left]
  ·rw[fE h2,dh<|dH<|cy ..,dh<|by rw[cy];exact Nat.sub_le_of_le_add<|dK a b▸h2]
 ·rw[fE h,List.drop_length,cj h,List.take_nil,List.take_nil]
structure JY(p:Nat)(H H':MH):Prop where
 n:H'.n=H.n
 at_:∀a,a≠p->H'.at_ a=H.at_ a
def JY.put{p:Nat}{H:MH}{o:MO}:JY p H (H.put p o):=⟨rfl,λa h=>gD h⟩
def JY.refl{p:Nat}{H:MH}:JY p H H:=⟨rfl,λz z=>rfl⟩
def JY.trans{p:Nat}{H H' zO:MH}(a:JY p H H')(b:JY p H' zO):JY p H zO:=⟨b.n.trans a.n,λx h=>(b.at_ x h).trans<|a.at_ x h⟩
noncomputable def qK(q:P4)(c d:Nat):P4:=
 if c∈[10,133,8232,8233]∨(c=13/\d≠10)then⟨q.iU+1,q.idx+1,q.line+1,0⟩
 else if c≠65279 then⟨q.iU+1,q.idx+1,q.line,q.col+1⟩else⟨q.iU+1,q.idx+1,q.line,q.col⟩
noncomputable def fwd(b:LN):Nat->P4->P4
 |0,q=>q
 |n+1,q=>fwd b n<|qK q (b.getD q.iU 0)<|b.getD (q.iU+1) 0
def Bb(q:P4)(c d:Nat):(qK q c d).iU=q.iU+1:=by unfold qK;split<;>(try split)<;>rfl
def JY.eq{H H':MH}{p:Nat}{s:PS}(h:qJ H' p s)(b:JY p H H'):H'=H.put p (.inst 1521<|gZ s):=by
 obtain⟨n,a⟩:=H';obtain⟨n',a'⟩:=H;obtain⟨b1,b2⟩:=b;unfold MH.put;simp only at b1 b2;subst b1;congr 1;funext j;by_cases q:j=p
 ·subst q;rw[aF rfl];exact h.obj
 ·rw[aE q];exact b2 j q
def qJ.put{H:MH}{p:Nat}{s:PS}(h:s.gA.length<gP):qJ (H.put p<|.inst 1521<|gZ s) p s:=⟨gB,h⟩
variable{H':MH}{m c d:Nat}{s:PS}{Q:se}
def lV(h:qJ H p s)(hc:s.gA[s.pos.iU+i]?=some c)(hq:Q (.str [c]) (gZ s) H):SC (n+2) 690 p 1521 [.int i] [] [] H Q:=AE (lv:=1) jB rfl xy h.obj ⟨h.len,yc hc hq⟩
def vW(h:qJ H p s)(hc:s.gA[s.pos.iU]?=some c)(hq:Q (.str [c]) (gZ s) H):pW (n+2) 690 p H Q:=AE (lv:=1) jB rfl xu h.obj ⟨h.len,yc hc hq⟩
def Bc{v:MV}(h:qJ H p s)(hq:Q .none (gZ s) H):SC (n+2) 727 p 1521 [v] [] [] H Q:=nM (lv:=1) oY rfl h.obj hq
def kH(h:qJ H p s)(hq:Q (.str<|(s.gA.drop s.pos.iU).take m) (gZ s) H):SC (n+3) 698 p 1521 [.int m] [] [] H Q:=by rw[<-Ml]at hq;exact AE (lv:=2) lB rfl vg h.obj ⟨h.len,both (Bc h ⟨h.len,hq⟩) ⟨h.len,hq⟩⟩
abbrev lF:IS:=ye gS.ib 1
def Cb{Q:QF}:∀(n:Nat) (s:PS) (H:MH) (ch:nF) (i:Int),i=n->qJ H p s->s.pos.iU+n<s.gA.length->
  (∀H' ch,qJ H' p (s.wp<|fwd s.gA n s.pos)->JY p H H'->Q .next [some<|.ref p,some<|.int (0:Nat),ch] H')->
  LP gS.fm 2 p lF [some<|.ref p,some<|.int i,ch] H Q:=by
 intro n;induction n with
 |zero=>intro s H ch i e h hl hq;subst e;exact LW.turn (λz=>⟨h.obj,rfl⟩)<|hq H ch h .refl
 |succ n ih=>
  intro s H ch i e h hl hq;subst e;have g:∀i,i<s.gA.length->s.gA[i]?=some (s.gA.getD i 0):=λi l=>by rw[bD,bg l];rfl
  have K:∀q',q'=qK s.pos (s.gA.getD s.pos.iU 0) (s.gA.getD (s.pos.iU+1) 0)->∀ch,LP gS.fm 2 p lF [some<|.ref p,some<|.int<|((n+1:Nat):Int)-1,ch] (H.put p<|.inst 1521<|gZ<|s.wp q') Q:=λq' e ch=>ih (s.wp q') _ ch _ (by lia) (.put h.len) (by show q'.iU+n<s.gA.length;rw[e,Bb];omega) λH2 ch2 hp2 hb2=>hq H2 ch2 (by rw[e]at hp2;exact hp2)<|JY.put.trans hb2;refine LW.turn (λz=>⟨h.obj,rfl⟩) ⟨h.len,yc (g s.pos.iU<|by omega) ?_⟩;generalize s.gA.getD s.pos.iU 0=c at K⊢;generalize e:s.gA.getD (s.pos.iU+1) 0=d at K;have g2:=e▸g (s.pos.iU+1) (by omega);by_cases b1:c∈[10,133,8232,8233]
  ·exact dT b1<|K ⟨s.pos.iU+1,s.pos.idx+1,s.pos.line+1,0⟩ (by unfold qK;rw[aF<|.inl b1]) _
  ·have e2:¬(c=13/\d≠10)->qK s.pos c d=if c≠65279 then⟨s.pos.iU+1,s.pos.idx+1,s.pos.line,s.pos.col+1⟩else⟨s.pos.iU+1,s.pos.idx+1,s.pos.line,s.pos.col⟩:=λb0=>by unfold qK;rw[aE λq=>q.elim b1 b0]
   refine dF b1 ?_;by_cases b2:c=13
   ·refine sT b2 ⟨h.len,yc g2 ?_⟩;by_cases b4:d=10
    ·exact Xg b4<|Oz (b2▸by decide)<|K ⟨s.pos.iU+1,s.pos.idx+1,s.pos.line,s.pos.col+1⟩ (by rw[e2 λq=>q.2 b4,b2];rfl) _
    ·exact Oz b4<|K ⟨s.pos.iU+1,s.pos.idx+1,s.pos.line+1,0⟩ (by unfold qK;rw[aF<|.inr ⟨b2,b4⟩]) _
   ·refine sF b2 ?_;by_cases b3:c=65279
    ·exact Xg b3<|K ⟨s.pos.iU+1,s.pos.idx+1,s.pos.line,s.pos.col⟩ (by rw[e2 λq=>b2 q.1,aE λq=>q b3]) _
    ·exact Oz b3<|K ⟨s.pos.iU+1,s.pos.idx+1,s.pos.line,s.pos.col+1⟩ (by rw[e2 λq=>b2 q.1,aF b3]) _
def zQ{L:Loc}(el:L=[some<|.ref p,some<|.int m,none])(h:qJ H p s)(hl:s.pos.iU+m<s.gA.length)(hq:Q .none (gZ<|s.wp<|fwd s.gA m s.pos)<|H.put p<|.inst 1521<|gZ<|s.wp<|fwd s.gA m s.pos):run 400 (CK gS.fm 2 1521 p Q) [gS.ib] ⟨[],L,[],gZ s,H⟩:=by subst el;have fin:∀{Q:QF},_->LP gS.fm 2 p lF [some<|.ref p,some<|.int m,none] H Q:=λk=>Cb m s _ _ _ rfl h hl k;exact⟨h.len,both (Bc h<|fin λH' ch hp hb=>⟨hp.obj,rfl,hb.eq hp▸hq⟩)<|fin λH' ch hp hb=>⟨hp.obj,rfl,hb.eq hp▸hq⟩⟩
def zR(h:qJ H p s)(hl:s.pos.iU+m<s.gA.length)(hq:Q .none (gZ<|s.wp<|fwd s.gA m s.pos)<|H.put p<|.inst 1521<|gZ<|s.wp<|fwd s.gA m s.pos):SC (n+3) 706 p 1521 [.int m] [] [] H Q:=AE (lv:=2) gS rfl uI h.obj<|zQ rfl h hl hq
def tX(h:qJ H p s)(hl:s.pos.iU+1<s.gA.length)(hq:Q .none (gZ<|s.wp<|fwd s.gA 1 s.pos)<|H.put p<|.inst 1521<|gZ<|s.wp<|fwd s.gA 1 s.pos):pW (n+3) 706 p H Q:=AE (lv:=2) gS rfl uH h.obj<|zQ (m:=1) rfl h hl hq
def rz(b:LN)(q:P4):Fs:=[(0,.str Ca),(9,.int q.idx),(10,.int q.line),(11,.int q.col),(4,.str b),(5,.int q.iU)]
def Ht{v1 v2 v3 v4 v5 v6:MV}{Q:QV}(hq:Q .none<|H.new<|.inst 53 [(0,v1),(9,v2),(10,v3),(11,v4),(4,v5),(5,v6)]):CW true (n+2) 35 [.ref H.n,v1,v2,v3,v4,v5,v6] [] [] (H.new<|.inst 53 []) Q:=by rw[<-qI (o:=.inst 53 [])]at hq;exact SC.Aw<|nM (lv:=1) rQ rfl gz hq
def yf(h:qJ H p s)(l:p≠H.n)(hq:Q (.ref H.n) (gZ s)<|H.new<|.inst 53<|rz s.gA s.pos):pW (n+3) 713 p H Q:=nM (lv:=2) lQ rfl h.obj<|Ht ⟨rfl,(aE l).trans h.obj,hq⟩
def ZB(b:LN):Prop:=∃t,b=t++[0]
def zS{b:LN}(z:ZB b){i c:Nat}(h:b[i]?=some c)(n:c≠0):i+1<b.length:=by
 obtain⟨t,rfl⟩:=z;have hl:=(bG.mp h).1;by_cases q:i<t.length
 ·simp;omega
 ·have:i=t.length:=by simp at hl;omega
  subst this;simp at h;exact aG h.symm n
def tZ{H:MH}{p:Nat}{o:MO}(h:H.at_ p=some o):H.put p o=H:=by
 obtain⟨n,a⟩:=H;unfold MH.put;congr 1;funext j;dsimp only at h⊢;split
 ·rename _=>q;subst q;exact h.symm
 ·rfl
def kQ{b:LN}{i c:Nat}(h:b[i]?=some c):b.getD i 0=c:=by rw[bD,h];rfl
def qL{b:LN}{i:Nat}(h:i<b.length):b[i]?=some (b.getD i 0):=by rw[bD,bg h];rfl
def vX(b:LN)(q:P4):P4×LN:=
 if b.getD q.iU 0∈[13,10,133]then((if(b.drop q.iU).take 2=[13,10]then fwd b 2 q else fwd b 1 q),[10])
 else if b.getD q.iU 0∈[8232,8233]then(fwd b 1 q,[b.getD q.iU 0])else(q,[])
def take2{b:LN}{i:Nat}{x y:Nat}(h:(b.drop i).take 2=[x,y]):b[i]?=some x/\b[i+1]?=some y:=by
 have h1:((b.drop i).take 2)[0]?=some x:=by rw[h];rfl
 have h2:((b.drop i).take 2)[1]?=some y:=by rw[h];rfl
 rw[fB (by decide),dJ]at h1 h2;exact⟨h1,h2⟩
def DB{b:LN}{q:P4}(h:(b.drop q.iU).take 2=[13,10]):vX b q=(fwd b 2 q,[10]):=by unfold vX;rw[aF (by rw[kQ (take2 h).1];decide),aF h]
def Mm{b:LN}{q:P4}(h:b.getD q.iU 0∈[13,10,133])(n:(b.drop q.iU).take 2≠[13,10]):vX b q=(fwd b 1 q,[10]):=by unfold vX;rw[aF h,aE n]
def Mn{b:LN}{q:P4}(h:b.getD q.iU 0∉[13,10,133])(n:b.getD q.iU 0∈[8232,8233]):vX b q=(fwd b 1 q,[b.getD q.iU 0]):=by unfold vX;rw[aE h,aF n]
def Uv{b:LN}{q:P4}(h:b.getD q.iU 0∉[13,10,133])(n:b.getD q.iU 0∉[8232,8233]):vX b q=(q,[]):=by unfold vX;rw[aE h,aE n]
def Uw{b l:LN}{i:Nat}(z:ZB b)(h:i<b.length)(m:b.getD i 0∈l)(n:(0∈l)=False):i+1<b.length:=zS z (qL h) λe=>n▸e▸m
end
section
variable{a b:LN}{A B:Prop}
def OA(e:a=b)(h:A):@Bool.rec (λz=>Prop) B A (a==b):=cT (cQ.mpr e) h
def AF(e:a=b)(h:B):@Bool.rec (λz=>Prop) B A (a !=b):=cF (aq not<|cQ.mpr e) h
def AG(e:a≠b)(h:A):@Bool.rec (λz=>Prop) B A (a !=b):=cT (aq not<|cK.mpr e) h
def Mp(e:a≠b)(h:B):@Bool.rec (λz=>Prop) B A (a==b):=cF (cK.mpr e) h
variable{H H':MH}{p n m i c d:Nat}{s:PS}{Q:se}
def AH(h:qJ H p s)(z:ZB s.gA)(hl:s.pos.iU<s.gA.length){r:P4×LN}(e:vX s.gA s.pos=r)(hq:Q (.str r.2) (gZ<|s.wp r.1)<|H.put p<|.inst 1521<|gZ<|s.wp r.1):pW (n+4) 1278 p H Q:=by
 have K:∀q l,vX s.gA s.pos=(q,l)->Q (.str l) (gZ<|s.wp q) (H.put p<|.inst 1521<|gZ<|s.wp q):=λq l f=>by cases e.symm.trans f;exact hq
 refine nM (lv:=3) jZ rfl h.obj<|vW h (qL hl) ?_;by_cases b1:s.gA.getD s.pos.iU 0∈[13,10,133]
 ·refine dT b1<|kH (m:=2) h ?_;by_cases b2:(s.gA.drop s.pos.iU).take 2=[13,10]
  ·exact OA b2<|zR (m:=2) h (zS z (take2 b2).2<|by decide)<|K _ _<|DB b2
  ·exact Mp b2<|tX h (Uw z hl b1<|by simp)<|K _ _<|Mm b1 b2
 ·refine dF b1 ?_;by_cases b2:s.gA.getD s.pos.iU 0∈[8232,8233]
  ·exact dT b2<|tX h (Uw z hl b2<|by simp)<|K _ _<|Mn b1 b2
  ·exact dF b2<|tZ h.obj▸K _ _ (Uv b1 b2)
def take3{b:LN}{i:Nat}{x y u:Nat}(h:(b.drop i).take 3=[x,y,u]):b[i]?=some x/\b[i+1]?=some y/\b[i+2]?=some u:=by
 have h1:((b.drop i).take 3)[0]?=some x:=by rw[h];rfl
 have h2:((b.drop i).take 3)[1]?=some y:=by rw[h];rfl
 have h3:((b.drop i).take 3)[2]?=some u:=by rw[h];rfl
 rw[fB (by decide),dJ]at h1 h2 h3;exact⟨h1,h2,h3⟩
noncomputable abbrev vm:LN:=[0,32,9,13,10,133,8232,8233]
noncomputable abbrev L27:LN:=[0,32,9,13,10,133,8232,8233,45,63,58,44,91,93,123,125,35,38,42,33,124,62,39,34,37,64,96]
def nX(ch:Nat)(b:LN)(q:P4):Bool:=decide (q.col=0)&&decide ((b.drop q.iU).take 3=[ch,ch,ch])&&decide (b.getD (q.iU+3) 0∈vm)
def oJ(c d:Nat):Bool:=!decide (c∈L27)||(!decide (d∈vm)&&(decide (c=45)||decide (c∈[63,58])))
def zT(e:n=0)(h:A):@Bool.rec (λz=>Prop) B A ((n:Int)==0):=cT (cQ.mpr<|aq Int.ofNat e) h
def zF(e:n≠0)(h:B):@Bool.rec (λz=>Prop) B A ((n:Int)==0):=cF (cK.mpr λq=>e<|gk q) h
def tY{b:Bool}{H:MH}{K:Bool->MH->Prop}(h:K b H):vJ (vV b) H K:=by cases b<;>exact h
def Mq{k:Nat}{b:LN}{q:P4}(h:q.col≠0):nX k b q=false:=by unfold nX;rw[au h];rfl
def Mr{k:Nat}{b:LN}{q:P4}(h:(b.drop q.iU).take 3≠[k,k,k]):nX k b q=false:=by unfold nX;rw[au h,fU];rfl
def Ux{k:Nat}{b:LN}{q:P4}(h:q.col=0)(h1:(b.drop q.iU).take 3=[k,k,k]):nX k b q=decide (b.getD (q.iU+3) 0∈vm):=by unfold nX;rw[az h,az h1];rfl
def lH(h:qJ H p s)(z:ZB s.gA)(hq:Q (vV<|nX 45 s.gA s.pos) (gZ s) H):pW (n+4) 1058 p H Q:=by
 have K:∀b,nX 45 s.gA s.pos=b->Q (vV b) (gZ s) H:=λb e=>e▸hq;refine nM (lv:=3) jo rfl h.obj ?_;by_cases b0:s.pos.col=0
 ·refine zT b0<|kH (m:=3) h ?_;by_cases b1:(s.gA.drop s.pos.iU).take 3=[45,45,45]
  ·refine OA b1<|lV (i:=3) h (qL<|zS z (take3 b1).2.2<|by decide) ?_;by_cases b2:s.gA.getD (s.pos.iU+3) 0∈vm
   ·exact dT b2<|K true<|(Ux b0 b1).trans<|az b2
   ·exact dF b2<|K false<|(Ux b0 b1).trans<|au b2
  ·exact Mp b1<|K false<|Mr b1
 ·exact zF b0<|K false<|Mq b0
def pM(h:qJ H p s)(hl:s.pos.iU+1<s.gA.length)(hq:Q (.bool<|decide<|s.gA.getD (s.pos.iU+1) 0∈vm) (gZ s) H):pW (n+4) 1072 p H Q:=nM (lv:=3) jM rfl h.obj<|lV (i:=1) h (qL hl) hq
def Cd(h:qJ H p s)(hl:s.pos.iU+1<s.gA.length)(hq:Q (.bool<|decide<|s.gA.getD (s.pos.iU+1) 0∈vm) (gZ s) H):pW (n+4) 1079 p H Q:=nM (lv:=3) mW rfl h.obj<|lV (i:=1) h (qL hl) hq
def zU(h:qJ H p s)(hl:s.pos.iU+1<s.gA.length)(hq:Q (.bool<|decide<|s.gA.getD (s.pos.iU+1) 0∈vm) (gZ s) H):pW (n+4) 1086 p H Q:=nM (lv:=3) lS rfl h.obj<|lV (i:=1) h (qL hl) hq
def oK(h:qJ H p s)(hl:s.pos.iU+1<s.gA.length)(hq:Q (.bool<|oJ (s.gA.getD s.pos.iU 0)<|s.gA.getD (s.pos.iU+1) 0) (gZ s) H):pW (n+4) 1093 p H Q:=by
 have K:∀b,oJ (s.gA.getD s.pos.iU 0) (s.gA.getD (s.pos.iU+1) 0)=b->Q (.bool b) (gZ s) H:=λb e=>e▸hq;refine nM (lv:=3) lT rfl h.obj<|vW h (qL<|Nat.lt_of_succ_lt hl) ?_;unfold oJ at K;by_cases b1:s.gA.getD s.pos.iU 0∈L27
 ·refine Jf b1<|lV (i:=1) h (qL hl) ?_;rw[az b1]at K;by_cases b2:s.gA.getD (s.pos.iU+1) 0∈vm
  ·rw[az b2]at K;exact Jf b2<|K _ (aq not<|az b2).symm
  ·refine Mj b2 ?_;rw[au b2]at K;by_cases b3:s.gA.getD s.pos.iU 0=45
   ·exact sT b3<|K _<|by rw[az b3];exact(sEq b3).symm
   ·exact sF b3<|K _<|by rw[au b3];rfl
 ·exact Mj b1<|K _<|by rw[au b1];exact(aq not<|au b1).symm
set_option hygiene false in
theorem mO(b:LN):∀(n:Nat) (q:P4),(fwd b n q).iU=q.iU+n
 |0,q=>rfl
 |n+1,q=>by show(fwd b n _).iU=_;rw[mO b n,Bb];omega
set_option hygiene false in
def Jg{b:LN}(z:ZB b){q:P4}(h:q.iU<b.length):(vX b q).1.iU<b.length/\((vX b q).2≠[]->q.iU+1<=(vX b q).1.iU)/\(vX b q).2.length<=1/\q.iU<=(vX b q).1.iU:=by
 unfold vX;have g:=qL h;split
 ·rename _=>b1
  have n0:b.getD q.iU 0≠0:=by intro e;rw[e]at b1;simp at b1
  have l1:=zS z g n0;split
  ·rename _=>b2
   have l2:=zS z (take2 b2).2<|by decide
   refine⟨?_,λy=>?_,?_,?_⟩
   ·show(fwd b 2 q).iU<_;rw[mO];exact l2
   ·show _<=(fwd b 2 q).iU;rw[mO];omega
   ·simp
   ·show _<=(fwd b 2 q).iU;rw[mO];omega
  ·refine⟨?_,λy=>?_,?_,?_⟩
   ·show(fwd b 1 q).iU<_;rw[mO];exact l1
   ·show _<=(fwd b 1 q).iU;rw[mO];omega
   ·simp
   ·show _<=(fwd b 1 q).iU;rw[mO];omega
 ·split
  ·rename _=>b2
   have n0:b.getD q.iU 0≠0:=by intro e;rw[e]at b2;simp at b2
   have l1:=zS z g n0;refine⟨?_,λy=>?_,?_,?_⟩
   ·show(fwd b 1 q).iU<_;rw[mO];exact l1
   ·show _<=(fwd b 1 q).iU;rw[mO];omega
   ·simp
   ·show _<=(fwd b 1 q).iU;rw[mO];omega
  ·exact⟨h,λe=>aG rfl e,by simp,aD _⟩
set_option hygiene false in
structure KS where
 a:Nat
 tn:Nat
 req:Bool
 idx:Nat
 line:Nat
 col:Nat
 mrk:MV
abbrev qb:=Option KS
noncomputable def DC(k:KS):List (Nat×MV):=[(44,.int k.tn),(45,.bool k.req),(9,.int k.idx),(10,.int k.line),(11,.int k.col),(46,k.mrk)]
def HW(H:MH):Prop:=∀a o,H.at_ a=some o->a<H.n
def DE(H:MH)(ka:Nat):qb->Prop
 |none=>H.at_ ka=some (.ju [])
 |some k=>H.at_ ka=some (.ju [(0,.ref k.a)])/\H.at_ k.a=some (.inst 763<|DC k)
structure PR(H:MH)(p:Nat)(s:PS)(gv:gV)(k:qb):Prop where
 obj:qJ H p s
 z:ZB s.gA
 lt:s.pos.iU<s.gA.length
 pi:s.pos.iU=s.pos.idx
 tok:H.at_ s.tA=some (.list gv)
 sj:gv.length<1000
 key:DE H s.iZ k
 hw:HW H
structure oA(own:LN)(H H':MH):Prop where
 n:H.n<=H'.n
 at_:∀a o,H.at_ a=some o->a∉own->H'.at_ a=some o
def oA.refl{own:LN}{H:MH}:oA own H H:=⟨aD _,λz z h z=>h⟩
def oA.trans{own:LN}{H H' zO:MH}(a:oA own H H')(b:oA own H' zO):oA own H zO:=⟨aa a.n b.n,λx o h q=>b.at_ x o (a.at_ x o h q) q⟩
def oA.put{own:LN}{H:MH}{i:Nat}{o:MO}(h:i∈own):oA own H (H.put i o):=⟨aD _,λa o' e q=>by rw[gD λe=>q<|by rw[e];exact h];exact e⟩
def g8{H:MH}{o:MO}{a:Nat}(h:a≠H.n):(H.new o).at_ a=H.at_ a:=by unfold MH.new;simp[h]
def oA.new{own:LN}{H:MH}{o:MO}(hw:HW H):oA own H (H.new o):=⟨bX _,λa o' e z=>by rw[g8<|av<|hw a o' e];exact e⟩
def HW.put{H:MH}{i:Nat}{o o':MO}(hw:HW H)(h:H.at_ i=some o):HW (H.put i o'):=λa x e=>by
 by_cases q:a=i
 ·subst q;exact hw _ _ h
 ·rw[gD q]at e;exact hw _ _ e
def HW.new{H:MH}{o:MO}(hw:HW H):HW (H.new o):=λa x e=>by
 by_cases q:a=H.n
 ·subst q;exact bS _
 ·rw[g8 q]at e;exact aR<|hw _ _ e
def zV{H:MH}{o:MO}{a:Nat}(h:a≠H.n):((H.new o).del H.n).at_ a=H.at_ a:=by unfold MH.del;simp only[h,if_false];exact g8 h
def HW.Ce{H:MH}{o:MO}(hw:HW H):HW ((H.new o).del H.n):=λa x e=>by
 by_cases q:a=H.n
 ·subst q;exact bS _
 ·rw[zV q]at e;exact aR<|hw _ _ e
def oA.Ce{own:LN}{H:MH}{o:MO}(hw:HW H):oA own H ((H.new o).del H.n):=⟨bX _,λa o' e z=>by rw[zV<|av<|hw a o' e];exact e⟩
def DE.of{H H':MH}{ka:Nat}{k:qb}(h:DE H ka k)(e:∀a o,H.at_ a=some o->a∈[ka]∨(∃c fs,o=.inst c fs/\c=763)->H'.at_ a=some o):DE H' ka k:=by
 induction k with
 |none=>exact e _ _ h<|.inl<|.head _
 |some k=>exact⟨e _ _ h.1<|.inl<|.head _,e _ _ h.2<|.inr ⟨_,_,rfl,rfl⟩⟩
variable{gv:gV}{k:qb}
def PR.DF(R:PR H p s gv k):s.tA≠p:=λe=>by have:=R.tok;rw[e,R.obj.obj]at this;cases this
def PR.yg(R:PR H p s gv k):s.iZ≠p:=λe=>by
 have:=R.key;rw[e]at this;induction k with
 |none=>have h:H.at_ p=_:=this;rw[R.obj.obj]at h;cases h
 |some k=>have h:=this.1;rw[R.obj.obj]at h;cases h
def PR.Hu(R:PR H p s gv k):s.iZ≠s.tA:=λe=>by
 have:=R.key;rw[e]at this;cases k with
 |none=>have h:H.at_ s.tA=_:=this;rw[R.tok]at h;cases h
 |some k=>have h:=this.1;rw[R.tok]at h;cases h
def PR.vY{s':PS}(R:PR H p s gv k)(e1:s'.gA=s.gA)(e2:s'.tA=s.tA)(e3:s'.iZ=s.iZ)(l:s'.pos.iU<s.gA.length)(pi:s'.pos.iU=s'.pos.idx):PR (H.put p<|.inst 1521<|gZ s') p s' gv k where
 obj:=.put (by rw[e1];exact R.obj.len)
 z:=by rw[e1];exact R.z
 lt:=by rw[e1];exact l
 pi:=pi
 tok:=by rw[e2,gD R.DF];exact R.tok
 sj:=R.sj
 key:=by
  rw[e3];refine R.key.of λa o h q=>?_;rw[gD];exact h;rintro rfl;rw[R.obj.obj]at h;cases h;rcases q with q|⟨c,fs,q,rfl⟩
  ·exact R.yg (aj.mp q).symm
  ·cases q
 hw:=R.hw.put R.obj.obj
def PR.Fa{gI:gV}(R:PR H p s gv k)(h:gI.length<1000):PR (H.put s.tA<|.list gI) p s gI k where
 obj:=⟨by rw[gD<|f5 R.DF];exact R.obj.obj,R.obj.len⟩
 z:=R.z
 lt:=R.lt
 pi:=R.pi
 tok:=gB
 sj:=h
 key:=R.key.of λa o h q=>by
  rw[gD];exact h;rintro rfl;rw[R.tok]at h;cases h;rcases q with q|⟨c,fs,q,rfl⟩
  ·exact R.Hu (aj.mp q).symm
  ·cases q
 hw:=R.hw.put R.tok
def PR.qX(R:PR H p s gv k):∃es,H.at_ s.iZ=some (.ju es):=by
 have:=R.key;induction k with
 |none=>exact⟨_,this⟩
 |some k=>exact⟨_,this.1⟩
def PR.putK{k':qb}{es:List (Int×MV)}(R:PR H p s gv k)(h:DE (H.put s.iZ<|.ju es) s.iZ k'):PR (H.put s.iZ<|.ju es) p s gv k' where
 obj:=⟨by rw[gD<|f5 R.yg];exact R.obj.obj,R.obj.len⟩
 z:=R.z
 lt:=R.lt
 pi:=R.pi
 tok:=by rw[gD<|f5 R.Hu];exact R.tok
 sj:=R.sj
 key:=h
 hw:=by obtain⟨es,e⟩:=R.qX;exact R.hw.put e
def PR.other{H':MH}(R:PR H p s gv k)(K:oA [] H H')(hw:HW H'):PR H' p s gv k where
 obj:=⟨K.at_ _ _ R.obj.obj (by simp),R.obj.len⟩
 z:=R.z
 lt:=R.lt
 pi:=R.pi
 tok:=K.at_ _ _ R.tok (by simp)
 sj:=R.sj
 key:=R.key.of λa o h y=>K.at_ a o h (by simp)
 hw:=hw
noncomputable def stale(q:P4):qb->qb
 |none=>none
 |some k=>if k.line≠q.line∨(1024:Int)<(q.idx:Int)-k.idx then none else some k
noncomputable abbrev DH(p:Nat)(s:PS):LN:=[p,s.tA,s.iZ]
def Ms{H:MH}{p:Nat}{x y:MO}(hw:HW H)(e:H.at_ p=some x):(H.new y).at_ p=some x:=(g8<|av<|hw _ _ e).trans e
def Rx{q:P4}{k:KS}(h:k.line≠q.line∨(1024:Int)<(q.idx:Int)-k.idx):stale q (some k)=none:=aF h
def Ry{q:P4}{k:KS}(h:¬(k.line≠q.line∨(1024:Int)<(q.idx:Int)-k.idx)):stale q (some k)=some k:=aE h
def DI(R:PR H p s gv k)(hr:∀ks,k=some ks->ks.req=false)(hq:∀H',PR H' p s gv (stale s.pos k)->oA (DH p s) H H'->Q .none (gZ s) H'):pW (n+2) 834 p H Q:=by
 refine nM (lv:=1) iV rfl R.obj.obj ?_;have R1:∀o,PR ((H.new o).del H.n) p s gv k:=λo=>R.other (.Ce R.hw) R.hw.Ce;have K1:∀o,oA (DH p s) H ((H.new o).del H.n):=λo=>.Ce R.hw;induction k with
 |none=>exact fLi R.key rfl ⟨Ms R.hw R.obj.obj,rlW gz<|FW.nil ⟨(R1 _).obj.obj,rfl,hq _ (R1 _)<|K1 _⟩⟩
 |some ks=>
  refine fLi R.key.1 rfl ⟨Ms R.hw R.obj.obj,rlW gz ?_⟩;have R1:=R1<|.list [.int 0];have K1:=K1<|.list [.int 0];show FW _ _ _ _ ((H.new<|.list [.int 0]).del H.n) _;generalize(H.new<|.list [.int 0]).del H.n=H1 at R1 K1⊢;have fin:=λhn=>hq (H1.put s.iZ<|.ju []) ((Rx (q:=s.pos) (k:=ks) hn).symm▸R1.putK (k':=none) gB)<|K1.trans<|.put<|by simp
  have keep:=λhn=>hq H1 ((Ry (q:=s.pos) (k:=ks) hn).symm▸R1) K1;have o2:∀x,(H1.put s.iZ x).at_ p=_:=λx=>putAt (f5 R1.yg) R1.obj.obj;refine FW.cons (fs:=gZ s) (λz=>⟨R1.obj.obj,rfl⟩)<|itD R1.key.1 rfl<|aO R1.key.2 rfl ?_;by_cases b1:ks.line=s.pos.line
  ·refine xF' b1<|aO R1.key.2 rfl ?_;by_cases b2:(1024:Int)<(s.pos.idx:Int)-ks.idx
   ·exact dT b2<|aO R1.key.2 rfl<|cF (hr ks rfl)<|deD R1.key.1 rfl ⟨o2 _,FW.nil ⟨o2 _,rfl,fin<|.inr b2⟩⟩
   ·exact dF b2 (FW.nil ⟨R1.obj.obj,rfl,keep λh=>h.elim (· b1) b2⟩)
  ·exact xT' b1<|aO R1.key.2 rfl<|cF (hr ks rfl)<|deD R1.key.1 rfl ⟨o2 _,FW.nil ⟨o2 _,rfl,fin<|.inl b1⟩⟩
def Bd(R:PR H p s gv k)(hr:∀ks,k=some ks->ks.req=false)(hq:∀H',PR H' p s gv none->oA (DH p s) H H'->Q .none (gZ s) H'):pW (n+2) 848 p H Q:=by
 refine nM (lv:=1) iW rfl R.obj.obj ?_;induction k with
 |none=>exact ZU R.key<|hq _ R .refl
 |some ks=>exact ZU R.key.1<|itD R.key.1 rfl<|aO R.key.2 rfl<|cF (hr ks rfl)<|deD R.key.1 rfl ⟨putAt (f5 R.yg) R.obj.obj,hq _ (R.putK gB)<|.put<|by simp⟩
noncomputable def Uy:qb->MV
 |none=>.none
 |some k=>.int k.tn
def ac8{H:MH}{j:Nat}{x y:MO}(h:H.at_ j=some y):(H.put j x).put j y=H:=r9.trans<|tZ h
def xE(R:PR H p s gv k)(hq:Q (Uy k) (gZ s) H):pW (n+2) 827 p H Q:=by
 refine nM (lv:=1) ja rfl R.obj.obj ?_;have fin:∀x y,H.at_ s.iZ=some y->((H.put s.iZ x).put s.iZ y).at_ p=some (.inst 1521<|gZ s)/\Q (Uy k) (gZ s) ((H.put s.iZ x).put s.iZ y):=λx y h=>by rw[ac8 h];exact⟨R.obj.obj,hq⟩
 induction k with
 |none=>have f:=fin (.vE []) _ R.key;have hk:H.at_ s.iZ=some (.ju []):=R.key;exact aaq hk<|FW.nil ⟨gB,f.1,rfl,f.2⟩
 |some ks=>
  have f:=fin (.vE [(0,.ref ks.a)]) _ R.key.1;have hne:ks.a≠s.iZ:=λe=>by have ho:=R.key.2;rw[e,R.key.1]at ho;cases ho
  refine aaq R.key.1 ?_;refine FW.cons (fs:=gZ s) (λz=>⟨putAt (f5 R.yg) R.obj.obj,rfl⟩)<|itP gB rfl ?_;exact aO (putAt hne R.key.2) rfl<|FW.nil ⟨gB,f.1,rfl,f.2⟩
def Jh{c:Int}(R:PR H p s gv k)(hi:s.indent<=c)(hq:Q .none (gZ s) H):SC (n+2) 855 p 1521 [.int c] [] [] H Q:=
 nM (lv:=1) jz rfl R.obj.obj (LW.turn (fs:=gZ s) (λz=>⟨R.obj.obj,rfl⟩)<|dF (Int.not_lt.mpr hi) ⟨R.obj.obj,rfl,hq⟩)
def qj(R:PR H p s gv k)(hr:∀ks,k=some ks->ks.req=false)(h1:s.done=true->Q (.bool false) (gZ s) H)(h2:s.done=false->gv=[]->Q (.bool true) (gZ s) H)
  (h3:s.done=false->gv≠[]->∀H',PR H' p s gv (stale s.pos k)->oA (DH p s) H H'->Q (vV (match stale s.pos k with|some ks=>decide (ks.tn=s.taken)|none=>false)) (gZ s) H'):pW (n+3) 813 p H Q:=by
 refine nM (lv:=2) jW rfl R.obj.obj ?_;cases hd:s.done with
 |true=>exact cT hd<|h1 hd
 |false=>
  refine cF hd<|uL R.tok ?_;induction gv with
  |nil=>exact h2 hd rfl
  |cons t ts=>
   refine DI R hr λH1 R1 K1=>xE R1 ?_;have h3:=h3 hd nofun H1 R1 K1;cases hs:stale s.pos k with
   |none=>rw[hs]at h3;exact h3
   |some ks=>
    rw[hs]at h3;have K:∀b,decide (ks.tn=s.taken)=b->Q (vV b) (gZ s) H1:=λb e=>e▸h3;by_cases b:ks.tn=s.taken
    ·exact xT b<|K true<|az b
    ·exact xF b<|K false<|au b
end
section
variable{n:Nat}{H:MH}{a1 a2 a3 a4 a5 a6 b0 b1 b2:MV}{Q:QV}
def Mt(hq:Q .none<|H.new<|.inst 763 [(44,a1),(45,a2),(9,a3),(10,a4),(11,a5),(46,a6)]):CW true (n+2) 760 [.ref H.n,a1,a2,a3,a4,a5,a6] [] [] (H.new<|.inst 763 []) Q:=SC.Aw<|nM (lv:=1) oF rfl gz<|tW (o:=.inst 763 []) hq
def vZ(hq:Q .none<|H.new<|.inst 179 [(31,a1),(32,a2),(8,b0)]):CW true (n+2) 176 [.ref H.n,a1,a2] [q "encoding"] [b0] (H.new<|.inst 179 []) Q:=SC.Aw<|AE (lv:=1) i7 rfl nS gz<|tW (o:=.inst 179 []) hq
def Mu(hq:Q .none<|H.new<|.inst 191 [(31,a1),(32,a2)]):CW true (n+2) 111 [.ref H.n,a1,a2] [] [] (H.new<|.inst 191 []) Q:=SC.Aw<|nM (lv:=1) kX rfl gz<|tW (o:=.inst 191 []) hq
def Mv(hq:Q .none<|H.new<|.inst 147 [(31,a1),(32,a2)]):CW true (n+2) 111 [.ref H.n,a1,a2] [] [] (H.new<|.inst 147 []) Q:=SC.Aw<|nM (lv:=1) kX rfl gz<|tW (o:=.inst 147 []) hq
def Mw(hq:Q .none<|H.new<|.inst 203 [(31,a1),(32,a2)]):CW true (n+2) 111 [.ref H.n,a1,a2] [] [] (H.new<|.inst 203 []) Q:=SC.Aw<|nM (lv:=1) kX rfl gz<|tW (o:=.inst 203 []) hq
def Mx(hq:Q .none<|H.new<|.inst 227 [(31,a1),(32,a2)]):CW true (n+2) 111 [.ref H.n,a1,a2] [] [] (H.new<|.inst 227 []) Q:=SC.Aw<|nM (lv:=1) kX rfl gz<|tW (o:=.inst 227 []) hq
def My(hq:Q .none<|H.new<|.inst 311 [(31,a1),(32,a2)]):CW true (n+2) 111 [.ref H.n,a1,a2] [] [] (H.new<|.inst 311 []) Q:=SC.Aw<|nM (lv:=1) kX rfl gz<|tW (o:=.inst 311 []) hq
def Mz(hq:Q .none<|H.new<|.inst 400 [(33,a1),(34,a2),(31,a3),(32,a4),(35,.none)]):CW true (n+2) 397 [.ref H.n,a1,a2,a3,a4] [] [] (H.new<|.inst 400 []) Q:=SC.Aw<|AE (lv:=1) iM rfl sX gz<|tW (o:=.inst 400 []) hq
def zX(hq:Q .none<|H.new<|.inst 400 [(33,a1),(34,a2),(31,a3),(32,a4),(35,a5)]):CW true (n+2) 397 [.ref H.n,a1,a2,a3,a4,a5] [] [] (H.new<|.inst 400 []) Q:=SC.Aw<|AE (lv:=1) iM rfl sY gz<|tW (o:=.inst 400 []) hq
def we(hq:Q .none<|H.new<|.inst 501 [(31,a1),(32,a2),(8,b0)]):CW true (n+2) 498 [.ref H.n,a1,a2] [q "encoding"] [b0] (H.new<|.inst 501 []) Q:=SC.Aw<|AE (lv:=1) i8 rfl nT gz<|tW (o:=.inst 501 []) hq
def wh(hq:Q .none<|H.new<|.inst 533 [(31,a1),(32,a2),(37,b0),(38,.none),(39,.none)]):CW true (n+2) 530 [.ref H.n,a1,a2] [q "explicit"] [b0] (H.new<|.inst 533 []) Q:=SC.Aw<|AE (lv:=1) gW rfl nC gz<|tW (o:=.inst 533 []) hq
def o8(hq:Q .none<|H.new<|.inst 533 [(31,a1),(32,a2),(37,b0),(38,b1),(39,b2)]):CW true (n+2) 530 [.ref H.n,a1,a2] [q "explicit",q "version",q "tags"] [b0,b1,b2] (H.new<|.inst 533 []) Q:=SC.Aw<|AE (lv:=1) gW rfl j4 gz<|tW (o:=.inst 533 []) hq
def MA(hq:Q .none<|H.new<|.inst 513 [(31,a1),(32,a2)]):CW true (n+2) 417 [.ref H.n,a1,a2] [] [] (H.new<|.inst 513 []) Q:=SC.Aw<|AE (lv:=1) mz rfl sO gz<|tW (o:=.inst 513 []) hq
def MB(hq:Q .none<|H.new<|.inst 609 [(31,a1),(32,a2)]):CW true (n+2) 417 [.ref H.n,a1,a2] [] [] (H.new<|.inst 609 []) Q:=SC.Aw<|AE (lv:=1) mz rfl sO gz<|tW (o:=.inst 609 []) hq
def MC(hq:Q .none<|H.new<|.inst 597 [(36,a1),(40,a2),(41,a3),(31,a4),(32,a5),(108,b0)]):CW true (n+2) 466 [.ref H.n,a1,a2,a3,a4,a5] [q "flow_style"] [b0] (H.new<|.inst 597 []) Q:=SC.Aw<|AE (lv:=1) iG rfl mq gz<|tW (o:=.inst 597 []) hq
def wj(hq:Q .none<|H.new<|.inst 553 [(31,a1),(32,a2),(37,b0)]):CW true (n+2) 550 [.ref H.n,a1,a2] [q "explicit"] [b0] (H.new<|.inst 553 []) Q:=SC.Aw<|AE (lv:=1) i9 rfl nU gz<|tW (o:=.inst 553 []) hq
def t5(hq:Q .none<|H.new<|.inst 585 [(36,a1),(40,a2),(41,a3),(33,a4),(31,a5),(32,a6),(35,b0)]):CW true (n+2) 582 [.ref H.n,a1,a2,a3,a4,a5,a6] [q "style"] [b0] (H.new<|.inst 585 []) Q:=SC.Aw<|AE (lv:=1) jS rfl qi gz<|tW (o:=.inst 585 []) hq
inductive yh(H:MH)(s:PS):Prop
 |out:s.indent=-1->H.at_ s.j9=some (.list [])->yh H s
 |ins (c:Nat):s.indent=(c:Int)->H.at_ s.j9=some (.list [.int<|-1])->yh H s
structure Sc(p:Nat)(H:MH)(s:PS)(gv:gV)(k:qb):Prop where
 R:PR H p s gv k
 ind:yh H s
 ne:s.j9≠s.tA
 req:∀ks,k=some ks->ks.req=false
def Sc.obj{p:Nat}{H:MH}{s:PS}{gv:gV}{k:qb}(h:Sc p H s gv k):H.at_ p=some (.inst 1521<|gZ s):=h.R.obj.obj
def yh.lst{H:MH}{s:PS}(h:yh H s):∃xs,H.at_ s.j9=some (.list xs):=by induction h with|out _ e=>exact⟨_,e⟩|ins _ _ e=>exact⟨_,e⟩
def yh.of{H H':MH}{s s':PS}(h:yh H s)(ei:s'.indent=s.indent)(ea:s'.j9=s.j9)(e:∀xs,H.at_ s.j9=some (.list xs)->H'.at_ s.j9=some (.list xs)):yh H' s':=by
 induction h with
 |out a b=>exact .out (ei.trans a)<|ea▸e _ b
 |ins c a b=>exact .ins c (ei.trans a)<|ea▸e _ b
structure AI(s s':PS):Prop where
 gA:s'.gA=s.gA
 tA:s'.tA=s.tA
 j9:s'.j9=s.j9
 cur:s'.cur=s.cur
 Dz:s'.Dz=s.Dz
 zN:s'.zN=s.zN
 uz:s'.uz=s.uz
 w9:s'.w9=s.w9
 state:s'.state=s.state
def AI.refl{s:PS}:AI s s:=⟨rfl,rfl,rfl,rfl,rfl,rfl,rfl,rfl,rfl⟩
def AI.trans{s s' s'':PS}(a:AI s s')(b:AI s' s''):AI s s'':=⟨b.1.trans a.1,b.2.trans a.2,b.3.trans a.3,b.4.trans a.4,b.5.trans a.5,b.6.trans a.6,b.7.trans a.7,b.8.trans a.8,b.9.trans a.9⟩
noncomputable abbrev Cf(p:Nat)(s:PS):LN:=[p,s.tA,s.iZ,s.j9]
def oA.wide{p:Nat}{s:PS}{H H':MH}(h:oA (DH p s) H H'):oA (Cf p s) H H':=⟨h.n,λa o e q=>h.at_ a o e λm=>q (by simp only[DH,Cf,ao,bq,dz]at m⊢;exact m.imp id<|Or.imp id .inl)⟩
structure Fr(p:Nat)(s:PS)(H:MH)(s':PS)(H':MH):Prop where
 kp:oA (Cf p s) H H'
 same:AI s s'
 kA:s'.iZ=s.iZ∨H.n<=s'.iZ
def Fr.refl{p:Nat}{s:PS}{H:MH}:Fr p s H s H:=⟨.refl,.refl,.inl rfl⟩
def oA.fresh{own own':LN}{H H' zO:MH}(hw:HW H)(a:oA own H H')(b:oA own' H' zO)(h:∀x∈own',x∈own∨H.n<=x):oA own H zO:=⟨aa a.n b.n,λx o e q=>b.at_ x o (a.at_ x o e q) λm=>by
 rcases h x m with h|h
 ·exact q h
 ·exact bI _<|aL (hw _ _ e) h⟩
def Fr.trans{p:Nat}{s s' s'':PS}{H H' zO:MH}(hw:HW H)(a:Fr p s H s' H')(b:Fr p s' H' s'' zO):Fr p s H s'' zO:=⟨a.kp.fresh hw b.kp (λx m=>by
  simp only[Cf,ao,bq,dz]at m⊢;rcases m with m|m|m|m
  ·exact .inl<|.inl m
  ·exact .inl<|.inr<|.inl<|m.trans a.same.tA
  ·rcases a.kA with h|h
   ·exact .inl<|.inr<|.inr<|.inl<|m.trans h
   ·exact .inr<|by rw[m];exact h
  ·exact .inl<|.inr<|.inr<|.inr<|m.trans a.same.j9),a.same.trans b.same,by
  rcases b.kA with h|h
  ·rw[h];exact a.kA
  ·exact .inr<|aa a.kp.n h⟩
def Fr.inst{p:Nat}{s s':PS}{H H':MH}{gv:gV}{k:qb}(R:Sc p H s gv k)(f:Fr p s H s' H'){a c:Nat}{fs:List (Nat×MV)}(h:H.at_ a=some (.inst c fs))(hc:c≠1521):H'.at_ a=some (.inst c fs):=by
 refine f.kp.at_ a _ h λm=>?_;simp only[Cf,ao,bq,dz]at m;rcases m with m|m|m|m
 ·subst m;rw[R.obj]at h;cases h;exact hc rfl
 ·subst m;rw[R.R.tok]at h;cases h
 ·obtain⟨es,e⟩:=R.R.qX;subst m;rw[e]at h;cases h
 ·obtain⟨es,e⟩:=R.ind.lst;subst m;rw[e]at h;cases h
def lJ(H:MH)(v:MV)(b:LN)(i:Nat):Prop:=∃a q,v=.ref a/\q.idx=i/\H.at_ a=some (.inst 53<|rz b q)
inductive TK where
 |jG
 |send
 |jq
 |wz
 |uK
 |entry
 |scalar (v:LN) (st:Option LN)
structure Tok where
 k:TK
 a:Nat
 z:Nat
abbrev qY:=List Tok
noncomputable def Rz:Option LN->MV
 |none=>.none
 |some t=>.str t
def DJ:TK->MV->MV->MO
 |.jG,m1,m2=>.inst 179 [(31,m1),(32,m2),(8,.none)]
 |.send,m1,m2=>.inst 191 [(31,m1),(32,m2)]
 |.jq,m1,m2=>.inst 147 [(31,m1),(32,m2)]
 |.wz,m1,m2=>.inst 203 [(31,m1),(32,m2)]
 |.uK,m1,m2=>.inst 227 [(31,m1),(32,m2)]
 |.entry,m1,m2=>.inst 311 [(31,m1),(32,m2)]
 |.scalar v st,m1,m2=>.inst 400 [(33,.str v),(34,.bool st.isNone),(31,m1),(32,m2),(35,Rz st)]
inductive jd(H:MH)(b:LN):MV->Tok->Prop
 |mk {t:Tok} {a:Nat} {m1 m2:MV}:lJ H m1 b t.a->lJ H m2 b t.z->H.at_ a=some (DJ t.k m1 m2)->jd H b (.ref a) t
variable{p:Nat}{s:PS}{gv:gV}{k:qb}
def Sc.Uz(h:Sc p H s gv k):s.j9≠p:=λe=>by obtain⟨xs,z⟩:=h.ind.lst;rw[e,h.obj]at z;cases z
def Sc.i_k(h:Sc p H s gv k):s.j9≠s.iZ:=λe=>by obtain⟨xs,z⟩:=h.ind.lst;obtain⟨es,y⟩:=h.R.qX;rw[e,y]at z;cases z
def Sc.new{o:MO}(h:Sc p H s gv k):Sc p (H.new o) s gv k:=⟨h.R.other (.new h.R.hw) h.R.hw.new,h.ind.of rfl rfl λz e=>Ms h.R.hw e,h.ne,h.req⟩
def Fr.new{o:MO}(h:Sc p H s gv k):Fr p s H s (H.new o):=⟨.new h.R.hw,.refl,.inl rfl⟩
def Sc.Fa{gI:gV}(h:Sc p H s gv k)(l:gI.length<1000):Sc p (H.put s.tA<|.list gI) s gI k:=⟨h.R.Fa l,h.ind.of rfl rfl λz e=>(gD h.ne).trans e,h.ne,h.req⟩
def Fr.Fa{o:MO}:Fr p s H s (H.put s.tA o):=⟨.put (by simp),.refl,.inl rfl⟩
def Sc.vY{s':PS}(h:Sc p H s gv k)(m:AI s s')(e:s'.iZ=s.iZ)(l:s'.pos.iU<s.gA.length)(pi:s'.pos.iU=s'.pos.idx)(i:s'.indent=s.indent):Sc p (H.put p<|.inst 1521<|gZ s') s' gv k:=⟨h.R.vY m.gA m.tA e l pi,h.ind.of i m.j9 λz e=>(gD h.Uz).trans e,by rw[m.j9,m.tA];exact h.ne,h.req⟩
def Fr.vY{s':PS}{o:MO}(m:AI s s')(e:s'.iZ=s.iZ):Fr p s H s' (H.put p o):=⟨.put (by simp),m,.inl e⟩
def Sc.keep{H':MH}{gI:gV}{k':qb}(h:Sc p H s gv k)(R:PR H' p s gI k')(K:oA (DH p s) H H')(r:∀ks,k'=some ks->ks.req=false):Sc p H' s gI k':=⟨R,h.ind.of rfl rfl λz e=>K.at_ _ _ e λm=>by simp only[DH,ao,bq,dz]at m;exact m.elim h.Uz λm=>m.elim h.ne h.i_k,h.ne,r⟩
def xG{q:P4}(r:∀ks,k=some ks->ks.req=false):∀ks,stale q k=some ks->ks.req=false:=λks h=>by
 induction k with
 |none=>cases h
 |some k=>
  unfold stale at h;simp only at h;split at h
  ·cases h
  ·cases h;exact r _ rfl
theorem wA(b:LN):∀(n:Nat) (q:P4),(fwd b n q).idx=q.idx+n
 |0,q=>rfl
 |n+1,q=>by
  show(fwd b n<|qK q _ _).idx=_;rw[wA b n];have:∀c d,(qK q c d).idx=q.idx+1:=λc d=>by unfold qK;split<;>(try split)<;>rfl
  rw[this];omega
def nj{n0:Nat}{H:MH}{p:Nat}{s:PS}{gv:gV}{k:qb}{c:Int}{Q:se}(h:Sc p H s gv k)(hi:s.indent<=c)(hq:Q .none (gZ s) H):SC (n0+2) 855 p 1521 [.int c] [] [] H Q:=Jh h.R hi hq
def PR.pn{H:MH}{p:Nat}{s:PS}{gv:gV}{k:qb}(R:PR H p s gv k):p≠H.n:=av<|R.hw _ _ R.obj.obj
def RA{n p:Nat}{H:MH}{s:PS}{gv:gV}{k:qb}{Q:se}(h:Sc p H s gv k)(hc:s.indent≠(s.pos.col:Int))(hq:∀H' k',Sc p H' s gv k'->Fr p s H s H'->Q .none (gZ s) H'):pW (n+4) 841 p H Q:=by
 have e:(s.indent==(s.pos.col:Int))=false:=cK.mpr hc;refine nM (lv:=3) jb rfl h.obj ?_;cases ha:s.ask with
 |false=>exact cF ha<|hq H k h .refl
 |true=>
  refine cT ha<|Bd h.R h.req λH1 R1 K1=>yx R1.tok<|yf R1.obj R1.pn ?_;have h1:Sc p H1 s gv none:=h.keep R1 K1<|by intro _ e;cases e
  have f1:Fr p s H s H1:=⟨K1.wide,.refl,.inl rfl⟩;have h2:=h1.new (o:=.inst 53<|rz s.gA s.pos);have f2:=f1.trans h.R.hw<|.new h1 (o:=.inst 53<|rz s.gA s.pos);have K:∀H2 r,r=false->Sc p H2 s gv none->Fr p s H s H2->_:=λH2 r e h2 f2=>by
   have h3:=h2.new (o:=.inst 763<|DC ⟨H2.n,s.taken+gv.length,r,s.pos.idx,s.pos.line,s.pos.col,.ref H1.n⟩);have f3:=f2.trans h.R.hw<|.new h2 (o:=.inst 763<|DC ⟨H2.n,s.taken+gv.length,r,s.pos.idx,s.pos.line,s.pos.col,.ref H1.n⟩);have hk:(H2.new<|.inst 763<|DC ⟨H2.n,s.taken+gv.length,r,s.pos.idx,s.pos.line,s.pos.col,.ref H1.n⟩).at_ s.iZ=some (.ju []):=h3.R.key;have hn:(H2.new<|.inst 763<|DC ⟨H2.n,s.taken+gv.length,r,s.pos.idx,s.pos.line,s.pos.col,.ref H1.n⟩).at_ H2.n=_:=gz;have n1:H2.n≠s.iZ:=λe=>by have q:=hk;rw[<-e]at q;have:=hn.symm.trans q;cases this
   exact And.intro h3.obj (And.intro hk (hq _ (some ⟨H2.n,s.taken+gv.length,r,s.pos.idx,s.pos.line,s.pos.col,.ref H1.n⟩) ⟨h3.R.putK ⟨gB,(gD n1).trans hn⟩,h3.ind.of rfl rfl λz e=>(gD h3.i_k).trans e,h3.ne,λks q=>by cases q;exact e⟩<|f3.trans h.R.hw ⟨.put (by simp),.refl,.inl rfl⟩))
  have K:=K _ _ e h2 f2;exact Mt ⟨rfl,K.1,seD K.2.1 ⟨by decide,putAt (f5 h.R.yg) K.1,K.2.2⟩⟩
inductive qk{α Z:Type}(R:α->Z->Prop):List α->List Z->Prop
 |nil:qk R [] []
 |cons {a:α} {b:Z} {l:List α} {m:List Z}:R a b->qk R l m->qk R (a::l) (b::m)
def qk.imp{α Z:Type}{R S:α->Z->Prop}(h:∀a b,R a b->S a b){l:List α}{m:List Z}(k:qk R l m):qk S l m:=by
 induction k with
 |nil=>exact .nil
 |cons a _ ih=>exact .cons (h _ _ a) ih
def qk.app{α Z:Type}{R:α->Z->Prop}{l l':List α}{m m':List Z}(k:qk R l m)(k':qk R l' m'):qk R (l++l') (m++m'):=by
 induction k with
 |nil=>exact k'
 |cons a _ ih=>exact .cons a ih
def qk.len{α Z:Type}{R:α->Z->Prop}{l:List α}{m:List Z}(k:qk R l m):l.length=m.length:=by
 induction k with
 |nil=>rfl
 |cons _ _ ih=>exact aq Nat.succ ih
def lJ.new{b:LN}{q:P4}:lJ (H.new<|.inst 53<|rz b q) (.ref H.n) b q.idx:=⟨_,q,rfl,rfl,gz⟩
def lJ.up{v:MV}{b:LN}{q:Nat}{o:MO}(h:lJ H v b q)(hw:HW H):lJ (H.new o) v b q:=by obtain⟨a,q,rfl,e',e⟩:=h;exact⟨a,q,rfl,e',by rw[g8<|av<|hw _ _ e];exact e⟩
def jd.new{b:LN}{t:Tok}{m1 m2:MV}(hw:HW H)(h1:lJ H m1 b t.a)(h2:lJ H m2 b t.z):jd (H.new<|DJ t.k m1 m2) b (.ref H.n) t:=⟨h1.up hw,h2.up hw,gz⟩
noncomputable abbrev PS.di(s:PS):Bool×Int:=(s.done,s.indent)
structure SF(p:Nat)(s:PS)(H:MH)(s':PS)(H':MH)(gv:gV)(k:qb):Prop where
 sc:Sc p H' s' gv k
 fr:Fr p s H s' H'
 hw:HW H
abbrev S3(p:Nat)(s:PS)(H:MH)(s':PS)(H':MH)(gv:gV)(k:qb)(X:Prop):Prop:=s'.di=s.di->s'.ask=s.ask->SF p s H s' H' gv k->X
variable{H' zO:MH}{s' s'':PS}{gI:gV}{k':qb}
def SF.refl(h:Sc p H s gv k):SF p s H s H gv k:=⟨h,.refl,h.R.hw⟩
def SF.then(a:SF p s H s' H' gv k)(b:SF p s' H' s'' zO gI k'):SF p s H s'' zO gI k':=⟨b.sc,a.fr.trans a.hw b.fr,a.hw⟩
def SF.new(a:SF p s H s' H' gv k)(o:MO):SF p s H s' (H'.new o) gv k:=a.then ⟨a.sc.new,.new a.sc,a.sc.R.hw⟩
def SF.ask(a:SF p s H s' H' gv k)(b:Bool):SF p s H (s'.wa b) (H'.put p<|.inst 1521<|gZ<|s'.wa b) gv k:=a.then ⟨a.sc.vY ⟨rfl,rfl,rfl,rfl,rfl,rfl,rfl,rfl,rfl⟩ rfl a.sc.R.lt a.sc.R.pi rfl,.vY ⟨rfl,rfl,rfl,rfl,rfl,rfl,rfl,rfl,rfl⟩ rfl,a.sc.R.hw⟩
def SF.end_(a:SF p s H s' H' gv k)(b:Bool):SF p s H (s'.wd b) (H'.put p<|.inst 1521<|gZ<|s'.wd b) gv k:=a.then ⟨a.sc.vY ⟨rfl,rfl,rfl,rfl,rfl,rfl,rfl,rfl,rfl⟩ rfl a.sc.R.lt a.sc.R.pi rfl,.vY ⟨rfl,rfl,rfl,rfl,rfl,rfl,rfl,rfl,rfl⟩ rfl,a.sc.R.hw⟩
def SF.fwd(a:SF p s H s' H' gv k)(n:Nat)(l:s'.pos.iU+n<s'.gA.length):SF p s H (s'.wp<|fwd s'.gA n s'.pos) (H'.put p<|.inst 1521<|gZ<|s'.wp<|fwd s'.gA n s'.pos) gv k:=a.then ⟨a.sc.vY ⟨rfl,rfl,rfl,rfl,rfl,rfl,rfl,rfl,rfl⟩ rfl (show(Mine.fwd s'.gA n s'.pos).iU<_ from(mO ..).symm▸l) (show(Mine.fwd s'.gA n s'.pos).iU=(Mine.fwd s'.gA n s'.pos).idx from by rw[mO,wA,a.sc.R.pi]) rfl,.vY ⟨rfl,rfl,rfl,rfl,rfl,rfl,rfl,rfl,rfl⟩ rfl,a.sc.R.hw⟩
def SF.app(a:SF p s H s' H' gv k)(v:MV)(l:gv.length+1<1000):SF p s H s' (H'.put s'.tA<|.list<|gv++[v]) (gv++[v]) k:=a.then ⟨a.sc.Fa (by simpa using l),.Fa,a.sc.R.hw⟩
def y9{n0:Nat}{H H0:MH}{p:Nat}{s s0:PS}{gv:gV}{k:qb}{Q:se}(a:SF p s0 H0 s H gv k)
  (hq:∀H',SF p s0 H0 s H' gv none->Q .none (gZ s) H'):pW (n0+2) 848 p H Q:=Bd a.sc.R a.sc.req λH1 R1 K1=>hq H1<|a.then ⟨a.sc.keep R1 K1 (by intro _ e;cases e),⟨K1.wide,.refl,.inl rfl⟩,a.sc.R.hw⟩
def Ji{n0:Nat}{H H0:MH}{p:Nat}{s s0:PS}{gv:gV}{k:qb}{Q:se}(a:SF p s0 H0 s H gv k)
  (hq:∀H',SF p s0 H0 s H' gv (stale s.pos k)->Q .none (gZ s) H'):pW (n0+2) 834 p H Q:=DI a.sc.R a.sc.req λH1 R1 K1=>hq H1<|a.then ⟨a.sc.keep R1 K1<|xG a.sc.req,⟨K1.wide,.refl,.inl rfl⟩,a.sc.R.hw⟩
def DL{n0:Nat}{H H0:MH}{p:Nat}{s s0:PS}{gv:gV}{k:qb}{Q:se}(a:SF p s0 H0 s H gv k)
  (hc:s.indent≠(s.pos.col:Int))(hq:∀H' k',SF p s0 H0 s H' gv k'->Q .none (gZ s) H'):pW (n0+4) 841 p H Q:=RA a.sc hc λH1 k1 h1 f1=>hq H1 k1<|a.then ⟨h1,f1,a.sc.R.hw⟩
def Up(H H':MH):Prop:=∀a c fs,H.at_ a=some (.inst c fs)->c≠1521->H'.at_ a=some (.inst c fs)
def Up.refl{H:MH}:Up H H:=λz z z h z=>h
def Up.trans{H H' zO:MH}(a:Up H H')(b:Up H' zO):Up H zO:=λx c fs h q=>b x c fs (a x c fs h q) q
def Up.mark{H H':MH}(u:Up H H'){v:MV}{b:LN}{q:Nat}(h:lJ H v b q):lJ H' v b q:=by obtain⟨a,q,rfl,e',e⟩:=h;exact⟨a,q,rfl,e',u _ _ _ e<|by decide⟩
def Up.tok{H H':MH}(u:Up H H'){b:LN}{v:MV}{t:Tok}(h:jd H b v t):jd H' b v t:=by obtain @⟨t,a,m1,m2,h1,h2,e⟩:=h;refine⟨u.mark h1,u.mark h2,?_⟩;obtain⟨kk,ta,tz⟩:=t;cases kk<;>exact u _ _ _ e<|by decide
def Fr.up{p:Nat}{s s':PS}{H H':MH}{gv:gV}{k:qb}(h:Sc p H s gv k)(f:Fr p s H s' H'):Up H H':=λz z z e q=>f.inst h e q
def SF.up{p:Nat}{s s':PS}{H H':MH}{gv gI:gV}{k k':qb}(h:Sc p H s gv k)(a:SF p s H s' H' gI k'):Up H H':=a.fr.up h
def jU{n0:Nat}{H H0:MH}{p:Nat}{s s0:PS}{gv:gV}{k:qb}{Q:se}(a:SF p s0 H0 s H gv k)
  (hq:∀H' v,SF p s0 H0 s H' gv k->lJ H' v s.gA s.pos.idx->SF p s H s H' gv k->Q v (gZ s) H'):pW (n0+3) 713 p H Q:=
 yf a.sc.R.obj a.sc.R.pn (hq _ _ (a.new _) .new<|(SF.refl a.sc).new _)
def Hv{n0:Nat}{H H0:MH}{p n:Nat}{s s0:PS}{gv:gV}{k:qb}{Q:se}(a:SF p s0 H0 s H gv k)(l:s.pos.iU+n<s.gA.length)
  (hq:∀s' H',SF p s0 H0 s' H' gv k->s'.pos=fwd s.gA n s.pos->S3 p s H s' H' gv k (Q .none (gZ s') H')):SC (n0+3) 706 p 1521 [.int n] [] [] H Q:=
 zR a.sc.R.obj l (hq _ _ (a.fwd n l) rfl rfl rfl<|(SF.refl a.sc).fwd n l)
def MD{n0:Nat}{H H0:MH}{p:Nat}{s s0:PS}{gv:gV}{k:qb}{Q:se}(a:SF p s0 H0 s H gv k)(l:s.pos.iU+1<s.gA.length)
  (hq:∀s' H',SF p s0 H0 s' H' gv k->s'.pos=fwd s.gA 1 s.pos->S3 p s H s' H' gv k (Q .none (gZ s') H')):pW (n0+3) 706 p H Q:=
 tX a.sc.R.obj l (hq _ _ (a.fwd 1 l) rfl rfl rfl<|(SF.refl a.sc).fwd 1 l)
def SF.keys{p:Nat}{H H':MH}{s s':PS}{gv:gV}{k:qb}(a:SF p s H s' H' gv k):SF p s H (s'.wK H'.n) ((H'.new<|.ju []).put p<|.inst 1521<|gZ<|s'.wK H'.n) gv none:=by
 have R:=a.sc.R;have b:SF p s' H' (s'.wK H'.n) ((H'.new<|.ju []).put p<|.inst 1521<|gZ<|s'.wK H'.n) gv none:=by
  have np:p≠H'.n:=av<|R.hw _ _ R.obj.obj;have nt:s'.tA≠H'.n:=av<|R.hw _ _ R.tok;refine⟨⟨⟨.put R.obj.len,R.z,R.lt,R.pi,?_,R.sj,?_,?_⟩,a.sc.ind.of rfl rfl λy e=>(gD a.sc.Uz).trans<|(g8<|av<|R.hw _ _ e).trans e,a.sc.ne,by intro _ e;cases e⟩,⟨?_,⟨rfl,rfl,rfl,rfl,rfl,rfl,rfl,rfl,rfl⟩,.inr<|aD _⟩,R.hw⟩
  ·show((H'.new _).put p _).at_ s'.tA=_;rw[gD R.DF,g8 nt];exact R.tok
  ·show((H'.new _).put p _).at_ H'.n=_;rw[gD<|f5 np];exact gz
  ·exact R.hw.new.put (i:=p)<|by rw[g8 np];exact R.obj.obj
  ·exact(oA.new R.hw).trans (.put<|by simp)
 exact a.then b
def uL1{H:MH}{QT:Bool->MH->Prop}{i:Nat}{xs:gV}{b:Bool}(o:H.at_ i=some (.list xs))(e:(!xs.isEmpty)=b)(h:QT b H):vJ (.ref i) H QT:=uL o<|e▸h
def Xh{bs:iK}:(bs.map MV.str).isEmpty=bs.isEmpty:=List.isEmpty_map
def nB{H:MH}{i:Nat}{xs:gV}(o:H.at_ i=some (.list xs)):Kh (.ref i) H .pos:=Mk o trivial
end
section
variable{n p:Nat}{H H':MH}{s s':PS}{gv:gV}{k:qb}{Q:se}
def SF.Yu{f:Fm}{lv:Nat}{Z:Sg}{Q:VQ}{v:MV}(a:SF p s H s' H' gv k)(tl:gv.length<900)(h:Q .none<|Z.bk (gZ s')<|H'.put s'.tA<|.list<|gv++[v]):Ij .neg (.ref s'.tA) [v] H' (kKr .neg (zP f lv p) Z Q):=
 rJ a.sc.R.tok ⟨aK tl (by decide),(a.app v<|aL (gq tl)<|by decide).sc.obj,h⟩
def SF.Xi{f:Fm}{lv:Nat}{Z:Sg}{Q:VQ}{v:MV}(a:SF p s H s' H' gv k)(tl:gv.length<900)(h:Q .none<|Z.bk (gZ s')<|H'.put s'.tA<|.list<|gv++[v]):Ij .neg (.ref s.tA) [v] H' (kKr .neg (zP f lv p) Z Q):=a.fr.same.tA▸a.Yu tl h
def SF.ap(a:SF p s H s' H' gv k)(tl:gv.length<900)(v:MV):SF p s H s' (H'.put s'.tA<|.list<|gv++[v]) (gv++[v]) k:=a.app v<|aL (gq tl)<|by decide
def zY(h:Sc p H s gv k)(hi:s.indent=-1)(l:s.pos.iU+3<s.gA.length)(tl:gv.length<900)
  (hq:∀H' s' v k',SF p s H s' H' (gv++[v]) k'->s'.pos=fwd s.gA 3 s.pos->s'.di=s.di->s'.ask=false->jd H' s.gA v ⟨.jq,s.pos.idx,s.pos.idx+3⟩->Q .none (gZ s') H'):pW (n+5) 890 p H Q:=by
 refine nM (lv:=4) jn rfl h.obj<|nM (lv:=3) jc rfl h.obj<|nj h (by rw[hi];decide)<|y9 (.refl h) λH1 a1=>jU (a1.ask false) λH3 v3 a3 m3 u3=>Hv a3 l λs4 H4 a4 p4 d4 k4 u4=>jU a4 λH5 v5 a5 m5 u5=>⟨nB a5.sc.R.tok,Mv ⟨rfl,(a5.new _).sc.obj,(a5.new _).Yu tl ?_⟩⟩;have m3:=u5.up a4.sc|>.mark (u4.up a3.sc|>.mark m3);rw[p4,a4.fr.same.gA,wA]at m5;exact hq _ _ _ _ ((a5.new _).ap tl<|.ref H5.n) p4 d4 k4<|(((SF.refl (a5.new _).sc).ap tl _).up (a5.new _).sc).tok<|jd.new (t:=⟨.jq,s.pos.idx,s.pos.idx+3⟩) a5.sc.R.hw m3 m5
def SF.out(a:SF p s H s' H' gv k){c:Nat}(hc:s'.indent=(c:Int)):H'.at_ s'.j9=some (.list [.int<|-1])/\SF p s H (s'.wi<|-1) ((H'.put s'.j9<|.list []).put p<|.inst 1521<|gZ<|s'.wi<|-1) gv k:=by
 have e:H'.at_ s'.j9=some (.list [.int<|-1]):=by
  induction a.sc.ind with
  |out e _=>rw[hc]at e;cases e
  |ins _ _ e=>exact e
 have R:=a.sc.R;have np:=a.sc.Uz;have o1:(H'.put s'.j9<|.list []).at_ p=_:=putAt (f5 np) R.obj.obj;refine⟨e,a.then ⟨⟨⟨.put R.obj.len,R.z,R.lt,R.pi,?_,R.sj,?_,(R.hw.put e).put o1⟩,.out rfl ?_,a.sc.ne,a.sc.req⟩,⟨(oA.put<|by simp).trans (.put<|by simp),⟨rfl,rfl,rfl,rfl,rfl,rfl,rfl,rfl,rfl⟩,.inl rfl⟩,R.hw⟩⟩
 ·exact(gD R.DF).trans ((gD<|f5 a.sc.ne).trans R.tok)
 ·refine R.key.of λx o ho q=>?_;have n1:x≠p:=by
   rintro rfl;rw[R.obj.obj]at ho;cases ho;rcases q with q|⟨c,fs,q,rfl⟩
   ·exact R.yg (aj.mp q).symm
   ·cases q
  have n2:x≠s'.j9:=by
   rintro rfl;rw[e]at ho;cases ho;rcases q with q|⟨c,fs,q,_⟩
   ·exact a.sc.i_k<|aj.mp q
   ·cases q
  rw[gD n1,gD n2];exact ho
 ·exact(gD np).trans gB
def uU{x:Int}(a:SF p s H s' H' gv k)(tl:gv.length<900){c:Nat}(hc:s'.indent=(c:Int))(hx:x<c)(hx':-1<=x)
  (hq:∀H2 s2 v,SF p s H s2 H2 (gv++[v]) k->SF p s' H' s2 H2 (gv++[v]) k->s2=s'.wi (-1)->jd H2 s'.gA v ⟨.uK,s'.pos.idx,s'.pos.idx⟩->Q .none (gZ s2) H2):SC (n+4) 855 p 1521 [.int x] [] [] H' Q:=by
 refine nM (lv:=3) jz rfl a.sc.obj<|LW.turn (fs:=gZ s') (λz=>⟨a.sc.obj,rfl⟩)<|dT (by rw[hc];exact hx)<|jU a λH2 v2 a2 m2 u2=>?_;obtain⟨e2,-⟩:=a2.out hc;have b2:=((SF.refl a.sc).then u2).out hc;have a3:=(a2.out hc).2;have a4:=a3.new<|.inst 227 [(31,v2),(32,v2)];have b4:=b2.2.new<|.inst 227 [(31,v2),(32,v2)];have o2:(H2.put s'.j9<|.list []).at_ p=_:=putAt (f5 a2.sc.Uz) a2.sc.obj;refine⟨nB e2,LV (ys:=[]) e2 ⟨o2,⟨nB a3.sc.R.tok,Mx ⟨rfl,a4.sc.obj,a4.Yu tl<|LW.turn (fs:=gZ<|s'.wi<|-1) (λz=>⟨(a4.ap tl _).sc.obj,rfl⟩)<|dF (by show¬(-1:Int)>x;omega) ⟨(a4.ap tl _).sc.obj,rfl,?_⟩⟩⟩⟩⟩;have U:=(((SF.refl a2.sc).out hc).2.up a2.sc);exact hq _ _ _ (a4.ap tl<|.ref _) (b4.ap tl<|.ref _) rfl<|(((SF.refl a4.sc).ap tl _).up a4.sc).tok<|jd.new (t:=⟨.uK,s'.pos.idx,s'.pos.idx⟩) a3.sc.R.hw (U.mark m2)<|U.mark m2
def DM(a:SF p s H s' H' gv k)(tl:gv.length<900)
  (hq:∀H2 s2 v k',SF p s H s2 H2 (gv++[v]) k'->Up H' H2->s2.pos=s'.pos->s2.done=true->jd H2 s'.gA v ⟨.send,s'.pos.idx,s'.pos.idx⟩->Q .none (gZ s2) H2):run 399 (CK iy.fm 4 1521 p Q) [iT iy.ib 1] ⟨[],iQ iy.ns [.ref p],[],gZ s',H'⟩:=by
 have b:=SF.refl a.sc;refine y9 b λH1 b1=>⟨((b1.ask false).new _).sc.obj,jU ((b1.ask false).keys) λH5 v5 b5 m5 u5=>⟨nB b5.sc.R.tok,Mu ⟨rfl,(b5.new _).sc.obj,(b5.new _).Yu tl ?_⟩⟩⟩;have b6:=((b5.new<|.inst 191 [(31,v5),(32,v5)]).ap tl<|.ref H5.n).end_ true;exact hq _ _ _ _ (a.then b6) (b6.up a.sc) rfl rfl<|(((SF.refl ((b5.new _).ap tl _).sc).end_ true).up ((b5.new _).ap tl _).sc).tok<|(((SF.refl (b5.new _).sc).ap tl _).up (b5.new _).sc).tok<|jd.new (t:=⟨.send,s'.pos.idx,s'.pos.idx⟩) b5.sc.R.hw m5 m5
noncomputable def yy(i:Int)(n:Nat):qY:=if i=-1 then[⟨.send,n,n⟩]else[⟨.uK,n,n⟩,⟨.send,n,n⟩]
def qd(a:SF p s H s' H' gv k)(tl:gv.length<899)
  (hq:∀H2 s2 us k',SF p s H s2 H2 (gv++us) k'->Up H' H2->s2.pos=s'.pos->s2.done=true->qk (jd H2 s'.gA) us (yy s'.indent s'.pos.idx)->Q .none (gZ s2) H2):SC (n+5) 876 p 1521 [] [] [] H' Q:=by
 refine nM (lv:=4) iy rfl a.sc.obj ?_;have tl':=aK tl (by decide:899<900);cases hi:a.sc.ind with
 |out e _=>refine nj a.sc (by rw[e];decide)<|DM a tl' λH2 s2 v k' b u p2 d2 t2=>hq H2 s2 [v] k' b u p2 d2 ?_;rw[yy,aF e];exact .cons t2 .nil
 |ins c e _=>refine uU a tl' e (by omega) (by decide) λH1 s1 v a1 b1 e1 t1=>DM a1 (by rw[aT,aY];omega) λH2 s2 w k' b u p2 d2 t2=>hq H2 s2 [v,w] k' (by rw[aW]at b;exact b) ((b1.up a.sc).trans u) (by rw[p2,e1];rfl) d2 ?_;rw[yy,aE<|by rw[e];omega];rw[e1]at t2;exact .cons (u.tok t1)<|.cons t2 .nil
def DN{b:LN}{i c:Nat}{w r:LN}(h:b.drop i=w++c::r):b[i+w.length]?=some c:=by rw[<-dJ,h,gp<|aD _,Nat.sub_self];rfl
def wB{b:LN}{i c:Nat}{r:LN}(h:b.drop i=c::r):b[i]?=some c:=DN (w:=[]) h
def dlt{b:LN}{i c:Nat}{w r:LN}(h:b.drop i=w++c::r):i+w.length<b.length:=by have:=DN h;exact(bG.mp this).1
def Be{b:LN}{i:Nat}{w r:LN}(h:b.drop i=w++r):(b.drop i).take w.length=w:=by rw[h];simp
def dtl{b:LN}{i:Nat}{w r:LN}(h:b.drop i=w++r):b.drop (i+w.length)=r:=by rw[<-List.drop_drop,h];simp
def Cg{b:LN}{i c:Nat}{r:LN}(h:b.drop i=c::r):b.drop (i+1)=r:=dtl (w:=[c]) h
theorem Ch(b:LN):∀(m n:Nat) (q:P4),fwd b n (fwd b m q)=fwd b (m+n) q
 |0,n,q=>by rw[bQ];rfl
 |m+1,n,q=>by rw[Nat.succ_add];exact Ch b m n _
def nzN{n:Nat}(h:n≠0):(((n:Nat):Int)!=0)=true:=by
 have:(n:Int)≠0:=by omega
 simpa using this
def ME{α:Type}{L:List α}{i:Nat}{v:α}(h:L[i]?=some v):L.set i v=L:=by
 apply List.ext_getElem?;intro j;rw[List.getElem?_set];split
 ·rename _=>e;subst e
  split
  ·exact h.symm
  ·rename _=>q;rw[eP<|by omega]
 ·rfl
def Xj{α:Type}{L:List α}{i j:Nat}{v u:α}(h:L[j]?=some u)(ne:i≠j):(L.set i v)[j]?=some u:=(dP ne).trans h
def Xk{α:Type}{L:List α}{i:Nat}{v u:α}(h:L[i]?=some u):(L.set i v)[i]?=some v:=fH (bG.mp h).1
def Fb{o:Option nF}{v:MV}{K:MV->Prop}(e:o=some (some v))(h:K v):BA o K:=by rw[e];exact h
def nb0{n:Nat}(h:n≠0):Nat.beq n 0=false:=by cases n<;>first|exact aG rfl h|rfl
end
section
variable{f:Fm}{lv p li lc n c:Nat}{l r:LN}{s:PS}{H:MH}{Q:QF}
def wC{op:CmpOp}{ok:Nat->Bool}(n0:li≠0)(h:qJ H p s)(hop:∀c H,sW op (.str [c]) (.str l) H=some (ok c))(hc:ok c=false):∀(t:LN) (n:Nat) (i:Int) (Lc:Loc),i=n->Lc[0]?=some (some<|.ref p)->Lc[li]?=some (some<|.int i)->s.gA.drop (s.pos.iU+n)=t++c::r->(∀x∈t,ok x=true)->Q .next (Lc.set li<|some<|.int ((n+t.length:Nat):Int)) H->
  LW (zP f (lv+2) p) (.cmp op (.nQ (.loc 0) 55 (.cons (.loc li) .nil) [] .nil)<|.str l) (.cons (.CN li .Add<|.int 1) .nil) .nil Lc H Q:=by
 intro t;induction t with
 |nil=>intro n i Lc ei h0 hl ht ha hq;subst ei;exact LW.turn (fs:=gZ s) (λz=>⟨h.obj,h0⟩)<|Fb hl<|lV h (DN ht)<|yc (hop _ _)<|cF hc<|(ME hl).symm▸hq
 |cons x t ih=>intro n i Lc ei h0 hl ht ha hq;subst ei;refine LW.turn (fs:=gZ s) (λz=>⟨h.obj,h0⟩)<|Fb hl<|lV h (wB ht)<|yc (hop _ _)<|cT (ha x<|.head _)<|Fb hl<|cF (nb0 n0)<|ih (n+1) _ _ rfl (Xj h0 n0) (Xk hl) (Cg ht) (λy m=>ha y<|.tail _ m) ?_;rw[show n+1+t.length=n+(x::t).length from gh ..];exact(List.set_set ..).symm▸hq
def PR.putL{p:Nat}{H:MH}{s:PS}{gv:gV}{k:qb}(R:PR H p s gv k){i:Nat}{xs:gV}{o:MO}(h:H.at_ i=some (.list xs))(ne:i≠s.tA):PR (H.put i o) p s gv k:=by
 have e:∀a o',H.at_ a=some o'->(∀xs,o'≠.list xs)->(H.put i o).at_ a=some o':=λa o' q n=>by rw[gD];exact q;rintro rfl;rw[h]at q;cases q;exact n _ rfl
 refine⟨⟨e _ _ R.obj.obj (by intro _ q;cases q),R.obj.len⟩,R.z,R.lt,R.pi,?_,R.sj,?_,R.hw.put h⟩
 ·rw[gD<|f5 ne];exact R.tok
 ·refine R.key.of λa o' q n=>e a o' q λxs he=>?_;subst he;rcases n with n|⟨c,fs,n,_⟩
  ·obtain⟨es,ee⟩:=R.qX;rw[aj.mp n,ee]at q;cases q
  ·cases n
structure Own(s:PS)(i:Nat):Prop where
 t:i≠s.tA
 d:i≠s.j9
def Own.to{s s':PS}{i:Nat}(h:Own s i)(m:AI s s'):Own s' i:=⟨m.tA▸h.t,m.j9▸h.d⟩
variable{H':MH}{s':PS}{gv gI:gV}{k k':qb}
def Own.new(h:Sc p H s gv k){i:Nat}(l:H.n<=i):Own s i:=⟨aQ<|aL (h.R.hw _ _ h.R.tok) l,λe=>by obtain⟨xs,z⟩:=h.ind.lst;exact bI _<|aL (h.R.hw _ _ z)<|e▸l⟩
def SF.lst(h:Sc p H s gI k')(a:SF p s H s' H' gv k){i:Nat}{xs:gV}(e:H.at_ i=some (.list xs))(ne:Own s i):H'.at_ i=some (.list xs):=by
 refine a.fr.kp.at_ i _ e λm=>?_;simp only[Cf,ao,bq,dz]at m;rcases m with m|m|m|m
 ·subst m;rw[h.obj]at e;cases e
 ·exact ne.t m
 ·obtain⟨es,ee⟩:=h.R.qX;subst m;rw[ee]at e;cases e
 ·exact ne.d m
def SF.putL(a:SF p s H s' H' gv k){i:Nat}{xs:gV}(h:H'.at_ i=some (.list xs))(l:H.n<=i)(ne:Own s i)(ys:gV):SF p s H s' (H'.put i<|.list ys) gv k:=
 ⟨⟨a.sc.R.putL h (ne.to a.fr.same).t,a.sc.ind.of rfl rfl λz e=>(gD<|f5 (ne.to a.fr.same).d).trans e,a.sc.ne,a.sc.req⟩,⟨a.fr.kp.fresh a.hw (.put (own:=[i])<|.head _) (λx m=>.inr<|by rw[aj.mp m];exact l),a.fr.same,a.fr.kA⟩,a.hw⟩
def Up.putL{H:MH}{i:Nat}{xs:gV}{o:MO}(h:H.at_ i=some (.list xs)):Up H (H.put i o):=λa c fs e z=>by rw[gD];exact e;rintro rfl;rw[h]at e;cases e
noncomputable abbrev wD:LN:=[39,34,92,0,32,9,13,10,133,8232,8233]
def MG{i:Nat}{b:LN}{t r:LN}(h:b.length<gP)(ht:b.drop i=t++r):t.length<gP:=by have:=aq length ht;rw[cy,aT]at this;exact ah (aa (aA ..)<|aa (dH this.symm)<|Nat.sub_le ..) h
def RB(b:LN)(q:P4)(h:q.iU=q.idx):(vX b q).1.iU=(vX b q).1.idx:=by
 unfold vX;split
 ·split<;>simp only[mO,wA,h]
 ·split
  ·simp only[mO,wA,h]
  ·exact h
def Hw{n p:Nat}{H H0:MH}{s s0:PS}{gv:gV}{k:qb}{Q:se}(a:SF p s0 H0 s H gv k)
  (hq:∀s' H',SF p s0 H0 s' H' gv k->s'.pos=(vX s.gA s.pos).1->S3 p s H s' H' gv k (Q (.str (vX s.gA s.pos).2) (gZ s') H')):pW (n+4) 1278 p H Q:=by
 have f:=Jg a.sc.R.z a.sc.R.lt;have b:SF p s H (s.wp (vX s.gA s.pos).1) (H.put p<|.inst 1521<|gZ<|s.wp (vX s.gA s.pos).1) gv k:=
  ⟨a.sc.vY ⟨rfl,rfl,rfl,rfl,rfl,rfl,rfl,rfl,rfl⟩ rfl f.1 (RB _ _ a.sc.R.pi) rfl,.vY ⟨rfl,rfl,rfl,rfl,rfl,rfl,rfl,rfl,rfl⟩ rfl,a.sc.R.hw⟩
 exact AH a.sc.R.obj a.sc.R.z a.sc.R.lt rfl<|hq _ _ (a.then b) rfl rfl rfl b
noncomputable abbrev jV:LN:=[13,10,133,8232,8233]
structure Ps(b:LN)(q:P4)(r:LN)(c:Nat):Prop where
 d:b.drop q.iU=r
 c:q.col=c
 n:65279∉b
inductive LB:LN->LN->LN->Prop
 |crlf {r:LN}:LB (13::10::r) [10] r
 |one {c d:Nat} {r:LN}:c∈[13,10,133]->(c=13->d≠10)->LB (c::d::r) [10] (d::r)
 |ls {c:Nat} {r:LN}:c∈[8232,8233]->LB (c::r) [c] r
def zZ(r:LN):Bool:=(decide (r.take 3=[45,45,45])||decide (r.take 3=[46,46,46]))&&decide (r.getD 3 0∈vm)
noncomputable abbrev ix(b r:LN):Nat:=b.length-r.length
def LB.ne{r l r1:LN}(h:LB r l r1):∃c r',r=c::r'/\c∈jV:=by
 induction h with
 |crlf=>exact⟨13,_,rfl,by decide⟩
 |one a _=>exact⟨_,_,rfl,(by decide:∀x∈[13,10,133],x∈jV) _ a⟩
 |ls a=>exact⟨_,_,rfl,(by decide:∀x∈[8232,8233],x∈jV) _ a⟩
def LB.len{r l r1:LN}(h:LB r l r1):r1.length<r.length/\l.length=1:=by
 induction h with
 |crlf=>exact⟨by simp only[aU];lia,rfl⟩
 |one a _=>exact⟨bS _,rfl⟩
 |ls a=>exact⟨bS _,rfl⟩
def Jj{q:P4}{c d:Nat}(h:c∉jV)(n:c≠65279):qK q c d=⟨q.iU+1,q.idx+1,q.line,q.col+1⟩:=by unfold qK;rw[aE λe=>e.elim (λm=>h<|.tail _ m) λm=>h<|m.1▸.head _,aF n]
def DO{q:P4}{c d:Nat}(h:c∈[10,133,8232,8233]∨(c=13/\d≠10)):qK q c d=⟨q.iU+1,q.idx+1,q.line+1,0⟩:=aF h
def za(b:LN)(q:P4):fwd b 1 q=qK q (b.getD q.iU 0) (b.getD (q.iU+1) 0):=rfl
variable{b:LN}{q:P4}{t:LN}{d x:Nat}
def Ps.get(h:Ps b q (x::r) c):b[q.iU]?=some x:=wB h.d
def Ps.mem(h:Ps b q r c)(m:x∈r):x≠65279:=λe=>h.n<|e▸eU (h.d▸m)
def Ps.aat(h:Ps b q (x::r) c)(n:x∉jV):Ps b (fwd b 1 q) r (c+1):=by
 have e:fwd b 1 q=⟨q.iU+1,q.idx+1,q.line,q.col+1⟩:=by rw[za,kQ h.get];exact Jj n<|h.mem<|.head _
 exact⟨by rw[e];exact Cg h.d,by rw[e];exact aq (·+1) h.c,h.n⟩
def Ps.aau:∀{t:LN} {q:P4} {c:Nat},Ps b q (t++r) c->(∀x∈t,x∉jV)->Ps b (fwd b t.length q) r (c+t.length):=by
 intro t;induction t with
 |nil=>exact λh z=>h
 |cons y t ih=>intro q c h n;have:=ih (h.aat<|n y<|.head _) λx m=>n x<|.tail _ m;rw[Ch,dK 1,dZ,dK 1]at this;exact this
def Ps.nl(h:Ps b q (x::r) c)(n:x∈[10,133,8232,8233]):Ps b (fwd b 1 q) r 0:=by
 have e:fwd b 1 q=⟨q.iU+1,q.idx+1,q.line+1,0⟩:=by rw[za,kQ h.get];exact DO<|.inl n
 exact⟨by rw[e];exact Cg h.d,by rw[e],h.n⟩
def Ps.vX{l r1:LN}(h:Ps b q r c)(k:LB r l r1):(vX b q).2=l/\Ps b (vX b q).1 r1 0:=by
 cases k with
 |crlf=>
  have e:(b.drop q.iU).take 2=[13,10]:=by rw[h.d];rfl
  rw[DB e];refine⟨rfl,?_⟩;have g0:=h.get;have g1:b[q.iU+1]?=some 10:=wB<|Cg h.d;have e1:fwd b 1 q=⟨q.iU+1,q.idx+1,q.line,q.col+1⟩:=by rw[za,kQ g0,kQ g1];rfl
  have h1:Ps b (fwd b 1 q) (10::r1) (c+1):=⟨by rw[e1];exact Cg h.d,by rw[e1];exact aq (·+1) h.c,h.n⟩;have h2:=h1.nl<|by decide
  rw[Ch]at h2;exact h2
 |@one x d r m n=>
  have e:(b.drop q.iU).take 2≠[13,10]:=by rw[h.d];intro e;have e:[x,d]=[13,10]:=e;cases e;exact n rfl rfl
  rw[Mm (by rw[kQ h.get];exact m) e];refine⟨rfl,?_⟩;have g1:b[q.iU+1]?=some d:=wB<|Cg h.d;have e1:fwd b 1 q=⟨q.iU+1,q.idx+1,q.line+1,0⟩:=by
   rw[za,kQ h.get,kQ g1];refine DO ?_;rcases ao.mp m with rfl|m
   ·exact .inr ⟨rfl,n rfl⟩
   ·exact .inl<|(by decide:∀x∈[10,133],x∈[10,133,8232,8233]) _ m
  exact⟨by rw[e1];exact Cg h.d,by rw[e1],h.n⟩
 |@ls x r m=>rw[Mn (by rw[kQ h.get];exact(by decide:∀x∈[8232,8233],x∉[13,10,133]) _ m) (by rw[kQ h.get];exact m),kQ h.get];exact⟨rfl,h.nl<|(by decide:∀x∈[8232,8233],x∈[10,133,8232,8233]) _ m⟩
def Ps.ix(h:Ps b q r c)(l:q.iU<b.length):q.iU=ix b r:=by have:=aq length h.d;rw[cy]at this;rw[Mine.ix,<-this,Nat.sub_sub_self<|cA l]
def Ps.sub{b':LN}{q':P4}(h:Ps b q r c)(e:b'=b)(e':q'=q):Ps b' q' r c:=by subst e e';exact h
end
section
variable{n p c x:Nat}{H H0:MH}{s s0:PS}{gv:gV}{k:qb}{r t:LN}{Q:se}
theorem SF.ix(a:SF p s0 H0 s H gv k)(P:Ps s.gA s.pos r c):s.pos.idx=Mine.ix s.gA r:=a.sc.R.pi.symm.trans<|P.ix a.sc.R.lt
theorem gM(a:SF p s0 H0 s H gv k)(P:Ps s.gA s.pos (x::r) c)(hq:Q (.str [x]) (gZ s) H):pW (n+2) 690 p H Q:=vW a.sc.R.obj P.get hq
theorem MI{y:Nat}(a:SF p s0 H0 s H gv k)(P:Ps s.gA s.pos (x::y::r) c)(hq:Q (.str [y]) (gZ s) H):SC (n+2) 690 p 1521 [.int 1] [] [] H Q:=lV (i:=1) a.sc.R.obj (DN (w:=[x]) P.d) hq
theorem z5(a:SF p s0 H0 s H gv k)(P:Ps s.gA s.pos (t++x::r) c)(hn:∀y∈t,y∉jV)
  (hq:∀s' H',SF p s0 H0 s' H' gv k->Ps s'.gA s'.pos (x::r) (c+t.length)->S3 p s H s' H' gv k (Q .none (gZ s') H')):SC (n+3) 706 p 1521 [.int t.length] [] [] H Q:=
 Hv a (dlt P.d) λs' H' a' p' d' k' u'=>hq s' H' a' ((P.aau hn).sub u'.fr.same.gA p') d' k' u'
theorem jH{y:Nat}(a:SF p s0 H0 s H gv k)(P:Ps s.gA s.pos (y::x::r) c)(hn:y∉jV)
  (hq:∀s' H',SF p s0 H0 s' H' gv k->Ps s'.gA s'.pos (x::r) (c+1)->S3 p s H s' H' gv k (Q .none (gZ s') H')):pW (n+3) 706 p H Q:=
 MD a (dlt (w:=[y]) P.d) λs' H' a' p' d' k' u'=>hq s' H' a' ((P.aat hn).sub u'.fr.same.gA p') d' k' u'
theorem t7{l r1:LN}(a:SF p s0 H0 s H gv k)(P:Ps s.gA s.pos r c)(h:LB r l r1)
  (hq:∀s' H',SF p s0 H0 s' H' gv k->Ps s'.gA s'.pos r1 0->S3 p s H s' H' gv k (Q (.str l) (gZ s') H')):pW (n+4) 1278 p H Q:=
 Hw a λs' H' a' p' d' k' u'=>(P.vX h).1▸hq s' H' a' ((P.vX h).2.sub u'.fr.same.gA p') d' k' u'
theorem RD(a:SF p s0 H0 s H gv k)(P:Ps s.gA s.pos (x::r) c)(hx:x∉jV)
  (hq:∀s' H',SF p s0 H0 s' H' gv k->Ps s'.gA s'.pos (x::r) c->S3 p s H s' H' gv k (Q (.str []) (gZ s') H')):pW (n+4) 1278 p H Q:=
 Hw a λs' H' a' p' d' k' u'=>by
  have e:vX s.gA s.pos=(s.pos,[]):=Uv (by rw[kQ P.get];exact λm=>hx<|(by decide:∀x∈[13,10,133],x∈jV) _ m)<|by rw[kQ P.get];exact λm=>hx<|(by decide:∀x∈[8232,8233],x∈jV) _ m
  rw[e]at p'⊢;exact hq s' H' a' (P.sub u'.fr.same.gA p') d' k' u'
def zb{f:Fm}{lv:Nat}{op:CmpOp}{l:LN}{ok:Nat->Bool}{Lc:Loc}{Q:QF}(hs:Lc[0]?=some (some<|.ref p))(hop:∀c H,sW op (.str [c]) (.str l) H=some (ok c))(hx:ok x=false):
  ∀(t:LN) (s:PS) (H:MH) (c:Nat),SF p s0 H0 s H gv k->Ps s.gA s.pos (t++x::r) c->(∀y∈t,ok y=true/\y∉jV)->
   (∀s' H',SF p s0 H0 s' H' gv k->Ps s'.gA s'.pos (x::r) (c+t.length)->S3 p s H s' H' gv k (Q .next Lc H'))->
   LW (zP f (lv+3) p) (.cmp op (.nQ (.loc 0) 55 .nil [] .nil)<|.str l) (.cons (.expr<|.nQ (.loc 0) 75 .nil [] .nil) .nil) .nil Lc H Q:=by
 intro t;induction t with
 |nil=>exact λs H c a P w hq=>LW.turn (fs:=gZ s) (λw=>⟨a.sc.obj,hs⟩)<|gM a P<|yc (hop _ _)<|cF hx<|hq s H a P rfl rfl<|SF.refl a.sc
 |cons y t ih=>
  intro s H c a P hy hq;refine LW.turn (fs:=gZ s) (λw=>⟨a.sc.obj,hs⟩)<|gM a P<|yc (hop _ _)<|cT (hy y<|.head _).1 ?_;have next:∀s' H',SF p s0 H0 s' H' gv k->Ps s'.gA s'.pos (t++x::r) (c+1)->s'.di=s.di->s'.ask=s.ask->SF p s H s' H' gv k->LW (zP f (lv+3) p) (.cmp op (.nQ (.loc 0) 55 .nil [] .nil)<|.str l) (.cons (.expr<|.nQ (.loc 0) 75 .nil [] .nil) .nil) .nil Lc H' Q:=λs' H' a' P' d' k' u'=>ih s' H' (c+1) a' P' (λz m=>hy z<|.tail _ m) λs2 H2 a2 P2 d2 k2 u2=>hq s2 H2 a2 (by rw[dZ,dK 1]at P2;exact P2) (d2.trans d') (k2.trans k')<|u'.then u2
  induction t with
  |nil=>exact jH a P (hy y<|.head _).2 next
  |cons z t=>exact jH a P (hy y<|.head _).2 next
inductive TN:LN->Nat->Bool->LN->Nat->Bool->Prop
 |stop {t r:LN} {x c:Nat} {a:Bool}:(∀y∈t,y=32)->x∉32::35::jV->TN (t++x::r) c a (x::r) (c+t.length) a
 |nl {t r l r1 r':LN} {c c':Nat} {a a':Bool}:(∀y∈t,y=32)->LB r l r1->TN r1 0 true r' c' a'->TN (t++r) c a r' c' a'
abbrev iNx:IS:=ye gX.ib 2
def Xl{t:LN}(h:∀y∈t,y=32):∀y∈t,decide (y=32)=true/\y∉jV:=λy m=>by rw[h y m];exact⟨rfl,by decide⟩
def Jk{Q:QF}{r r':LN}{c c':Nat}{a a':Bool}(hr:TN r c a r' c' a'):∀(s:PS) (H:MH),SF p s0 H0 s H gv k->Ps s.gA s.pos r c->s.ask=a->
  (∀s' H',SF p s0 H0 s' H' gv k->Ps s'.gA s'.pos r' c'->s'.di=s.di->s'.ask=a'->SF p s H s' H' gv k->Q .next [some<|.ref p,some<|.bool true] H')->
  LP gX.fm 4 p iNx [some<|.ref p,some<|.bool false] H Q:=by
 induction hr with
 |@stop t r x c a ht hx=>intro s H A P ha hq;have n32:x≠32:=λe=>hx<|e▸.head _;have Xm:x≠35:=λe=>hx<|e▸.tail _ (.head _);have nbr:x∉jV:=λe=>hx<|.tail _<|.tail _ e;refine LW.turn (fs:=gZ s) (λz=>⟨A.sc.obj,rfl⟩)<|zb (ok:=λy=>decide<|y=32) rfl (λc H=>cS c 32) (au n32) t s H c A P (Xl ht) λs1 H1 a1 P1 d1 k1 u1=>⟨a1.sc.obj,rfl,?_⟩;refine gM a1 P1<|sF Xm<|RD a1 P1 nbr λs2 H2 a2 P2 d2 k2 u2=>?_;exact⟨(by decide:(0:Nat)<gP),LW.turn (fs:=gZ s2) (λz=>⟨a2.sc.obj,rfl⟩)<|hq s2 H2 a2 P2 (d2.trans d1) ((k2.trans k1).trans ha)<|u1.then u2⟩
 |@nl t r l r1 r' c c' a a' ht hl hr ih=>intro s H A P ha hq;obtain⟨x,rr,er,hb⟩:=hl.ne;subst er;have n32:x≠32:=λe=>(by decide:32∉jV)<|e▸hb;have Xm:x≠35:=λe=>(by decide:35∉jV)<|e▸hb;refine LW.turn (fs:=gZ s) (λz=>⟨A.sc.obj,rfl⟩)<|zb (ok:=λy=>decide<|y=32) rfl (λc H=>cS c 32) (au n32) t s H c A P (Xl ht) λs1 H1 a1 P1 d1 k1 u1=>⟨a1.sc.obj,rfl,?_⟩;refine gM a1 P1<|sF Xm<|t7 a1 P1 hl λs2 H2 a2 P2 d2 k2 u2=>?_;have ll:=hl.len.2;refine⟨by rw[ll];decide,cT (by induction l with|nil=>cases ll|cons=>rfl) ?_⟩;have u3:=(SF.refl a2.sc).ask true;exact ih _ _ (a2.ask true) P2 rfl λs' H' a' P' d' k' u'=>hq s' H' a' P' (d'.trans<|d2.trans d1) k'<|(u1.then u2).then (u3.then u')
theorem MJ{H:MH}{s:PS}{r r':LN}{c c':Nat}{a a':Bool}(A:SF p s0 H0 s H gv k)(P:Ps s.gA s.pos r c)(hr:TN r c s.ask r' c' a')
  (hq:∀s' H',SF p s0 H0 s' H' gv k->Ps s'.gA s'.pos r' c'->s'.di=s.di->s'.ask=a'->SF p s H s' H' gv k->Q .none (gZ s') H'):pW (n+5) 1100 p H Q:=by
 have K:run 399 (CK gX.fm 4 1521 p Q) [Uj gX.ib] ⟨[],[some<|.ref p,none],[],gZ s,H⟩:=Jk hr s H A P rfl λs' H' a' P' d' k' u'=>⟨a'.sc.obj,rfl,hq s' H' a' P' d' k' u'⟩;refine nM (lv:=4) gX rfl A.sc.obj ?_;by_cases b0:s.pos.idx=0
 ·refine zT b0 ?_;have g:=qL A.sc.R.lt;exact vW A.sc.R.obj g<|sF (λe=>P.n<|e▸bP g) K
 ·exact zF b0 K
noncomputable def dmE(j:Nat):IE:=.bop .And<|.cons (.bop .Or<|.cons (.cmp .Eq (.loc j)<|.str [45,45,45])<|.cons (.cmp .Eq (.loc j)<|.str [46,46,46]) .nil)<|.cons (.cmp .In (.nQ (.loc 0) 55 (.cons (.int 3) .nil) [] .nil)<|.str [0,32,9,13,10,133,8232,8233]) .nil
theorem Hx{f:Fm}{lv p j c:Nat}{A:Fs}{L:Loc}{s:PS}{H:MH}{Q:TQ}{r:LN}(h:qJ H p s)(z:ZB s.gA)(P:Ps s.gA s.pos r c)(h8:Sg.lv ⟨A,L,[],gZ s,H⟩ j=some (some<|.str<|(s.gA.drop s.pos.iU).take 3))(e:zZ r=false)(hq:Q false ⟨A,L,[],gZ s,H⟩):(vx<|dmE j).T (zP f (lv+2) p) ⟨A,L,[],gZ s,H⟩ Q:=by
 have key:∀c,c=45∨c=46->(s.gA.drop s.pos.iU).take 3=[c,c,c]->s.gA[s.pos.iU+3]?=some (s.gA.getD (s.pos.iU+3) 0):=λc n e=>qL<|zS z (take3 e).2.2 (by rcases n with rfl|rfl<;>decide);have no:∀c,c=45∨c=46->(s.gA.drop s.pos.iU).take 3=[c,c,c]->s.gA.getD (s.pos.iU+3) 0∉vm:=λc n q m=>by
  rw[P.d]at q;have e2:r.getD 3 0=s.gA.getD (s.pos.iU+3) 0:=by rw[<-P.d,bD,bD,dJ]
  unfold zZ at e;rw[e2,az m,Bool.and_true]at e;rcases n with rfl|rfl
  ·rw[az q]at e;cases e
  ·rw[az q,fq]at e;cases e
 refine Fb h8 ?_;by_cases b1:(s.gA.drop s.pos.iU).take 3=[45,45,45]
 ·exact OA b1<|lV (i:=3) h (key 45 (.inl rfl) b1)<|dF (no 45 (.inl rfl) b1) hq
 ·refine Mp b1<|Fb h8 ?_;by_cases b2:(s.gA.drop s.pos.iU).take 3=[46,46,46]
  ·exact OA b2<|lV (i:=3) h (key 46 (.inr rfl) b2)<|dF (no 46 (.inr rfl) b2) hq
  ·exact Mp b2 hq
noncomputable abbrev oQ:LN:=[32,9]
inductive FB:LN->iK->LN->Prop
 |stop {t r:LN} {x:Nat}:zZ (t++x::r)=false->(∀y∈t,y∈oQ)->x∉oQ->x∉jV->FB (t++x::r) [] (x::r)
 |nl {t r l r1 r':LN} {bs:iK}:zZ (t++r)=false->(∀y∈t,y∈oQ)->LB r l r1->FB r1 bs r'->FB (t++r) (l::bs) r'
noncomputable def jw(l:iK):MO:=.list<|l.map .str
def lK{l:iK}{x:LN}:MO.list (l.map .str++[.str x])=jw (l++[x]):=by unfold jw;rw[bJ];rfl
def qM{l m:iK}:MO.list (l.map .str++m.map .str)=jw (l++m):=by unfold jw;rw[bJ]
def Fc{t:LN}(h:∀y∈t,y∈oQ):∀y∈t,decide (y∈oQ)=true/\y∉jV:=λy m=>⟨az<|h y m,(by decide:∀y∈oQ,y∉jV) y<|h y m⟩
def cIn(l:LN)(c:Nat)(H:MH):sW .In (.str [c]) (.str l) H=some (decide<|c∈l):=rfl
abbrev lFB:IS:=ye g9.ib 1
def RE{Q:QF}{iC:Nat}{v1 v2:MV}{r r':LN}{bs:iK}(hr:FB r bs r')(hC:H0.n<=iC)(ho:Own s0 iC):∀(s:PS) (H:MH) (c:Nat) (cs:iK) (v4:nF),SF p s0 H0 s H gv k->Ps s.gA s.pos r c->H.at_ iC=some (jw cs)->cs.length+r.length<=s.gA.length->
  (∀s' H' c' v4,SF p s0 H0 s' H' gv k->Ps s'.gA s'.pos r' c'->s'.di=s.di->s'.ask=s.ask->H'.at_ iC=some (jw<|cs++bs)->(cs++bs).length+r'.length<=s'.gA.length->Q (.ret<|.ref iC) [some<|.ref p,some v1,some v2,some<|.ref iC,v4] H')->
  LP g9.fm 4 p lFB [some<|.ref p,some v1,some v2,some<|.ref iC,v4] H Q:=by
 induction hr with
 |@stop t r x hd ht hx hb=>intro s H c cs v4 A P C hl hq;refine LW.turn (fs:=gZ s) (λw=>⟨A.sc.obj,rfl⟩)<|kH (m:=3) A.sc.R.obj<|Hx (j:=4) A.sc.R.obj A.sc.R.z P rfl hd ?_;refine zb (ok:=λy=>decide<|y∈oQ) rfl (cIn oQ) (au hx) t s H c A P (Fc ht) λs1 H1 a1 P1 d1 k1 u1=>⟨a1.sc.obj,rfl,gM a1 P1<|dF hb ?_⟩;refine hq s1 H1 _ _ a1 P1 d1 k1 (by rw[bf];exact u1.lst A.sc C<|ho.to A.fr.same) ?_;rw[bf,u1.fr.same.gA];rw[aT]at hl;lia
 |@nl t r l r1 r' bs hd ht hl hr ih=>
  intro s H c cs v4 A P C hz hq;obtain⟨x,rr,er,hb⟩:=hl.ne;have ll:=hl.len;subst er;have hx:x∉oQ:=(by decide:∀x∈jV,x∉oQ) x hb;refine LW.turn (fs:=gZ s) (λw=>⟨A.sc.obj,rfl⟩)<|kH (m:=3) A.sc.R.obj<|Hx (j:=4) A.sc.R.obj A.sc.R.z P rfl hd ?_;refine zb (ok:=λy=>decide<|y∈oQ) rfl (cIn oQ) (au hx) t s H c A P (Fc ht) λs1 H1 a1 P1 d1 k1 u1=>⟨a1.sc.obj,rfl,gM a1 P1<|dT hb ?_⟩;have C1:=u1.lst A.sc C<|ho.to A.fr.same;refine⟨nB C1,t7 a1 P1 hl λs2 H2 a2 P2 d2 k2 u2=>?_⟩;have C2:=u2.lst a1.sc C1<|ho.to a1.fr.same;have a3:=a2.putL C2 hC ho<|cs.map .str++[.str l];have lb:=A.sc.R.obj.len;rw[aT]at hz;refine rJ C2 ⟨by rw[aV];omega,a3.sc.obj,ih s2 _ _ (cs++[l]) _ a3 P2 (gB.trans<|aq some lK) ?_ λs' H' c' v4 a' P' d' k' C' l'=>hq s' H' c' v4 a' P' (d'.trans<|d2.trans d1) (k'.trans<|k2.trans k1) ?_ ?_⟩
  ·rw[aT,aY,u2.fr.same.gA,u1.fr.same.gA];omega
  ·rw[C',aW];rfl
  ·rw[aW]at l';exact l'
theorem UA{Q:se}{H:MH}{s:PS}{v1 v2:MV}{r r':LN}{c:Nat}{bs:iK}(A:SF p s0 H0 s H gv k)(P:Ps s.gA s.pos r c)(hr:FB r bs r')
  (hq:∀s' H' c' i,SF p s0 H0 s' H' gv k->Ps s'.gA s'.pos r' c'->S3 p s H s' H' gv k (H.n<=i->H'.at_ i=some (jw bs)->Q (.ref i) (gZ s') H')):SC (n+5) 1236 p 1521 [v1,v2] [] [] H Q:=by
 have B:=SF.refl A.sc;have a1:=B.new<|.list [];refine nM (lv:=4) g9 rfl A.sc.obj ⟨a1.sc.obj,RE hr (aD _) (Own.new A.sc<|aD _) s _ c [] none a1 P gz ?_ λs' H' c' v4 a' P' d' k' C' l'=>⟨a'.sc.obj,rfl,hq s' H' c' H.n (A.then a') P' d' k' a' (aD _) C'⟩⟩;have:=aq length P.d;rw[cy]at this;rw[aZ];omega
noncomputable def gap(l:LN)(bs:iK):iK:=if l=[10]then(if bs=[]then[[32]]else[])else[l]
def Ci{l:LN}{bs:iK}:(gap l bs).length<=1:=by
 unfold gap;split
 ·split<;>simp
 ·simp
def FB.len{r r':LN}{bs:iK}(h:FB r bs r'):bs.length+r'.length<=r.length:=by
 induction h with
 |stop=>simp
 |nl _ _ hl _ ih=>have:=hl.len.1;simp only[aT,aU];lia
def Ps.len{b:LN}{q:P4}{r:LN}{c:Nat}(h:Ps b q r c):r.length<=b.length:=by have:=aq length h.d;rw[cy]at this;omega
abbrev Xn:IS:=gU.ib
variable{v1 v2:MV}{r1 r' l:LN}{bs:iK}
theorem DP(A:SF p s0 H0 s H gv k)(P:Ps s.gA s.pos (t++x::r) c)(ht:∀y∈t,y∈oQ)(hx:x∉oQ)
  (K:∀s2 H2 c2,SF p s H s2 H2 gv k->Ps s2.gA s2.pos (x::r) c2->s2.di=s.di->s2.ask=s.ask->H2.at_ H.n=some (.list [])->t.length<gP->run 394 (CK gU.fm 5 1521 p Q) [iT Xn 6] ⟨[(6,.str [x]),(5,.str t)],[some<|.ref p,some v1,some v2,some<|.ref H.n,some<|.int t.length,none,none,none,none],[],gZ s2,H2⟩):SC (n+6) 1229 p 1521 [v1,v2] [] [] H Q:=by
 have a1:=(SF.refl A.sc).new<|.list [];refine nM (lv:=5) gU rfl A.sc.obj ⟨a1.sc.obj,wC (ok:=λx=>decide<|x∈oQ) (by decide) a1.sc.R.obj (λz z=>rfl) (au hx) t 0 _ _ rfl rfl rfl P.d (λy e=>az<|ht y e)<|rlN rfl [some<|.ref p,some v1,some v2,some<|.ref H.n,some<|.int t.length,none,none,none,none] (by rw[bQ];rfl) a1.sc.obj rfl<|kH (m:=t.length) a1.sc.R.obj ?_⟩;rw[show(s.gA.drop s.pos.iU).take t.length=t from Be P.d];exact z5 a1 P (λy m=>(Fc ht y m).2) λs2 H2 a2 P2 d2 k2 u2=>gM a2 P2<|K s2 H2 _ a2 P2 d2 k2 (u2.lst a1.sc gz<|(Own.new A.sc<|aD _).to a1.fr.same)<|MG A.sc.R.obj.len P.d
def Fd(A:SF p s0 H0 s H gv k)(P:Ps s.gA s.pos (t++x::r) c)(ht:∀y∈t,y∈oQ)(hx:x∉oQ)(hb:x∉jV)(h0:x≠0)
  (hq:∀s' H' c' i,SF p s0 H0 s' H' gv k->Ps s'.gA s'.pos (x::r) c'->S3 p s H s' H' gv k (H.n<=i->H'.at_ i=some (jw [t])->Q (.ref i) (gZ s') H')):SC (n+6) 1229 p 1521 [v1,v2] [] [] H Q:=by
 refine DP A P ht hx λs2 H2 c2 a2 P2 d2 k2 C2 z=>sF h0<|dF hb ⟨nB C2,?_⟩;have a3:=a2.putL C2 (aD _) (Own.new A.sc<|aD _) [.str t];exact rJ C2 ⟨by decide,a3.sc.obj,hq s2 _ c2 H.n (A.then a3) P2 d2 k2 a3 (aD _) gB⟩
theorem Fe(A:SF p s0 H0 s H gv k)(P:Ps s.gA s.pos (t++r) c)(ht:∀y∈t,y∈oQ)(hl:LB r l r1)(hf:FB r1 bs r')
  (hq:∀s' H' c' i,SF p s0 H0 s' H' gv k->Ps s'.gA s'.pos r' c'->S3 p s H s' H' gv k (H.n<=i->H'.at_ i=some (jw<|gap l bs++bs)->Q (.ref i) (gZ s') H')):SC (n+6) 1229 p 1521 [v1,v2] [] [] H Q:=by
 have b0:=A.sc.R.obj.len;have p0:=P.len;have l1:=hl.len;have l2:=hf.len;rw[aT]at p0;obtain⟨x,rr,er,hb⟩:=hl.ne;subst er;have ow:=Own.new A.sc<|aD H.n;refine DP A P ht ((by decide:∀x∈jV,x∉oQ) x hb) λs2 H2 c2 a2 P2 d2 k2 C2 z=>sF (λe=>(by decide:0∉jV)<|e▸hb)<|dT hb<|t7 a2 P2 hl λs3 H3 a3 P3 d3 k3 u3=>UA a3 P3 hf λs4 H4 c4 i a4 P4 d4 k4 u4 hi C4=>?_;have C3:=u3.lst a2.sc C2<|ow.to a2.fr.same;have D4:=u4.lst a3.sc C3<|ow.to a3.fr.same;have ni:i≠H.n:=λe=>by have:=a3.sc.R.hw _ _ C3;rw[<-e]at this;exact bI _<|aL this hi
 have K:∀H5,SF p s H s4 H5 gv k->H5.at_ H.n=some (jw<|gap l bs)->H5.at_ i=some (jw bs)->run 391 (CK gU.fm 5 1521 p Q) [iT (rC<|hdI<|elI<|ye Xn 6) 3,iT Xn 7] ⟨[],[some<|.ref p,some v1,some v2,some<|.ref H.n,some<|.int t.length,some<|.str t,some<|.str [x],some<|.str l,some<|.ref i],[],gZ s4,H5⟩:=λH5 a5 C5 B5=>by have a6:=a5.putL C5 (aD _) ow<|(gap l bs).map .str++bs.map .str;refine⟨nB C5,JX C5 B5 ⟨?_,a6.sc.obj,hq _ _ c4 H.n (A.then a6) P4 (d4.trans<|d3.trans d2) (k4.trans<|k3.trans k2) a6 (aD _)<|gB.trans<|aq some qM⟩⟩;rw[aV,aV];have:=Ci (l:=l) (bs:=bs);have:gP=1000000:=rfl;lia
 have a4':=(a2.then u3).then u4;have P':∀y,gap l bs=[y]->_:=λy e=>K (H4.put H.n<|.list [.str y]) (a4'.putL D4 (aD _) ow [.str y]) (gB.trans<|by rw[e];rfl)<|(gD ni).trans C4;by_cases b1:l=[10]
 ·refine AF b1<|uL C4 ?_;induction bs with
  |nil=>exact⟨nB D4,rJ D4 ⟨by decide,(a4'.putL D4 (aD _) ow [.str [32]]).sc.obj,P' [32]<|aF b1⟩⟩
  |cons y ys=>exact K _ a4' (by rw[show gap l (y::ys)=[]from aF b1];exact D4) C4
 ·exact AG b1 ⟨nB D4,rJ D4 ⟨by decide,(a4'.putL D4 (aD _) ow [.str l]).sc.obj,P' l<|aE b1⟩⟩
noncomputable abbrev qc(d:Bool):Nat:=cond d 34 39
def Ord(t:LN):Prop:=∀x∈t,x∉wD
inductive QR(d:Bool):LN->LN->LN->Prop
 |fin {t r:LN} {y:Nat}:Ord t->(d=false->y≠39)->QR d (t++qc d::y::r) t (qc d::y::r)
 |two {t r v e:LN}:Ord t->d=false->QR d r v e->QR d (t++39::39::r) (t++39::v) e
 |Yv {t r v e:LN} {x:Nat}:Ord t->((d=true/\x=39)∨(d=false/\(x=34∨x=92)))->QR d r v e->QR d (t++x::r) (t++x::v) e
 |Yw {t r v e:LN} {x y:Nat}:Ord t->d=true->x∉jV->jQ [x] zJ=some (.str [y])->QR d r v e->QR d (t++92::x::r) (t++y::v) e
 |hex {t r v e:LN}:Ord t->d=true->QR d r v e->QR d (t++92::120::101::57::r) (t++233::v) e
 |enl {t r l r1 r2 v e:LN} {bs:iK}:Ord t->d=true->LB r l r1->FB r1 bs r2->QR d r2 v e->QR d (t++92::r) (t++(bs.flatten++v)) e
 |sp {t w r v e:LN} {x:Nat}:Ord t->w≠[]->(∀y∈w,y∈oQ)->x∉oQ->x∉jV->x≠0->QR d (x::r) v e->QR d (t++(w++x::r)) (t++(w++v)) e
 |fold {t w r l r1 r2 v e:LN} {bs:iK}:Ord t->(∀y∈w,y∈oQ)->LB r l r1->FB r1 bs r2->QR d r2 v e->QR d (t++(w++r)) (t++((gap l bs++bs).flatten++v)) e
inductive QS(d:Bool):LN->LN->LN->Prop
 |fin {r:LN} {y:Nat}:QS d (qc d::y::r) []<|qc d::y::r
 |sp {w r v e:LN} {x:Nat}:w≠[]->(∀y∈w,y∈oQ)->x∉oQ->x∉jV->x≠0->QR d (x::r) v e->QS d (w++x::r) (w++v) e
 |fold {w r l r1 r2 v e:LN} {bs:iK}:(∀y∈w,y∈oQ)->LB r l r1->FB r1 bs r2->QR d r2 v e->QS d (w++r) ((gap l bs++bs).flatten++v) e
def QR.ord{d:Bool}{x:Nat}{r v e:LN}(hx:x∉wD)(h:QR d r v e):QR d (x::r) (x::v) e:=by
 have o:∀{t},Ord t->Ord (x::t):=λh y m=>(ao.mp m).elim (λe=>e▸hx)<|h y;induction h with
 |fin a b=>exact .fin (o a) b
 |two a b c=>exact .two (o a) b c
 |Yv a b c=>exact .Yv (o a) b c
 |Yw a b c f g=>exact .Yw (o a) b c f g
 |hex a b c=>exact .hex (o a) b c
 |enl a b c f g=>exact .enl (o a) b c f g
 |sp a b c f g i j=>exact .sp (o a) b c f g i j
 |fold a b c f g=>exact .fold (o a) b c f g
noncomputable def one(t:LN):iK:=match t with|[]=>[]|_=>[t]
def wF(t:LN):(one t).flatten=t:=by cases t<;>simp[one]
def MK{t:LN}(h:t≠[]):one t=[t]:=by cases t with|nil=>exact aG rfl h|cons=>rfl
def qm(t:LN):(one t).length<=t.length:=by cases t<;>simp[one]
abbrev lNS:IS:=ye gF.ib 1
variable{d:Bool}
theorem pN{Q:QF}{H:MH}{s:PS}{iC x:Nat}{t r:LN}{cs:iK}{v4 v5 v6 v7:nF}(hC:H0.n<=iC)(ho:Own s0 iC)(A:SF p s0 H0 s H gv k)(P:Ps s.gA s.pos (t++x::r) c)(C:H.at_ iC=some (jw cs))(hl:cs.length<100000)(ht:Ord t)(hx:x∈wD)
  (K:∀m s2 H2 c2,SF p s0 H0 s2 H2 gv k->Ps s2.gA s2.pos (x::r) c2->s2.di=s.di->s2.ask=s.ask->Up H H2->s2.gA=s.gA->H2.at_ iC=some (jw<|cs++one t)->run (m+100) (lcX gF.fm 5 p lNS Q) [iT (rC lNS) 4] ⟨[(5,.str [x])],[some<|.ref p,some<|.bool d,some v2,some<|.ref iC,some<|.int (t.length:Nat),v5,v6,v7],[],gZ s2,H2⟩):
  LP gF.fm 5 p lNS [some<|.ref p,some<|.bool d,some v2,some<|.ref iC,v4,v5,v6,v7] H Q:=by
 refine LW.turn (fs:=gZ s) (λy=>⟨A.sc.obj,rfl⟩)<|wC (ok:=λx=>!decide (x∈wD)) (by decide) A.sc.R.obj (λy y=>rfl) (by rw[az hx];rfl) t 0 _ _ rfl rfl rfl P.d (λx m=>aq not<|au<|ht x m)<|rlN rfl [some<|.ref p,some<|.bool d,some v2,some<|.ref iC,some<|.int (t.length:Nat),v5,v6,v7] (by rw[bQ];rfl) A.sc.obj rfl ?_;by_cases h:t=[]
 ·subst h;exact gM A P<|K 296 s H c A P rfl rfl .refl rfl<|by rw[show cs++one []=cs from bf _];exact C
 ·have e1:=MK h;refine cT (nzN λe=>h<|bH.mp e) ⟨nB C,kH (m:=t.length) A.sc.R.obj ?_⟩;rw[show(s.gA.drop s.pos.iU).take t.length=t from Be P.d];have a2:=A.putL C hC ho<|cs.map .str++[.str t];refine rJ C ⟨by rw[aV];exact aK hl (by decide),a2.sc.obj,z5 a2 P (λz m b=>(ht z m)<|(by decide:∀z∈jV,z∈wD) z b) λs3 H3 a3 P3 d3 k3 u3=>gM a3 P3<|K 295 s3 H3 _ a3 P3 d3 k3 ((Up.putL C).trans<|u3.up a2.sc) u3.fr.same.gA ?_⟩;rw[e1];exact u3.lst a2.sc (gB.trans<|aq some lK)<|ho.to a2.fr.same
def QR.ne{d:Bool}{r v e:LN}(h:QR d r v e):∃x r',r=x::r':=by
 have:r≠[]:=by
  induction h with
  |fold _ _ hl _ _=>obtain⟨x,r',rfl,_⟩:=hl.ne;simp
  |_=>simp
 induction r with
 |nil=>exact aG rfl this
 |cons x r=>exact⟨x,r,rfl⟩
def ML{x:Nat}(h:x∈jV):jQ [x] zJ=none/\jQ [x] E4=none:=(by decide:∀x∈jV,jQ [x] zJ=none/\jQ [x] E4=none) x h
def NSK(p:Nat)(s0:PS)(H0:MH)(gv:gV)(k:qb)(d:Bool)(v2:MV)(Q:QF)(iC M:Nat)(e:LN)(s:PS)(H:MH)(cs:iK)(v:LN):Prop:=∀s' H' c' cs' r' v' v4 v5 v6 v7,SF p s0 H0 s' H' gv k->Ps s'.gA s'.pos r' c'->s'.di=s.di->s'.ask=s.ask->Up H H'->H'.at_ iC=some (jw cs')->cs'.flatten++v'=cs.flatten++v->QS d r' v' e->cs'.length+r'.length<=M->
   Q (.ret<|.ref iC) [some<|.ref p,some<|.bool d,some v2,some<|.ref iC,v4,v5,v6,v7] H'
def NSK.go{Q:QF}{iC M:Nat}{e v v1:LN}{s s1:PS}{H H1:MH}{cs cs1:iK}(hq:NSK p s0 H0 gv k d v2 Q iC M e s H cs v)(dd:s1.di=s.di)(kk:s1.ask=s.ask)(U:Up H H1)(e1:cs1.flatten++v1=cs.flatten++v):NSK p s0 H0 gv k d v2 Q iC M e s1 H1 cs1 v1:=λs' H' c' cs' r' v' z z z z a' P' d' k' U' C' e' q' l'=>hq s' H' c' cs' r' v' _ _ _ _ a' P' (d'.trans dd) (k'.trans kk) (U.trans U') C' (e'.trans e1) q' l'
def NSG(p:Nat)(s0:PS)(H0:MH)(gv:gV)(k:qb)(d:Bool)(v2:MV)(Q:QF)(iC M:Nat)(r v e:LN):Prop:=∀(s:PS) (H:MH) (c:Nat) (cs:iK) (v4 v5 v6 v7:nF),SF p s0 H0 s H gv k->Ps s.gA s.pos r c->H.at_ iC=some (jw cs)->cs.length+r.length<=M->
  NSK p s0 H0 gv k d v2 Q iC M e s H cs v->
  LP gF.fm 5 p lNS [some<|.ref p,some<|.bool d,some v2,some<|.ref iC,v4,v5,v6,v7] H Q
def Jl{cs o t R b r M:Nat}(h:cs+(t+R)<=M)(ol:o<=t)(hR:b+r<=R):cs+o+b+r<=M:=aa (dH<|by rw[dZ,dZ])<|aa (dU (fW ol hR) cs) h
def Ff{cs o t R M:Nat}(h:cs+(t+R)<=M)(ol:o<=t):cs+o+R<=M:=aa (dH<|dZ ..)<|aa (dU (gc ol R) cs) h
def RG{Q:QF}{iC:Nat}{r v e:LN}(hC:H0.n<=iC)(ho:Own s0 iC){M:Nat}(hb:M<2000)(hr:QR d r v e):NSG p s0 H0 gv k d v2 Q iC M r v e:=by
 have flat:∀(cs:iK) (t y v:LN),(cs++one t++[y]).flatten++v=cs.flatten++(t++(y++v)):=λcs t y v=>by rw[bM,bM,wF,d8];simp
 have MM:∀(cs:iK) (t v:LN),(cs++one t).flatten++v=cs.flatten++(t++v):=λcs t v=>by rw[bM,wF];simp
 have lt:∀{cs:iK} {m:Nat},cs.length+m<=M->cs.length<100000:=λh=>ah (fY h)<|aK hb<|by decide
 have Mb:M<gP:=aL hb<|aB<|by rfl
 induction hr with
 |@fin t r y ht hy=>
  intro s H c cs v4 v5 v6 v7 A P C hl hq;refine pN hC ho A P C (lt hl) ht (by cases d<;>decide) λm s2 H2 c2 a2 P2 d2 k2 U2 b2 C2=>?_;have fin:∀v4 v5 v6 v7,Q (.ret<|.ref iC) [some<|.ref p,some<|.bool d,some v2,some<|.ref iC,v4,v5,v6,v7] H2:=λv4 v5 v6 v7=>hq s2 H2 c2 _ _ [] _ _ _ _ a2 P2 d2 k2 U2 C2 (by rw[MM,bf]) .fin (by rw[aT]at hl⊢;exact Ff hl<|qm t);induction d with
  |true=>exact fin _ _ _ _
  |false=>exact MI a2 P2<|sF (hy rfl)<|fin _ _ _ _
 |@two t r v e ht hd hr ih=>
  intro s H c cs v4 v5 v6 v7 A P C hl hq;subst hd;obtain⟨x,r,rfl⟩:=hr.ne;refine pN hC ho A P C (lt hl) ht (by decide) λm s2 H2 c2 a2 P2 d2 k2 U2 b2 C2=>?_;refine MI a2 P2 ⟨nB C2,?_⟩;have a3:=a2.putL C2 hC ho<|(cs++one t).map .str++[.str [39]];have ol:=qm t;rw[aT]at hl;refine rJ C2 ⟨?_,a3.sc.obj,z5 (t:=[39,39]) a3 P2 (by decide) λs4 H4 a4 P4 d4 k4 u4=>?_⟩
  ·rw[aV,aT];exact ah (fY<|Ff hl ol) Mb
  refine ih s4 H4 _ (cs++one t++[[39]]) _ _ _ _ a4 P4 (u4.lst a3.sc (gB.trans<|aq some lK)<|ho.to a3.fr.same) ?_<|hq.go (d4.trans d2) (k4.trans k2) ((U2.trans<|Up.putL C2).trans<|u4.up a3.sc) ?_
  ·rw[aT,aT];exact Jl hl ol<|aa (dH<|dK 1 _)<|bX _
  ·exact flat ..
 |@Yv t r v e x ht hx hr ih=>
  intro s H c cs v4 v5 v6 v7 A P C hl hq;obtain⟨y,r,rfl⟩:=hr.ne;have hxq:x∈wD/\x∉jV:=by rcases hx with⟨_,rfl⟩|⟨_,rfl|rfl⟩<;>decide
  refine pN hC ho A P C (lt hl) ht hxq.1 λm s2 H2 c2 a2 P2 d2 k2 U2 b2 C2=>?_;have a3:=a2.putL C2 hC ho<|(cs++one t).map .str++[.str [x]];have ol:=qm t;rw[aT]at hl;have sz:(List.map MV.str<|cs++one t).length<gP:=by rw[aV,aT];exact ah (fY<|Ff hl ol) Mb
  have F:∀s4 H4 c4 v4 v5 v6 v7,SF p s0 H0 s4 H4 gv k->Ps s4.gA s4.pos (y::r) c4->s4.di=s2.di->s4.ask=s2.ask->SF p s2 (H2.put iC<|.list<|(cs++one t).map .str++[.str [x]]) s4 H4 gv k->LP gF.fm 5 p lNS [some<|.ref p,some<|.bool d,some v2,some<|.ref iC,v4,v5,v6,v7] H4 Q:=λs4 H4 c4 v4 v5 v6 v7 a4 P4 d4 k4 u4=>by
   refine ih s4 H4 _ (cs++one t++[[x]]) _ _ _ _ a4 P4 (u4.lst a3.sc (gB.trans<|aq some lK)<|ho.to a3.fr.same) ?_<|hq.go (d4.trans d2) (k4.trans k2) ((U2.trans<|Up.putL C2).trans<|u4.up a3.sc) ?_
   ·rw[aT,aT];exact Jl hl ol<|dH<|dK 1 _
   ·exact flat ..
  rcases hx with⟨rfl,rfl⟩|⟨rfl,rfl|rfl⟩<;>exact⟨nB C2,rJ C2 ⟨sz,a3.sc.obj,jH a3 P2 (by decide) λs4 H4 a4 P4 d4 k4 u4=>F s4 H4 _ _ _ _ _ a4 P4 d4 k4 u4⟩⟩
 |@Yw t r v e x y ht hd hx he hr ih=>
  intro s H c cs v4 v5 v6 v7 A P C hl hq;subst hd;obtain⟨z,r,rfl⟩:=hr.ne;have ol:=qm t;rw[aT]at hl;refine pN hC ho A P C (lt hl) ht (by decide) λm s2 H2 c2 a2 P2 d2 k2 U2 b2 C2=>?_;refine jH a2 P2 (by decide) λs3 H3 a3 P3 d3 k3 u3=>gM a3 P3 ?_;have C3:=u3.lst a2.sc C2<|ho.to a2.fr.same;have a4:=a3.putL C3 hC ho<|(cs++one t).map .str++[.str [y]];refine cT (aq Option.isSome he) ⟨nB C3,yc he<|rJ C3 ⟨?_,a4.sc.obj,jH a4 P3 hx λs5 H5 a5 P5 d5 k5 u5=>?_⟩⟩
  ·rw[aV,aT];exact ah (fY<|Ff hl ol) Mb
  refine ih s5 H5 _ (cs++one t++[[y]]) _ _ _ _ a5 P5 (u5.lst a4.sc (gB.trans<|aq some lK)<|ho.to a4.fr.same) ?_<|hq.go (d5.trans<|d3.trans d2) (k5.trans<|k3.trans k2) (((U2.trans<|u3.up a2.sc).trans<|Up.putL C3).trans<|u5.up a4.sc) ?_
  ·rw[aT,aT];exact Jl hl ol<|aa (dH<|dK 1 _)<|bX _
  ·exact flat ..
 |@hex t r v e ht hd hr ih=>
  intro s H c cs v4 v5 v6 v7 A P C hl hq;subst hd;obtain⟨z,r,rfl⟩:=hr.ne;have ol:=qm t;rw[aT]at hl;refine pN hC ho A P C (lt hl) ht (by decide) λm s2 H2 c2 a2 P2 d2 k2 U2 b2 C2=>?_;refine jH a2 P2 (by decide) λs3 H3 a3 P3 d3 k3 u3=>gM a3 P3<|jH a3 P3 (by decide) λs4 H4 a4 P4 d4 k4 u4=>?_;have C4:=u4.lst a3.sc (u3.lst a2.sc C2<|ho.to a2.fr.same)<|ho.to a3.fr.same;have a5:=a4.putL C4 hC ho<|(cs++one t).map .str++[.str [233]];refine⟨by decide,FW.cons (fs:=gZ s4) (λj=>⟨a4.sc.obj,rfl⟩)<|lV (i:=0) a4.sc.R.obj (wB P4.d)<|FW.cons (fs:=gZ s4) (λj=>⟨a4.sc.obj,rfl⟩)<|lV (i:=1) a4.sc.R.obj (DN (w:=[101]) P4.d)<|FW.nil ?_⟩;refine⟨a4.sc.obj,rfl,kH (m:=2) a4.sc.R.obj ?_⟩;rw[show(s4.gA.drop s4.pos.iU).take 2=[101,57]from Be (w:=[101,57]) P4.d];refine⟨rfl,rfl,nB C4,by decide,rJ C4 ⟨?_,a5.sc.obj,z5 (t:=[101,57]) a5 P4 (by decide) λs6 H6 a6 P6 d6 k6 u6=>?_⟩⟩
  ·rw[aV,aT];exact ah (fY<|Ff hl ol) Mb
  refine ih s6 H6 _ (cs++one t++[[233]]) _ _ _ _ a6 P6 (u6.lst a5.sc (gB.trans<|aq some lK)<|ho.to a5.fr.same) ?_<|hq.go (d6.trans<|d4.trans<|d3.trans d2) (k6.trans<|k4.trans<|k3.trans k2) ((((U2.trans<|u3.up a2.sc).trans<|u4.up a3.sc).trans<|Up.putL C4).trans<|u6.up a5.sc) ?_
  ·rw[aT,aT];exact Jl hl ol<|aa (dH<|dK 1 _)<|aA _ 3
  ·exact flat ..
 |@enl t r l r1 r2 v e bs ht hd hl1 hf hr ih=>
  intro s H c cs v4 v5 v6 v7 A P C hl hq;subst hd;obtain⟨x,rr,er,hbx⟩:=hl1.ne;have q1:=hl1.len;have q2:=hf.len;subst er;have ol:=qm t;rw[aT]at hl;refine pN hC ho A P C (lt hl) ht (by decide) λm s2 H2 c2 a2 P2 d2 k2 U2 b2 C2=>?_;refine jH a2 P2 (by decide) λs3 H3 a3 P3 d3 k3 u3=>gM a3 P3 ?_;have C3:=u3.lst a2.sc C2<|ho.to a2.fr.same;refine cF (aq Option.isSome (ML hbx).1)<|cF (aq Option.isSome (ML hbx).2)<|dT hbx<|t7 a3 P3 hl1 λs4 H4 a4 P4 d4 k4 u4=>⟨nB<|u4.lst a3.sc C3<|ho.to a3.fr.same,UA a4 P4 hf λs5 H5 c5 i a5 P5 d5 k5 u5 hi B5=>?_⟩;have C4:=u4.lst a3.sc C3<|ho.to a3.fr.same;have C5:=u5.lst a4.sc C4<|ho.to a4.fr.same;have a6:=a5.putL C5 hC ho<|(cs++one t).map .str++bs.map .str;refine JX C5 B5 ⟨?_,a6.sc.obj,?_⟩
  ·rw[aV,aV,aT];exact aa (fY<|Jl hl ol<|aa q2<|aa (cA q1.1)<|bX _)<|cA Mb
  refine ih s5 _ _ (cs++one t++bs) _ _ _ _ a6 P5 (gB.trans<|aq some qM) ?_<|hq.go (d5.trans<|d4.trans<|d3.trans d2) (k5.trans<|k4.trans<|k3.trans k2) ((((U2.trans<|u3.up a2.sc).trans<|u4.up a3.sc).trans<|u5.up a4.sc).trans<|Up.putL C5) ?_
  ·rw[aT,aT];exact Jl hl ol<|aa q2<|aa (cA q1.1)<|bX _
  ·rw[bM,bM,wF];simp
 |@sp t w r v e x ht hw hwb hx hxb hx0 hr ih=>
  intro s H c cs v4 v5 v6 v7 A P C hl hq;obtain⟨y,w',rfl⟩:=fV hw;have ol:=qm t;have hy:=hwb y<|.head _;have hyq:y∈wD:=(by decide:∀y∈oQ,y∈wD) y hy;refine pN (r:=w'++x::r) hC ho A P C (lt hl) ht hyq λm s2 H2 c2 a2 P2 d2 k2 U2 b2 C2=>?_;have fin:∀v4 v5 v6 v7,Q (.ret<|.ref iC) [some<|.ref p,some<|.bool d,some v2,some<|.ref iC,v4,v5,v6,v7] H2:=λv4 v5 v6 v7=>hq s2 H2 c2 _ _ _ _ _ _ _ a2 P2 d2 k2 U2 C2 (MM ..) (.sp hw hwb hx hxb hx0 hr) (by rw[aT]at hl;rw[aT (as:=cs)];exact Ff hl ol);have no:y∉[39,34,92]:=(by decide:∀y∈oQ,y∉[39,34,92]) y hy;have n1:y≠39:=λe=>no<|e▸.head _;have n2:y∉[34,92]:=λe=>no<|.tail _ e;have n3:y≠92:=λe=>no<|e▸.tail _ (.tail _<|.head _);induction d with
  |true=>exact sF n1<|sF n3<|fin _ _ _ _
  |false=>exact sF n1<|dF n2<|fin _ _ _ _
 |@fold t w r l r1 r2 v e bs ht hw hl1 hf hr ih=>
  intro s H c cs v4 v5 v6 v7 A P C hl hq;have ol:=qm t;obtain⟨y,w',ew,hy⟩:∃y w',w++r=y::w'/\(y∈oQ∨y∈jV):=by
   induction w with
   |nil=>obtain⟨x,rr,er,hb⟩:=hl1.ne;exact⟨x,rr,er,.inr hb⟩
   |cons y w'=>exact⟨y,w'++r,rfl,.inl<|hw y<|.head _⟩
  have hyq:y∈wD:=hy.elim ((by decide:∀y∈oQ,y∈wD) y)<|(by decide:∀y∈jV,y∈wD) y;have P':Ps s.gA s.pos (t++y::w') c:=ew▸P;refine pN hC ho A P' C (lt hl) ht hyq λm s2 H2 c2 a2 P2 d2 k2 U2 b2 C2=>?_;have fin:∀v4 v5 v6 v7,Q (.ret<|.ref iC) [some<|.ref p,some<|.bool d,some v2,some<|.ref iC,v4,v5,v6,v7] H2:=λv4 v5 v6 v7=>hq s2 H2 c2 _ _ _ _ _ _ _ a2 (ew.symm▸P2) d2 k2 U2 C2 (MM ..) (.fold hw hl1 hf hr) (by rw[aT]at hl;rw[aT (as:=cs)];exact Ff hl ol);have no:y∉[39,34,92]:=hy.elim ((by decide:∀y∈oQ,y∉[39,34,92]) y)<|(by decide:∀y∈jV,y∉[39,34,92]) y;have n1:y≠39:=λe=>no<|e▸.head _;have n2:y∉[34,92]:=λe=>no<|.tail _ e;have n3:y≠92:=λe=>no<|e▸.tail _ (.tail _<|.head _);induction d with
  |true=>exact sF n1<|sF n3<|fin _ _ _ _
  |false=>exact sF n1<|dF n2<|fin _ _ _ _
def wG(l:iK):nY (l.map .str)=some l:=by
 induction l with
 |nil=>rfl
 |cons a l ih=>show(nY<|l.map .str).map (a::·)=_;rw[ih];rfl
def FB.aay{r r':LN}{bs:iK}(h:FB r bs r'):bs.flatten.length+r'.length<=r.length:=by
 induction h with
 |stop=>simp
 |nl _ _ hl _ ih=>have:=hl.len;simp only[aT,cR];lia
def DR{l:LN}{bs:iK}(h:l.length=1):(gap l bs).flatten.length<=1:=by
 unfold gap;split
 ·split<;>simp
 ·simp[h]
def QR.Xo{d:Bool}{r v e:LN}(h:QR d r v e):v.length+e.length<=r.length:=by
 induction h with
 |fin=>simp only[aT,aU];lia
 |two _ _ _ ih=>simp only[aT,aU];omega
 |Yv _ _ _ ih=>simp only[aT,aU];omega
 |Yw _ _ _ _ _ ih=>simp only[aT,aU];omega
 |hex _ _ _ ih=>simp only[aT,aU];omega
 |enl _ _ hl hf _ ih=>have:=hl.len;have:=hf.aay;simp only[aT,aU];lia
 |sp _ _ _ _ _ _ _ ih=>simp only[aT,aU]at ih⊢;lia
 |@fold t w r l r1 r2 v e bs _ _ hl hf _ ih=>have l1:=hl.len;have:=hf.aay;simp only[aT,aU,bM];have:=DR (bs:=bs) l1.2;lia
variable{v e:LN}
theorem MN{Q:se}(A:SF p s0 H0 s H gv k)(P:Ps s.gA s.pos r c)(hb:s.gA.length<2000)(hr:QR d r v e)
  (hq:∀s' H' c' i cs r' v',SF p s0 H0 s' H' gv k->Ps s'.gA s'.pos r' c'->S3 p s H s' H' gv k (H.n<=i->H'.at_ i=some (jw cs)->cs.flatten++v'=v->QS d r' v' e->cs.length+r'.length<=r.length->Q (.ref i) (gZ s') H')):SC (n+6) 1222 p 1521 [.bool d,v2] [] [] H Q:=by
 have B:=SF.refl A.sc;have a1:=B.new<|.list [];refine nM (lv:=5) gF rfl A.sc.obj ⟨a1.sc.obj,RG (M:=r.length) (aD _) (Own.new A.sc<|aD _) (ah P.len hb) hr s _ c [] none none none none a1 P gz (by rw[aZ,bQ];exact aD _) λs' H' c' cs' r' v' v4 v5 v6 v7 a' P' d' k' U' C' e' q' l'=>⟨a'.sc.obj,rfl,hq s' H' c' H.n cs' r' v' (A.then a') P' d' k' a' (aD _) C' (e'.trans<|by simp) q' l'⟩⟩
def QS.head{d:Bool}(h:QS d r v e):(∃y t,r=qc d::y::t/\e=r/\v=[])∨(∃x t,r=x::t/\x≠qc d):=by
 induction h with
 |fin=>exact .inl ⟨_,_,rfl,rfl,rfl⟩
 |@sp w _ _ _ _ hw hb=>
  cases w with
  |nil=>exact aG rfl hw
  |cons y w=>exact .inr ⟨y,_,rfl,λe=>(by decide:∀y∈oQ,y≠39/\y≠34) y (hb y<|.head _)|>λz=>by cases d;exact z.1 e;exact z.2 e⟩
 |@fold w _ _ _ _ _ _ _ hb hl=>
  cases w with
  |nil=>obtain⟨x,rr,er,hx⟩:=hl.ne;exact .inr ⟨x,rr,er,λe=>(by decide:∀y∈jV,y≠39/\y≠34) x hx|>λz=>by cases d;exact z.1 e;exact z.2 e⟩
  |cons y w=>exact .inr ⟨y,_,rfl,λe=>(by decide:∀y∈oQ,y≠39/\y≠34) y (hb y<|.head _)|>λz=>by cases d;exact z.1 e;exact z.2 e⟩
abbrev lFS:IS:=ye gT.ib 6
def FLK(p:Nat)(s0:PS)(H0:MH)(gv:gV)(k:qb)(d:Bool)(v1 v3:MV)(Q:QF)(iC M:Nat)(e:LN)(s:PS)(H:MH)(cs:iK)(v:LN):Prop:=∀s' H' c' cs',SF p s0 H0 s' H' gv k->Ps s'.gA s'.pos e c'->s'.di=s.di->s'.ask=s.ask->Up H H'->H'.at_ iC=some (jw cs')->cs'.flatten=cs.flatten++v->cs'.length<=M->(∃y t,e=qc d::y::t)->
   Q .next [some<|.ref p,some v1,some<|.ref iC,some v3,some<|.str [qc d],none,some<|.bool d] H'
def FLK.go{Q:QF}{v1 v3:MV}{iC M:Nat}{v v':LN}{s s1:PS}{H H1:MH}{cs cs1:iK}(hq:FLK p s0 H0 gv k d v1 v3 Q iC M e s H cs v)(dd:s1.di=s.di)(kk:s1.ask=s.ask)(U:Up H H1)(e1:cs1.flatten++v'=cs.flatten++v):FLK p s0 H0 gv k d v1 v3 Q iC M e s1 H1 cs1 v':=λs' H' c' cs' a' P' d' k' U' C' e' l' y'=>hq s' H' c' cs' a' P' (d'.trans dd) (k'.trans kk) (U.trans U') C' (e'.trans e1) l' y'
def Xp{cs g b c4 r4 r2 r1 r w M:Nat}(hl:cs+(w+r)<=M)(q1:r1<r)(q2:b+r2<=r1)(g1:g<=1)(l4:c4+r4<=r2):cs+(g+b)+c4+r4<=M:=
 aa (dH<|by rw[dZ,dZ,dZ]) (aa (dU (aa (fW g1<|aa (dU l4 b) q2)<|aa (dH<|dK 1 r1)<|aa q1<|aM r w) cs) hl)
def Xq{cs c4 r4 r w M:Nat}(hl:cs+(w+r)<=M)(lw:1<=w)(l4:c4+r4<=r):cs+1+c4+r4<=M:=aa (dH<|by rw[dZ,dZ])<|aa (dU (fW lw l4) cs) hl
def Jm{Q:QF}{iC:Nat}{v1 v3:MV}(hC:H0.n<=iC)(ho:Own s0 iC)(hb:s0.gA.length<2000){M:Nat}(hM:M<2000):∀(N:Nat) (r v:LN),r.length<=N->QS d r v e->∀(s:PS) (H:MH) (c:Nat) (cs:iK),SF p s0 H0 s H gv k->Ps s.gA s.pos r c->H.at_ iC=some (jw cs)->cs.length+r.length<=M->
  FLK p s0 H0 gv k d v1 v3 Q iC M e s H cs v->
  LP gT.fm 6 p lFS [some<|.ref p,some v1,some<|.ref iC,some v3,some<|.str [qc d],none,some<|.bool d] H Q:=by
 have Mb:M<=gP:=aa (cA hM)<|aB<|by rfl
 intro N;induction N with
 |zero=>intro r v hr h;rcases h.head with⟨y,t,rfl,_⟩|⟨y,t,rfl,_⟩<;>exact aG hr (by simp)
 |succ N ih=>
  intro r v hr h s H c cs A P C hl hq;have q0:=h.head;induction h with
  |@fin t y=>refine LW.turn (fs:=gZ s) (λg=>⟨A.sc.obj,rfl⟩)<|gM A P<|Xg rfl ?_;exact hq s H c cs A P rfl rfl .refl C (by rw[bf]) (fY hl) ⟨_,_,rfl⟩
  |@sp w r v _ x hw hwb hx hxb hx0 hqr=>
   obtain⟨y,t,er,hy⟩:∃y t,w++x::r=y::t/\y≠qc d:=q0.elim (λz=>z.elim λy z=>z.elim λt z=>aG (bA.mp z.2.2).1 hw) id;have lw:1<=w.length:=gn λe=>hw<|bH.mp e;simp only[aT,aU]at hr hl;refine LW.turn (fs:=gZ s) (λg=>⟨A.sc.obj,rfl⟩)<|gM A (er▸P)<|Oz hy ⟨nB C,Fd A P hwb hx hxb hx0 λs2 H2 c2 i a2 P2 d2 k2 u2 hi B2=>?_⟩;have C2:=u2.lst A.sc C<|ho.to A.fr.same;have a3:=a2.putL C2 hC ho<|cs.map .str++[w].map .str;refine JX C2 B2 ⟨?_,a3.sc.obj,nB gB,MN a3 P2 (by rw[a2.fr.same.gA];exact hb) hqr λs4 H4 c4 j Xr r4 v4 a4 P4 d4 k4 u4 hj B4 e4 q4 l4=>?_⟩
   ·rw[aV];exact aa (fY<|fY<|Xq hl lw<|dH<|bQ _) Mb
   have C4:=u4.lst a3.sc (gB.trans<|aq some qM)<|ho.to a3.fr.same;have a5:=a4.putL C4 hC ho<|(cs++[w]).map .str++Xr.map .str;simp only[aU]at l4;refine JX C4 B4 ⟨?_,a5.sc.obj,ih r4 v4 (Nat.le_of_succ_le_succ<|aa (dH<|dK r4.length 1)<|aa (fW lw<|aa (aM r4.length _) l4) hr) q4 s4 _ c4 (cs++[w]++Xr) a5 P4 (gB.trans<|aq some qM) ?_<|hq.go (d4.trans d2) (k4.trans k2) ((((u2.up A.sc).trans<|Up.putL C2).trans<|u4.up a3.sc).trans<|Up.putL C4) ?_⟩
   ·rw[aV,aV,aT,aY];exact aa (fY<|Xq hl lw l4) Mb
   ·rw[aT,aT,aY];exact Xq hl lw l4
   ·rw[bM,aW,e4];simp
  |@fold w r l r1 r2 v _ bs hwb hl1 hf hqr=>
   obtain⟨x,rr,exr,hxb⟩:=hl1.ne;have q1:=hl1.len;have q2:=hf.len;have g1:=Ci (l:=l) (bs:=bs);obtain⟨y,t,er,hy⟩:∃y t,w++r=y::t/\y≠qc d:=by
    rcases q0 with⟨y,t,er,ee,ev⟩|z
    ·exfalso;have n:(∀z∈jV,z≠qc d)/\∀z∈oQ,z≠qc d:=by cases d<;>decide
     induction w with
     |nil=>rw[ck,exr]at er;exact n.1 x hxb (cH er).1
     |cons z w=>exact n.2 z (hwb z<|.head _) (cH er).1
    ·exact z
   simp only[aT]at hr hl;refine LW.turn (fs:=gZ s) (λg=>⟨A.sc.obj,rfl⟩)<|gM A (er▸P)<|Oz hy ⟨nB C,Fe A P hwb hl1 hf λs2 H2 c2 i a2 P2 d2 k2 u2 hi B2=>?_⟩;have C2:=u2.lst A.sc C<|ho.to A.fr.same;have a3:=a2.putL C2 hC ho<|cs.map .str++(gap l bs++bs).map .str;refine JX C2 B2 ⟨?_,a3.sc.obj,nB gB,MN a3 P2 (by rw[a2.fr.same.gA];exact hb) hqr λs4 H4 c4 j Xr r4 v4 a4 P4 d4 k4 u4 hj B4 e4 q4 l4=>?_⟩
   ·rw[aV,aV,aT];exact aa (fY<|fY<|Xp hl q1.1 q2 g1<|dH<|bQ _) Mb
   have C4:=u4.lst a3.sc (gB.trans<|aq some qM)<|ho.to a3.fr.same;have a5:=a4.putL C4 hC ho<|(cs++(gap l bs++bs)).map .str++Xr.map .str;refine JX C4 B4 ⟨?_,a5.sc.obj,ih r4 v4 (Nat.le_of_lt_succ<|ah (aa (aa (aM r4.length _) l4)<|aa (aM r2.length _) q2)<|aL q1.1<|aa (aM ..) hr) q4 s4 _ c4 (cs++(gap l bs++bs)++Xr) a5 P4 (gB.trans<|aq some qM) ?_<|hq.go (d4.trans d2) (k4.trans k2) ((((u2.up A.sc).trans<|Up.putL C2).trans<|u4.up a3.sc).trans<|Up.putL C4) ?_⟩
   ·rw[aV,aV,aT,aT];exact aa (fY<|Xp hl q1.1 q2 g1 l4) Mb
   ·rw[aT,aT,aT];exact Xp hl q1.1 q2 g1 l4
   ·rw[bM,aW,e4];simp
def MP(cs:iK):(cs.map length).sum=cs.flatten.length:=by
 induction cs with
 |nil=>rfl
 |cons a cs ih=>rw[cG,List.sum_cons,ih,cR,aT]
def RH{H:MH}{i:Nat}{cs:iK}{v:LN}{Q:QV}(o:H.at_ i=some (jw cs))(e:cs.flatten=v)(l:v.length+cs.length<=gP)(h:Q (.str v) H):Ij .invert (.str []) [.ref i] H Q:=
 kmJ o ⟨rfl,by rw[wG];exact⟨by rw[MP,e];exact l,e▸h⟩⟩
theorem Cj(A:SF p s0 H0 s H gv k)(P:Ps s.gA s.pos (qc d::r) c)(hb:s.gA.length<2000)(hr:QR d r v e)
  (hq:∀s' H' c' u y t,SF p s0 H0 s' H' gv k->e=qc d::y::t->Ps s'.gA s'.pos (y::t) c'->S3 p s H s' H' gv k (jd H' s.gA u ⟨.scalar v<|some [qc d],ix s.gA<|qc d::r,ix s.gA<|y::t⟩->Q u (gZ s') H')):SC (n+7) 1212 p 1521 [.str [qc d]] [] [] H Q:=by
 have B:=SF.refl A.sc;have ow:=Own.new A.sc<|aD H.n;have hnb:qc d∉jV:=by cases d<;>decide
 have lr:=P.len;have ve:=hr.Xo;rw[aU]at lr;obtain⟨x,r,rfl⟩:=hr.ne;have big:gP=1000000:=rfl;simp only[aU]at lr ve;have K:run 399 (CK gT.fm 6 1521 p Q) [Uj gT.ib] ⟨[(6,.bool d)],iQ gT.ns [.ref p,.str [qc d]],[],gZ s,H⟩:=by
  have a1:=B.new<|.list [];refine⟨a1.sc.obj,jU a1 λH2 v2 a2 m2 u2=>gM a2 P<|jH a2 P hnb λs3 H3 a3 P3 d3 k3 u3=>?_⟩;have b3:s3.gA=s.gA:=u3.fr.same.gA;have m3:=(u3.up a2.sc).mark m2;have C3:=u3.lst a2.sc (u2.lst a1.sc gz ow) ow;refine⟨nB C3,MN a3 P3 (by rw[b3];exact hb) hr λs4 H4 c4 i cs r4 v4 a4 P4 d4 k4 u4 hi B4 e4 q4 l4=>?_⟩;have m4:=(u4.up a3.sc).mark m3;have C4:=u4.lst a3.sc C3<|ow.to a3.fr.same;have a5:=a4.putL C4 (aD _) ow<|cs.map .str;have m5:=(Up.putL C4 (o:=.list<|cs.map .str)).mark m4;have b5:s4.gA=s.gA:=u4.fr.same.gA.trans b3;refine JX (xs:=[]) C4 B4 ⟨?_,a5.sc.obj,Jm (M:=r.length+1) (aD _) ow hb (by lia) _ r4 v4 (aD _) q4 s4 _ c4 cs a5 P4 gB (by simpa using l4) λs6 H6 c6 cs6 a6 P6 d6 k6 U6 C6 e6 l6 y6=>?_⟩
  ·rw[aV];simp only[aU]at l4;show 0+cs.length<=_;lia
  obtain⟨y,t,rfl⟩:=y6;have m6:=U6.mark m5;have b6:s6.gA=s.gA:=a6.fr.same.gA;refine⟨a6.sc.obj,rfl,jH a6 P6 hnb λs7 H7 a7 P7 d7 k7 u7=>jU a7 λH8 v8 a8 m8 u8=>?_⟩;have b7:s7.gA=s.gA:=a7.fr.same.gA;have m8':lJ H8 v8 s.gA (ix s.gA<|y::t):=by rw[<-b7,<-a7.ix P7];exact m8
  have m2':lJ H8 v2 s.gA (ix s.gA<|qc d::x::r):=by rw[<-A.ix P];exact(u8.up a7.sc).mark ((u7.up a6.sc).mark m6)
  have C8:=u8.lst a7.sc (u7.lst a6.sc C6<|ow.to a6.fr.same)<|ow.to a7.fr.same;have ev:cs6.flatten=v:=by rw[e6,e4]
  refine⟨trivial,RH C8 ev ?_<|zX ⟨rfl,(a8.new _).sc.obj,hq s7 _ _ _ y t (A.then (a8.new _)) rfl P7 (d7.trans<|d6.trans<|d4.trans d3) (k7.trans<|k6.trans<|k4.trans k3) (a8.new _)<|jd.new (t:=⟨.scalar v<|some [qc d],ix s.gA<|qc d::x::r,ix s.gA<|y::t⟩) a8.sc.R.hw m2' m8'⟩⟩;lia
 refine nM (lv:=6) gT rfl A.sc.obj ?_;cases d<;>exact K
abbrev RI(p:Nat)(s:PS)(H:MH)(gv:gV)(r:LN)(v:LN)(st:Option LN)(re r':LN)(ak:Bool)(C:Nat->Prop)(Q:se):Prop:=
 ∀s' H' c' u k',C c'->SF p s H s' H' (gv++[u]) k'->Ps s'.gA s'.pos r' c'->s'.di=s.di->s'.ask=ak->jd H' s.gA u ⟨.scalar v st,ix s.gA r,ix s.gA re⟩->Q .none (gZ s') H'
def uV(h:Sc p H s gv k)(tl:gv.length<900)(hi:s.indent≠(s.pos.col:Int))(P:Ps s.gA s.pos (qc d::r) c)(hb:s.gA.length<2000)(hr:QR d r v e)
  (hq:∀y t,e=qc d::y::t->RI p s H gv (qc d::r) v (some [qc d]) (y::t) (y::t) false (λz=>True) Q):SC (n+8) 1037 p 1521 [] [q "style"] [.str [qc d]] H Q:=
 AE (lv:=7) iI rfl nK h.obj (DL (.refl h) hi λH1 k1 a1=>⟨nB (a1.ask false).sc.R.tok,Cj (SF.refl (a1.ask false).sc) P hb hr λs3 H3 c3 v3 y t a3 e3 P3 d3 k3 u3 t3=>a3.Xi tl (hq y t e3 _ _ _ _ _ trivial (((a1.ask false).then a3).ap tl v3) P3 d3 k3<|(((SF.refl a3.sc).ap tl v3).up a3.sc).tok t3)⟩)
def yz(h:Sc p H s gv k)(tl:gv.length<900)(hi:s.indent≠(s.pos.col:Int))(P:Ps s.gA s.pos (39::r) c)(hb:s.gA.length<2000)(hr:QR false r v e)
  (hq:∀y t,e=39::y::t->RI p s H gv (39::r) v (some [39]) (y::t) (y::t) false (λz=>True) Q):pW (n+9) 1023 p H Q:=
 nM (lv:=8) lD rfl h.obj (uV (d:=false) h tl hi P hb hr hq)
def yC(h:Sc p H s gv k)(tl:gv.length<900)(hi:s.indent≠(s.pos.col:Int))(P:Ps s.gA s.pos (34::r) c)(hb:s.gA.length<2000)(hr:QR true r v e)
  (hq:∀y t,e=34::y::t->RI p s H gv (34::r) v (some [34]) (y::t) (y::t) false (λz=>True) Q):pW (n+9) 1030 p H Q:=
 nM (lv:=8) lE rfl h.obj (uV (d:=true) h tl hi P hb hr hq)
inductive PB:LN->Nat->iK->LN->Nat->Prop
 |sp {r r':LN} {c c':Nat} {bs:iK}:PB r (c+1) bs r' c'->PB (32::r) c bs r' c'
 |nl {r l r1 r':LN} {c c':Nat} {bs:iK}:LB r l r1->zZ r1=false->PB r1 0 bs r' c'->PB r c (l::bs) r' c'
 |stop {x c:Nat} {r:LN}:x∉32::jV->PB (x::r) c [] (x::r) c
inductive OB:LN->Nat->iK->LN->Nat->Bool->Prop
 |flat {t r:LN} {x c:Nat}:(∀y∈t,y=32)->x≠32->x∉jV->OB (t++x::r) c (one t) (x::r) (c+t.length) false
 |brk {t r l r1 r':LN} {c c':Nat} {bs:iK}:(∀y∈t,y=32)->LB r l r1->zZ r1=false->PB r1 0 bs r' c'->OB (t++r) c (gap l bs++bs) r' c' true
def PB.exn{r r':LN}{c c':Nat}{bs:iK}(h:PB r c bs r' c'):∃x t,r=x::t:=by
 induction h with
 |sp=>exact⟨_,_,rfl⟩
 |nl h=>exact h.ne.elim λx z=>z.elim λt z=>⟨x,t,z.1⟩
 |stop=>exact⟨_,_,rfl⟩
def PB.len{r r':LN}{c c':Nat}{bs:iK}(h:PB r c bs r' c'):bs.length+r'.length<=r.length/\bs.flatten.length+r'.length<=r.length:=by
 induction h with
 |sp _ ih=>exact⟨eG ih.1,eG ih.2⟩
 |nl hl _ _ ih=>exact⟨aa (dH<|Nat.succ_add ..)<|aa (aP ih.1) hl.len.1,by rw[cR,aT,hl.len.2,dZ,dK 1];exact aa (aP ih.2) hl.len.1⟩
 |stop=>simp
abbrev lPB:IS:=ye (rC<|ye gQ.ib 6) 5
abbrev Xs:IS:=gQ.ib
def RJ{Q:QF}{iB iC:Nat}{v1 v2 v4 v5 v6 v7:MV}{xs:gV}{r r':LN}{c c':Nat}{bs:iK}(hr:PB r c bs r' c')(hB:H0.n<=iB)(ho:Own s0 iB)(hoC:Own s0 iC)(ne:iC≠iB){M:Nat}(hM:M<2000):∀(s:PS) (H:MH) (cs:iK) (v8:MV),SF p s0 H0 s H gv k->Ps s.gA s.pos r c->H.at_ iB=some (jw cs)->H.at_ iC=some (.list xs)->cs.length+r.length<=M->
  (∀s' H' v8,SF p s0 H0 s' H' gv k->Up H H'->Ps s'.gA s'.pos r' c'->s'.di=s.di->s'.ask=s.ask->H'.at_ iB=some (jw<|cs++bs)->H'.at_ iC=some (.list xs)->Q .next [some<|.ref p,some v1,some v2,some<|.ref iC,some v4,some v5,some v6,some v7,some v8,some<|.ref iB] H')->
  LP gQ.fm 4 p lPB [some<|.ref p,some v1,some v2,some<|.ref iC,some v4,some v5,some v6,some v7,some v8,some<|.ref iB] H Q:=by
 have sub:∀x∈jV,x∈32::jV/\x≠32:=by decide
 induction hr with
 |@sp r r' c c' bs hr ih=>intro s H cs v8 A P B C hl hq;refine LW.turn (fs:=gZ s) (λy=>⟨A.sc.obj,rfl⟩)<|gM A P<|gM A P ?_;obtain⟨x,t,er⟩:=hr.exn;exact jH A (er▸P) (by decide) λs2 H2 a2 P2 d2 k2 u2=>ih s2 H2 cs v8 a2 (er▸P2) (u2.lst A.sc B<|ho.to A.fr.same) (u2.lst A.sc C<|hoC.to A.fr.same) (by simp only[aU]at hl⊢;lia) λs' H' v8 a' U' P' d' k' B' C'=>hq s' H' v8 a' ((u2.up A.sc).trans U') P' (d'.trans d2) (k'.trans k2) B' C'
 |@nl r l r1 r' c c' bs hl1 hd hr ih=>
  intro s H cs v8 A P B C hl hq;obtain⟨x,t,er,hx⟩:=hl1.ne;have q1:=hl1.len;have P':=er▸P;refine LW.turn (fs:=gZ s) (λy=>⟨A.sc.obj,rfl⟩)<|gM A P'<|dT (sub x hx).1<|gM A P'<|sF (sub x hx).2 ⟨nB B,t7 A P hl1 λs2 H2 a2 P2 d2 k2 u2=>?_⟩;have B2:=u2.lst A.sc B<|ho.to A.fr.same;have a3:=a2.putL B2 hB ho<|cs.map .str++[.str l];refine rJ B2 ⟨?_,a3.sc.obj,kH (m:=3) a3.sc.R.obj<|Hx (j:=8) a3.sc.R.obj a3.sc.R.z P2 rfl hd ?_⟩
  ·rw[aV];have:gP=1000000:=rfl;lia
  exact ih s2 _ (cs++[l]) _ a3 P2 (gB.trans<|aq some lK) ((gD ne).trans<|u2.lst A.sc C<|hoC.to A.fr.same) (by rw[aT,aY];lia) λs' H' v8 a' U' P' d' k' B' C'=>hq s' H' v8 a' (((u2.up A.sc).trans<|Up.putL B2).trans U') P' (d'.trans d2) (k'.trans k2) (by rw[B',aW];rfl) C'
 |@stop x c r hx=>intro s H cs v8 A P B C hl hq;exact LW.turn (fs:=gZ s) (λy=>⟨A.sc.obj,rfl⟩)<|gM A P<|dF hx<|hq s H v8 A .refl P rfl rfl (by rw[bf];exact B) C
theorem DS{c x:Nat}{t r:LN}{H:MH}{s:PS}{v1 v2:MV}{Q:se}(A:SF p s0 H0 s H gv k)(P:Ps s.gA s.pos (t++x::r) c)(ht:∀y∈t,y=32)(hx:x≠32)
  (K:∀s2 H2,SF p s H s2 H2 gv k->Ps s2.gA s2.pos (x::r) (c+t.length)->s2.di=s.di->s2.ask=s.ask->H2.at_ H.n=some (.list [])->t.length<gP->run 394 (CK gQ.fm 4 1521 p Q) [iT Xs 6] ⟨[(6,.str [x]),(5,.str t)],[some<|.ref p,some v1,some v2,some<|.ref H.n,some<|.int t.length,none,none,none,none,none],[],gZ s2,H2⟩):SC (n+5) 1250 p 1521 [v1,v2] [] [] H Q:=by
 have a1:=(SF.refl A.sc).new<|.list [];refine nM (lv:=4) gQ rfl A.sc.obj ⟨a1.sc.obj,wC (ok:=λx=>decide<|x∈[32]) (by decide) a1.sc.R.obj (λz z=>rfl) (au λe=>hx<|aj.mp e) t 0 _ _ rfl rfl rfl P.d (λy e=>az<|aj.mpr<|ht y e)<|rlN rfl [some<|.ref p,some v1,some v2,some<|.ref H.n,some<|.int t.length,none,none,none,none,none] (by rw[bQ];rfl) a1.sc.obj rfl<|kH (m:=t.length) a1.sc.R.obj ?_⟩;rw[show(s.gA.drop s.pos.iU).take t.length=t from Be P.d];exact z5 a1 P (λy m=>(Xl ht y m).2) λs2 H2 a2 P2 d2 k2 u2=>gM a2 P2<|K s2 H2 a2 P2 d2 k2 (u2.lst a1.sc gz<|Own.new A.sc<|aD _)<|MG A.sc.R.obj.len P.d
theorem aaz{c c':Nat}{r r':LN}{sp:iK}{fl:Bool}{H:MH}{s:PS}{v1 v2:MV}{Q:se}(A:SF p s0 H0 s H gv k)(P:Ps s.gA s.pos r c)(hb:s.gA.length<2000)(hr:OB r c sp r' c' fl)
  (hq:∀s' H' i,SF p s0 H0 s' H' gv k->Ps s'.gA s'.pos r' c'->s'.di=s.di->s'.ask=(s.ask||fl)->SF p s H s' H' gv k->H.n<=i->H'.at_ i=some (jw sp)->Q (.ref i) (gZ s') H'):SC (n+5) 1250 p 1521 [v1,v2] [] [] H Q:=by
 have ow:=Own.new A.sc<|aD H.n;induction hr with
 |@flat t r x c ht h32 hbr=>
  refine DS A P ht h32 λs2 H2 a2 P2 d2 k2 C2 l2=>dF hbr ⟨l2,?_⟩;by_cases h:t=[]
  ·subst h;exact hq s2 H2 H.n (A.then a2) P2 d2 (k2.trans (Bool.or_false _).symm) a2 (aD _) C2
  ·have e1:=MK h;have a3:=a2.putL C2 (aD _) ow [.str t];refine cT (by obtain⟨_,_,e⟩:=fV h;rw[e];rfl) ⟨nB C2,rJ C2 ⟨by decide,a3.sc.obj,hq s2 _ H.n (A.then a3) P2 d2 (k2.trans (Bool.or_false _).symm) a3 (aD _)<|by rw[e1];exact gB⟩⟩
 |@brk t r l r1 r' c c' bs ht hl1 hd hpb=>
  obtain⟨x,rr,er,hx⟩:=hl1.ne;have q1:=hl1.len;have q2:=hpb.len;have pl:=P.len;rw[aT]at pl;subst er;refine DS A P ht (λe=>(by decide:32∉jV)<|e▸hx) λs2 H2 a2 P2 d2 k2 C2 l2=>dT hx<|t7 a2 P2 hl1 λs3 H3 a3 P3 d3 k3 u3=>?_;have C3:=u3.lst a2.sc C2<|ow.to a2.fr.same;have a4:=a3.ask true;have u4:=(SF.refl a3.sc).ask true;have C4:=u4.lst a3.sc C3<|ow.to a3.fr.same;refine kH (m:=3) a4.sc.R.obj<|Hx (j:=8) a4.sc.R.obj a4.sc.R.z P3 rfl hd ?_;have a5:=a4.new<|.list [];have C5:=((SF.refl a4.sc).new<|.list []).lst a4.sc C4<|ow.to a4.fr.same;have lI:=a4.fr.kp.n;have oI:=Own.new A.sc lI;have nI:=av<|a4.sc.R.hw _ _ C4;refine⟨a5.sc.obj,RJ (M:=r1.length) hpb lI oI ow nI (by simp only[aU]at q1 pl;omega) _ _ [] _ a5 P3 gz C5 (by rw[aZ,bQ];exact aD _) λs6 H6 v8 a6 U6 P6 d6 k6 B6 C6=>⟨a6.sc.obj,rfl,?_⟩⟩;rw[ck]at B6;have nI':(H3.put p<|.inst 1521<|gZ<|s3.wa true).n≠H.n:=f5 nI;have K:∀H7,SF p s H s6 H7 gv k->H7.at_ H.n=some (jw<|gap l bs)->H7.at_ (H3.put p<|.inst 1521<|gZ<|s3.wa true).n=some (jw bs)->run 387 (CK gQ.fm 4 1521 p Q) [iT (rC<|ye Xs 6) 7,iT Xs 7] ⟨[],[some<|.ref p,some v1,some v2,some<|.ref H.n,some<|.int t.length,some<|.str t,some<|.str [x],some<|.str l,some v8,some<|.ref (H3.put p<|.inst 1521<|gZ<|s3.wa true).n],[],gZ s6,H7⟩:=λH7 a7 C7 B7=>by
   have a8:=a7.putL C7 (aD _) ow<|(gap l bs).map .str++bs.map .str;refine⟨nB C7,JX C7 B7 ⟨?_,a8.sc.obj,hq _ _ H.n (A.then a8) P6 (d6.trans<|d3.trans d2) ?_ a8 (aD _)<|gB.trans<|aq some qM⟩⟩
   ·rw[aV,aV];have:=Ci (l:=l) (bs:=bs);have:gP=1000000:=rfl;simp only[aU]at q1 pl;lia
   ·rw[k6,fq];rfl
  have P':∀y,gap l bs=[y]->_:=λy e=>K (H6.put H.n<|.list [.str y]) (a6.putL C6 (aD _) ow [.str y]) (gB.trans<|by rw[e];rfl)<|(gD nI').trans B6;by_cases b1:l=[10]
  ·refine AF b1<|uL B6 ?_;induction bs with
   |nil=>exact⟨nB C6,rJ C6 ⟨by decide,(a6.putL C6 (aD _) ow [.str [32]]).sc.obj,P' [32]<|aF b1⟩⟩
   |cons y ys=>exact K _ a6 (by rw[show gap l (y::ys)=[]from aF b1];exact C6) B6
  ·exact AG b1 ⟨nB C6,rJ C6 ⟨by decide,(a6.putL C6 (aD _) ow [.str l]).sc.obj,P' l<|aE b1⟩⟩
def wI(x:Nat):LN->Prop
 |[]=>True
 |y::t=>y∉vm/\(y=58->t.headD x∉vm)/\wI x t
inductive PL(ind:Nat):LN->Nat->LN->LN->LN->Nat->Prop
 |last {t r r':LN} {x c c':Nat} {sp:iK}:t≠[]->wI x t->x∈vm->t.head?≠some 35->OB (x::r) (c+t.length) sp r' c' true->sp≠[]->c'<ind->PL ind (t++x::r) c t (x::r) r' c'
 |more {t r r1 v re r':LN} {x c c1 c':Nat} {sp:iK} {fl:Bool}:t≠[]->wI x t->x∈vm->t.head?≠some 35->OB (x::r) (c+t.length) sp r1 c1 fl->sp≠[]->¬c1<ind->PL ind r1 c1 v re r' c'->PL ind (t++x::r) c (t++(sp.flatten++v)) re r' c'
def PL.first{ind c c':Nat}{r v re r':LN}(h:PL ind r c v re r' c'):∃x t,r=x::t/\x≠35:=by
 cases h with
 |last n _ _ DT=>induction v with|nil=>exact aG rfl n|cons y t=>exact⟨y,_,rfl,λe=>DT<|by rw[e];rfl⟩
 |@more t _ _ _ _ _ _ _ _ _ _ _ n _ _ DT=>induction t with|nil=>exact aG rfl n|cons y t=>exact⟨y,_,rfl,λe=>DT<|by rw[e];rfl⟩
def PB.ne{r r':LN}{c c':Nat}{bs:iK}(h:PB r c bs r' c'):r'≠[]:=by
 induction h with
 |sp _ ih=>exact ih
 |nl _ _ _ ih=>exact ih
 |stop=>simp
def OB.len{r r':LN}{c c':Nat}{sp:iK}{fl:Bool}(h:OB r c sp r' c' fl):sp.length+r'.length<=r.length/\sp.flatten.length+r'.length<=r.length/\r'≠[]:=by
 induction h with
 |@flat t r x c=>have:=qm t;rw[wF];simp only[aT,aU];exact⟨by lia,by lia,by simp⟩
 |@brk t r l r1 r' c c' bs _ hl _ hp=>have l1:=hl.len;have l2:=hp.len;have g1:=Ci (l:=l) (bs:=bs);have g2:=DR (bs:=bs) l1.2;simp only[aT,bM];exact⟨by omega,by omega,hp.ne⟩
def PL.Xo{ind c c':Nat}{r v re r':LN}(h:PL ind r c v re r' c'):v.length+re.length<=r.length:=by
 induction h with
 |last=>simp only[aT];lia
 |more _ _ _ _ hs _ _ _ ih=>have:=hs.len;simp only[aT]at ih⊢;lia
abbrev lPl:IS:=ye iO.ib 5
def Jo{s:PS}{H:MH}{Q:QF}{v1 v2 v3 v4 v5:nF}(h:qJ H p s){c:Nat}{r:LN}(hc:c∈vm)(t:LN):∀(n:Nat) (i:Int) (v7:nF),i=n->s.gA.drop (s.pos.iU+n)=t++c::r->wI c t->Q .next [some<|.ref p,v1,v2,v3,v4,v5,some<|.int ((n+t.length:Nat):Int),some<|.str [c]] H->
  LP iO.fm 5 p (ye (rC lPl) 2) [some<|.ref p,v1,v2,v3,v4,v5,some<|.int i,v7] H Q:=by
 induction t with
 |nil=>intro n i v7 ei ht ha hq;subst ei;exact LW.turn (fs:=gZ s) (λz=>⟨h.obj,rfl⟩)<|lV h (wB ht)<|dT hc hq
 |cons x t ih=>
  intro n i v7 ei ht ha hq;subst ei;obtain⟨hx,h58,ha⟩:=ha;refine LW.turn (fs:=gZ s) (λz=>⟨h.obj,rfl⟩)<|lV h (wB ht)<|dF hx ?_;have go:LP iO.fm 5 p (ye (rC lPl) 2) [some<|.ref p,v1,v2,v3,v4,v5,some<|.int<|(n:Int)+1,some<|.str [x]] H Q:=ih (n+1) _ _ rfl (Cg ht) ha (by rw[show n+1+t.length=n+(x::t).length from gh ..];exact hq);by_cases b:x=58
  ·refine sT b ?_;have g:s.gA[s.pos.iU+(n+1)]?=some (t.headD c):=by
    have:=Cg ht;induction t with
    |nil=>exact wB this
    |cons y t=>exact wB this
   exact lV (i:=n+1) h g ⟨by decide,dF (h58 b) go⟩
  ·exact sF b go
def wI.br{x:Nat}{t:LN}(h:wI x t):∀z∈t,z∉jV:=by
 induction t with
 |nil=>exact nofun
 |cons z t ih=>exact λw m=>(ao.mp m).elim (λe=>e▸λb=>h.1<|(by decide:∀z∈jV,z∈vm) _ b)<|ih h.2.2 w
abbrev LPl(p:Nat)(v1 v2 v3 v4 v5 v6 v7:nF)(H:MH)(Q:QF):Prop:=LP iO.fm 5 p lPl [some<|.ref p,v1,v2,v3,v4,v5,v6,v7] H Q
theorem z7{iC iS ind c c':Nat}{v2:MV}{v3 v6 v7:nF}{Q:QF}(hC:H0.n<=iC)(ho:Own s0 iC)(hS:Own s0 iS)(ne:iS≠iC){t r r':LN}{x:Nat}{s:PS}{H:MH}{cs sp Yx:iK}{fl:Bool}(hb:s.gA.length<2000)(ht:t≠[])(hw:wI x t)(hx:x∈vm)(DT:t.head?≠some 35)(hr:OB (x::r) (c+t.length) Yx r' c' fl)(n':Yx≠[])
  (A:SF p s0 H0 s H gv k)(P:Ps s.gA s.pos (t++x::r) c)(LC:H.at_ iC=some (jw cs))(LS:H.at_ iS=some (jw sp))(hl:cs.length+sp.length<10000)
  (hq:∀s' H' v3 i v7,SF p s0 H0 s' H' gv k->Up H H'->s'.gA=s.gA->Ps s'.gA s'.pos r' c'->s'.di=s.di->s'.ask=fl->lJ H' v3 s.gA (ix s.gA<|x::r)->H'.at_ iC=some (jw<|cs++sp++[t])->H0.n<=i->i≠iC->H'.at_ i=some (jw Yx)->
   @Bool.rec (λz=>Prop) (LPl p (some<|.ref iC) (some v2) (some v3) (some<|.int ind) (some<|.ref i) (some<|.int (t.length:Nat)) (some v7) H' Q) (Q .next [some<|.ref p,some<|.ref iC,some v2,some v3,some<|.int ind,some<|.ref i,some<|.int (t.length:Nat),some v7] H') (decide (r'.headD 0=35)||decide (c'<ind))):
  LPl p (some<|.ref iC) (some v2) v3 (some<|.int ind) (some<|.ref iS) v6 v7 H Q:=by
 obtain⟨y,t',et⟩:=fV ht;have Xm:y≠35:=λe=>DT<|by rw[et,e];rfl
 have P0:Ps s.gA s.pos (y::(t'++x::r)) c:=by rw[et]at P;exact P
 have a2:=A.ask false;have u2:=(SF.refl A.sc).ask false;have C2:=u2.lst A.sc LC<|ho.to A.fr.same;have S2:=u2.lst A.sc LS<|hS.to A.fr.same;have a3:=a2.putL C2 hC ho<|cs.map .str++sp.map .str;have a4:=a3.putL gB hC ho<|cs.map .str++sp.map .str++[.str t];have big:gP=1000000:=rfl;have tb:=hw.br;refine LW.turn (fs:=gZ s) (λz=>⟨A.sc.obj,rfl⟩)<|gM A P0<|sF Xm<|Jo A.sc.R.obj hx t 0 _ _ rfl P.d hw<|rlN rfl [some<|.ref p,some<|.ref iC,some v2,v3,some<|.int ind,some<|.ref iS,some<|.int (t.length:Nat),some<|.str [x]] (by rw[bQ]) A.sc.obj rfl<|xF (λe=>ht<|bH.mp e) ⟨nB C2,JX C2 S2 ⟨?_,a3.sc.obj,nB gB,kH (m:=t.length) a3.sc.R.obj ?_⟩⟩
 ·rw[aV,aV];omega
 rw[show((s.wa false).gA.drop (s.wa false).pos.iU).take t.length=t from Be P.d];refine rJ gB ⟨?_,a4.sc.obj,z5 a4 P tb λs5 H5 a5 P5 d5 k5 u5=>jU a5 λH6 v6 a6 m6 u6=>?_⟩
 ·rw[aT,aV,aV];omega
 have b5:s5.gA=s.gA:=u5.fr.same.gA;have C6:=u6.lst a5.sc (u5.lst a4.sc gB<|ho.to a4.fr.same)<|ho.to a5.fr.same;rw[a5.ix P5,b5]at m6;refine aaz a6 P5 (by rw[b5];exact hb) hr λs7 H7 i a7 P7 d7 k7 u7 hi S7=>?_;have b7:s7.gA=s.gA:=u7.fr.same.gA.trans b5;have C7:=u7.lst a6.sc C6<|ho.to a6.fr.same;have ni:i≠iC:=λe=>bI _<|aL (a6.sc.R.hw _ _ C6)<|e▸hi;have U8:Up H H7:=((((u2.up A.sc).trans<|Up.putL C2).trans<|Up.putL gB).trans<|(u5.up a4.sc).trans<|u6.up a5.sc).trans<|u7.up a6.sc;have fin:=hq s7 H7 v6 i (.str [x]) a7 U8 b7 P7 (d7.trans d5) (by rw[k7,k5];cases fl<;>rfl) ((u7.up a6.sc).mark m6) (C7.trans<|by rw[<-bJ,<-List.map_singleton (f:=MV.str),<-bJ];rfl) (aa a6.fr.kp.n hi) ni S7;obtain⟨w,rr,er⟩:=fV hr.len.2.2;have e0:r'.headD 0=w:=by rw[er];rfl
 refine uL1 S7 (aq not<|Xh.trans<|gi.mpr n')<|gM a7 (er▸P7) ?_;rw[e0]at fin;by_cases c35:w=35
 ·rw[az c35,Bool.true_or]at fin;exact sT c35 fin
 ·rw[au c35,eW]at fin;refine sF c35 ?_;have ec:decide ((s7.pos.col:Int)<(ind:Int))=decide (c'<ind):=by rw[P7.c];exact cw.mpr gb
  by_cases hlt:c'<ind
  ·rw[az hlt]at fin ec;exact cT ec fin
  ·rw[au hlt]at fin ec;exact cF ec fin
def Fg{iC ind c c':Nat}{b r v re r':LN}{v2:MV}{Q:QF}(on:∀i,H0.n<=i->Own s0 i)(hC:H0.n<=iC)(hb:b.length<2000){M:Nat}(hM:M<2000)(hp:PL ind r c v re r' c'):
  ∀(s:PS) (H:MH) (cs sp:iK) (iS:Nat) (v3 v6 v7:nF),SF p s0 H0 s H gv k->s.gA=b->Ps s.gA s.pos r c->H.at_ iC=some (jw cs)->H.at_ iS=some (jw sp)->H0.n<=iS->iS≠iC->cs.length+sp.length+r.length<=M->
  (∀s' H' v3 v5 v6 v7 cs',SF p s0 H0 s' H' gv k->Up H H'->Ps s'.gA s'.pos r' c'->s'.di=s.di->s'.ask=true->lJ H' v3 b (ix b re)->H'.at_ iC=some (jw cs')->cs'.flatten=(cs++sp).flatten++v->cs'.length<=M->Q .next [some<|.ref p,some<|.ref iC,some v2,some v3,some<|.int ind,some v5,some v6,some v7] H')->
  LPl p (some<|.ref iC) (some v2) v3 (some<|.int ind) (some<|.ref iS) v6 v7 H Q:=by
 have flat:∀(cs sp:iK) (t:LN),(cs++sp++[t]).flatten=(cs++sp).flatten++t:=λcs sp t=>by rw[bM,d8]
 induction hp with
 |@last t r r' x c c' Yx ht hw hx DT hs n' hc=>intro s H cs sp iS v3 v6 v7 A eb P LC LS hS ne hl hq;refine z7 hC (on _ hC) (on _ hS) ne (by rw[eb];exact hb) ht hw hx DT hs n' A P LC LS (by lia) λs' H' v3 i v7 a' U' b' P' d' k' m' C' hi ni S'=>cT (by rw[az hc,fq])<|hq s' H' v3 _ _ v7 _ a' U' P' d' k' (by rw[eb]at m';exact m') C' (flat ..) ?_;have:t.length≠0:=λe=>ht<|bH.mp e;simp only[aT,aU,aZ]at hl⊢;lia
 |@more t r r1 v re r' x c c1 c' Yx fl ht hw hx DT hs n' hc hp ih=>
  intro s H cs sp iS v3 v6 v7 A eb P LC LS hS ne hl hq;obtain⟨y,tt,er,y35⟩:=hp.first;have sl:=hs.len;have:t.length≠0:=λe=>ht<|bH.mp e;simp only[aT,aU]at hl sl;refine z7 hC (on _ hC) (on _ hS) ne (by rw[eb];exact hb) ht hw hx DT hs n' A P LC LS (by lia) λs' H' v3 i v7 a' U' b' P' d' k' m' C' hi ni S'=>cF (by rw[au hc,Bool.or_false,er];exact au y35) ?_;refine ih s' H' (cs++sp++[t]) Yx i _ _ _ a' (b'.trans eb) P' C' S' hi ni ?_ λs2 H2 v3 v5 v6 v7 cs' a2 U2 P2 d2 k2 m2 C2 e2 l2=>hq s2 H2 v3 v5 v6 v7 cs' a2 (U'.trans U2) P2 (d2.trans d') k2 m2 C2 ?_ l2
  ·simp only[aT,aU,aZ];lia
  ·rw[e2,bM,flat];simp
theorem AJ{ind c c':Nat}{r v re r':LN}{H:MH}{s:PS}{Q:se}(A:SF p s0 H0 s H gv k)(P:Ps s.gA s.pos r c)(hb:s.gA.length<2000)(hi:s.indent+1=(ind:Int))(hp:PL ind r c v re r' c')
  (hq:∀s' H' u,SF p s0 H0 s' H' gv k->Ps s'.gA s'.pos r' c'->s'.di=s.di->s'.ask=true->SF p s H s' H' gv k->jd H' s.gA u ⟨.scalar v none,ix s.gA r,ix s.gA re⟩->Q u (gZ s') H'):pW (n+6) 1243 p H Q:=by
 have a1:=(SF.refl A.sc).new<|.list [];have pl:=P.len;have vl:=hp.Xo;have big:gP=1000000:=rfl;refine nM (lv:=5) iO rfl A.sc.obj ⟨a1.sc.obj,jU a1 λH2 v2 a2 m2 u2=>?_⟩;have L2:=u2.lst a1.sc (gz (o:=.list []))<|Own.new A.sc<|aD _;have a3:=a2.new<|.list [];have L3:=((SF.refl a2.sc).new<|.list []).lst a2.sc L2<|(Own.new A.sc<|aD _).to a2.fr.same;refine⟨a3.sc.obj,LW.cast (show([some<|.ref p,some<|.ref H.n,some v2,some v2,some<|.int<|s.indent+1,some<|.ref H2.n,none,none]:Loc)=[some<|.ref p,some<|.ref H.n,some v2,some v2,some<|.int ind,some<|.ref H2.n,none,none]from by rw[hi]) ?_⟩;refine Fg (M:=r.length) (λi l=>Own.new A.sc l) (aD _) hb (by omega) hp s _ [] [] H2.n _ _ _ a3 rfl P L3 gz a2.fr.kp.n (f5<|av<|a2.sc.R.hw _ _ L2) (by simp) λs4 H4 v3 v5 v6 v7 Xr a4 U4 P4 d4 k4 m4 C4 e4 l4=>⟨a4.sc.obj,rfl,⟨trivial,RH C4 e4 ?_<|Mz ⟨rfl,(a4.new _).sc.obj,?_⟩⟩⟩
 ·show v.length+Xr.length<=gP;lia
 have m2':lJ H4 v2 s.gA (ix s.gA r):=by rw[<-A.ix P];exact U4.mark<|m2.up a2.sc.R.hw
 exact hq s4 _ _ (A.then (a4.new _)) P4 d4 k4 (a4.new _)<|jd.new (t:=⟨.scalar v none,ix s.gA r,ix s.gA re⟩) a4.sc.R.hw m2' m4
def z8{ind c c':Nat}{r v re r':LN}{H:MH}{s:PS}{Q:se}(h:Sc p H s gv k)(tl:gv.length<900)(hn:s.indent≠(s.pos.col:Int))(P:Ps s.gA s.pos r c)(hb:s.gA.length<2000)(hi:s.indent+1=(ind:Int))(hp:PL ind r c v re r' c')
  (hq:RI p s H gv r v none re r' true (λx=>x=c') Q):pW (n+7) 1044 p H Q:=
 nM (lv:=6) lR rfl h.obj (DL (.refl h) hn λH1 k1 a1=>⟨nB (a1.ask false).sc.R.tok,AJ (SF.refl (a1.ask false).sc) P hb hi hp λs3 H3 v3 a3 P3 d3 k3 u3 t3=>a3.Xi tl (hq _ _ _ _ _ rfl (((a1.ask false).then a3).ap tl v3) P3 d3 k3<|(((SF.refl a3.sc).ap tl v3).up a3.sc).tok t3)⟩)
inductive BB(ind:Nat):LN->iK->LN->LN->Nat->Prop
 |stop {t r:LN} {x:Nat}:(∀y∈t,y=32)->t.length<=ind->(x=32->t.length=ind)->x∉jV->BB ind (t++x::r) [] (t++x::r) (x::r) t.length
 |nl {t r l r1 re r':LN} {c':Nat} {bs:iK}:(∀y∈t,y=32)->t.length<=ind->LB r l r1->BB ind r1 bs re r' c'->BB ind (t++r) (l::bs) re r' c'
def BB.len{ind c':Nat}{r re r':LN}{bs:iK}(h:BB ind r bs re r' c'):bs.length+r'.length<=r.length/\bs.flatten.length+r'.length<=r.length/\re.length<=r.length/\r'≠[]:=by
 induction h with
 |stop=>simp
 |@nl t r l r1 _ _ _ _ _ _ hl _ ih=>
  have L:r1.length<(t++r).length:=by rw[aT];exact aL hl.len.1<|aM ..
  exact⟨aa (dH<|Nat.succ_add ..)<|aa (aP ih.1) L,by rw[cR,aT,hl.len.2,dZ,dK 1];exact aa (aP ih.2.1) L,aa ih.2.2.1<|cA L,ih.2.2.2⟩
noncomputable abbrev Xu(j:Nat):IE:=.bop .And<|.cons (.cmp .Lt (.attr (.loc 0) 11)<|.loc j)<|.cons (.cmp .Eq (.nQ (.loc 0) 55 .nil [] .nil)<|.str [32]) .nil
noncomputable abbrev bFw:IS:=.cons (.expr<|.nQ (.loc 0) 75 .nil [] .nil) .nil
theorem DU{f:Fm}{lv j ind x:Nat}{r:LN}{Lc:Loc}{Q:QF}(hs:Lc[0]?=some (some<|.ref p))(hj:Lc[j]?=some (some<|.int ind)):
  ∀(t:LN) (s:PS) (H:MH) (c:Nat),SF p s0 H0 s H gv k->Ps s.gA s.pos (t++x::r) c->(∀y∈t,y=32)->c+t.length<=ind->(x=32->c+t.length=ind)->
   (∀s' H',SF p s0 H0 s' H' gv k->Ps s'.gA s'.pos (x::r) (c+t.length)->S3 p s H s' H' gv k (Q .next Lc H'))->
   LW (zP f (lv+3) p) (Xu j) bFw .nil Lc H Q:=by
 intro t;induction t with
 |nil=>
  intro s H c A P _ hc hx hq;have ec:(decide<|(s.pos.col:Int)<(ind:Int))=decide (c<ind):=by rw[P.c];exact cw.mpr gb
  refine LW.turn (fs:=gZ s) (λw=>⟨A.sc.obj,hs⟩)<|Fb hj ?_;by_cases h:c<ind
  ·rw[az h]at ec;refine cT ec<|gM A P<|sF (λe=>by have:=hx e;simp at this;lia)<|hq s H A P rfl rfl<|SF.refl A.sc
  ·rw[au h]at ec;exact cF ec<|hq s H A P rfl rfl<|SF.refl A.sc
 |cons y t ih=>
  intro s H c A P hy hc hx hq;have ey:=hy y<|.head _;subst ey;simp only[aU]at hc hx;have ec:(decide<|(s.pos.col:Int)<(ind:Int))=true:=by rw[P.c];exact az<|by omega
  refine LW.turn (fs:=gZ s) (λw=>⟨A.sc.obj,hs⟩)<|Fb hj<|cT ec<|gM A P ?_;have next:∀s' H',SF p s0 H0 s' H' gv k->Ps s'.gA s'.pos (t++x::r) (c+1)->s'.di=s.di->s'.ask=s.ask->SF p s H s' H' gv k->LW (zP f (lv+3) p) (Xu j) bFw .nil Lc H' Q:=λs' H' a' P' d' k' u'=>ih s' H' (c+1) a' P' (λz m=>hy z<|.tail _ m) (by omega) (λe=>by have:=hx e;lia) λs2 H2 a2 P2 d2 k2 u2=>hq s2 H2 a2 (by rw[dZ,dK 1]at P2;exact P2) (d2.trans d') (k2.trans k')<|u'.then u2
  induction t with
  |nil=>exact jH A P (by decide) next
  |cons z t=>exact jH A P (by decide) next
abbrev lBB:IS:=ye g6.ib 3
def RK{Q:QF}{iC ind c':Nat}{b r re r':LN}{bs:iK}(hr:BB ind r bs re r' c')(hC:H0.n<=iC)(ho:Own s0 iC){M:Nat}(hM:M<2000):∀(s:PS) (H:MH) (cs:iK) (v3:MV),s.gA=b->SF p s0 H0 s H gv k->Ps s.gA s.pos r 0->H.at_ iC=some (jw cs)->cs.length+r.length<=M->lJ H v3 b (ix b r)->
  (∀s' H' v3,SF p s0 H0 s' H' gv k->Up H H'->Ps s'.gA s'.pos r' c'->s'.di=s.di->s'.ask=s.ask->H'.at_ iC=some (jw<|cs++bs)->lJ H' v3 b (ix b re)->Q .next [some<|.ref p,some<|.int ind,some<|.ref iC,some v3] H')->
  ∀{f:Fm} {lv:Nat} {Lc:Loc} {Qk:QF},Lc[0]?=some (some<|.ref p)->Lc[1]?=some (some<|.int ind)->(∀s' H',SF p s0 H0 s' H' gv k->LP g6.fm 4 p lBB [some<|.ref p,some<|.int ind,some<|.ref iC,some v3] H' Q->Qk .next Lc H')->LW (zP f (lv+3) p) (Xu 1) bFw .nil Lc H Qk:=by
 induction hr with
 |@stop t r x ht hl hx hb=>intro s H cs v3 eb A P C hz m hq f lv Lc Qk hs hj hk;refine DU hs hj t s H 0 A P ht (by lia) (λe=>by have:=hx e;lia) λs2 H2 a2 P2 d2 k2 u2=>hk s2 H2 a2<|LW.turn (fs:=gZ s2) (λz=>⟨a2.sc.obj,rfl⟩)<|gM a2 P2<|dF hb ?_;exact hq s2 H2 v3 a2 (u2.up A.sc) (by rw[bQ]at P2;exact P2) d2 k2 (by rw[bf];exact u2.lst A.sc C<|ho.to A.fr.same)<|(u2.up A.sc).mark m
 |@nl t r l r1 re r' c' bs ht hl hl1 hr ih=>
  intro s H cs v3 eb A P C hz m hq f lv Lc Qk hs hj hk;obtain⟨x,rr,er,hbx⟩:=hl1.ne;have q1:=hl1.len;subst er;have n32:x≠32:=(by decide:∀x∈jV,x≠32) x hbx;rw[aT]at hz;refine DU hs hj t s H 0 A P ht (by lia) (λe=>aG e n32) λs2 H2 a2 P2 d2 k2 u2=>hk s2 H2 a2<|LW.turn (fs:=gZ s2) (λz=>⟨a2.sc.obj,rfl⟩)<|gM a2 P2<|dT hbx ?_;have C2:=u2.lst A.sc C<|ho.to A.fr.same;refine⟨nB C2,t7 a2 P2 hl1 λs3 H3 a3 P3 d3 k3 u3=>?_⟩;have C3:=u3.lst a2.sc C2<|ho.to a2.fr.same;have a4:=a3.putL C3 hC ho<|cs.map .str++[.str l];have b3:s3.gA=b:=(u3.fr.same.gA.trans u2.fr.same.gA).trans eb;refine rJ C3 ⟨?_,a4.sc.obj,jU a4 λH5 v5 a5 m5 u5=>?_⟩
  ·rw[aV];have:gP=1000000:=rfl;lia
  rw[a3.ix P3,b3]at m5;refine ih s3 H5 (cs++[l]) v5 b3 a5 P3 (u5.lst a4.sc (gB.trans<|aq some lK)<|ho.to a4.fr.same) (by rw[aT,aY];lia) m5 (λs' H' v3 a' U' P' d' k' C' m'=>hq s' H' v3 a' ((((u2.up A.sc).trans<|u3.up a2.sc).trans<|(Up.putL C3).trans<|u5.up a4.sc).trans U') P' (d'.trans<|d3.trans d2) (k'.trans<|k3.trans k2) (by rw[C',aW];rfl) m') rfl rfl λs' H' a' h=>⟨a'.sc.obj,rfl,h⟩
theorem MQ{ind c':Nat}{r re r':LN}{bs:iK}{H:MH}{s:PS}{Q:se}(A:SF p s0 H0 s H gv k)(P:Ps s.gA s.pos r 0)(hb:s.gA.length<2000)(hr:BB ind r bs re r' c')
  (hq:∀s' H' i v,SF p s0 H0 s' H' gv k->Ps s'.gA s'.pos r' c'->S3 p s H s' H' gv k (H.n<=i->H'.at_ i=some (jw bs)->lJ H' v s.gA (ix s.gA re)->Q (.tup [.ref i,v]) (gZ s') H')):SC (n+5) 1205 p 1521 [.int ind] [] [] H Q:=by
 have a1:=(SF.refl A.sc).new<|.list [];refine nM (lv:=4) g6 rfl A.sc.obj ⟨a1.sc.obj,jU a1 λH2 v2 a2 m2 u2=>?_⟩;have C2:=u2.lst a1.sc (gz (o:=.list []))<|Own.new A.sc<|aD _;rw[A.ix P]at m2;exact RK (b:=s.gA) (M:=r.length) hr (aD H.n) (Own.new A.sc<|aD _) (ah P.len hb) s H2 [] v2 rfl a2 P C2 (by simp) m2 (λs' H' v3 a' U' P' d' k' C' m'=>⟨a'.sc.obj,rfl,hq s' H' H.n v3 (A.then a') P' d' k' a' (aD _) C' m'⟩) rfl rfl λs' H' a' h=>⟨a'.sc.obj,rfl,h⟩
noncomputable def mx(m c:Nat):Nat:=if m<c then c else m
inductive BI:LN->LN->Nat->Nat->iK->LN->LN->Nat->Nat->Prop
 |sp {r0 r re r':LN} {c m c' m':Nat} {bs:iK}:BI r0 r (c+1) (mx m<|c+1) bs re r' c' m'->BI r0 (32::r) c m bs re r' c' m'
 |nl {r0 r l r1 re r':LN} {c m c' m':Nat} {bs:iK}:LB r l r1->BI r1 r1 0 m bs re r' c' m'->BI r0 r c m (l::bs) re r' c' m'
 |stop {r0 r:LN} {x c m:Nat}:x∉32::jV->BI r0 (x::r) c m [] r0 (x::r) c m
def BI.ne{r0 r re r':LN}{c m c' m':Nat}{bs:iK}(h:BI r0 r c m bs re r' c' m'):∃x t,r=x::t:=by
 induction h with
 |sp=>exact⟨_,_,rfl⟩
 |nl h=>exact h.ne.elim λx z=>z.elim λt z=>⟨x,t,z.1⟩
 |stop=>exact⟨_,_,rfl⟩
def BI.len{r0 r re r':LN}{c m c' m':Nat}{bs:iK}(h:BI r0 r c m bs re r' c' m'):bs.length+r'.length<=r.length/\bs.flatten.length+r'.length<=r.length/\r'≠[]:=by
 induction h with
 |sp _ ih=>simp only[aU];exact⟨by omega,by omega,ih.2.2⟩
 |nl hl _ ih=>have:=hl.len;simp only[aU,cR,aT];exact⟨by omega,by omega,ih.2.2⟩
 |stop=>simp
abbrev lBI:IS:=ye gK.ib 3
def RM{Q:QF}{iC c c' m m':Nat}{b r0 r re r':LN}{bs:iK}(hr:BI r0 r c m bs re r' c' m')(hC:H0.n<=iC)(ho:Own s0 iC){M:Nat}(hM:M<2000):∀(s:PS) (H:MH) (cs:iK) (v3:MV),s.gA=b->SF p s0 H0 s H gv k->Ps s.gA s.pos r c->H.at_ iC=some (jw cs)->cs.length+r.length<=M->lJ H v3 b (ix b r0)->
  (∀s' H' v3,SF p s0 H0 s' H' gv k->Up H H'->Ps s'.gA s'.pos r' c'->s'.di=s.di->s'.ask=s.ask->H'.at_ iC=some (jw<|cs++bs)->lJ H' v3 b (ix b re)->Q .next [some<|.ref p,some<|.ref iC,some<|.int (m':Nat),some v3] H')->
  LP gK.fm 4 p lBI [some<|.ref p,some<|.ref iC,some<|.int (m:Nat),some v3] H Q:=by
 have sub:∀x∈jV,x∈32::jV/\x≠32:=by decide
 induction hr with
 |@sp r0 r re r' c m c' m' bs hr ih=>
  intro s H cs v3 eb A P C hz mk hq;obtain⟨x,t,er⟩:=hr.ne;have P:=er▸P;refine LW.turn (fs:=gZ s) (λz=>⟨A.sc.obj,rfl⟩)<|gM A P<|gM A P<|jH A P (by decide) λs2 H2 a2 P2 d2 k2 u2=>?_;have K:∀m1,mx m (c+1)=m1->LP gK.fm 4 p lBI [some<|.ref p,some<|.ref iC,some<|.int (m1:Nat),some v3] H2 Q:=λm1 e=>e▸ih s2 H2 cs v3 (u2.fr.same.gA.trans eb) a2 (er▸P2) (u2.lst A.sc C<|ho.to A.fr.same) (by simp only[aU]at hz⊢;lia) ((u2.up A.sc).mark mk) λs' H' v3 a' U' P' d' k' C' m'=>hq s' H' v3 a' ((u2.up A.sc).trans U') P' (d'.trans d2) (k'.trans k2) C' m';have ec:decide ((s2.pos.col:Int)>(m:Int))=decide (m<c+1):=by rw[P2.c];exact cw.mpr gb
  by_cases h:m<c+1
  ·rw[az h]at ec;exact cT ec<|LW.cast (show([some<|.ref p,some<|.ref iC,some<|.int (s2.pos.col:Nat),some v3]:Loc)=[some<|.ref p,some<|.ref iC,some<|.int (c+1:Nat),some v3]from by rw[P2.c])<|K _<|aF h
  ·rw[au h]at ec;exact cF ec<|K _<|aE h
 |@nl r0 r l r1 re r' c m c' m' bs hl1 hr ih=>
  intro s H cs v3 eb A P C hz mk hq;obtain⟨x,t,er,hx⟩:=hl1.ne;have q1:=hl1.len;have P':=er▸P;refine LW.turn (fs:=gZ s) (λz=>⟨A.sc.obj,rfl⟩)<|gM A P'<|dT (sub x hx).1<|gM A P'<|Oz (sub x hx).2 ⟨nB C,t7 A P hl1 λs2 H2 a2 P2 d2 k2 u2=>?_⟩;have C2:=u2.lst A.sc C<|ho.to A.fr.same;have a3:=a2.putL C2 hC ho<|cs.map .str++[.str l];have b2:s2.gA=b:=u2.fr.same.gA.trans eb;refine rJ C2 ⟨?_,a3.sc.obj,jU a3 λH4 v4 a4 m4 u4=>?_⟩
  ·rw[aV];have:gP=1000000:=rfl;lia
  rw[a2.ix P2,b2]at m4;exact ih s2 H4 (cs++[l]) v4 b2 a4 P2 (u4.lst a3.sc (gB.trans<|aq some lK)<|ho.to a3.fr.same) (by rw[aT,aY];lia) m4 λs' H' v3 a' U' P' d' k' C' m'=>hq s' H' v3 a' (((u2.up A.sc).trans<|(Up.putL C2).trans<|u4.up a3.sc).trans U') P' (d'.trans d2) (k'.trans k2) (by rw[C',aW];rfl) m'
 |@stop r0 r x c m hx=>intro s H cs v3 eb A P C hz mk hq;exact LW.turn (fs:=gZ s) (λz=>⟨A.sc.obj,rfl⟩)<|gM A P<|dF hx<|hq s H v3 A .refl P rfl rfl (by rw[bf];exact C) mk
theorem aaA{c' m':Nat}{r re r':LN}{bs:iK}{H:MH}{s:PS}{Q:se}(A:SF p s0 H0 s H gv k)(P:Ps s.gA s.pos r 0)(hb:s.gA.length<2000)(hr:BI r r 0 0 bs re r' c' m')
  (hq:∀s' H' i v,SF p s0 H0 s' H' gv k->Ps s'.gA s'.pos r' c'->S3 p s H s' H' gv k (H.n<=i->H'.at_ i=some (jw bs)->lJ H' v s.gA (ix s.gA re)->Q (.tup [.ref i,.int (m':Nat),v]) (gZ s') H')):pW (n+5) 1198 p H Q:=by
 have a1:=(SF.refl A.sc).new<|.list [];refine nM (lv:=4) gK rfl A.sc.obj ⟨a1.sc.obj,jU a1 λH2 v2 a2 m2 u2=>?_⟩;have C2:=u2.lst a1.sc (gz (o:=.list []))<|Own.new A.sc<|aD _;rw[A.ix P]at m2;exact RM (b:=s.gA) (M:=r.length) hr (aD H.n) (Own.new A.sc<|aD _) (ah P.len hb) s H2 [] v2 rfl a2 P C2 (by simp) m2 λs' H' v3 a' U' P' d' k' C' m'=>⟨a'.sc.obj,rfl,hq s' H' H.n v3 (A.then a') P' d' k' a' (aD _) C' m'⟩
def Xv{c:Nat}{v1:MV}{r l r1:LN}{H:MH}{s:PS}{Q:se}(A:SF p s0 H0 s H gv k)(P:Ps s.gA s.pos r c)(hl:LB r l r1)
  (hq:∀s' H',SF p s0 H0 s' H' gv k->Ps s'.gA s'.pos r1 0->S3 p s H s' H' gv k (Q .none (gZ s') H')):SC (n+5) 1191 p 1521 [v1] [] [] H Q:=by
 obtain⟨x,t,er,hx⟩:=hl.ne;subst er;have n32:x≠32:=(by decide:∀x∈jV,x≠32) x hx;have Xm:x≠35:=(by decide:∀x∈jV,x≠35) x hx;exact nM (lv:=4) iJ rfl A.sc.obj<|LW.turn (fs:=gZ s) (λz=>⟨A.sc.obj,rfl⟩)<|gM A P<|sF n32 ⟨A.sc.obj,rfl,gM A P<|sF Xm<|gM A P<|Jf ((by decide:∀x∈jV,x∈[0,13,10,133,8232,8233]) x hx)<|t7 A P hl λs2 H2 a2 P2 d2 k2 u2=>hq s2 H2 a2 P2 d2 k2 u2⟩
inductive Hd:LN->Option Bool->Option Nat->Prop
 |no:Hd [] none none
 |c (b:Bool):Hd [cond b 43 45] (some b) none
 |d (b:Bool):Hd [cond b 49 50] none<|some<|cond b 1 2
 |cd (b d:Bool):Hd [cond b 43 45,cond d 49 50] (some b)<|some<|cond d 1 2
 |dc (b d:Bool):Hd [cond d 49 50,cond b 43 45] (some b)<|some<|cond d 1 2
noncomputable def Xw:Option Bool->MV
 |none=>.none
 |some b=>.bool b
noncomputable def onV:Option Nat->MV
 |none=>.none
 |some n=>.int (n:Nat)
def MR:PySem.intText? (gN [49])=some 1:=by kernel_rfl
def MS:PySem.intText? (gN [50])=some 2:=by kernel_rfl
def Xx{c:Nat}{v1:MV}{h r:LN}{ch:Option Bool}{inc:Option Nat}{H:MH}{s:PS}{Q:se}(A:SF p s0 H0 s H gv k)(P:Ps s.gA s.pos (h++10::r) c)(hh:Hd h ch inc)
  (hq:∀s' H',SF p s0 H0 s' H' gv k->Ps s'.gA s'.pos (10::r) (c+h.length)->S3 p s H s' H' gv k (Q (.tup [Xw ch,onV inc]) (gZ s') H')):SC (n+4) 1184 p 1521 [v1] [] [] H Q:=by
 refine nM (lv:=3) iR rfl A.sc.obj ?_;induction hh with
 |no=>exact gM A P<|gM A P<|hq s H A P rfl rfl<|SF.refl A.sc
 |c b=>cases b<;>exact gM A P<|jH A P (by decide) λs2 H2 a2 P2 d2 k2 u2=>gM a2 P2<|gM a2 P2<|hq s2 H2 a2 P2 d2 k2 u2
 |d b=>
  cases b
  ·refine gM A P ⟨by decide,yc MS<|jH A P (by decide) λs2 H2 a2 P2 d2 k2 u2=>gM a2 P2<|gM a2 P2<|hq s2 H2 a2 P2 d2 k2 u2⟩
  ·refine gM A P ⟨by decide,yc MR<|jH A P (by decide) λs2 H2 a2 P2 d2 k2 u2=>gM a2 P2<|gM a2 P2<|hq s2 H2 a2 P2 d2 k2 u2⟩
 |cd b d=>
  have K:∀s3 H3,SF p s0 H0 s3 H3 gv k->Ps s3.gA s3.pos (10::r) (c+2)->s3.di=s.di->s3.ask=s.ask->SF p s H s3 H3 gv k->Q (.tup [.bool b,.int ((cond d 1 2:Nat):Nat)]) (gZ s3) H3:=λs3 H3 a3 P3 d3 k3 u3=>hq s3 H3 a3 P3 d3 k3 u3;cases b<;>cases d
  ·exact gM A P<|jH A P (by decide) λs2 H2 a2 P2 d2 k2 u2=>gM a2 P2 ⟨by decide,yc MS<|jH a2 P2 (by decide) λs3 H3 a3 P3 d3 k3 u3=>gM a3 P3<|K s3 H3 a3 P3 (d3.trans d2) (k3.trans k2)<|u2.then u3⟩
  ·exact gM A P<|jH A P (by decide) λs2 H2 a2 P2 d2 k2 u2=>gM a2 P2 ⟨by decide,yc MR<|jH a2 P2 (by decide) λs3 H3 a3 P3 d3 k3 u3=>gM a3 P3<|K s3 H3 a3 P3 (d3.trans d2) (k3.trans k2)<|u2.then u3⟩
  ·exact gM A P<|jH A P (by decide) λs2 H2 a2 P2 d2 k2 u2=>gM a2 P2 ⟨by decide,yc MS<|jH a2 P2 (by decide) λs3 H3 a3 P3 d3 k3 u3=>gM a3 P3<|K s3 H3 a3 P3 (d3.trans d2) (k3.trans k2)<|u2.then u3⟩
  ·exact gM A P<|jH A P (by decide) λs2 H2 a2 P2 d2 k2 u2=>gM a2 P2 ⟨by decide,yc MR<|jH a2 P2 (by decide) λs3 H3 a3 P3 d3 k3 u3=>gM a3 P3<|K s3 H3 a3 P3 (d3.trans d2) (k3.trans k2)<|u2.then u3⟩
 |dc b d=>
  have K:∀s3 H3,SF p s0 H0 s3 H3 gv k->Ps s3.gA s3.pos (10::r) (c+2)->s3.di=s.di->s3.ask=s.ask->SF p s H s3 H3 gv k->Q (.tup [.bool b,.int ((cond d 1 2:Nat):Nat)]) (gZ s3) H3:=λs3 H3 a3 P3 d3 k3 u3=>hq s3 H3 a3 P3 d3 k3 u3;cases b<;>cases d
  ·exact gM A P ⟨by decide,yc MS<|jH A P (by decide) λs2 H2 a2 P2 d2 k2 u2=>gM a2 P2<|jH a2 P2 (by decide) λs3 H3 a3 P3 d3 k3 u3=>gM a3 P3<|K s3 H3 a3 P3 (d3.trans d2) (k3.trans k2)<|u2.then u3⟩
  ·exact gM A P ⟨by decide,yc MR<|jH A P (by decide) λs2 H2 a2 P2 d2 k2 u2=>gM a2 P2<|jH a2 P2 (by decide) λs3 H3 a3 P3 d3 k3 u3=>gM a3 P3<|K s3 H3 a3 P3 (d3.trans d2) (k3.trans k2)<|u2.then u3⟩
  ·exact gM A P ⟨by decide,yc MS<|jH A P (by decide) λs2 H2 a2 P2 d2 k2 u2=>gM a2 P2<|jH a2 P2 (by decide) λs3 H3 a3 P3 d3 k3 u3=>gM a3 P3<|K s3 H3 a3 P3 (d3.trans d2) (k3.trans k2)<|u2.then u3⟩
  ·exact gM A P ⟨by decide,yc MR<|jH A P (by decide) λs2 H2 a2 P2 d2 k2 u2=>gM a2 P2<|jH a2 P2 (by decide) λs3 H3 a3 P3 d3 k3 u3=>gM a3 P3<|K s3 H3 a3 P3 (d3.trans d2) (k3.trans k2)<|u2.then u3⟩
def xH(fd:Bool)(l:LN)(h x:Nat)(bs:iK):iK:=if fd=true/\l=[10]/\h∉oQ/\x∉oQ then(if bs=[]then[[32]]else[])else[l]
inductive BM(fd:Bool)(ind:Nat):LN->iK->LN->LN->iK->LN->LN->Nat->Prop
 |last {t r0 l r1 JZ r2:LN} {c2:Nat} {bs zc:iK}:t≠[]->(∀y∈t,y∉0::jV)->LB r0 l r1->BB ind r1 zc JZ r2 c2->(c2≠ind∨r2.headD 0=0)->BM fd ind (t++r0) bs (bs.flatten++t) l zc JZ r2 c2
 |more {t r0 l r1 JZ r3 mU l' re' r':LN} {x c':Nat} {bs zc bs':iK}:t≠[]->(∀y∈t,y∉0::jV)->LB r0 l r1->BB ind r1 zc JZ (x::r3) ind->x≠0->BM fd ind (x::r3) zc mU l' bs' re' r' c'->BM fd ind (t++r0) bs (bs.flatten++(t++((xH fd l (t.headD 0) x zc).flatten++mU))) l' bs' re' r' c'
abbrev Xy:IS:=ye gw.ib 10
noncomputable abbrev aaB:LN:=[0,13,10,133,8232,8233]
theorem Bf{iC iB ind z:Nat}{t rr:LN}{v1 v3 v4 v5 v6 v7 v8 v10 v11 yi rO:nF}{Q:QF}{s:PS}{H:MH}{cs bs:iK}(hC:H0.n<=iC)(ho:Own s0 iC)(hoB:Own s0 iB)(ne:iB≠iC)(hb:s.gA.length<2000)(ht:t≠[])(Xz:∀y∈t,y∉0::jV)(hz:z∈jV)(A:SF p s0 H0 s H gv k)(P:Ps s.gA s.pos (t++z::rr) ind)(C:H.at_ iC=some (jw cs))(B:H.at_ iB=some (jw bs))(hl:cs.length+bs.length<10000)
  (K:∀s2 H2,SF p s0 H0 s2 H2 gv k->Ps s2.gA s2.pos (z::rr) (ind+t.length)->s2.di=s.di->s2.ask=s.ask->Up H H2->s2.gA=s.gA->H2.at_ iC=some (jw<|cs++bs++[t])->run 394 (lcX gw.fm 7 p Xy Q) [iT (rC Xy) 6] ⟨[],[some<|.ref p,v1,some<|.ref iC,v3,v4,v5,v6,v7,v8,some<|.int ind,some<|.bool<|!decide (t.headD 0∈oQ),some<|.int (t.length:Nat),some<|.ref iB,yi,rO],[],gZ s2,H2⟩):
  LP gw.fm 7 p Xy [some<|.ref p,v1,some<|.ref iC,v3,v4,v5,v6,v7,v8,some<|.int ind,v10,v11,some<|.ref iB,yi,rO] H Q:=by
 obtain⟨y,t',et⟩:=fV ht;have y0:y≠0:=λe=>Xz y (et▸.head _)<|e▸.head _;have P0:Ps s.gA s.pos (y::(t'++z::rr)) ind:=by rw[et]at P;exact P
 have big:gP=1000000:=rfl;have a2:=A.putL C hC ho<|cs.map .str++bs.map .str;have a3:=a2.putL gB hC ho<|cs.map .str++bs.map .str++[.str t];refine LW.turn (fs:=gZ s) (λw=>⟨A.sc.obj,rfl⟩)<|xT P.c<|gM A P0<|Oz y0 ⟨nB C,JX C B ⟨?_,a2.sc.obj,gM a2 P0 ?_⟩⟩
 ·rw[aV,aV];omega
 refine wC (ok:=λx=>!decide (x∈aaB)) (by decide) a2.sc.R.obj (λw w=>rfl) (aq not<|az<|(by decide:∀z∈jV,z∈aaB) z hz) t 0 _ _ rfl rfl rfl P.d (λx m=>aq not<|au<|Xz x m)<|rlN rfl [some<|.ref p,v1,some<|.ref iC,v3,v4,v5,v6,v7,v8,some<|.int ind,some<|.bool<|!decide (t.headD 0∈oQ),some<|.int (t.length:Nat),some<|.ref iB,yi,rO] (by rw[bQ,et];rfl) a2.sc.obj rfl ⟨nB gB,kH (m:=t.length) a2.sc.R.obj ?_⟩;rw[show(s.gA.drop s.pos.iU).take t.length=t from Be P.d];refine rJ gB ⟨?_,a3.sc.obj,z5 a3 P (λy m h=>Xz y m<|.tail _ h) λs4 H4 a4 P4 d4 k4 u4=>K s4 H4 a4 P4 d4 k4 (((Up.putL C).trans<|Up.putL gB).trans<|u4.up a3.sc) u4.fr.same.gA ?_⟩
 ·rw[aT,aV,aV];omega
 ·exact(u4.lst a3.sc gB<|ho.to a3.fr.same).trans (by rw[<-bJ,<-List.map_singleton (f:=MV.str),<-bJ];rfl)
def XA{c b t R g b2 r2 r1 M:Nat}(hz:c+b+2*(t+R)<=2*M)(q1:r1<R)(q2:b2+r2<=r1)(g1:g<=1):c+b+1+g+b2+2*r2<=2*M:=
 aa (dH<|show _=c+b+(1+g+(b2+2*r2)) by ac_rfl) (aa (dU (aa (fW (dU g1 1)<|aa (gc (Nat.le_mul_of_pos_left b2 (by decide:0<2))<|2*r2)<|aa (dH (Nat.mul_add 2 b2 r2).symm)<|f9 2 q2)<|aa (dH<|dK 2 _)<|f9 2<|aa q1<|aM R t)<|c+b) hz)
def RN{iC ind c':Nat}{fd:Bool}{b r re' r' mU l':LN}{bs bs':iK}{v1 v3 v4 v7 v8 yi:nF}{Q:QF}(on:∀i,H0.n<=i->Own s0 i)(hC:H0.n<=iC)(hb:b.length<2000){M:Nat}(hM:M<2000)(hr:BM fd ind r bs mU l' bs' re' r' c'):
  ∀(s:PS) (H:MH) (cs:iK) (iB:Nat) (v5 v10 v11 rO:nF),s.gA=b->SF p s0 H0 s H gv k->Ps s.gA s.pos r ind->H.at_ iC=some (jw cs)->H.at_ iB=some (jw bs)->H0.n<=iB->iB≠iC->cs.length+bs.length+2*r.length<=2*M->
  (∀s' H' cs' DV v10 v11 rO,SF p s0 H0 s' H' gv k->Up H H'->Ps s'.gA s'.pos r' c'->s'.di=s.di->s'.ask=s.ask->H'.at_ iC=some (jw cs')->cs'.flatten=cs.flatten++mU->cs'.length+bs'.length+2*r'.length<=2*M->H0.n<=DV->DV≠iC->H'.at_ DV=some (jw bs')->lJ H' rO b (ix b re')->Q .next [some<|.ref p,v1,some<|.ref iC,v3,v4,some<|.str l',some<|.bool fd,v7,v8,some<|.int ind,v10,v11,some<|.ref DV,yi,some rO] H')->
  LP gw.fm 7 p Xy [some<|.ref p,v1,some<|.ref iC,v3,v4,v5,some<|.bool fd,v7,v8,some<|.int ind,v10,v11,some<|.ref iB,yi,rO] H Q:=by
 have big:gP=1000000:=rfl;have flat:∀(cs bs:iK) (t:LN),(cs++bs++[t]).flatten=cs.flatten++(bs.flatten++t):=λcs bs t=>by simp
 induction hr with
 |@last t r0 l r1 JZ r2 c2 bs zc ht Xz hl hbb hend=>
  intro s H cs iB v5 v10 v11 rO eb A P C B hB ne hz hq;obtain⟨z,rr,er,hzb⟩:=hl.ne;have q1:=hl.len;have q2:=hbb.len;subst er;rw[aT]at hz;refine Bf hC (on _ hC) (on _ hB) ne (by rw[eb];exact hb) ht Xz hzb A P C B (ah (fY hz)<|ah (f9 2<|cA hM)<|by decide) λs2 H2 a2 P2 d2 k2 U2 b2 C2=>t7 a2 P2 hl λs3 H3 a3 P3 d3 k3 u3=>MQ a3 P3 (by rw[a3.fr.same.gA,<-A.fr.same.gA,eb];exact hb) hbb λs4 H4 i v a4 P4 d4 k4 u4 hi B4 m4=>?_;have b4:s3.gA=b:=u3.fr.same.gA.trans<|b2.trans eb;have C4:=u4.lst a3.sc (u3.lst a2.sc C2<|(on _ hC).to a2.fr.same)<|(on _ hC).to a3.fr.same;have ni:i≠iC:=λe=>bI _<|aL (a3.sc.R.hw _ _<|u3.lst a2.sc C2<|(on _ hC).to a2.fr.same)<|e▸hi;rw[b4]at m4;have fin:∀v10 v11,Q .next [some<|.ref p,v1,some<|.ref iC,v3,v4,some<|.str l,some<|.bool fd,v7,v8,some<|.int ind,v10,v11,some<|.ref i,yi,some v] H4:=λv10 v11=>hq s4 H4 (cs++bs++[t]) i v10 v11 v a4 ((U2.trans<|u3.up a2.sc).trans<|u4.up a3.sc) P4 (d4.trans<|d3.trans d2) (k4.trans<|k3.trans k2) C4 (flat ..) (by rw[aT,aT];exact XA hz q1.1 q2.1<|cg 1) (aa a3.fr.kp.n hi) ni B4 m4;by_cases hc:c2=ind
  ·obtain⟨w,r3,e3⟩:=fV q2.2.2.2;subst e3;have w0:w=0:=hend.elim (λe=>aG hc e) id;exact xT (P4.c.trans hc)<|gM a4 P4<|Xg w0<|fin _ _
  ·exact xF (λe=>hc<|P4.c.symm.trans e)<|fin _ _
 |@more t r0 l r1 JZ r3 mU l' re' r' x c' bs zc bs' ht Xz hl hbb hx hm ih=>
  intro s H cs iB v5 v10 v11 rO eb A P C B hB ne hz hq;obtain⟨z,rr,er,hzb⟩:=hl.ne;have q1:=hl.len;have q2:=hbb.len;subst er;rw[aT]at hz;refine Bf hC (on _ hC) (on _ hB) ne (by rw[eb];exact hb) ht Xz hzb A P C B (ah (fY hz)<|ah (f9 2<|cA hM)<|by decide) λs2 H2 a2 P2 d2 k2 U2 b2 C2=>t7 a2 P2 hl λs3 H3 a3 P3 d3 k3 u3=>MQ a3 P3 (by rw[a3.fr.same.gA,<-A.fr.same.gA,eb];exact hb) hbb λs4 H4 i v a4 P4 d4 k4 u4 hi B4 m4=>xT P4.c<|gM a4 P4<|Oz hx ?_;have b4:s3.gA=b:=u3.fr.same.gA.trans<|b2.trans eb;have C4:=u4.lst a3.sc (u3.lst a2.sc C2<|(on _ hC).to a2.fr.same)<|(on _ hC).to a3.fr.same;have ni:i≠iC:=λe=>bI _<|aL (a3.sc.R.hw _ _<|u3.lst a2.sc C2<|(on _ hC).to a2.fr.same)<|e▸hi;have hi':=aa a3.fr.kp.n hi;have go:∀H5 v10 v11,SF p s0 H0 s4 H5 gv k->Up H4 H5->H5.at_ iC=some (jw<|cs++bs++[t]++xH fd l (t.headD 0) x zc)->H5.at_ i=some (jw zc)->LP gw.fm 7 p Xy [some<|.ref p,v1,some<|.ref iC,v3,v4,some<|.str l,some<|.bool fd,v7,v8,some<|.int ind,v10,v11,some<|.ref i,yi,some v] H5 Q:=λH5 v10 v11 a5 U5 C5 B5=>by
   have sl:(xH fd l (t.headD 0) x zc).length<=1:=by unfold xH;split;split<;>simp;simp
   refine ih s4 H5 _ i _ _ _ _ (u4.fr.same.gA.trans b4) a5 P4 C5 B5 hi' ni ?_ λs' H' cs' DV v10 v11 rO a' U' P' d' k' C' e' l2 XB ne' B' m'=>hq s' H' cs' DV v10 v11 rO a' ((((U2.trans<|u3.up a2.sc).trans<|u4.up a3.sc).trans U5).trans U') P' (d'.trans<|d4.trans<|d3.trans d2) (k'.trans<|k4.trans<|k3.trans k2) C' ?_ l2 XB ne' B' m'
   ·rw[aT,aT,aT];exact XA hz q1.1 q2.1 sl
   ·rw[e',bM,flat];simp
  have sz:(cs++bs++[t]).length<gP:=by rw[aT,aT];exact ah (fY<|fY<|XA hz q1.1 q2.1<|cg 1)<|ah (f9 2<|cA hM)<|aL (by decide:4000<5000)<|aB<|by rfl
  have put:∀y,xH fd l (t.headD 0) x zc=[y]->(List.map MV.str<|cs++bs++[t]).length<gP/\(H4.put iC<|.list<|(cs++bs++[t]).map .str++[.str y]).at_ p=some (.inst 1521<|gZ s4)/\∀v10 v11,LP gw.fm 7 p Xy [some<|.ref p,v1,some<|.ref iC,v3,v4,some<|.str l,some<|.bool fd,v7,v8,some<|.int ind,v10,v11,some<|.ref i,yi,some v] (H4.put iC<|.list<|(cs++bs++[t]).map .str++[.str y]) Q:=λy e=>by have a5:=a4.putL C4 hC (on _ hC)<|(cs++bs++[t]).map .str++[.str y];exact⟨by rw[aV];exact sz,a5.sc.obj,λv10 v11=>go _ v10 v11 a5 (Up.putL C4) (by rw[e];exact gB.trans<|aq some lK)<|(gD ni).trans B4⟩
  by_cases h0:fd=true
  ·refine cT h0 ?_;by_cases h1:l=[10]
   ·refine OA h1 ?_;by_cases h2:t.headD 0∈oQ
    ·have z:=put l<|aE λh=>h.2.2.1 h2;exact cF (aq not<|az h2) ⟨nB C4,rJ C4 ⟨z.1,z.2.1,z.2.2 _ _⟩⟩
    ·refine cT (aq not<|au h2)<|gM a4 P4 ?_;by_cases h3:x∈oQ
     ·have z:=put l<|aE λh=>h.2.2.2 h3;exact Jf h3 ⟨nB C4,rJ C4 ⟨z.1,z.2.1,z.2.2 _ _⟩⟩
     ·have es:xH fd l (t.headD 0) x zc=if zc=[]then[[32]]else[]:=aF ⟨h0,h1,h2,h3⟩;by_cases h4:zc=[]
      ·have z:=put [32]<|es.trans<|aF h4;exact Mj h3<|uL1 B4 (aq not<|Xh.trans<|List.isEmpty_iff.mpr h4) ⟨nB C4,rJ C4 ⟨z.1,z.2.1,z.2.2 _ _⟩⟩
      ·exact Mj h3<|uL1 B4 (aq not<|Xh.trans<|gi.mpr h4)<|go _ _ _ a4 .refl (by rw[es.trans<|aE h4,bf];exact C4) B4
   ·have z:=put l<|aE λh=>h1 h.2.1;exact Mp h1 ⟨nB C4,rJ C4 ⟨z.1,z.2.1,z.2.2 _ _⟩⟩
  ·have z:=put l<|aE λh=>h0 h.1;exact cF (fZ.mpr h0) ⟨nB C4,rJ C4 ⟨z.1,z.2.1,z.2.2 _ _⟩⟩
noncomputable def sr(ch:Option Bool)(l:LN)(bs:iK):LN:=(if ch=some false then[]else l)++(if ch=some true then bs.flatten else[])
def Fi{l:LN}{bs:iK}:sr none l bs=l:=by simp[sr]
def Fj{l:LN}{bs:iK}:sr (some false) l bs=[]:=by simp[sr]
def Ck{l:LN}{bs:iK}:sr (some true) l bs=l++bs.flatten:=by simp[sr]
inductive HB(md:Nat):Option Nat->LN->Nat->iK->LN->LN->Nat->Prop
 |look {r re r':LN} {c m:Nat} {bs:iK}:BI r r 0 0 bs re r' c m->HB md none r (mx md m) bs re r' c
 |told {r re r':LN} {c d:Nat} {bs:iK}:BB (md+d-1) r bs re r' c->HB md (some d) r (md+d-1) bs re r' c
inductive BR(fd:Bool)(ind:Nat):LN->Nat->iK->LN->LN->LN->iK->LN->LN->Nat->Prop
 |none {r re:LN} {c:Nat} {bs:iK}:(c≠ind∨r.headD 0=0)->r≠[]->BR fd ind r c bs re [] [] bs re r c
 |some {r re mU l' re' r':LN} {c':Nat} {bs bs':iK}:BM fd ind r bs mU l' bs' re' r' c'->BR fd ind r ind bs re mU l' bs' re' r' c'
def HB.len{md ind c:Nat}{inc:Option Nat}{r re r':LN}{bs:iK}(h:HB md inc r ind bs re r' c):bs.length+r'.length<=r.length/\bs.flatten.length+r'.length<=r.length:=by
 induction h with
 |look h=>exact⟨h.len.1,h.len.2.1⟩
 |told h=>exact⟨h.len.1,h.len.2.1⟩
def MT{fd:Bool}{l:LN}{h x:Nat}{bs:iK}(hl:l.length=1):(xH fd l h x bs).flatten.length<=1:=by
 unfold xH;split
 ·split<;>simp
 ·simp[hl]
def BM.tl{fd:Bool}{ind c':Nat}{r mU l' re' r':LN}{bs bs':iK}(h:BM fd ind r bs mU l' bs' re' r' c'):mU.length+bs'.flatten.length+r'.length<=bs.flatten.length+r.length/\l'.length=1:=by
 induction h with
 |last _ _ hl hb _=>have:=hl.len;have:=hb.len;simp only[aT];exact⟨by lia,by lia⟩
 |@more t r0 l r1 JZ r3 mU l' re' r' x c' bs zc bs' _ _ hl hb _ _ ih=>have:=hl.len;have:=hb.len;have:=MT (fd:=fd) (h:=t.headD 0) (x:=x) (bs:=zc) hl.len.2;simp only[aT,aU]at*;exact⟨by lia,ih.2⟩
def BR.tl{fd:Bool}{ind c c':Nat}{r mU l' re re' r':LN}{bs bs':iK}(h:BR fd ind r c bs re mU l' bs' re' r' c'):mU.length+bs'.flatten.length+r'.length<=bs.flatten.length+r.length/\l'.length<=1:=by
 induction h with
 |none=>simp
 |some h=>exact⟨h.tl.1,dH h.tl.2⟩
theorem Hy{iC ind c c':Nat}{fd:Bool}{b r re re' r' mU l':LN}{bs bs':iK}{v1 v3 v4 v7 v8 yi v10 v11:nF}{Q:QF}(on:∀i,H0.n<=i->Own s0 i)(hC:H0.n<=iC)(hb:b.length<2000){M:Nat}(hM:M<2000)(hr:BR fd ind r c bs re mU l' bs' re' r' c')
  {s:PS}{H:MH}{iB:Nat}{rO:MV}(eb:s.gA=b)(A:SF p s0 H0 s H gv k)(P:Ps s.gA s.pos r c)(C:H.at_ iC=some (jw []))(B:H.at_ iB=some (jw bs))(hB:H0.n<=iB)(ne:iB≠iC)(hz:bs.length+r.length<=M)(hm:lJ H rO b<|ix b re):
  (∀s' H' cs' DV v10 v11 rO,SF p s0 H0 s' H' gv k->Up H H'->Ps s'.gA s'.pos r' c'->s'.di=s.di->s'.ask=s.ask->H'.at_ iC=some (jw cs')->cs'.flatten=mU->cs'.length+bs'.length+2*r'.length<=2*M->H0.n<=DV->DV≠iC->H'.at_ DV=some (jw bs')->lJ H' rO b (ix b re')->Q .next [some<|.ref p,v1,some<|.ref iC,v3,v4,some<|.str l',some<|.bool fd,v7,v8,some<|.int ind,v10,v11,some<|.ref DV,yi,some rO] H')->
  LP gw.fm 7 p Xy [some<|.ref p,v1,some<|.ref iC,v3,v4,some<|.str [],some<|.bool fd,v7,v8,some<|.int ind,v10,v11,some<|.ref iB,yi,some rO] H Q:=by
 induction hr with
 |@none re c bs hc hr=>
  intro hq;obtain⟨w,r3,e3⟩:=fV hr;have fin:=hq s H [] iB v10 v11 rO A .refl P rfl rfl C rfl (by simp at hz⊢;lia) hB ne B hm;by_cases hc':c=ind
  ·have w0:w=0:=hc.elim (λe=>aG hc' e) λe=>(aq (List.headD · 0) e3).symm.trans e;exact LW.turn (fs:=gZ s) (λz=>⟨A.sc.obj,rfl⟩)<|xT (P.c.trans hc')<|gM A (e3▸P)<|Xg w0 fin
  ·exact LW.turn (fs:=gZ s) (λz=>⟨A.sc.obj,rfl⟩)<|xF (λe=>hc'<|P.c.symm.trans e) fin
 |some hm2=>intro hq;exact RN on hC hb hM hm2 s H [] iB _ _ _ _ eb A P C B hB ne (by simp;lia) λs' H' cs' DV v10 v11 rO a' U' P' d' k' C' e' l2 XB ne' B' m'=>hq s' H' cs' DV v10 v11 rO a' U' P' d' k' C' (e'.trans<|ck _) l2 XB ne' B' m'
def RO{c' iB:Nat}{fd:Bool}{ch:Option Bool}{mU l' r r1 re' r' R:LN}{cs RP bs':iK}{H H5 H6:MH}{s s6:PS}{v2 rO:MV}{v4 v8 v9 v10 v11 yi:nF}{Q:se}(A:SF p s0 H0 s H gv k)(hb:s.gA.length<2000)(lr:r.length<=s.gA.length)(fl:RP.length+r1.length<=r.length/\RP.flatten.length+r1.length<=r.length)(sj:mU.length+bs'.flatten.length+r'.length<=RP.flatten.length+r1.length/\l'.length<=1)(ow:Own s H.n)
  (hq:∀s' H' u,SF p s0 H0 s' H' gv k->Ps s'.gA s'.pos r' c'->S3 p s H s' H' gv k (jd H' s.gA u ⟨.scalar (mU++sr ch l' bs')<|some [cond fd 62 124],ix s.gA R,ix s.gA re'⟩->Q u (gZ s') H'))(m5:∀{H'},Up H5 H'->lJ H' v2 s.gA (ix s.gA R))
  (a6:SF p s H s6 H6 gv k)(U6:Up H5 H6)(P6:Ps s6.gA s6.pos r' c')(d6:s6.di=s.di)(k6:s6.ask=s.ask)(hB:H.n<=iB)(ne:iB≠H.n)(C6:H6.at_ H.n=some (jw cs))(e6:cs.flatten=mU)(l6:cs.length+bs'.length<=2*r.length)(B6:H6.at_ iB=some (jw bs'))(m6:lJ H6 rO s.gA<|ix s.gA re'):run 388 (CK gw.fm 7 1521 p Q) [iT gw.ib 11] ⟨[],[some<|.ref p,some<|.str [cond fd 62 124],some<|.ref H.n,some v2,v4,some<|.str l',some<|.bool fd,some<|Xw ch,v8,v9,v10,v11,some<|.ref iB,yi,some rO],[],gZ s6,H6⟩:=by
 have big:gP=1000000:=rfl;have b6:s6.gA=s.gA:=a6.fr.same.gA;have b9:9000<gP:=aB<|by rfl
 have tf:mU.length+bs'.flatten.length<=2000:=cA<|ah (aa (aa (fY sj.1) fl.2) lr) hb;have tx:=fY tf;have cb:cs.length+bs'.length<=4000:=aa l6<|f9 2<|cA<|ah lr hb;have cl:=fY cb;have out:∀H7 cs7,SF p s H s6 H7 gv k->Up H6 H7->H7.at_ H.n=some (jw cs7)->cs7.flatten=mU++sr ch l' bs'->(mU++sr ch l' bs').length+cs7.length<=9000->run 386 (CK gw.fm 7 1521 p Q) [iT gw.ib 13] ⟨[],[some<|.ref p,some<|.str [cond fd 62 124],some<|.ref H.n,some v2,v4,some<|.str l',some<|.bool fd,some<|Xw ch,v8,v9,v10,v11,some<|.ref iB,yi,some rO],[],gZ s6,H7⟩:=λH7 cs7 a7 U7 C7 e7 l7=>by exact⟨trivial,RH C7 e7 (aa l7<|cA b9)<|zX ⟨rfl,(a7.new _).sc.obj,hq s6 _ _ (A.then (a7.new _)) P6 d6 k6 (a7.new _)<|jd.new (t:=⟨.scalar (mU++sr ch l' bs')<|some [cond fd 62 124],ix s.gA R,ix s.gA re'⟩) a7.sc.R.hw (m5<|U6.trans U7)<|U7.mark m6⟩⟩
 have a7:=a6.putL C6 (aD _) ow<|cs.map .str++[.str l'];have C7:(H6.put H.n<|.list<|cs.map .str++[.str l']).at_ H.n=some (jw<|cs++[l']):=gB.trans<|aq some lK;have B7:(H6.put H.n<|.list<|cs.map .str++[.str l']).at_ iB=some (jw bs'):=(gD ne).trans B6;have sz:(cs.map MV.str).length<gP:=by rw[aV];exact ah (aa cl<|by decide) b9
 have e7:(cs++[l']).flatten=mU++l':=by rw[bM,e6,d8]
 have fl7:cs.flatten.length=mU.length:=aq length e6;induction ch with
 |none=>exact⟨nB C6,rJ C6 ⟨sz,a7.sc.obj,out _ _ a7 (Up.putL C6) C7 (e7.trans<|by rw[Fi])<|by rw[Fi,aT,aT];exact aa (fW (fW tx sj.2)<|fW cl<|aD 1)<|by decide⟩⟩
 |some b=>induction b with
  |false=>
   have e8:cs.flatten=mU++sr (some false) l' bs':=e6.trans<|by rw[Fj,bf]
   have l8:(mU++sr (some false) l' bs').length+cs.length<=9000:=by rw[Fj,bf];exact aa (fW tx cl)<|by decide
   exact⟨trivial,RH C6 e8 (aa l8<|cA b9)<|zX ⟨rfl,(a6.new _).sc.obj,hq s6 _ _ (A.then (a6.new _)) P6 d6 k6 (a6.new _)<|jd.new (t:=⟨.scalar (mU++sr (some false) l' bs')<|some [cond fd 62 124],ix s.gA R,ix s.gA re'⟩) a6.sc.R.hw (m5<|U6) m6⟩⟩
  |true=>
   have a8:=a7.putL C7 (aD _) ow<|(cs++[l']).map .str++bs'.map .str;have C8:((H6.put H.n<|.list<|cs.map .str++[.str l']).put H.n<|.list<|(cs++[l']).map .str++bs'.map .str).at_ H.n=some (jw<|cs++[l']++bs'):=gB.trans<|by rw[<-bJ];rfl
   refine⟨nB C6,rJ C6 ⟨sz,a7.sc.obj,nB C7,JX C7 B7 ⟨?_,a8.sc.obj,out _ _ a8 ((Up.putL C6).trans<|Up.putL C7) C8 ?_ ?_⟩⟩⟩
   ·rw[aV,aV,aT];exact aa (dH<|gh _ 1 _)<|aa (aP cb)<|aa (by decide)<|cA b9
   ·rw[bM,e7,Ck,aW]
   ·rw[Ck,aT,aT,aT,aT];exact aa (fW (fW tx<|fW sj.2<|aa (aM ..) tf)<|aa (dH<|gh _ 1 _)<|aP cb)<|by decide
theorem AK{md ind c c1 c':Nat}{fd:Bool}{ch:Option Bool}{inc:Option Nat}{h r mU l' re0 re' r1 r':LN}{RP bs':iK}{H:MH}{s:PS}{Q:se}(A:SF p s0 H0 s H gv k)(P:Ps s.gA s.pos (cond fd 62 124::(h++10::r)) c)(hb:s.gA.length<2000)(hi:s.indent+1=(md:Int))(h1:1<=md)(rn:r≠[])(hh:Hd h ch inc)(hf:HB md inc r ind RP re0 r1 c1)(hr:BR fd ind r1 c1 RP re0 mU l' bs' re' r' c')
  (hq:∀s' H' u,SF p s0 H0 s' H' gv k->Ps s'.gA s'.pos r' c'->S3 p s H s' H' gv k (jd H' s.gA u ⟨.scalar (mU++sr ch l' bs')<|some [cond fd 62 124],ix s.gA<|cond fd 62 124::(h++10::r),ix s.gA re'⟩->Q u (gZ s') H')):SC (n+8) 1177 p 1521 [.str [cond fd 62 124]] [] [] H Q:=by
 have B:=SF.refl A.sc;have ow:=Own.new A.sc<|aD H.n;have on:∀i,H.n<=i->Own s i:=λi l=>Own.new A.sc l;have hnb:cond fd 62 124∉jV:=by cases fd<;>decide
 have lr:=P.len;have fl:=hf.len;have sj:=hr.tl;have big:gP=1000000:=rfl;obtain⟨x,t,e⟩:∃x t,h++10::r=x::t:=by induction h with|nil=>exact⟨_,_,rfl⟩|cons x t=>exact⟨_,_,rfl⟩
 obtain⟨y,t2,er⟩:=fV rn;simp only[aU,aT]at lr;have lr2:r.length<=s.gA.length:=by lia
 have K:run 399 (CK gw.fm 7 1521 p Q) [Uj gw.ib] ⟨[(6,.bool fd)],iQ gw.ns [.ref p,.str [cond fd 62 124]],[],gZ s,H⟩:=by
  have a1:=B.new<|.list [];refine⟨a1.sc.obj,jU a1 λH2 v2 a2 m2 u2=>?_⟩;have P2:=P;rw[e]at P2;refine jH a2 P2 hnb λs3 H3 a3 P3 d3 k3 u3=>?_;rw[<-e]at P3;refine Xx a3 P3 hh λs4 H4 a4 P4 d4 k4 u4=>Xv a4 P4 (l:=[10]) (r1:=r) (er▸.one (by decide) nofun) λs5 H5 a5 P5 d5 k5 u5=>?_;have ie:s5.indent+1=(md:Int):=(aq (λz:Bool×Int=>z.2+1)<|d5.trans<|d4.trans d3).trans hi;have lt1:decide ((md:Int)<1)=false:=au<|by lia
  have m5:∀{H'},Up H5 H'->lJ H' v2 s.gA (ix s.gA<|cond fd 62 124::(h++10::r)):=λU=>U.mark<|(u5.up a4.sc).mark<|(u4.up a3.sc).mark<|(u3.up a2.sc).mark<|by rw[<-A.ix P];exact m2
  have C5:=u5.lst a4.sc (u4.lst a3.sc (u3.lst a2.sc (u2.lst a1.sc gz ow) ow)<|ow.to a3.fr.same)<|ow.to a4.fr.same;have aft:=λs6 H6 cs iB v8 v10 v11 yi rO=>RO (H5:=H5) (Q:=Q) (s6:=s6) (H6:=H6) (c':=c') (cs:=cs) (iB:=iB) (v4:=some<|.int md) (v8:=v8) (v9:=some<|.int ind) (v10:=v10) (v11:=v11) (yi:=yi) (rO:=rO) (ch:=ch) (l':=l') A hb lr2 fl sj ow hq m5;have b5:s5.gA=s.gA:=a5.fr.same.gA;have K5:∀I:Int,I=(md:Int)->run 392 (CK gw.fm 7 1521 p Q) [iT gw.ib 8] ⟨[],[some<|.ref p,some<|.str [cond fd 62 124],some<|.ref H.n,some v2,some<|.int I,none,some<|.bool fd,some<|Xw ch,some<|onV inc,none,none,none,none,none,none],[],gZ s5,H5⟩:=by
   intro I eI;subst eI;have ni:∀{i},H5.n<=i->H.n<=i/\i≠H.n:=λl=>⟨aa a5.fr.kp.n l,λe=>bI _<|aL (a5.sc.R.hw _ _ C5)<|e▸l⟩;induction hf with
   |@look r re r' c m bs hb1=>
    refine aaA a5 P5 (by rw[b5];exact hb) hb1 λs6 H6 i v a6 P6 d6 k6 u6 hi B6 m6=>?_;have em:(if(md:Int)<(m:Int)then(m:Int)else(md:Int))=((mx md m:Nat):Int):=by unfold mx;split<;>split<;>lia
    refine⟨rfl,LW.cast (show([some<|.ref p,some<|.str [cond fd 62 124],some<|.ref H.n,some v2,some<|.int md,some<|.str [],some<|.bool fd,some<|Xw ch,some .none,some<|.int<|if(md:Int)<(m:Int)then(m:Int)else(md:Int),none,none,some<|.ref i,some<|.int (m:Nat),some v]:Loc)=[some<|.ref p,some<|.str [cond fd 62 124],some<|.ref H.n,some v2,some<|.int md,some<|.str [],some<|.bool fd,some<|Xw ch,some .none,some<|.int (mx md m:Nat),none,none,some<|.ref i,some<|.int (m:Nat),some v]from by rw[em]) ?_⟩;exact Hy (M:=r.length) on (aD _) hb (ah lr2 hb) hr (a6.fr.same.gA) a6 P6 (u6.lst a5.sc C5<|ow.to a5.fr.same) B6 (ni hi).1 (ni hi).2 fl.1 (b5▸m6) λs' H' cs' DV v10 v11 rO a' U' P' d' k' C' e' l2 XB ne' B' m'=>⟨a'.sc.obj,rfl,aft s' H' cs' DV _ v10 v11 _ rO a' ((u6.up a5.sc).trans U') P' (d'.trans<|d6.trans<|d5.trans<|d4.trans d3) (k'.trans<|k6.trans<|k5.trans<|k4.trans k3) XB ne' C' e' (fY l2) B' m'⟩
   |@told r re r' c d bs hb1=>
    have em:(md:Int)+(d:Int)-1=((md+d-1:Nat):Int):=(Int.ofNat_sub<|aa h1<|aA md d).symm;have K6:∀J:Int,J=((md+d-1:Nat):Int)->run 391 (CK gw.fm 7 1521 p Q) [iT (elI<|ye gw.ib 8) 1,iT gw.ib 9] ⟨[(9,.int J)],[some<|.ref p,some<|.str [cond fd 62 124],some<|.ref H.n,some v2,some<|.int md,none,some<|.bool fd,some<|Xw ch,some<|.int d,none,none,none,none,none,none],[],gZ s5,H5⟩:=by intro J eJ;subst eJ;exact MQ a5 P5 (by rw[b5];exact hb) hb1 λs6 H6 i v a6 P6 d6 k6 u6 hi B6 m6=>Hy (M:=r.length) on (aD _) hb (ah lr2 hb) hr (a6.fr.same.gA) a6 P6 (u6.lst a5.sc C5<|ow.to a5.fr.same) B6 (ni hi).1 (ni hi).2 fl.1 (b5▸m6) λs' H' cs' DV v10 v11 rO a' U' P' d' k' C' e' l2 XB ne' B' m'=>⟨a'.sc.obj,rfl,aft s' H' cs' DV _ v10 v11 _ rO a' ((u6.up a5.sc).trans U') P' (d'.trans<|d6.trans<|d5.trans<|d4.trans d3) (k'.trans<|k6.trans<|k5.trans<|k4.trans k3) XB ne' C' e' (fY l2) B' m'⟩
    exact K6 _ em
  exact cF (by rw[ie];exact lt1)<|K5 _ ie
 refine nM (lv:=7) gw rfl A.sc.obj ?_;cases fd<;>exact K
inductive BL(fd:Bool)(md:Nat):LN->LN->LN->LN->Nat->Prop
 |mk {ind c1 c':Nat} {ch:Option Bool} {inc:Option Nat} {h r mU l' re0 re' r1 r':LN} {RP bs':iK}:1<=md->r≠[]->Hd h ch inc->HB md inc r ind RP re0 r1 c1->BR fd ind r1 c1 RP re0 mU l' bs' re' r' c'->BL fd md (cond fd 62 124::(h++10::r)) (mU++sr ch l' bs') re' r' c'
variable{H':MH}{s':PS}
def t8{c c' md:Nat}{fd:Bool}{r v re r':LN}(h:Sc p H s gv k)(tl:gv.length<900)(P:Ps s.gA s.pos r c)(hb:s.gA.length<2000)(hi:s.indent+1=(md:Int))(hr:BL fd md r v re r' c')
  (hq:RI p s H gv r v (some [cond fd 62 124]) re r' true (λx=>x=c') Q):SC (n+9) 1016 p 1521 [] [q "style"] [.str [cond fd 62 124]] H Q:=by
 induction hr with
 |mk h1 rn hh hf hr=>
 exact AE (lv:=8) iD rfl nD h.obj (y9 ((SF.refl h).ask true) λH1 a1=>⟨nB a1.sc.R.tok,AK (SF.refl a1.sc) P hb hi h1 rn hh hf hr λs3 H3 v3 a3 P3 d3 k3 u3 t3=>a3.Xi tl (hq _ _ _ _ _ rfl ((a1.then a3).ap tl v3) P3 d3 k3<|(((SF.refl a3.sc).ap tl v3).up a3.sc).tok t3)⟩)
def xJ{c c' md:Nat}{r v re r':LN}(h:Sc p H s gv k)(tl:gv.length<900)(P:Ps s.gA s.pos r c)(hb:s.gA.length<2000)(hi:s.indent+1=(md:Int))(hr:BL false md r v re r' c')
  (hq:RI p s H gv r v (some [124]) re r' true (λx=>x=c') Q):pW (n+10) 1002 p H Q:=nM (lv:=9) kY rfl h.obj<|t8 (fd:=false) h tl P hb hi hr hq
def yD{c c' md:Nat}{r v re r':LN}(h:Sc p H s gv k)(tl:gv.length<900)(P:Ps s.gA s.pos r c)(hb:s.gA.length<2000)(hi:s.indent+1=(md:Int))(hr:BL true md r v re r' c')
  (hq:RI p s H gv r v (some [62]) re r' true (λx=>x=c') Q):pW (n+10) 1009 p H Q:=nM (lv:=9) lC rfl h.obj<|t8 (fd:=true) h tl P hb hi hr hq
def SF.ins(a:SF p s H s' H' gv k)(c:Nat)(hc:s'.indent=-1):H'.at_ s'.j9=some (.list [])/\SF p s H (s'.wi c) ((H'.put s'.j9<|.list [.int s'.indent]).put p<|.inst 1521<|gZ<|s'.wi c) gv k:=by
 have e:H'.at_ s'.j9=some (.list []):=by
  induction a.sc.ind with
  |out _ e=>exact e
  |ins d e _=>rw[hc]at e;omega
 have R:=a.sc.R;have np:=a.sc.Uz;have o1:(H'.put s'.j9<|.list [.int s'.indent]).at_ p=_:=putAt (f5 np) R.obj.obj;refine⟨e,a.then ⟨⟨⟨.put R.obj.len,R.z,R.lt,R.pi,?_,R.sj,?_,(R.hw.put e).put o1⟩,.ins c rfl ?_,a.sc.ne,a.sc.req⟩,⟨(oA.put<|by simp).trans (.put<|by simp),⟨rfl,rfl,rfl,rfl,rfl,rfl,rfl,rfl,rfl⟩,.inl rfl⟩,R.hw⟩⟩
 ·exact(gD R.DF).trans ((gD<|f5 a.sc.ne).trans R.tok)
 ·refine R.key.of λx o ho q=>?_;have n1:x≠p:=by
   rintro rfl;rw[R.obj.obj]at ho;cases ho;rcases q with q|⟨c,fs,q,rfl⟩
   ·exact R.yg (aj.mp q).symm
   ·cases q
  have n2:x≠s'.j9:=by
   rintro rfl;rw[e]at ho;cases ho;rcases q with q|⟨c,fs,q,_⟩
   ·exact a.sc.i_k<|aj.mp q
   ·cases q
  rw[gD n1,gD n2];exact ho
 ·exact(gD np).trans (gB.trans<|by rw[hc])
def Fl{c:Nat}(a:SF p s H s' H' gv k)(hi:s'.indent=-1)
  (hq:∀H2,SF p s H (s'.wi c) H2 gv k->SF p s' H' (s'.wi c) H2 gv k->Q (.bool true) (gZ<|s'.wi c) H2):SC (n+4) 862 p 1521 [.int (c:Nat)] [] [] H' Q:=by
 have e:=(a.ins c hi).1;have o2:(H'.put s'.j9<|.list [.int s'.indent]).at_ p=_:=putAt (f5 a.sc.Uz) a.sc.obj;refine nM (lv:=3) j7 rfl a.sc.obj<|dT (by rw[hi];omega) ⟨nB e,rJ (xs:=[]) e ⟨by decide,o2,hq _ (a.ins c hi).2 ((SF.refl a.sc).ins c hi).2⟩⟩
def Jp{c:Nat}(a:SF p s H s' H' gv k)(hi:s'.indent=(c:Int))(hq:Q (.bool false) (gZ s') H'):SC (n+4) 862 p 1521 [.int (c:Nat)] [] [] H' Q:=
 nM (lv:=3) j7 rfl a.sc.obj (dF (by rw[hi];lia) hq)
noncomputable def xK(i:Int)(n:Nat):qY:=if i=-1 then[⟨.wz,n,n⟩,⟨.entry,n,n+1⟩]else[⟨.entry,n,n+1⟩]
theorem z9(m:Nat){c x:Nat}{v1 v2 v3:nF}{r:LN}(a:SF p s H s' H' gv k)(tl:gv.length<900)(P:Ps s'.gA s'.pos (45::x::r) c)
  (hq:∀H2 s2 v k',SF p s H s2 H2 (gv++[v]) k'->Up H' H2->Ps s2.gA s2.pos (x::r) (c+1)->s2.di=s'.di->s2.ask=true->jd H2 s'.gA v ⟨.entry,s'.pos.idx,s'.pos.idx+1⟩->Q .none (gZ s2) H2):run (m+100) (CK iH.fm 5 1521 p Q) [iT iH.ib 1] ⟨[],[some<|.ref p,v1,v2,v3],[],gZ s',H'⟩:=by
 have b:=SF.refl a.sc;refine y9 (b.ask true) λH1 b1=>jU b1 λH3 v3 b3 m3 u3=>jH b3 P (by decide) λs4 H4 b4 P4 d4 k4 u4=>jU b4 λH5 v5 b5 m5 u5=>⟨nB b5.sc.R.tok,My ⟨rfl,(b5.new _).sc.obj,(b5.new _).Yu tl ?_⟩⟩;have b6:=(b5.new<|.inst 311 [(31,v3),(32,v5)]).ap tl<|.ref H5.n;have i4:s4.pos.idx=s'.pos.idx+1:=by rw[show s4.pos.idx=s'.gA.length-(r.length+1)from(b4.ix P4).trans (aq (length ·-_) b4.fr.same.gA),show s'.pos.idx=s'.gA.length-(r.length+1+1)from a.ix P];exact(Nat.succ_pred<|Nat.sub_ne_zero_of_lt P.len).symm
 have m5:lJ H5 v5 s'.gA (s'.pos.idx+1):=by rw[<-i4];exact(show s4.gA=s'.gA from b4.fr.same.gA)▸m5
 exact hq _ _ _ _ (a.then b6) (b6.up a.sc) P4 d4 k4<|(((SF.refl (b5.new _).sc).ap tl _).up (b5.new _).sc).tok<|jd.new (t:=⟨.entry,s'.pos.idx,s'.pos.idx+1⟩) b5.sc.R.hw ((u5.up b4.sc).mark<|(u4.up b3.sc).mark m3) m5
theorem Aa{c x:Nat}{r:LN}(a:SF p s H s' H' gv k)(tl:gv.length<899)(P:Ps s'.gA s'.pos (45::x::r) c)(hk:s'.ask=true)(hi:s'.indent=-1∨s'.indent=(c:Int))
  (hq:∀H2 s2 us k',SF p s H s2 H2 (gv++us) k'->Up H' H2->Ps s2.gA s2.pos (x::r) (c+1)->s2.done=s'.done->s2.indent=c->s2.ask=true->qk (jd H2 s'.gA) us (xK s'.indent s'.pos.idx)->Q .none (gZ s2) H2):SC (n+6) 960 p 1521 [] [] [] H' Q:=by
 have tl':=aK tl (by decide:899<900);have pc:=P.c;subst pc;refine nM (lv:=5) iH rfl a.sc.obj<|cF (aq not hk) ?_;by_cases h:s'.indent=-1
 ·refine Fl a h λH2 a2 b2=>jU a2 λH3 v3 a3 m3 u3=>⟨nB a3.sc.R.tok,Mw ⟨rfl,(a3.new _).sc.obj,(a3.new _).Yu tl'<|z9 297 ((a3.new<|.inst 203 [(31,v3),(32,v3)]).ap tl' _) (by rw[aT,aY];omega) P λH6 s6 v k' b6 U6 P6 d6 k6 t6=>?_⟩⟩;have t3:=(((SF.refl (a3.new<|.inst 203 [(31,v3),(32,v3)]).sc).ap tl'<|.ref H3.n).up (a3.new _).sc).tok<|jd.new (t:=⟨.wz,s'.pos.idx,s'.pos.idx⟩) a3.sc.R.hw m3 m3;refine hq H6 s6 [_,v] k' (by rw[aW]at b6;exact b6) ?_ P6 (aq fst d6) (aq snd d6) k6 ?_
  ·exact(b2.up a.sc).trans ((u3.up a2.sc).trans<|(((SF.refl a3.sc).new _).up a3.sc).trans<|(((SF.refl (a3.new _).sc).ap tl' _).up (a3.new _).sc).trans U6)
  ·rw[xK,aF h];exact .cons (U6.tok t3)<|.cons t6 .nil
 ·have hc:=hi.resolve_left h;refine Jp a hc<|z9 298 a tl' P λH6 s6 v k' b6 U6 P6 d6 k6 t6=>hq H6 s6 [v] k' b6 U6 P6 (aq fst d6) ((aq snd d6).trans hc) k6 ?_;rw[xK,aE h];exact .cons t6 .nil
inductive J0(N:Nat):LN->Nat->Bool->Int->qY->LN->(Nat->Prop)->Bool->Int->Bool->Prop
 |stop {r:LN} {c:Nat} {a:Bool} {i:Int}:J0 N (0::r) c a i (yy i<|N-(r.length+1)) [] (λz=>True) false 0 true
 |jq {r:LN} {x:Nat} {a:Bool}:x∈vm->J0 N (45::45::45::x::r) 0 a (-1) [⟨.jq,N-(r.length+4),N-(r.length+4)+3⟩] (x::r) (λc=>c=3) false (-1) false
 |entry {r:LN} {x c:Nat} {i:Int}:x∈vm->i=-1∨i=(c:Int)->J0 N (45::x::r) c true i (xK i<|N-(r.length+2)) (x::r) (λc'=>c'=c+1) true c false
 |quoted {d:Bool} {r v t:LN} {y c:Nat} {a:Bool} {i:Int}:QR d r v (qc d::y::t)->i<(c:Int)->J0 N (qc d::r) c a i [⟨.scalar v<|some [qc d],N-(r.length+1),N-(t.length+1)⟩] (y::t) (λz=>True) false i false
 |block {fd:Bool} {md c c2:Nat} {r v re r':LN} {a:Bool} {i:Int}:BL fd md r v re r' c2->i+1=(md:Int)->i<=(c:Int)->J0 N r c a i [⟨.scalar v<|some [cond fd 62 124],N-r.length,N-re.length⟩] r' (λc'=>c'=c2) true i false
 |plain {ind c c2 x y:Nat} {r v re r':LN} {a:Bool} {i:Int}:PL ind (x::y::r) c v re r' c2->i+1=(ind:Int)->i<(c:Int)->c≠0->x≠46->oJ x y=true->J0 N (x::y::r) c a i [⟨.scalar v none,N-(r.length+2),N-re.length⟩] r' (λc'=>c'=c2) true i false
def BL.hd{fd:Bool}{md c:Nat}{r v re r':LN}(h:BL fd md r v re r' c):∃r3,r=cond fd 62 124::r3:=by cases h;exact⟨_,rfl⟩
def AL{r r1 r2:LN}{c c1:Nat}{a1 ak dn:Bool}{i2:Int}{ts:qY}{C:Nat->Prop}(h:Sc p H s gv k)(tl:gv.length<890)(hb:s.gA.length<2000)(P:Ps s.gA s.pos r c)(hd:s.done=false)(hn:TN r c s.ask r1 c1 a1)(ha:J0 s.gA.length r1 c1 a1 s.indent ts r2 C ak i2 dn)
  (hq:∀H' s' us k',SF p s H s' H' (gv++us) k'->s'.done=dn->(dn=false->∃c',C c'/\Ps s'.gA s'.pos r2 c'/\s'.ask=ak/\s'.indent=i2)->qk (jd H' s.gA) us ts->Q .none (gZ s') H'):pW (n+11) 820 p H Q:=by
 have tl9:gv.length<899:=aK tl<|by decide
 have tl':gv.length<900:=aK tl<|by decide
 refine nM (lv:=10) jL rfl h.obj<|MJ (a:=true) (SF.refl h) P hn λs1 H1 b1 P1 d1 k1 u1=>Ji b1 λH2 b2=>?_;have e1:s1.gA=s.gA:=b2.fr.same.gA;have hb1:s1.gA.length<2000:=e1▸hb;have hd1:s1.done=false:=(aq fst d1).trans hd;have hi1:s1.indent=s.indent:=aq snd d1;rw[<-hi1,<-e1]at ha;have U2:Up H H2:=b2.up h;have vB:Sc p H2 s1 gv (stale s1.pos k):=b2.sc;have hq2:∀H' s' us k',SF p s1 H2 s' H' (gv++us) k'->s'.done=dn->(dn=false->∃c',C c'/\Ps s'.gA s'.pos r2 c'/\s'.ask=ak/\s'.indent=i2)->qk (jd H' s1.gA) us ts->Q .none (gZ s') H':=λH' s' us k' a' e f t=>hq H' s' us k' (b2.then a') e f<|e1▸t;have BD:∀{v:MV} {t:Tok} {H'},jd H' s1.gA v t->qk (jd H' s1.gA) [v] [t]:=λh=>.cons h .nil;have i0:=b2.ix P1;clear hq U2;generalize hia:s1.indent=ii at ha;induction ha with
 |@stop r c a i=>
  have hix:s1.pos.idx=s1.gA.length-(r.length+1):=i0;by_cases hle:s1.indent<=(s1.pos.col:Int)
  ·exact nj vB hle<|gM b2 P1<|qd (SF.refl vB) tl9 λH3 s3 us k3 a3 U3 p3 d3 t3=>hq2 H3 s3 us k3 a3 d3 (λh=>nomatch h)<|by rw[<-hix,<-hia];exact t3
  ·obtain⟨m,hm⟩:∃m:Nat,s1.indent=(m:Int):=by
    induction vB.ind with
    |out e _=>lia
    |ins m e _=>exact⟨m,e⟩
   refine uU (SF.refl vB) tl' hm (by lia) (by lia) λH3 s3 v a3 b3 e3 t3=>?_;subst e3;refine gM a3 P1<|qd (SF.refl a3.sc) (by rw[aT,aY];lia) λH4 s4 us k4 a4 U4 p4 d4 t4=>hq2 H4 s4 (v::us) k4 (by rw[aW]at a4;exact a3.then a4) d4 (λh=>nomatch h) ?_;have t4:qk (jd H4 s1.gA) us (yy (-1) s1.pos.idx):=t4;rw[<-hia,hm,yy,aE (by omega),<-hix];exact .cons (U4.tok t3) t4
 |@jq r x a hx=>
  have hix:s1.pos.idx=s1.gA.length-(r.length+4):=i0;have hm:nX 45 s1.gA s1.pos=true:=by unfold nX;rw[az P1.c,az (show(s1.gA.drop s1.pos.iU).take 3=[45,45,45] by rw[P1.d];rfl),show s1.gA.getD (s1.pos.iU+3) 0=x from kQ<|DN (w:=[45,45,45]) P1.d,az hx];rfl
  refine nj vB (by rw[hia];lia)<|gM b2 P1<|lH vB.R.obj vB.R.z<|tY<|cT hm<|zY vB hia (dlt (w:=[45,45,45]) P1.d) tl' λH3 s3 v k3 a3 p3 d3 RQ t3=>hq2 H3 s3 [v] k3 a3 ((aq fst d3).trans hd1) (λj=>⟨3,rfl,?_,RQ,(aq snd d3).trans hia⟩)<|BD<|by rw[<-hix];exact t3
  have P3:=(P1.aau (t:=[45,45,45]) (r:=x::r)<|by decide);exact P3.sub a3.fr.same.gA p3
 |@entry r x c i hx hi=>
  have hix:s1.pos.idx=s1.gA.length-(r.length+2):=i0;have hm:nX 45 s1.gA s1.pos=false:=by
   refine Mr ?_;rw[P1.d];intro e;have:x=45:=by have:=aq (λl:LN=>l.getD 1 0) e;simpa using this
   exact aG hx<|by rw[this];decide
  have l1:s1.pos.iU+1<s1.gA.length:=dlt (w:=[45]) P1.d;have gx:s1.gA.getD (s1.pos.iU+1) 0=x:=kQ<|DN (w:=[45]) P1.d;refine nj vB (by rw[P1.c];lia)<|gM b2 P1<|lH vB.R.obj vB.R.z<|tY<|cF hm<|pM vB.R.obj l1<|dT (by rw[gx];exact hx)<|Aa (SF.refl vB) tl9 P1 k1 (by rw[hia];exact hi) λH3 s3 us k3 a3 U3 P3 d3 i3 RQ t3=>hq2 H3 s3 us k3 a3 (d3.trans hd1) (λj=>⟨_,rfl,P3,RQ,i3⟩)<|by rw[<-hix,<-hia];exact t3
 |@quoted d r v t y c a i hr hi=>
  have F:∀y' t',qc d::y::t=qc d::y'::t'->RI p s1 H2 gv (qc d::r) v (some [qc d]) (y'::t') (y'::t') false (λj=>True) Q:=λy' t' e H3 s3 c3 u3 k3 j a3 P3 d3 RQ t3=>by cases e;exact hq2 s3 H3 [u3] k3 a3 ((aq fst d3).trans hd1) (λj=>⟨c3,trivial,P3,RQ,(aq snd d3).trans hia⟩)<|BD t3
  have hne:s1.indent≠(s1.pos.col:Int):=by rw[P1.c,hia];omega
  refine nj vB (by rw[P1.c,hia];omega) ?_;cases d
  ·exact gM b2 P1<|yz vB tl' hne P1 hb1 hr F
  ·exact gM b2 P1<|yC vB tl' hne P1 hb1 hr F
 |@block fd md c c2 r v re r' a i hr hi hc=>
  have F:RI p s1 H2 gv r v (some [cond fd 62 124]) re r' true (λx=>x=c2) Q:=λH3 s3 c3 u3 k3 hc3 a3 P3 d3 RQ t3=>hq2 s3 H3 [u3] k3 a3 ((aq fst d3).trans hd1) (λj=>⟨c3,hc3,P3,RQ,(aq snd d3).trans hia⟩)<|BD t3;have hi':s1.indent+1=(md:Int):=by rw[hia];exact hi
  refine nj vB (by rw[P1.c,hia];exact hc) ?_;obtain⟨r3,e3⟩:=hr.hd;have P3:Ps s1.gA s1.pos (cond fd 62 124::r3) c:=e3▸P1;cases fd
  ·exact gM b2 P3<|xJ vB tl' P1 hb1 hi' hr F
  ·exact gM b2 P3<|yD vB tl' P1 hb1 hi' hr F
 |@plain ind c c2 x y r v re r' a i hr hi hc c0 n46 hp=>
  have F:∀{m:Nat},SC (m+7) 1044 _ 1521 [] [] [] H2 Q:=z8 vB tl' (by rw[P1.c,hia];omega) P1 hb1 (by rw[hia];exact hi) hr λH3 s3 c3 u3 k3 hc3 a3 P3 d3 RQ t3=>hq2 s3 H3 [u3] k3 a3 ((aq fst d3).trans hd1) (λj=>⟨c3,hc3,P3,RQ,(aq snd d3).trans hia⟩)<|BD t3;have l1:s1.pos.iU+1<s1.gA.length:=dlt (w:=[x]) P1.d;have gx:s1.gA.getD s1.pos.iU 0=x:=kQ P1.get;have gy:s1.gA.getD (s1.pos.iU+1) 0=y:=kQ<|DN (w:=[x]) P1.d;have PP:oJ (s1.gA.getD s1.pos.iU 0) (s1.gA.getD (s1.pos.iU+1) 0)=true:=by rw[gx,gy];exact hp
  have hm:nX 45 s1.gA s1.pos=false:=Mq<|by rw[P1.c];exact c0
  have hw:x∈L27->s1.gA.getD (s1.pos.iU+1) 0∉vm:=λm m'=>by rw[gy]at m';rw[oJ,az m,az m']at hp;cases hp
  refine nj vB (by rw[P1.c,hia];omega)<|gM b2 P1 ?_;by_cases c45:x=45
  ·rw[c45];exact lH vB.R.obj vB.R.z<|tY<|cF hm<|pM vB.R.obj l1<|dF (hw<|by rw[c45];decide)<|oK vB.R.obj l1<|cT PP F
  ·by_cases c63:x=63
   ·rw[c63];exact Cd vB.R.obj l1<|dF (hw<|by rw[c63];decide)<|oK vB.R.obj l1<|cT PP F
   ·by_cases c58:x=58
    ·rw[c58];exact zU vB.R.obj l1<|dF (hw<|by rw[c58];decide)<|oK vB.R.obj l1<|cT PP F
    ·have hL:∀z∈L27,x≠z:=λz m e=>by rw[<-e]at m;rw[oJ,az m,au c45,au (show¬x∈[63,58]from λq=>by rcases ao.mp q with q|q;exact c63 q;exact c58 (aj.mp q)),Bool.or_false,fU]at hp;cases hp
     exact sF (hL _<|by decide)<|sF (hL _<|by decide)<|sF c45<|sF n46<|sF (hL _<|by decide)<|sF (hL _<|by decide)<|sF (hL _<|by decide)<|sF (hL _<|by decide)<|sF (hL _<|by decide)<|sF c45<|sF c63<|sF c58<|sF (hL _<|by decide)<|sF (hL _<|by decide)<|sF (hL _<|by decide)<|sF (hL _<|by decide)<|sF (hL _<|by decide)<|sF (hL _<|by decide)<|sF (hL _<|by decide)<|oK vB.R.obj l1<|cT PP F
inductive pA(N:Nat):LN->Nat->Bool->Int->Bool->qY->Prop
 |nil {r:LN} {c:Nat} {a:Bool} {i:Int}:pA N r c a i true []
 |cons {r r1 r2:LN} {c c1:Nat} {a a1 a2 dn:Bool} {i i2:Int} {ts rest:qY} {C:Nat->Prop}:TN r c a r1 c1 a1->J0 N r1 c1 a1 i ts r2 C a2 i2 dn->(∀c2,C c2->pA N r2 c2 a2 i2 dn rest)->pA N r c a i false (ts++rest)
def RT(i:Int)(n:Nat):yy i n≠[]:=by unfold yy;split<;>simp
def RU(i:Int)(n:Nat):xK i n≠[]:=by unfold xK;split<;>simp
def J0.ne{N c:Nat}{r r2:LN}{a a2 dn:Bool}{i i2:Int}{ts:qY}{C:Nat->Prop}(h:J0 N r c a i ts r2 C a2 i2 dn):ts≠[]/\∃c2,C c2:=by
 induction h with
 |stop=>exact⟨RT _ _,0,trivial⟩
 |jq=>exact⟨nofun,_,rfl⟩
 |entry=>exact⟨RU _ _,_,rfl⟩
 |quoted=>exact⟨nofun,0,trivial⟩
 |block=>exact⟨nofun,_,rfl⟩
 |plain=>exact⟨nofun,_,rfl⟩
noncomputable def TK.UB:TK->Bool
 |.uK=>true
 |_=>false
def J0.be{N c:Nat}{r r2:LN}{a a2 dn:Bool}{i i2:Int}{ts:qY}{C:Nat->Prop}(h:J0 N r c a i ts r2 C a2 i2 dn):∀t∈ts,t.k=.uK->dn=true:=by
 induction h with
 |stop=>exact λz z z=>rfl
 |jq=>intro t m e;rw[aj.mp m]at e;exact Bool.noConfusion<|aq TK.UB e
 |entry=>
  intro t m e;unfold xK at m;split at m
  ·rcases ao.mp m with q|q
   ·rw[q]at e;exact Bool.noConfusion<|aq TK.UB e
   ·rw[aj.mp q]at e;exact Bool.noConfusion<|aq TK.UB e
  ·rw[aj.mp m]at e;exact Bool.noConfusion<|aq TK.UB e
 |quoted=>intro t m e;rw[aj.mp m]at e;exact Bool.noConfusion<|aq TK.UB e
 |block=>intro t m e;rw[aj.mp m]at e;exact Bool.noConfusion<|aq TK.UB e
 |plain=>intro t m e;rw[aj.mp m]at e;exact Bool.noConfusion<|aq TK.UB e
inductive o9(s:PS)(rest:qY):Prop
 |fin:s.done=true->rest=[]->o9 s rest
 |more {r:LN} {c:Nat}:s.done=false->Ps s.gA s.pos r c->pA s.gA.length r c s.ask s.indent false rest->o9 s rest
def Ready(s:PS)(gv:gV)(k:qb):Prop:=s.done=true∨(gv≠[]/\match stale s.pos k with|some ks=>ks.tn≠s.taken|none=>True)
def yj(q:P4)(k:qb):stale q (stale q k)=stale q k:=by
 induction k with
 |none=>rfl
 |some k=>
  have e:stale q (some k)=if k.line≠q.line∨(1024:Int)<(q.idx:Int)-k.idx then none else some k:=rfl;by_cases h:k.line≠q.line∨(1024:Int)<(q.idx:Int)-k.idx
  ·rw[e,aF h];rfl
  ·rw[e,aE h];exact e.trans<|aE h
noncomputable def TK.cl:TK->Nat
 |.jG=>179|.send=>191|.jq=>147|.wz=>203|.uK=>227|.entry=>311|.scalar _ _=>400
def TK.fs:TK->MV->MV->List (Nat×MV)
 |.jG,m1,m2=>[(31,m1),(32,m2),(8,.none)]
 |.send,m1,m2=>[(31,m1),(32,m2)]
 |.jq,m1,m2=>[(31,m1),(32,m2)]
 |.wz,m1,m2=>[(31,m1),(32,m2)]
 |.uK,m1,m2=>[(31,m1),(32,m2)]
 |.entry,m1,m2=>[(31,m1),(32,m2)]
 |.scalar v st,m1,m2=>[(33,.str v),(34,.bool st.isNone),(31,m1),(32,m2),(35,Rz st)]
def pO(k:TK)(m1 m2:MV):DJ k m1 m2=.inst k.cl (k.fs m1 m2):=by cases k<;>rfl
def Bg(k:TK)(m1 m2:MV):(k.fs m1 m2).lookup 31=some m1:=by cases k<;>rfl
def MU(k:TK)(m1 m2:MV):(k.fs m1 m2).lookup 32=some m2:=by cases k<;>rfl
def aaD(k:TK)(m1 m2:MV):(k.fs m1 m2).lookup 50=none:=by cases k<;>rfl
noncomputable def TK.ids:TK->LN
 |.jG=>[60,115,116,114,101,97,109,32,115,116,97,114,116,62]
 |.send=>[60,115,116,114,101,97,109,32,101,110,100,62]
 |.jq=>[60,100,111,99,117,109,101,110,116,32,115,116,97,114,116,62]
 |.wz=>[60,98,108,111,99,107,32,115,101,113,117,101,110,99,101,32,115,116,97,114,116,62]
 |.uK=>[60,98,108,111,99,107,32,101,110,100,62]
 |.entry=>[45]
 |.scalar _ _=>[60,115,99,97,108,97,114,62]
def aaE(k:TK):find3 ZI k.cl 50=some (.str k.ids):=by cases k<;>rfl
structure TS(p:Nat)(H:MH)(s:PS)(gv:gV)(k:qb)(ts:qY):Prop where
 sc:Sc p H s gv k
 ex:∃qs r,qk (jd H s.gA) gv qs/\ts=qs++r/\o9 s r/\∀t∈qs,t.k=.uK->s.done=true
 len:ts.length<800
 hb:s.gA.length<2000
noncomputable abbrev Fo:IE:=.nQ (.loc 0) 48 .nil [] .nil
noncomputable abbrev Fp:IS:=.cons (.expr<|.nQ (.loc 0) 49 .nil [] .nil) .nil
def Jq{f:Fm}{p:Nat}{H0:MH}{s0:PS}{Lc:Loc}{Q:QF}(hL:Lc[0]?=some (some<|.ref p))(hb:s0.gA.length<2000)(ts:qY)(len:ts.length<800)
  (hq:∀s' H' gI k',SF p s0 H0 s' H' gI k'->TS p H' s' gI k' ts->Ready s' gI k'->Q .next Lc H')(n:Nat):∀(r:qY) (s:PS) (H:MH) (gv:gV) (k:qb) (qs:qY),r.length<=n->SF p s0 H0 s H gv k->qk (jd H s0.gA) gv qs->ts=qs++r->o9 s r->(∀t∈qs,t.k=.uK->s.done=true)->
  LW (zP f 11 p) Fo Fp .nil Lc H Q:=by
 have mk:∀{s H gv k qs r},SF p s0 H0 s H gv k->qk (jd H s0.gA) gv qs->ts=qs++r->o9 s r->(∀t∈qs,t.k=.uK->s.done=true)->TS p H s gv k ts:=λ{s y y y qs r} a hall e hs hbe=>⟨a.sc,⟨qs,r,by rw[a.fr.same.gA];exact hall,e,hs,hbe⟩,len,by rw[a.fr.same.gA];exact hb⟩;induction n with
 |zero=>
  intro r s H gv k qs hn a hall e hs hbe;have hd:s.done=true:=by
   cases hs with
   |fin h _=>exact h
   |more _ _ h=>
    cases h with
    |cons _ ha _=>exact aG (bH.mp<|Nat.le_zero.mp<|aa (by simp) hn) ha.ne.1
  exact LW.turn (fs:=gZ s) (λy=>⟨a.sc.obj,hL⟩)<|qj a.sc.R a.sc.req (λy=>hq s H gv k a (mk a hall e hs hbe)<|.inl hd) (λh=>nomatch h.symm.trans hd) λh=>nomatch h.symm.trans hd
 |succ n ih=>
  intro r s H gv k qs hn a hall e hs hbe;induction hs with
  |fin hd er=>exact LW.turn (fs:=gZ s) (λy=>⟨a.sc.obj,hL⟩)<|qj a.sc.R a.sc.req (λy=>hq s H gv k a (mk a hall e (.fin hd er) hbe)<|.inl hd) (λh=>nomatch h.symm.trans hd) λh=>nomatch h.symm.trans hd
  |@more rr c hd P hst=>
  have hs':o9 s r:=.more hd P hst;cases hst with
  |@cons _ r1 r2 _ c1 _ a1 a2 dn _ i2 t2 rest C hT hA hr=>
  have tl:gv.length<890:=by have:=aq length e;rw[aT]at this;rw[hall.len];omega
  have lr:rest.length<=n:=by have h1:t2.length≠0:=λz=>hA.ne.1<|bH.mp z;rw[aT]at hn;omega
  have more:∀H1 k1,SF p s0 H0 s H1 gv k1->qk (jd H1 s0.gA) gv qs->run 400 ⟨zP f 11 p,Mf (zP f 11 p) Fo Fp .nil Q⟩ [Fp] ⟨[],Lc,[],gZ s,H1⟩:=λH1 k1 b1 Hz=>by
   refine AL b1.sc tl (by rw[b1.fr.same.gA];exact hb) P hd hT hA λH2 s2 us k2 b2 d2 f2 g2=>?_;rw[show s.gA=s0.gA from b1.fr.same.gA]at g2;refine ih rest s2 H2 (gv++us) k2 (qs++t2) lr (b1.then b2) ((Hz.imp λv t=>(b2.up b1.sc).tok).app g2) (by rw[e,aW]) ?_ λt m q=>(bF.mp m).elim (λm=>nomatch(hbe t m q).symm.trans hd) λm=>d2.trans<|hA.be t m q;induction dn with
   |true=>exact .fin d2 (by obtain⟨c2,h2⟩:=hA.ne.2;have:=hr c2 h2;cases this;rfl)
   |false=>obtain⟨c2,h2,P2,e2,e3⟩:=f2 rfl;refine .more d2 P2 ?_;rw[e2,e3,show s2.gA=s.gA from b2.fr.same.gA];exact hr c2 h2
  refine LW.turn (fs:=gZ s) (λy=>⟨a.sc.obj,hL⟩)<|qj a.sc.R a.sc.req (λh=>nomatch h.symm.trans hd) (λy y=>more H k a hall) λy hn H1 R1 K1=>tY ?_;have b1:SF p s0 H0 s H1 gv (stale s.pos k):=a.then ⟨a.sc.keep R1 K1<|xG a.sc.req,⟨K1.wide,.refl,.inl rfl⟩,a.sc.R.hw⟩;have Hz:qk (jd H1 s0.gA) gv qs:=hall.imp λv t=>(Fr.up a.sc ⟨K1.wide,.refl,.inl rfl⟩).tok;have stop:(match stale s.pos k with|some ks=>ks.tn≠s.taken|none=>True)->Q .next Lc H1:=λhz=>hq s H1 gv _ b1 (mk b1 Hz e hs' hbe)<|.inr ⟨hn,by rw[yj];exact hz⟩;have more:=more H1 _ b1 Hz;cases hk:stale s.pos k with
  |none=>rw[hk]at stop;exact stop trivial
  |some ks=>
   rw[hk]at stop;by_cases hz:ks.tn=s.taken
   ·exact dT hz more
   ·exact dF hz<|stop hz
def TS.head{p:Nat}{H:MH}{s:PS}{gv:gV}{k:qb}{t:Tok}{ts:qY}(T:TS p H s gv k<|t::ts)(r:Ready s gv k):∃v vs qs r,gv=v::vs/\jd H s.gA v t/\qk (jd H s.gA) vs qs/\ts=qs++r/\o9 s r/\∀x∈t::qs,x.k=.uK->s.done=true:=by
 obtain⟨qs,r',hall,e,hs,hbe⟩:=T.ex;induction hall with
 |nil=>
  rcases r with h|h
  ·induction hs with
   |fin _ e'=>subst e';cases e
   |more h' _ _=>rw[h]at h';cases h'
  ·exact aG rfl h.1
 |cons a b=>cases e;exact⟨_,_,_,_,rfl,a,b,rfl,hs,hbe⟩
def Cm(k:LN)(cs:iK):cs.any (λx=>x==k)=decide (k∈cs):=by
 induction cs with
 |nil=>rfl
 |cons c cs ih=>
  rw[List.any_cons,ih,show(c==k)=decide (c=k)from by by_cases h:c=k<;>simp[h]];by_cases h:c=k
  ·subst h;rw[az rfl,az<|show c∈c::cs from .head _];rfl
  ·rw[au h,eW];by_cases m:k∈cs
   ·rw[az m,az<|.tail _ m]
   ·rw[au m,au (λz=>by rcases ao.mp z with e|e;exact h e.symm;exact m e)]
def MW{k:LN}{cs:iK}{H:MH}:sW .In (.str k) (.tup<|cs.map .str) H=some (decide<|k∈cs):=by show(nY<|cs.map .str).map (λys=>ys.any (·==k))=_;rw[wG,Option.map_some,Cm]
end
section
variable{n p:Nat}{H H0 H':MH}{s s0 s':PS}{gv:gV}{k:qb}{t:Tok}{ts:qY}{cs:iK}{Q:se}
def gH(a:SF p s0 H0 s H gv k)(T:TS p H s gv k<|t::ts)(hc:cs≠[])(hl:cs.length<100)
  (hq:∀s' H' gI k',SF p s0 H0 s' H' gI k'->TS p H' s' gI k' (t::ts)->Ready s' gI k'->SF p s H s' H' gI k'->Q (.bool<|decide<|t.k.ids∈cs) (gZ s') H'):SC (n+12) 792 p 1521 [.tup<|cs.map .str] [] [] H Q:=by
 obtain⟨qs,r,hall,e,hs,hbe⟩:=T.ex;have ne:(cs.map MV.str).isEmpty=false:=List.isEmpty_map.trans<|gi.mpr hc;refine AE (lv:=11) ji rfl ry a.sc.obj<|Jq rfl T.hb (t::ts) T.len (λs1 H1 sQ k1 a1 T1 R1=>?_) r.length r s H gv k qs (aD _) (SF.refl a.sc) hall e hs hbe;obtain⟨v,vs,qs1,r1,rfl,@⟨_,i,m1,m2,_,_,ho⟩,-⟩:=T1.head R1;rw[pO]at ho;have K:∀b,decide (t.k.ids∈cs)=b->Q (.bool b) (gZ s1) H1:=λb e=>e▸hq s1 H1 _ k1 (a.then a1) T1 R1 a1;refine⟨a1.sc.obj,rfl,uL a1.sc.R.tok ⟨by rw[aV];exact aK hl (by decide),cF (by rw[ne];rfl)<|A9 (n:=0) a1.sc.R.tok rfl<|aC ho (aaD ..) (aaE _)<|yc MW ?_⟩⟩;by_cases hm:t.k.ids∈cs
 ·exact dT hm<|K _<|az hm
 ·exact dF hm<|K _<|au hm
def SF.take(a:SF p s H s' H' gv k):SF p s H (s'.wk<|s'.taken+1) (H'.put p<|.inst 1521<|gZ<|s'.wk<|s'.taken+1) gv k:=
 a.then ⟨a.sc.vY ⟨rfl,rfl,rfl,rfl,rfl,rfl,rfl,rfl,rfl⟩ rfl a.sc.R.lt a.sc.R.pi rfl,.vY ⟨rfl,rfl,rfl,rfl,rfl,rfl,rfl,rfl,rfl⟩ rfl,a.sc.R.hw⟩
def SF.tks(a:SF p s H s' H' gv k){vs:gV}(l:vs.length<1000):SF p s H s' (H'.put s'.tA<|.list vs) vs k:=a.then ⟨a.sc.Fa l,.Fa,a.sc.R.hw⟩
def Ab{f:Fm}{Lc:Loc}{Q:QF}{b:IS}(hL:Lc[0]?=some (some<|.ref p))(a:SF p s0 H0 s H gv k)(T:TS p H s gv k ts)(R:Ready s gv k)
  (hq:∀H' k',SF p s0 H0 s H' gv k'->TS p H' s gv k' ts->Ready s gv k'->SF p s H s H' gv k'->Q .next Lc H'):LW (zP f 11 p) Fo b .nil Lc H Q:=by
 have nd:s.done=false->gv≠[]/\match stale s.pos k with|some ks=>ks.tn≠s.taken|none=>True:=λh=>R.elim (λe=>nomatch h.symm.trans e) id
 refine LW.turn (fs:=gZ s) (λz=>⟨a.sc.obj,hL⟩)<|qj a.sc.R a.sc.req (λz=>hq H k a T R<|SF.refl a.sc) (λh e=>aG e (nd h).1) λhd hn H1 R1 K1=>tY ?_;have b1:SF p s H s H1 gv (stale s.pos k):=⟨a.sc.keep R1 K1<|xG a.sc.req,⟨K1.wide,.refl,.inl rfl⟩,a.sc.R.hw⟩;obtain⟨qs,r,hall,e,hs,hbe⟩:=T.ex;have fin:=hq H1 _ (a.then b1) ⟨b1.sc,⟨qs,r,hall.imp λv t=>(b1.up a.sc).tok,e,hs,hbe⟩,T.len,T.hb⟩ (.inr ⟨hn,by rw[yj];exact(nd hd).2⟩) b1;have hz:=(nd hd).2;cases hk:stale s.pos k with
 |none=>exact fin
 |some ks=>rw[hk]at hz;exact dF hz fin
def mE(a:SF p s0 H0 s H gv k)(T:TS p H s gv k<|t::ts)(R:Ready s gv k)
  (hq:∀H' k' v,SF p s0 H0 s H' gv k'->TS p H' s gv k' (t::ts)->Ready s gv k'->SF p s H s H' gv k'->jd H' s.gA v t->Q v (gZ s) H'):pW (n+12) 799 p H Q:=by
 refine nM (lv:=11) mG rfl a.sc.obj<|Ab rfl (SF.refl a.sc) T R λH1 k1 a1 T1 R1 z=>?_;obtain⟨v,vs,qs1,r1,rfl,ht,-⟩:=T1.head R1;exact⟨a1.sc.obj,rfl,uL a1.sc.R.tok<|A9 (n:=0) a1.sc.R.tok rfl<|hq H1 k1 v (a.then a1) T1 R1 a1 ht⟩
def o9.take{s:PS}{r:qY}{m:Nat}(h:o9 s r):o9 (s.wk m) r:=by
 induction h with
 |fin a b=>exact .fin a b
 |more a b c=>exact .more a b c
def lW(a:SF p s0 H0 s H gv k)(T:TS p H s gv k<|t::ts)(R:Ready s gv k)
  (hq:∀s' H' gI k' v,SF p s0 H0 s' H' gI k'->TS p H' s' gI k' ts->SF p s H s' H' gI k'->jd H' s.gA v t->(t.k=.uK->s'.done=true)->Q v (gZ s') H'):pW (n+12) 806 p H Q:=by
 obtain⟨v,vs,-,-,rfl,-⟩:=T.head R;refine nM (lv:=11) mV rfl a.sc.obj<|Ab rfl (SF.refl a.sc) T R λH1 k1 a1 T1 z z=>?_;have l:vs.length<1000:=Nat.lt_of_succ_lt a1.sc.R.sj;have a3:=a1.take.tks l;refine⟨a1.sc.obj,rfl,uL a1.sc.R.tok ⟨nB a1.take.sc.R.tok,acV a1.take.sc.R.tok ⟨a3.sc.obj,?_⟩⟩⟩;have u:Up H1 _:=(((SF.refl a1.sc).take).up a1.sc).trans<|((SF.refl a1.take.sc).tks l).up a1.take.sc;obtain⟨qs,r,hall,e,hs,hbe⟩:=T1.ex;cases hall with
 |cons ht hall=>cases e;exact hq _ _ vs k1 v (a.then a3) ⟨a3.sc,⟨_,r,hall.imp λv t=>u.tok,rfl,hs.take,λx m=>hbe x<|.tail _ m⟩,Nat.lt_of_succ_lt T.len,T.hb⟩ a3 (u.tok ht)<|hbe t<|.head _
end
inductive EK where
 |jG
 |send
 |jq (ex:Bool)
 |Jr
 |row
 |xN
 |scalar (v:LN) (st:Option LN)
structure Co where
 k:EK
 a:Nat
 z:Nat
def sR:EK->MV->MV->MO
 |.jG,m1,m2=>.inst 501 [(31,m1),(32,m2),(8,.none)]
 |.send,m1,m2=>.inst 513 [(31,m1),(32,m2)]
 |.jq ex,m1,m2=>.inst 533 [(31,m1),(32,m2),(37,.bool ex),(38,.none),(39,.none)]
 |.Jr,m1,m2=>.inst 553 [(31,m1),(32,m2),(37,.bool false)]
 |.row,m1,m2=>.inst 597 [(36,.none),(40,.none),(41,.bool true),(31,m1),(32,m2),(108,.bool false)]
 |.xN,m1,m2=>.inst 609 [(31,m1),(32,m2)]
 |.scalar v st,m1,m2=>.inst 585 [(36,.none),(40,.none),(41,.tup [.bool st.isNone,.bool !st.isNone]),(33,.str v),(31,m1),(32,m2),(35,Rz st)]
def oB(H:MH)(b:LN)(v:MV)(e:Co):Prop:=∃i m1 m2,v=.ref i/\lJ H m1 b e.a/\lJ H m2 b e.z/\H.at_ i=some (sR e.k m1 m2)
def oB.new{H:MH}{b:LN}{e:Co}{m1 m2:MV}(hw:HW H)(h1:lJ H m1 b e.a)(h2:lJ H m2 b e.z):oB (H.new<|sR e.k m1 m2) b (.ref H.n) e:=⟨_,m1,m2,rfl,h1.up hw,h2.up hw,gz⟩
def oB.up{H H':MH}{b:LN}{v:MV}{e:Co}(h:oB H b v e)(u:Up H H'):oB H' b v e:=by obtain⟨i,m1,m2,rfl,h1,h2,h4⟩:=h;refine⟨i,m1,m2,rfl,u.mark h1,u.mark h2,?_⟩;obtain⟨k,a,z⟩:=e;cases k<;>exact u _ _ _ h4<|by decide
noncomputable abbrev AM(p:Nat)(s:PS):LN:=[p,s.tA,s.iZ,s.j9,s.uz,s.w9]
structure PG(p:Nat)(s0:PS)(H0:MH)(s:PS)(H:MH)(gv:gV)(k:qb)(ts:qY)(ny ms:gV):Prop where
 T:TS p H s gv k ts
 st:H.at_ s.uz=some (.list ny)
 mr:H.at_ s.w9=some (.list ms)
 n1:Own s s.uz
 n2:Own s s.w9
 n3:s.w9≠s.uz
 kp:oA (AM p s0) H0 H
 up:Up H0 H
 e1:s.gA=s0.gA
 e2:s.tA=s0.tA
 e3:s.uz=s0.uz
 e4:s.w9=s0.w9
 e5:s.j9=s0.j9
 kA:s.iZ=s0.iZ∨H0.n<=s.iZ
 hw:HW H0
section
variable{p:Nat}{s0 s s':PS}{H0 H H':MH}{gv gI:gV}{k k':qb}{ts ts':qY}{ny ms:gV}
def PG.sf(G:PG p s0 H0 s H gv k ts ny ms):SF p s H s H gv k:=SF.refl G.T.sc
def PG.Bh(G:PG p s0 H0 s H gv k ts ny ms):HW H:=G.T.sc.R.hw
def XC{p:Nat}{s s0:PS}{H0:MH}(e2:s.tA=s0.tA)(e5:s.j9=s0.j9)(kA:s.iZ=s0.iZ∨H0.n<=s.iZ):∀x∈Cf p s,x∈AM p s0∨H0.n<=x:=λx m=>by
 simp only[Cf,AM,ao,bq,dz]at m⊢;rcases m with m|m|m|m
 ·exact .inl<|.inl m
 ·exact .inl<|.inr<|.inl<|m.trans e2
 ·rcases kA with h|h
  ·exact .inl<|.inr<|.inr<|.inl<|m.trans h
  ·exact .inr<|by rw[m];exact h
 ·exact .inl<|.inr<|.inr<|.inr<|.inl<|m.trans e5
def PG.step(G:PG p s0 H0 s H gv k ts ny ms)(a:SF p s H s' H' gI k')(T:TS p H' s' gI k' ts'):PG p s0 H0 s' H' gI k' ts' ny ms where
 T:=T
 st:=by rw[a.fr.same.uz];exact a.lst G.T.sc G.st G.n1
 mr:=by rw[a.fr.same.w9];exact a.lst G.T.sc G.mr G.n2
 n1:=by rw[a.fr.same.uz];exact G.n1.to a.fr.same
 n2:=by rw[a.fr.same.w9];exact G.n2.to a.fr.same
 n3:=by rw[a.fr.same.w9,a.fr.same.uz];exact G.n3
 kp:=G.kp.fresh G.hw a.fr.kp (XC G.e2 G.e5 G.kA)
 up:=G.up.trans (a.up G.T.sc)
 e1:=a.fr.same.gA.trans G.e1
 e2:=a.fr.same.tA.trans G.e2
 e3:=a.fr.same.uz.trans G.e3
 e4:=a.fr.same.w9.trans G.e4
 e5:=a.fr.same.j9.trans G.e5
 kA:=by
  rcases a.fr.kA with h|h
  ·rw[h];exact G.kA
  ·exact .inr (aa G.kp.n h)
 hw:=G.hw
def TS.up{H':MH}(T:TS p H s gv k ts)(sc:Sc p H' s gv k)(u:Up H H'):TS p H' s gv k ts:=by obtain⟨qs,r,hall,e,hs,hbe⟩:=T.ex;exact⟨sc,⟨qs,r,hall.imp λv t=>u.tok,e,hs,hbe⟩,T.len,T.hb⟩
def Up.new{H:MH}{o:MO}(hw:HW H):Up H (H.new o):=λa c fs e z=>by rw[g8<|av<|hw _ _ e];exact e
def PG.new(G:PG p s0 H0 s H gv k ts ny ms)(o:MO):PG p s0 H0 s (H.new o) gv k ts ny ms where
 T:=G.T.up G.T.sc.new (.new G.Bh)
 st:=by rw[g8<|av<|G.Bh _ _ G.st];exact G.st
 mr:=by rw[g8<|av<|G.Bh _ _ G.mr];exact G.mr
 n1:=G.n1
 n2:=G.n2
 n3:=G.n3
 kp:=G.kp.trans (.new G.Bh)
 up:=G.up.trans (.new G.Bh)
 e1:=G.e1
 e2:=G.e2
 e3:=G.e3
 e4:=G.e4
 e5:=G.e5
 kA:=G.kA
 hw:=G.hw
structure Yy(s s':PS):Prop where
 gA:s'.gA=s.gA
 pos:s'.pos=s.pos
 done:s'.done=s.done
 tA:s'.tA=s.tA
 indent:s'.indent=s.indent
 iZ:s'.iZ=s.iZ
 uz:s'.uz=s.uz
 w9:s'.w9=s.w9
 j9:s'.j9=s.j9
 ask:s'.ask=s.ask
def o9.Js{r:qY}(h:o9 s r)(e:Yy s s'):o9 s' r:=by
 induction h with
 |fin a b=>exact .fin (e.done.trans a) b
 |more a b c=>exact .more (e.done.trans a) (b.sub e.gA e.pos)<|by rw[e.gA,e.ask,e.indent];exact c
def HA{xs:gV}{i:Nat}{o:MO}(h:H.at_ p=some (.inst 1521<|gZ s))(e:H.at_ i=some (.list xs)):(H.put p o).at_ i=some (.list xs):=(gD λq=>by rw[q,h]at e;cases e).trans e
def Up.self{o:MO}(h:H.at_ p=some (.inst 1521<|gZ s)):Up H (H.put p o):=λa c fs e n=>(gD λq=>by rw[q,h]at e;cases e;exact n rfl).trans e
def Own.Js{i:Nat}(h:Own s i)(e:Yy s s'):Own s' i:=⟨e.tA▸h.t,e.j9▸h.d⟩
def PG.Js(G:PG p s0 H0 s H gv k ts ny ms)(e:Yy s s'):PG p s0 H0 s' (H.put p<|.inst 1521<|gZ s') gv k ts ny ms:=by have sc:Sc p (H.put p<|.inst 1521<|gZ s') s' gv k:=⟨G.T.sc.R.vY e.gA e.tA e.iZ (by rw[e.pos];exact G.T.sc.R.lt) (by rw[e.pos];exact G.T.sc.R.pi),G.T.sc.ind.of e.indent e.j9 λz h=>(gD G.T.sc.Uz).trans h,by rw[e.j9,e.tA];exact G.T.sc.ne,G.T.sc.req⟩;have u:Up H (H.put p<|.inst 1521<|gZ s'):=.self G.T.sc.obj;obtain⟨qs,r,hall,e',hs,hbe⟩:=G.T.ex;exact⟨⟨sc,⟨qs,r,by rw[e.gA];exact hall.imp λv t=>u.tok,e',hs.Js e,λx m q=>e.done.trans<|hbe x m q⟩,G.T.len,by rw[e.gA];exact G.T.hb⟩,by rw[e.uz];exact HA G.T.sc.obj G.st,by rw[e.w9];exact HA G.T.sc.obj G.mr,by rw[e.uz];exact G.n1.Js e,by rw[e.w9];exact G.n2.Js e,by rw[e.w9,e.uz];exact G.n3,G.kp.trans<|.put<|.head _,G.up.trans u,e.gA.trans G.e1,e.tA.trans G.e2,e.uz.trans G.e3,e.w9.trans G.e4,e.j9.trans G.e5,by rw[e.iZ];exact G.kA,G.hw⟩
def Sc.putL{i:Nat}{xs:gV}{o:MO}(h:Sc p H s gv k)(e:H.at_ i=some (.list xs))(n:Own s i):Sc p (H.put i o) s gv k:=⟨h.R.putL e n.t,h.ind.of rfl rfl λz q=>(gD<|f5 n.d).trans q,h.ne,h.req⟩
def PG.stk(G:PG p s0 H0 s H gv k ts ny ms)(wJ:gV):PG p s0 H0 s (H.put s.uz<|.list wJ) gv k ts wJ ms:=
 ⟨G.T.up (G.T.sc.putL G.st G.n1)<|.putL G.st,gB,(gD G.n3).trans G.mr,G.n1,G.n2,G.n3,G.kp.trans (.put<|by rw[G.e3];simp),G.up.trans<|.putL G.st,G.e1,G.e2,G.e3,G.e4,G.e5,G.kA,G.hw⟩
def PG.EN(G:PG p s0 H0 s H gv k ts ny ms)(ms':gV):PG p s0 H0 s (H.put s.w9<|.list ms') gv k ts ny ms':=
 ⟨G.T.up (G.T.sc.putL G.mr G.n2)<|.putL G.mr,(gD<|f5 G.n3).trans G.st,gB,G.n1,G.n2,G.n3,G.kp.trans (.put<|by rw[G.e4];simp),G.up.trans<|.putL G.mr,G.e1,G.e2,G.e3,G.e4,G.e5,G.kA,G.hw⟩
def PG.obj(G:PG p s0 H0 s H gv k ts ny ms):H.at_ p=some (.inst 1521<|gZ s):=G.T.sc.obj
def lb3:3<=gP:=aB<|by rfl
noncomputable abbrev Fq:LN:=[60,100,105,114,101,99,116,105,118,101,62]
noncomputable abbrev xO:LN:=[60,100,111,99,117,109,101,110,116,32,115,116,97,114,116,62]
noncomputable abbrev Ft:LN:=[60,100,111,99,117,109,101,110,116,32,101,110,100,62]
noncomputable abbrev Ac:LN:=[60,115,116,114,101,97,109,32,101,110,100,62]
noncomputable abbrev MX:LN:=[60,97,108,105,97,115,62]
noncomputable abbrev HC:LN:=[60,97,110,99,104,111,114,62]
noncomputable abbrev aaF:LN:=[60,116,97,103,62]
noncomputable abbrev HD:LN:=[60,115,99,97,108,97,114,62]
noncomputable abbrev Fv:LN:=[45]
noncomputable abbrev UC:LN:=[60,98,108,111,99,107,32,101,110,100,62]
noncomputable abbrev aaG:LN:=[60,98,108,111,99,107,32,115,101,113,117,101,110,99,101,32,115,116,97,114,116,62]
noncomputable abbrev aaH:LN:=[91]
noncomputable abbrev aaI:LN:=[123]
variable{n:Nat}{t:Tok}{Q:se}
def PG.evF(G:PG p s0 H0 s H gv k ts ny ms){s':PS}{e:Co}{b:LN}{m1 m2:MV}(f:Yy s s')(h1:lJ H m1 b e.a)(h2:lJ H m2 b e.z):PG p s0 H0 s' ((H.new<|sR e.k m1 m2).put p<|.inst 1521<|gZ s') gv k ts ny ms/\oB ((H.new<|sR e.k m1 m2).put p<|.inst 1521<|gZ s') b (.ref H.n) e:=
 ⟨(G.new _).Js f,(oB.new G.Bh h1 h2).up<|.self (G.new _).obj⟩
def Yy.q{v:MV}:Yy s (s.wq v):=⟨rfl,rfl,rfl,rfl,rfl,rfl,rfl,rfl,rfl,rfl⟩
def yE(G:PG p s0 H0 s H gv k (t::ts) ny ms)(R:Ready s gv k)(ht:t.k=.jG)
  (hq:∀s' H' gI k' v,PG p s0 H0 s' H' gI k' ts ny ms->s'.state=.jR 1347 p->oB H' s.gA v ⟨.jG,t.a,t.z⟩->Q v (gZ s') H'):pW (n+13) 1340 p H Q:=by
 refine nM (lv:=12) jN rfl G.obj<|lW G.sf G.T R λs1 H1 sQ k1 v1 a1 T1 b1 t1 be1=>?_;have G1:=G.step a1 T1;obtain @⟨_,i,m1,m2,h1,h2,ho⟩:=t1;rw[ht]at ho;have E:=G1.evF (e:=⟨.jG,t.a,t.z⟩) (.q (v:=.jR 1347 p)) h1 h2;exact aO ho rfl<|aO ho rfl<|aO ho rfl<|we ⟨rfl,(G1.new _).obj,hq _ _ _ _ _ E.1 rfl E.2⟩
def yF(G:PG p s0 H0 s H gv k (t::ts) ny ms)(he:t.k.ids≠Ft)(R:Ready s gv k)
  (hq:∀s' H' gI k' v,PG p s0 H0 s' H' gI k' (t::ts) ny ms->s'.state=.jR 1354 p->oB H' s.gA v ⟨.Jr,t.a,t.a⟩->Q v (gZ s') H'):pW (n+13) 1361 p H Q:=by
 refine nM (lv:=12) jO rfl G.obj<|mE G.sf G.T R λH1 k1 v1 a1 T1 R1 b1 t1=>?_;have G1:=G.step a1 T1;obtain @⟨_,i,m1,m2,h1,h2,ho⟩:=t1;rw[pO]at ho;refine aO ho (Bg ..)<|gH (cs:=[Ft]) G1.sf T1 nofun (by decide) λs2 H2 Bj k2 a2 T2 R2 b2=>?_;have G2:=G1.step a2 T2;have h1:=(b2.up T1.sc).mark h1;have E:=G2.evF (e:=⟨.Jr,t.a,t.a⟩) (.q (v:=.jR 1354 p)) h1 h1;exact dF (λm=>he<|aj.mp m)<|wj ⟨rfl,(G2.new _).obj,hq _ _ _ _ _ E.1 rfl E.2⟩
variable{a z:Nat}{v:LN}{st:MV}
def PG.pop(G:PG p s0 H0 s H gv k ts (ny++[st]) ms){e:Co}{b:LN}{m1 m2:MV}(h1:lJ H m1 b e.a)(h2:lJ H m2 b e.z):((H.new<|sR e.k m1 m2).put s.uz<|.list ny).at_ p=some (.inst 1521<|gZ s)/\PG p s0 H0 (s.wq st) (((H.new<|sR e.k m1 m2).put s.uz<|.list ny).put p<|.inst 1521<|gZ<|s.wq st) gv k ts ny ms/\oB (((H.new<|sR e.k m1 m2).put s.uz<|.list ny).put p<|.inst 1521<|gZ<|s.wq st) b (.ref H.n) e:=
 have G1:=(G.new<|sR e.k m1 m2).stk ny;⟨G1.obj,G1.Js .q,((oB.new G.Bh h1 h2).up<|.putL (G.new _).st).up<|.self G1.obj⟩
def DW{y:Option LN}(G:PG p s0 H0 s H gv k (⟨.scalar v y,a,z⟩::ts) (ny++[st]) ms)
  (hq:∀s' H' gI k' u,PG p s0 H0 s' H' gI k' ts ny ms->s'.state=st->oB H' s.gA u ⟨.scalar v y,a,z⟩->Q u (gZ s') H'):SC (n+13) 1404 p 1521 [] [q "block"] [.bool true] H Q:=by
 refine AE (lv:=12) jf rfl mu G.obj<|gH (cs:=[MX]) G.sf G.T nofun (by decide) λs1 H1 sQ k1 a1 T1 R1 b1=>?_;refine(gH (cs:=[HC]) (SF.refl T1.sc) T1 nofun (by decide) λs2 H2 Bj k2 a2 T2 R2 b2=>?_);refine(gH (cs:=[aaF]) (SF.refl T2.sc) T2 nofun (by decide) λs3 H3 HE k3 a3 T3 R3 b3=>?_);refine(mE (SF.refl T3.sc) T3 R3 λH4 k4 v4 a4 T4 R4 b4 t4=>?_);obtain @⟨_,i,m1,m2,h1,h2,ho⟩:=t4;refine aO ho rfl<|gH (cs:=[HD]) (SF.refl T4.sc) T4 nofun (by decide) λs5 H5 UD k5 a5 T5 R5 b5=>?_;refine(lW (((((G.step a1 T1).step a2 T2).step a3 T3).step a4 T4).step a5 T5).sf T5 R5 λs6 H6 UE k6 v6 a6 T6 b6 t6 be6=>?_);have G6:=(((((G.step a1 T1).step a2 T2).step a3 T3).step a4 T4).step a5 T5).step a6 T6;have e3:=a3.fr.same.gA.trans<|a2.fr.same.gA.trans a1.fr.same.gA;have h1:=(b6.up T5.sc).mark<|(b5.up T4.sc).mark<|e3▸h1;obtain @⟨_,j,m3,m4,h3,h4,ho⟩:=t6;have E:=G6.pop (e:=⟨.scalar v y,a,z⟩) h1<|(a5.fr.same.gA.trans<|a4.fr.same.gA.trans e3)▸h4;have K:=hq _ _ _ _ _ E.2.1 rfl E.2.2;induction y with
 |none=>exact aO ho rfl<|aO ho rfl<|aO ho rfl<|aO ho rfl<|t5 ⟨rfl,(G6.new _).obj,nB (G6.new _).st,LV (G6.new _).st ⟨E.1,K⟩⟩
 |some x=>exact aO ho rfl<|aO ho rfl<|aO ho rfl<|aO ho rfl<|t5 ⟨rfl,(G6.new _).obj,nB (G6.new _).st,LV (G6.new _).st ⟨E.1,K⟩⟩
def MY(G:PG p s0 H0 s H gv k (⟨.wz,a,z⟩::ts) ny ms)
  (hq:∀s' H' gI k' u,PG p s0 H0 s' H' gI k' (⟨.wz,a,z⟩::ts) ny ms->s'.state=.jR 1411 p->Ready s' gI k'->oB H' s.gA u ⟨.row,a,a⟩->Q u (gZ s') H'):SC (n+13) 1404 p 1521 [] [q "block"] [.bool true] H Q:=by
 refine AE (lv:=12) jf rfl mu G.obj<|gH (cs:=[MX]) G.sf G.T nofun (by decide) λs1 H1 sQ k1 a1 T1 R1 b1=>?_;refine(gH (cs:=[HC]) (SF.refl T1.sc) T1 nofun (by decide) λs2 H2 Bj k2 a2 T2 R2 b2=>?_);refine(gH (cs:=[aaF]) (SF.refl T2.sc) T2 nofun (by decide) λs3 H3 HE k3 a3 T3 R3 b3=>?_);refine(mE (SF.refl T3.sc) T3 R3 λH4 k4 v4 a4 T4 R4 b4 t4=>?_);obtain @⟨_,i,m1,m2,h1,h2,ho⟩:=t4;refine aO ho rfl<|gH (cs:=[HD]) (SF.refl T4.sc) T4 nofun (by decide) λs5 H5 UD k5 a5 T5 R5 b5=>?_;refine(gH (cs:=[aaH]) (SF.refl T5.sc) T5 nofun (by decide) λs6 H6 UE k6 a6 T6 R6 b6=>?_);refine(gH (cs:=[aaI]) (SF.refl T6.sc) T6 nofun (by decide) λs7 H7 ae7 k7 a7 T7 R7 b7=>?_);refine(gH (cs:=[aaG]) (SF.refl T7.sc) T7 nofun (by decide) λs8 H8 ae8 k8 a8 T8 R8 b8=>?_);refine(mE (SF.refl T8.sc) T8 R8 λH9 k9 v9 a9 T9 R9 b9 t9=>?_);have G5:=((((G.step a1 T1).step a2 T2).step a3 T3).step a4 T4).step a5 T5;have G9:=(((G5.step a6 T6).step a7 T7).step a8 T8).step a9 T9;have e3:=a3.fr.same.gA.trans<|a2.fr.same.gA.trans a1.fr.same.gA;have h1:=(a9.up T8.sc).mark<|(a8.up T7.sc).mark<|(a7.up T6.sc).mark<|(a6.up T5.sc).mark<|(a5.up T4.sc).mark<|e3▸h1;obtain @⟨_,j,m3,m4,h3,h4,ho⟩:=t9;have e8:s8.gA=s.gA:=a8.fr.same.gA.trans<|a7.fr.same.gA.trans<|a6.fr.same.gA.trans<|a5.fr.same.gA.trans<|a4.fr.same.gA.trans e3;have E:=G9.evF (e:=⟨.row,a,a⟩) (.q (v:=.jR 1411 p)) h1<|e8▸h3;exact aO ho rfl<|MC ⟨rfl,(G9.new _).obj,hq _ _ _ _ _ E.1 rfl R9 E.2⟩
def PR.putD{p:Nat}{H:MH}{s:PS}{gv:gV}{k:qb}(R:PR H p s gv k){i:Nat}{xs:List (LN×MV)}{o:MO}(h:H.at_ i=some (.iN xs)):PR (H.put i o) p s gv k:=by
 have e:∀a o',H.at_ a=some o'->(∀xs,o'≠.iN xs)->(H.put i o).at_ a=some o':=λa o' q n=>by rw[gD];exact q;rintro rfl;rw[h]at q;cases q;exact n _ rfl
 refine⟨⟨e _ _ R.obj.obj (by intro _ q;cases q),R.obj.len⟩,R.z,R.lt,R.pi,e _ _ R.tok (by intro _ q;cases q),R.sj,?_,R.hw.put h⟩;refine R.key.of λa o' q n=>e a o' q λxs he=>?_;subst he;rcases n with n|⟨c,fs,n,_⟩
 ·obtain⟨es,ee⟩:=R.qX;rw[aj.mp n,ee]at q;cases q
 ·cases n
def zd{o o':MO}{i d:Nat}{es:List (LN×MV)}(h:H.at_ d=some (.iN es))(e:H.at_ i=some o)(n:(MO.iN es)≠o):(H.put d o').at_ i=some o:=(gD λq=>n<|ay<|h.symm.trans<|(aq H.at_ q).symm.trans e).trans e
def PG.dict(G:PG p s0 H0 s H gv k ts ny ms){d:Nat}{es:List (LN×MV)}(h:H.at_ d=some (.iN es))(l:H0.n<=d)(es':List<|LN×MV):PG p s0 H0 s (H.put d<|.iN es') gv k ts ny ms:=
 have u:Up H (H.put d<|.iN es'):=λz z z e z=>zd h e nofun;⟨G.T.up ⟨G.T.sc.R.putD h,G.T.sc.ind.of rfl rfl λz e=>zd h e nofun,G.T.sc.ne,G.T.sc.req⟩ u,zd h G.st nofun,zd h G.mr nofun,G.n1,G.n2,G.n3,G.kp.fresh G.hw (.put (own:=[d])<|.head _) λx m=>.inr<|aj.mp m▸l,G.up.trans u,G.e1,G.e2,G.e3,G.e4,G.e5,G.kA,G.hw⟩
def SF.dct(h:Sc p H s gv k)(a:SF p s H s' H' gI k'){d:Nat}{es:List (LN×MV)}(e:H.at_ d=some (.iN es)):H'.at_ d=some (.iN es):=by
 refine a.fr.kp.at_ _ _ e λm=>?_;simp only[Cf,ao,bq,dz]at m;rcases m with m|m|m|m
 ·subst m;rw[h.obj]at e;cases e
 ·subst m;rw[h.R.tok]at e;cases e
 ·obtain⟨es,ee⟩:=h.R.qX;subst m;rw[ee]at e;cases e
 ·obtain⟨xs,ee⟩:=h.ind.lst;subst m;rw[ee]at e;cases e
def Fr.aaJ{H:MH}{o:MO}(h:H.at_ p=some (.inst 1521<|gZ s)){d:Nat}{es:List (LN×MV)}(e:H.at_ d=some (.iN es)):(H.put p o).at_ d=some (.iN es):=(gD λq=>by rw[q,h]at e;cases e).trans e
def adi:1<8:=by decide
def uDr{v:MV}{d:Nat}{es:List (LN×MV)}{H:MH}{K:Bool->MH->Prop}(e:v=.ref d)(o:H.at_ d=some (.iN es))(h:K (!es.isEmpty) H):vJ v H K:=by rw[e];show qh (H.at_ d) _ _ _ _ _ _;rw[o];exact h
def sZ(G:PG p s0 H0 s H gv k (t::ts) ny ms)(hn:t.k.ids≠Fq)
  (hq:∀s' H' gI k',PG p s0 H0 s' H' gI k' (t::ts) ny ms->Q (.tup [.none,.none]) (gZ s') H'):pW (n+13) 1375 p H Q:=by
 have G1:=G.Js (s':=s.wy .none) ⟨rfl,rfl,rfl,rfl,rfl,rfl,rfl,rfl,rfl,rfl⟩;have G2:=G1.new<|.iN [];have G3:=G2.Js (s':=(s.wy .none).wg<|.ref (H.put p<|.inst 1521<|gZ<|s.wy .none).n) ⟨rfl,rfl,rfl,rfl,rfl,rfl,rfl,rfl,rfl,rfl⟩;refine nM (lv:=12) jP rfl G.obj ⟨G2.obj,LW.turn (fs:=gZ<|(s.wy .none).wg<|.ref (H.put p<|.inst 1521<|gZ<|s.wy .none).n) (λz=>⟨G3.obj,rfl⟩)<|gH (cs:=[Fq]) G3.sf G3.T nofun (by decide) λs1 H1 sQ k1 a1 T1 R1 b1=>dF (λm=>hn<|aj.mp m) ?_⟩;have G4:=G3.step b1 T1;have hD:=b1.dct G3.T.sc<|Fr.aaJ G2.obj gz;have ht:s1.zN=.ref (H.put p<|.inst 1521<|gZ<|s.wy .none).n:=b1.fr.same.zN;have hy:s1.Dz=.none:=b1.fr.same.Dz;have G5:=G4.dict hD G1.kp.n<|B0 [] yZ;have K:=hq _ _ _ _ G5;rw[show(MV.tup [.none,.none])=.tup [s1.Dz,.none] by rw[hy]]at K;refine⟨G4.obj,rfl,uDr ht hD λQ' m=>⟨p,_,_,_,rfl,adi,G4.obj,rfl,aq some ht,hD,by decide,m .next _ _ ⟨G5.obj,rfl,K⟩⟩⟩
abbrev aaK(p:Nat)(s0:PS)(H0:MH)(s:PS)(t:Tok)(ts:qY)(ny ms:gV)(Q:se):Prop:=∀s' H' gI k' u,PG p s0 H0 s' H' gI k' (t::ts) ny ms->s'.state=.jR 1411 p->Ready s' gI k'->oB H' s.gA u ⟨.row,t.a,t.a⟩->Q u (gZ s') H'
def Bk(G:PG p s0 H0 s H gv k (t::ts) ny ms)(ht:t.k=.wz)(hq:aaK p s0 H0 s t ts ny ms Q):pW (n+14) 1382 p H Q:=by obtain⟨k,a,z⟩:=t;cases ht;exact nM (lv:=13) jk rfl G.obj<|MY G hq
def Cp{v:LN}{y:Option LN}(G:PG p s0 H0 s H gv k (⟨.scalar v y,a,z⟩::ts) (ny++[st]) ms)
  (hq:∀s' H' gI k' u,PG p s0 H0 s' H' gI k' ts ny ms->s'.state=st->oB H' s.gA u ⟨.scalar v y,a,z⟩->Q u (gZ s') H'):pW (n+14) 1382 p H Q:=
 nM (lv:=13) jk rfl G.obj (DW G hq)
def DX(G:PG p s0 H0 s H gv k (t::ts) ny ms)(ht:t.k=.wz)(hq:aaK p s0 H0 s t ts ny ms Q):pW (n+15) 1368 p H Q:=by refine nM (lv:=14) jj rfl G.obj<|gH (cs:=[Fq,xO,Ft,Ac]) G.sf G.T nofun (by decide) λs1 H1 sQ k1 a1 T1 R1 b1=>dF (by rw[ht];decide) ?_;exact Bk (G.step a1 T1) ht λs' H' gI k' u a b c d=>hq _ _ _ _ _ a b c<|b1.fr.same.gA▸d
def DY{v:LN}{y:Option LN}(G:PG p s0 H0 s H gv k (t::⟨.scalar v y,a,z⟩::ts) ny ms)(hs:ny.length<gP)(ht:t.k=.entry)
  (hq:∀s' H' gI k' u,PG p s0 H0 s' H' gI k' ts ny ms->s'.state=.jR 1418 p->oB H' s.gA u ⟨.scalar v y,a,z⟩->Q u (gZ s') H'):pW (n+15) 1418 p H Q:=by
 refine nM (lv:=14) iz rfl G.obj<|gH (cs:=[Fv]) G.sf G.T nofun (by decide) λs1 H1 sQ k1 a1 T1 R1 b1=>dT (by rw[ht];decide) ?_;have G1:=G.step a1 T1;refine lW G1.sf T1 R1 λs2 H2 Bj k2 v2 a2 T2 b2 t2 be2=>?_;have G2:=G1.step a2 T2;refine gH (cs:=[Fv,UC]) G2.sf T2 nofun (by decide) λs3 H3 HE k3 a3 T3 R3 b3=>?_;have G3:=G2.step a3 T3;have G4:=G3.stk<|ny++[.jR 1418 p];have e3:s3.gA=s.gA:=a3.fr.same.gA.trans<|a2.fr.same.gA.trans a1.fr.same.gA;exact⟨nB G3.st,rJ G3.st ⟨hs,G4.obj,Cp G4 λs' H' gI k' u a b d=>hq _ _ _ _ _ a b<|e3▸d⟩⟩
def Ad{t2:Tok}{v:LN}{y:Option LN}(G:PG p s0 H0 s H gv k (t::t2::⟨.scalar v y,a,z⟩::ts) ny [])(hs:ny.length<gP)(R:Ready s gv k)(ht:t2.k=.entry)
  (hq:∀s' H' gI k' u m,PG p s0 H0 s' H' gI k' ts ny [m]->s'.state=.jR 1418 p->oB H' s.gA u ⟨.scalar v y,a,z⟩->Q u (gZ s') H'):pW (n+16) 1411 p H Q:=by
 refine nM (lv:=15) iE rfl G.obj<|lW G.sf G.T R λs1 H1 sQ k1 v1 a1 T1 b1 t1 be1=>?_;have G1:=G.step a1 T1;obtain @⟨_,i,m1,m2,h1,h2,ho⟩:=t1;rw[pO]at ho;have G2:=G1.EN [m1];exact⟨nB G1.mr,aO ho (Bg ..)<|rJ (xs:=[]) G1.mr ⟨by decide,G2.obj,DY G2 hs ht λs' H' gI k' u a b d=>hq _ _ _ _ _ _ a b<|b1.fr.same.gA▸d⟩⟩
def Fw{m:MV}(G:PG p s0 H0 s H gv k (t::ts) (ny++[st]) [m])(ht:t.k=.uK)
  (hq:∀s' H' gI k' u,PG p s0 H0 s' H' gI k' ts ny []->s'.state=st->Ready s' gI k'->oB H' s.gA u ⟨.xN,t.a,t.z⟩->Q u (gZ s') H'):pW (n+15) 1418 p H Q:=by
 refine nM (lv:=14) iz rfl G.obj<|gH (cs:=[Fv]) G.sf G.T nofun (by decide) λs1 H1 sQ k1 a1 T1 R1 b1=>dF (by rw[ht];decide) ?_;have G1:=G.step a1 T1;refine gH (cs:=[UC]) G1.sf T1 nofun (by decide) λs2 H2 Bj k2 a2 T2 R2 b2=>Jf (by rw[ht];decide) ?_;have G2:=G1.step a2 T2;refine lW G2.sf T2 R2 λs3 H3 HE k3 v3 a3 T3 b3 t3 be3=>?_;have G3:=G2.step a3 T3;have e2:s2.gA=s.gA:=a2.fr.same.gA.trans a1.fr.same.gA;obtain @⟨_,i,m1,m2,h1,h2,ho⟩:=t3;rw[pO]at ho;rw[e2]at h1 h2;have E:=G3.pop (e:=⟨.xN,t.a,t.z⟩) h1 h2;have G5:=E.2.1.EN [];exact aO ho (Bg ..)<|aO ho (MU ..)<|MB ⟨rfl,(G3.new _).obj,nB (G3.new _).st,LV (G3.new _).st ⟨E.1,nB E.2.1.mr,LV (ys:=[]) E.2.1.mr ⟨G5.obj,hq _ _ _ _ _ G5 rfl (.inl<|be3 ht)<|E.2.2.up<|.putL E.2.1.mr⟩⟩⟩
variable{wJ ms':gV}
def PG.refl(G:PG p s0 H0 s H gv k ts ny ms):PG p s H s H gv k ts ny ms:=⟨G.T,G.st,G.mr,G.n1,G.n2,G.n3,.refl,.refl,rfl,rfl,rfl,rfl,rfl,.inl rfl,G.Bh⟩
def PG.trans(G:PG p s0 H0 s H gv k ts ny ms)(G':PG p s H s' H' gI k' ts' wJ ms'):PG p s0 H0 s' H' gI k' ts' wJ ms':=⟨G'.T,G'.st,G'.mr,G'.n1,G'.n2,G'.n3,G.kp.fresh G.hw G'.kp (λx m=>by
  simp only[AM,ao,bq,dz]at m⊢;rcases m with m|m|m|m|m|m
  ·exact .inl<|.inl m
  ·exact .inl<|.inr<|.inl<|m.trans G.e2
  ·rcases G.kA with h|h
   ·exact .inl<|.inr<|.inr<|.inl<|m.trans h
   ·exact .inr<|by rw[m];exact h
  ·exact .inl<|.inr<|.inr<|.inr<|.inl<|m.trans G.e5
  ·exact .inl<|.inr<|.inr<|.inr<|.inr<|.inl<|m.trans G.e3
  ·exact .inl<|.inr<|.inr<|.inr<|.inr<|.inr<|m.trans G.e4),G.up.trans G'.up,G'.e1.trans G.e1,G'.e2.trans G.e2,G'.e3.trans G.e3,G'.e4.trans G.e4,G'.e5.trans G.e5,by
  rcases G'.kA with h|h
  ·rw[h];exact G.kA
  ·exact .inr<|aa G.kp.n h,G.hw⟩
def PG.psh(G:PG p s0 H0 s H gv k ts ny ms){e:Co}{b:LN}{m1 m2:MV}(h1:lJ H m1 b e.a)(h2:lJ H m2 b e.z)(wJ:gV)(st:MV):((H.new<|sR e.k m1 m2).put s.uz<|.list wJ).at_ p=some (.inst 1521<|gZ s)/\PG p s0 H0 (s.wq st) (((H.new<|sR e.k m1 m2).put s.uz<|.list wJ).put p<|.inst 1521<|gZ<|s.wq st) gv k ts wJ ms/\oB (((H.new<|sR e.k m1 m2).put s.uz<|.list wJ).put p<|.inst 1521<|gZ<|s.wq st) b (.ref H.n) e:=
 have G1:=(G.new<|sR e.k m1 m2).stk wJ;⟨G1.obj,G1.Js .q,((oB.new G.Bh h1 h2).up<|.putL (G.new _).st).up<|.self G1.obj⟩
def XD(G:PG p s0 H0 s H gv k (t::ts) [] [])(ht:t.k=.send)
  (hq:∀s' H' gI k' v,PG p s0 H0 s' H' gI k' ts [] []->s'.state=.none->oB H' s.gA v ⟨.send,t.a,t.z⟩->Q v (gZ s') H'):pW (n+14) 1354 p H Q:=by
 refine nM (lv:=13) iX rfl G.obj<|LW.turn (fs:=gZ s) (λy=>⟨G.obj,rfl⟩)<|gH (cs:=[Ft]) G.sf G.T nofun (by decide) λs1 H1 sQ k1 a1 T1 R1 b1=>dF (by rw[ht];decide) ⟨a1.sc.obj,rfl,?_⟩;have G1:=G.step a1 T1;refine gH (cs:=[Ac]) G1.sf T1 nofun (by decide) λs2 H2 Bj k2 a2 T2 R2 b2=>Jf (by rw[ht];decide) ?_;have G2:=G1.step a2 T2;refine lW G2.sf T2 R2 λs3 H3 HE k3 v3 a3 T3 b3 t3 be3=>?_;have G3:=G2.step a3 T3;have e2:s2.gA=s.gA:=a2.fr.same.gA.trans a1.fr.same.gA;obtain @⟨_,i,m1,m2,h1,h2,ho⟩:=t3;rw[pO]at ho;rw[e2]at h1 h2;have E:=G3.evF (e:=⟨.send,t.a,t.z⟩) (.q (v:=.none)) h1 h2;exact aO ho (Bg ..)<|aO ho (MU ..)<|MA ⟨rfl,(G3.new _).obj,uL (G3.new _).st ⟨rfl,uL (G3.new _).mr ⟨rfl,hq _ _ _ _ _ E.1 rfl E.2⟩⟩⟩
def XE(G:PG p s0 H0 s H gv k (t::ts) [] [])(ht:t.k=.jq)
  (hq:∀s' H' gI k' v,PG p s0 H0 s' H' gI k' ts [.jR 1361 p] []->s'.state=.jR 1368 p->oB H' s.gA v ⟨.jq true,t.a,t.z⟩->Q v (gZ s') H'):pW (n+14) 1354 p H Q:=by
 refine nM (lv:=13) iX rfl G.obj<|LW.turn (fs:=gZ s) (λy=>⟨G.obj,rfl⟩)<|gH (cs:=[Ft]) G.sf G.T nofun (by decide) λs1 H1 sQ k1 a1 T1 R1 b1=>dF (by rw[ht];decide) ⟨a1.sc.obj,rfl,?_⟩;have G1:=G.step a1 T1;refine gH (cs:=[Ac]) G1.sf T1 nofun (by decide) λs2 H2 Bj k2 a2 T2 R2 b2=>Mj (by rw[ht];decide) ?_;have G2:=G1.step a2 T2;refine mE G2.sf T2 R2 λH3 k3 v3 a3 T3 R3 b3 t3=>?_;have G3:=G2.step a3 T3;have e2:s2.gA=s.gA:=a2.fr.same.gA.trans a1.fr.same.gA;obtain @⟨_,i,m1,m2,h1,h2,ho⟩:=t3;rw[pO]at ho;rw[e2]at h1;refine aO ho (Bg ..)<|sZ G3.refl (by rw[ht];decide) λs4 H4 aaL k4 G4=>?_;have h1:=G4.up.mark h1;have G4':PG p s0 H0 s4 H4 aaL k4 (t::ts) [] []:=G3.trans G4;refine gH (cs:=[xO]) G4'.sf G4'.T nofun (by decide) λs5 H5 UD k5 a5 T5 R5 b5=>Jf (by rw[ht];decide) ?_;have G5:=G4'.step a5 T5;refine lW G5.sf T5 R5 λs6 H6 UE k6 v6 a6 T6 b6 t6 be6=>?_;have G6:=G5.step a6 T6;have e6:s5.gA=s.gA:=a5.fr.same.gA.trans<|G4.e1.trans e2;obtain @⟨_,j,m5,m6,h5,h6,ho⟩:=t6;rw[pO]at ho;rw[e6]at h6;have E:=G6.psh (e:=⟨.jq true,t.a,t.z⟩) ((b6.up T5.sc).mark<|(b5.up G4'.T.sc).mark h1) h6 [.jR 1361 p]<|.jR 1368 p;exact aO ho (MU ..)<|o8 ⟨rfl,(G6.new _).obj,nB (G6.new _).st,rJ (G6.new _).st ⟨by decide,E.1,hq _ _ _ _ _ E.2.1 rfl E.2.2⟩⟩
def RV(G:PG p s0 H0 s H gv k (t::ts) [] [])(hn:t.k.ids∉[Fq,xO,Ac])
  (hq:∀s' H' gI k' v,PG p s0 H0 s' H' gI k' (t::ts) [.jR 1361 p] []->s'.state=.jR 1382 p->oB H' s.gA v ⟨.jq false,t.a,t.a⟩->Q v (gZ s') H'):pW (n+15) 1347 p H Q:=by
 refine nM (lv:=14) iu rfl G.obj<|gH (cs:=[Fq,xO,Ac]) G.sf G.T nofun (by decide) λs1 H1 sQ k1 a1 T1 R1 b1=>?_;have G2:=(G.step a1 T1).Js (s':=s1.wg<|.cls 1304) ⟨rfl,rfl,rfl,rfl,rfl,rfl,rfl,rfl,rfl,rfl⟩;refine Mj hn<|mE G2.sf G2.T R1 λH3 k3 v3 a3 T3 R3 b3 t3=>?_;have G3:=G2.step a3 T3;have e2:s1.gA=s.gA:=a1.fr.same.gA;obtain @⟨_,i,m1,m2,h1,-,ho⟩:=t3;rw[pO]at ho;have h1:lJ H3 m1 s.gA t.a:=e2▸h1;have E:=G3.psh (e:=⟨.jq false,t.a,t.a⟩) h1 h1 [.jR 1361 p]<|.jR 1382 p;exact aO ho (Bg ..)<|wh ⟨rfl,(G3.new _).obj,nB (G3.new _).st,rJ (G3.new _).st ⟨by decide,E.1,hq _ _ _ _ _ E.2.1 rfl E.2.2⟩⟩
def RX(G:PG p s0 H0 s H gv k (t::ts) [] [])(ht:t.k=.jq)
  (hq:∀s' H' gI k' v,PG p s0 H0 s' H' gI k' ts [.jR 1361 p] []->s'.state=.jR 1368 p->oB H' s.gA v ⟨.jq true,t.a,t.z⟩->Q v (gZ s') H'):pW (n+15) 1347 p H Q:=by
 refine nM (lv:=14) iu rfl G.obj<|gH (cs:=[Fq,xO,Ac]) G.sf G.T nofun (by decide) λs1 H1 sQ k1 a1 T1 R1 b1=>Jf (by rw[ht];decide) ?_;exact XE (G.step a1 T1) ht λs' H' gI k' v a b c=>hq _ _ _ _ _ a b<|a1.fr.same.gA▸c
def lb1:1<gP:=aB<|by rfl
abbrev Mode:=PySem.Decimal.Rounding
noncomputable def Mode.fa:Mode->Nat
 |.up=>1340|.down=>1347|.ceiling=>1382|.floor=>1368|.halfUp=>1411|.halfDown=>1418|.halfEven=>1361|.zeroFiveUp=>1354
noncomputable def Jt(p:Nat):Option Mode->gV
 |some .ceiling=>[.jR 1361 p]
 |some .floor=>[.jR 1361 p]
 |some .halfUp=>[.jR 1361 p]
 |some .halfDown=>[.jR 1361 p]
 |_=>[]
def MZ:Option Mode->gV->Prop
 |some .halfDown,ms=>∃m,ms=[m]
 |_,ms=>ms=[]
def DZ(s:PS)(gv:gV)(k:qb):Option Mode->Prop
 |some .up=>Ready s gv k
 |some .halfUp=>Ready s gv k
 |some .halfEven=>Ready s gv k
 |_=>True
def stM(p:Nat):Option Mode->MV
 |none=>.none
 |some m=>.jR m.fa p
inductive Ju:Mode->qY->Co->Option Mode->qY->Prop
 |first {t:Tok} {ts:qY}:t.k=.jG->Ju .up (t::ts) ⟨.jG,t.a,t.z⟩ (some .down) ts
 |bare {t:Tok} {ts:qY}:t.k.ids∉[Fq,xO,Ac]->Ju .down (t::ts) ⟨.jq false,t.a,t.a⟩ (some .ceiling) (t::ts)
 |open_ {t:Tok} {ts:qY}:t.k=.jq->Ju .down (t::ts) ⟨.jq true,t.a,t.z⟩ (some .floor) ts
 |block {t:Tok} {ts:qY}:t.k=.wz->Ju .ceiling (t::ts) ⟨.row,t.a,t.a⟩ (some .halfUp) (t::ts)
 |content {t:Tok} {ts:qY}:t.k=.wz->Ju .floor (t::ts) ⟨.row,t.a,t.a⟩ (some .halfUp) (t::ts)
 |UG {t t2:Tok} {ts:qY} {a z:Nat} {v:LN} {y:Option LN}:t2.k=.entry->Ju .halfUp (t::t2::⟨.scalar v y,a,z⟩::ts) ⟨.scalar v y,a,z⟩ (some .halfDown) ts
 |item {t:Tok} {ts:qY} {a z:Nat} {v:LN} {y:Option LN}:t.k=.entry->Ju .halfDown (t::⟨.scalar v y,a,z⟩::ts) ⟨.scalar v y,a,z⟩ (some .halfDown) ts
 |aaM {t:Tok} {ts:qY}:t.k=.uK->Ju .halfDown (t::ts) ⟨.xN,t.a,t.z⟩ (some .halfEven) ts
 |close {t:Tok} {ts:qY}:t.k.ids≠Ft->Ju .halfEven (t::ts) ⟨.Jr,t.a,t.a⟩ (some .zeroFiveUp) (t::ts)
 |fin {t:Tok} {ts:qY}:t.k=.send->Ju .zeroFiveUp (t::ts) ⟨.send,t.a,t.z⟩ none ts
def meI{v:MV}{fa j:Nat}{K:Nat->Nat->Prop}(e:v=.jR fa j)(h:K fa j):AX (some v) K:=e▸h
def aaN{v:MV}{fa j:Nat}{H:MH}{K:Bool->MH->Prop}(e:v=.jR fa j)(h:K true H):vJ v H K:=e▸h
def aaO{v:MV}{H:MH}{K:Bool->MH->Prop}(e:v=.none)(h:K false H):vJ v H K:=e▸h
def aaP{v:MV}{H:MH}{K:Bool->Prop}(e:v=.none)(h:K true):jA (sW .Is v .none H) K:=by rw[e];exact h
variable{m:Mode}{m':Option Mode}{e:Co}
abbrev Evp(p:Nat)(s0:PS)(H0:MH)(e:Co)(m':Option Mode)(ts':qY)(Q:se):Prop:=
 ∀s' H' gI k' v ms',PG p s0 H0 s' H' gI k' ts' (Jt p m') ms'->MZ m' ms'->DZ s' gI k' m'->s'.state=stM p m'->oB H' s0.gA v e->Q v (gZ s') H'
def M0(G:PG p s0 H0 s H gv k ts (Jt p<|some m) ms)(hm:MZ (some m) ms)(hr:DZ s gv k<|some m)(hs:Ju m ts e m' ts')(hq:Evp p s0 H0 e m' ts' Q):SC 16 m.fa p 1521 [] [] [] H Q:=by
 have hb:=G.e1;induction hs with
 |first ht=>cases hm;exact yE G hr ht λs' H' gI k' v a b c=>hq _ _ _ _ _ _ a rfl trivial b<|hb▸c
 |bare h=>cases hm;exact RV G h λs' H' gI k' v a b c=>hq _ _ _ _ _ _ a rfl trivial b<|hb▸c
 |open_ h=>cases hm;exact RX G h λs' H' gI k' v a b c=>hq _ _ _ _ _ _ a rfl trivial b<|hb▸c
 |block h=>cases hm;exact Bk G h λs' H' gI k' v a b r c=>hq _ _ _ _ _ _ a rfl r b<|hb▸c
 |content h=>cases hm;exact DX G h λs' H' gI k' v a b r c=>hq _ _ _ _ _ _ a rfl r b<|hb▸c
 |UG h=>cases hm;exact Ad G lb1 hr h λs' H' gI k' v m a b c=>hq _ _ _ _ _ _ a ⟨m,rfl⟩ trivial b<|hb▸c
 |item h=>obtain⟨m,rfl⟩:=hm;exact DY G lb1 h λs' H' gI k' v a b c=>hq _ _ _ _ _ _ a ⟨m,rfl⟩ trivial b<|hb▸c
 |aaM h=>obtain⟨m,rfl⟩:=hm;exact Fw (ny:=[]) G h λs' H' gI k' v a b r c=>hq _ _ _ _ _ _ a rfl r b<|hb▸c
 |close h=>cases hm;exact yF G h hr λs' H' gI k' v a b c=>hq _ _ _ _ _ _ a rfl trivial b<|hb▸c
 |fin h=>cases hm;exact XD G h λs' H' gI k' v a b c=>hq _ _ _ _ _ _ a rfl trivial b<|hb▸c
def RY(m:Mode):∃c' k',LD c' k'=some m.fa:=by
 cases m
 ·exact⟨1521,94,rfl⟩
 ·exact⟨1521,96,rfl⟩
 ·exact⟨1521,101,rfl⟩
 ·exact⟨1521,104,rfl⟩
 ·exact⟨1521,123,rfl⟩
 ·exact⟨1521,124,rfl⟩
 ·exact⟨1521,100,rfl⟩
 ·exact⟨1521,102,rfl⟩
abbrev XF(p:Nat)(s0:PS)(H0:MH)(e:Co)(m':Option Mode)(ts':qY)(Q:se):Prop:=
 ∀s' H' gI k' v ms',PG p s0 H0 s' H' gI k' ts' (Jt p m') ms'->MZ m' ms'->DZ s' gI k' m'->s'.state=stM p m'->s'.cur=.none->oB H' s0.gA v e->Q v (gZ s') H'
def DZ.wc{v:MV}(h:DZ s gv k m'):DZ (s.wc v) gv k m':=by
 induction m' with
 |none=>trivial
 |some m=>cases m<;>exact h
def wL(G:PG p s0 H0 s H gv k ts (Jt p<|some m) ms)(hm:MZ (some m) ms)(hr:DZ s gv k<|some m)(hs:Ju m ts e m' ts')
  (hst:s.state=.jR m.fa p)(AN:s.cur=.none)(hq:XF p s0 H0 e m' ts' Q):pW (n+17) 1333 p H Q:=by
 refine nM (lv:=16) lA rfl G.obj<|aaP (H:=H) AN<|aaN hst<|meI hst ⟨RY m,M0 G hm hr hs ?_⟩;exact λs' H' gI k' v ms' G' hm' hr' M1 E'=>hq _ _ _ _ _ _ (G'.Js (s':=s'.wc .none) ⟨rfl,rfl,rfl,rfl,rfl,rfl,rfl,rfl,rfl,rfl⟩) hm' hr'.wc M1 rfl<|E'.up<|.self G'.obj
def xP{ny:gV}(G:PG p s0 H0 s H gv k ts ny ms)(hst:s.state=.none)(AN:s.cur=.none)
  (hq:∀s' H' gI k',PG p s0 H0 s' H' gI k' ts ny ms->s'.cur=.none->s'.state=.none->Q .none (gZ s') H'):pW (n+17) 1333 p H Q:=by
 have K:=hq (s.wc .none) _ _ _ (G.Js ⟨rfl,rfl,rfl,rfl,rfl,rfl,rfl,rfl,rfl,rfl⟩) rfl hst;refine nM (lv:=16) lA rfl G.obj<|aaP (H:=H) AN<|aaO hst ?_;exact(show∀v,v=.none->Q v (gZ<|s.wc .none) _ from λv e=>e▸K) _ AN
noncomputable def Fx(c:Nat):Bool:=decide (c∈[9,10,13,133])||(decide (32<=c)&&decide (c<=126))||(decide (160<=c)&&decide (c<=55295))
def yG{c:Nat}{Q:QV}(h:Fx c=true)(hq:Q (.bool true) H):CW true (n+2) 668 [.str [c]] [] [] H Q:=by
 refine xD (lv:=1) pQ rfl ?_;have K:∀b,b=true->Q (.bool b) H:=λb e=>e▸hq;by_cases m:c∈[9,10,13,133]
 ·exact dT m<|K _<|az m
 ·unfold Fx at h;rw[au m,eW]at h;refine dF m ?_;by_cases a:32<=c
  ·by_cases b:c<=126
   ·exact dT a<|dT b<|K _<|az b
   ·rw[au b,fU,eW,bB]at h;exact dT a<|dF b<|dT (aJ h.1)<|dT (aJ h.2)<|K _ h.2
  ·rw[au a,Bool.false_and,eW,bB]at h;exact dF a<|dT (aJ h.1)<|dT (aJ h.2)<|K _ h.2
theorem D0{fs:Fs}{Q:QF}{v:MV}(o:H.at_ p=some (.inst 1521 fs)):∀(l:LN) (i:Nat) (o2 o3 o4:nF),(∀c∈l,Fx c=true)->(∀o2 o3,Q .next [some<|.ref p,some v,o2,o3,o4] H)->
  FW (zP iY.fm 2 p) (rC<|ye iY.ib 0) (uS [2,3] i l) [some<|.ref p,some v,o2,o3,o4] H Q
 |[],i,o2,o3,o4,h,hq=>FW.nil<|hq _ _
 |c::l,i,o2,o3,o4,h,hq=>FW.cons (fs:=fs) (λz=>⟨o,rfl⟩)<|yG (h c<|.head _) ⟨o,D0 o l (i+1) _ _ _ (λx m=>h x<|.tail _ m) hq⟩
def vn{fs:Fs}{l:LN}(o:H.at_ p=some (.inst 1521 fs))(h:∀c∈l,Fx c=true)(hq:Q .none fs H):SC (n+3) 720 p 1521 [.str l] [] [] H Q:=
 nM (lv:=2) iY rfl o (D0 o l 0 _ _ _ h λo2 o3=>⟨o,rfl,hq⟩)
abbrev XG(b:LN):Fs:=[(0,.str Ca),(1,.none),(2,.int 0),(3,.bool true),(4,.str b),(5,.int 0),(6,.none),(7,.none),(8,.none),(9,.int 0),(10,.int 0),(11,.int 0)]
def Ae{l:LN}(h:∀c∈l,Fx c=true)(hl:l.length<2000)(hq:Q .none (XG<|l++[0])<|H.new<|.inst 1521<|XG<|l++[0]):SC (n+4) 682 H.n 1521 [.str l] [] [] (H.new<|.inst 1521 []) Q:=by
 have K:Q .none (XG<|l++[0]) (((H.new<|.inst 1521 []).put H.n<|.inst 1521<|XG []).put H.n<|.inst 1521<|XG<|l++[0]):=by rw[qI,qI];exact hq
 exact nM (lv:=3) qw rfl gz ⟨rfl,vn (fs:=XG []) gB h ⟨by rw[aY];exact aL (Nat.add_lt_add_right hl 1) (aB<|by rfl),K⟩⟩
structure IN(H:MH)(fs:Fs)(H':MH):Prop where
 obj:H'.at_ H.n=some (.inst 1521 fs)
 old:∀a o,H.at_ a=some o->H'.at_ a=some o
 hw:HW H'
 n:H.n<H'.n
variable{fs f2:Fs}{o:MO}
def IN.start(hw:HW H)(fs:Fs):IN H fs (H.new<|.inst 1521 fs):=⟨gz,λa o h=>(g8<|av<|hw _ _ h).trans h,hw.new,bS _⟩
def IN.yH(I:IN H fs H'){y x:MO}(ne:a≠H.n)(e:H'.at_ a=some x):(H'.put H.n y).at_ a=some x:=(gD ne).trans e
def IN.HF(I:IN H fs H'){y x:MO}(ne:a≠H.n)(e:H'.at_ a=some x):((H'.put H.n y).new o).at_ a=some x:=(g8 (H:=H'.put H.n y)<|av<|I.hw _ _ e).trans<|I.yH ne e
def IN.ne(I:IN H fs H'){xs:MO}(e:H'.at_ a=some xs)(n:MO.inst 1521 fs≠xs):a≠H.n:=λq=>n<|ay<|I.obj.symm.trans<|(aq H'.at_ q).symm.trans e
def IN.set(I:IN H fs H')(hw:HW H):IN H f2 (H'.put H.n<|.inst 1521 f2):=⟨gB,λa o h=>I.yH (av<|hw _ _ h)<|I.old a o h,I.hw.put I.obj,I.n⟩
def IN.new(I:IN H fs H'):IN H fs (H'.new o):=⟨(g8<|av I.n).trans I.obj,λa x h=>(g8<|av<|I.hw _ _<|I.old a x h).trans<|I.old a x h,I.hw.new,aR I.n⟩
def IN.pn(I:IN H fs H')(hw:HW H):IN H f2 ((H'.put H.n<|.inst 1521 f2).new o):=(I.set hw).new
def IN.up(I:IN H fs H'){y:MO}:Up H' (H'.put H.n y):=λa c fs e n=>I.yH (I.ne e λq=>by cases q;exact n rfl) e
def IN.up'(I:IN H fs H'){y:MO}:Up H' ((H'.put H.n y).new o):=λa c fs e n=>I.HF (I.ne e λq=>by cases q;exact n rfl) e
def IN.putL(I:IN H fs H'){i:Nat}{xs ys:gV}(hi:H'.at_ i=some (.list xs))(l:H.n<=i)(hw:HW H):IN H fs (H'.put i<|.list ys):=
 ⟨(gD (I.ne hi nofun).symm).trans I.obj,λa o h=>(gD<|av<|aL (hw _ _ h) l).trans<|I.old a o h,I.hw.put hi,I.n⟩
noncomputable def Yz:P4:=⟨0,0,0,0⟩
def RZ(b:LN)(tA iA kA tg uz w9 p:Nat):PS:=⟨b,Yz,false,tA,0,-1,iA,true,kA,.none,.none,.ref tg,uz,w9,.jR 1340 p⟩
abbrev pf(n:Nat)(b:LN)(tA iA kA tg uz w9:Nat):Fs:=(gZ<|RZ b tA iA kA tg uz w9 0).take n
variable{tA:Nat}{b:LN}
def D3(I:IN H (pf 15 b tA 0 0 0 0 0) H')(hq:Q (.ref H'.n) (pf 15 b tA 0 0 0 0 0)<|H'.new<|.inst 53<|rz b Yz):SC (n+3) 713 H.n 1521 [] [] [] H' Q:=
 nM (lv:=2) lQ rfl I.obj (Ht ⟨rfl,I.new.obj,hq⟩)
def uM(I:IN H (pf 15 b tA 0 0 0 0 0) H')(hw:HW H)(ht:H'.at_ tA=some (.list []))(lt:H.n<=tA)
  (hq:∀H2 v,IN H (pf 15 b tA 0 0 0 0 0) H2->H2.at_ tA=some (.list [v])->jd H2 b v ⟨.jG,0,0⟩->Q .none (pf 15 b tA 0 0 0 0 0) H2):SC (n+4) 869 H.n 1521 [] [] [] H' Q:=by
 have I1:IN H (pf 15 b tA 0 0 0 0 0) (H'.new<|.inst 53<|rz b Yz):=I.new;have t1:(H'.new<|.inst 53<|rz b Yz).at_ tA=some (.list []):=(g8<|av<|I.hw _ _ ht).trans ht;have I2:IN H (pf 15 b tA 0 0 0 0 0) ((H'.new<|.inst 53<|rz b Yz).new<|DJ .jG (.ref H'.n)<|.ref H'.n):=I1.new;have t2:((H'.new<|.inst 53<|rz b Yz).new<|DJ .jG (.ref H'.n)<|.ref H'.n).at_ tA=some (.list []):=(g8<|av<|I1.hw _ _ t1).trans t1;have k2:=jd.new (t:=⟨.jG,0,0⟩) I1.hw (.new (H:=H'))<|.new (H:=H');exact nM (lv:=3) jC rfl I.obj<|D3 I ⟨nB t1,vZ ⟨rfl,I2.obj,rJ t2 ⟨by decide,(I2.putL t2 lt hw).obj,hq _ _ (I2.putL t2 lt hw) gB<|(Up.putL t2).tok k2⟩⟩⟩
def enP{fa f2 p c lv:Nat}{fm:Fm}{ns:oq}{ib:IB}{v:MV}(cl:∀{w:World} {Q:QV},lP (SG true) w lv f2 [.ref p,v] [] [] H (λz H'=>Ox (SG true) w fm lv ib (iQ ns [.ref p,v]) H'<|m9 Q)->tK (SG true) w lv fa [.ref p,v] [] [] H Q)(h:SC lv f2 p c [v] [] [] H λz fs H'=>run 399 (CK fm lv c p Q) [ib] ⟨[],iQ ns [.ref p,v],[],fs,H'⟩):SC (n+(lv+1)) fa p c [v] [] [] H Q:=λw=>
 ⟨lv,aM ..,cl (lP.m (h w) λz H1 r=>by
  induction r with|mk o q=>
  exact vj w 399 q (λz=>⟨o,rfl⟩) λmf σ1 g1 q=>by
   cases mf with
   |next=>exact⟨sP g1 rfl,q⟩
   |ret v=>exact⟨sP g1 rfl,q⟩
   |_=>exact q.elim)⟩
def yI{l:LN}(hw:HW H)(h:∀c∈l,Fx c=true)(hl:l.length<2000)
  (hq:∀H2 tA iA kA v,IN H (pf 20 (l++[0]) tA iA kA 0 0 0) H2->H2.at_ tA=some (.list [v])->jd H2 (l++[0]) v ⟨.jG,0,0⟩->H2.at_ kA=some (.ju [])->H2.at_ iA=some (.list [])->H.n<=tA->H.n<=kA->H.n<=iA->iA≠tA->Q .none (pf 20 (l++[0]) tA iA kA 0 0 0) H2):SC (n+5) 783 H.n 1521 [.str l] [] [] (H.new<|.inst 1521 []) Q:=by
 have I1:=IN.start hw<|XG<|l++[0];have I2:=I1.pn (f2:=pf 14 (l++[0]) 0 0 0 0 0 0) (o:=.list []) hw;have I3:=I2.set (f2:=pf 15 (l++[0]) (H.n+1) 0 0 0 0 0) hw;have t2:=(I2.yH (y:=.inst 1521<|pf 15 (l++[0]) (H.n+1) 0 0 0 0 0) (eS _) gz);refine enP (lv:=4) (yw vU gz)<|Ae h hl ⟨I2.obj,uM I3 hw t2 (bX _) λH2 v I4 t4 k4=>?_⟩;have I5:=I4.pn (f2:=pf 17 (l++[0]) (H.n+1) 0 0 0 0 0) (o:=.list []) hw;have n4:=I4.ne t4 nofun;have I6:=I5.pn (f2:=pf 19 (l++[0]) (H.n+1) H2.n 0 0 0 0) (o:=.ju []) hw;have I7:=I6.set (f2:=pf 20 (l++[0]) (H.n+1) H2.n (H2.n+1) 0 0 0) hw;have k6:H.n<H2.n+1:=aR I4.n;exact⟨I5.obj,I6.obj,hq _ _ _ _ v I7 (I6.yH n4<|I5.HF n4<|I4.HF n4 t4) (I6.up.tok<|I5.up'.tok<|I4.up'.tok k4) (I6.yH (aQ k6) gz) (I6.yH (aQ I4.n)<|I5.HF (aQ I4.n) gz) (bX _) (cA k6) (cA I4.n)<|aQ<|I4.hw _ _ t4⟩
def Af{l:LN}{r:qY}{Q:QV}(hw:HW H)(h:∀c∈l,Fx c=true)(hl:l.length<1999)(hs:pA (l++[0]).length (l++[0]) 0 true (-1) false r)(hr:r.length+1<800)
  (hq:∀H2 s v,PG H.n s H2 s H2 [v] none (⟨.jG,0,0⟩::r) [] []->s.state=.jR 1340 H.n->s.cur=.none->Ready s [v] none->s.gA=l++[0]->(∀a o,H.at_ a=some o->H2.at_ a=some o)->H.n<H2.n->H.n<=s.tA->H.n<=s.iZ->H.n<=s.j9->H.n<=s.uz->H.n<=s.w9->Q .none H2):CW true (n+6) 1312 [.ref H.n,.str l] [] [] (H.new<|.inst 1521 []) Q:=by
 refine SC.Aw<|enP (lv:=5) (zM xB gz)<|yI hw h (aR hl) λHs tA iA kA v Is ts ks tkA tiA ltA adk adl nit=>?_;have nA:=Is.ne ts nofun;have nk:=Is.ne tkA nofun;have lt:H.n<Hs.n:=Is.n;have I1:=Is.pn (f2:=pf 22 (l++[0]) tA iA kA 0 0 0) (o:=.iN []) hw;have I2:=I1.pn (f2:=pf 23 (l++[0]) tA iA kA Hs.n 0 0) (o:=.list []) hw;have I3:=I2.pn (f2:=pf 24 (l++[0]) tA iA kA Hs.n (Hs.n+1) 0) (o:=.list []) hw;have I4:=I3.set (f2:=gZ<|RZ (l++[0]) tA iA kA Hs.n (Hs.n+1) (Hs.n+2) H.n) hw;have t4:=I3.yH (y:=.inst 1521<|gZ<|RZ (l++[0]) tA iA kA Hs.n (Hs.n+1) (Hs.n+2) H.n) nA<|I2.HF (y:=.inst 1521<|pf 24 (l++[0]) tA iA kA Hs.n (Hs.n+1) 0) (o:=.list []) nA<|I1.HF (y:=.inst 1521<|pf 23 (l++[0]) tA iA kA Hs.n 0 0) (o:=.list []) nA<|Is.HF (y:=.inst 1521<|pf 22 (l++[0]) tA iA kA 0 0 0) (o:=.iN []) nA ts;have d4:=I3.yH (y:=.inst 1521<|gZ<|RZ (l++[0]) tA iA kA Hs.n (Hs.n+1) (Hs.n+2) H.n) nk<|I2.HF (y:=.inst 1521<|pf 24 (l++[0]) tA iA kA Hs.n (Hs.n+1) 0) (o:=.list []) nk<|I1.HF (y:=.inst 1521<|pf 23 (l++[0]) tA iA kA Hs.n 0 0) (o:=.list []) nk<|Is.HF (y:=.inst 1521<|pf 22 (l++[0]) tA iA kA 0 0 0) (o:=.iN []) nk tkA;have niA:=Is.ne tiA nofun;have i4:=I3.yH (y:=.inst 1521<|gZ<|RZ (l++[0]) tA iA kA Hs.n (Hs.n+1) (Hs.n+2) H.n) niA<|I2.HF (y:=.inst 1521<|pf 24 (l++[0]) tA iA kA Hs.n (Hs.n+1) 0) (o:=.list []) niA<|I1.HF (y:=.inst 1521<|pf 23 (l++[0]) tA iA kA Hs.n 0 0) (o:=.list []) niA<|Is.HF (y:=.inst 1521<|pf 22 (l++[0]) tA iA kA 0 0 0) (o:=.iN []) niA tiA;have s1:H.n<Hs.n+1:=aR lt;have s4:=I3.yH (y:=.inst 1521<|gZ<|RZ (l++[0]) tA iA kA Hs.n (Hs.n+1) (Hs.n+2) H.n) (aQ s1)<|I2.HF (y:=.inst 1521<|pf 24 (l++[0]) tA iA kA Hs.n (Hs.n+1) 0) (o:=.list []) (aQ s1) gz;have m4:=I3.yH (y:=.inst 1521<|gZ<|RZ (l++[0]) tA iA kA Hs.n (Hs.n+1) (Hs.n+2) H.n) (aQ<|aR s1) gz;have k4:=I3.up (y:=.inst 1521<|gZ<|RZ (l++[0]) tA iA kA Hs.n (Hs.n+1) (Hs.n+2) H.n)|>.tok (I2.up'.tok<|I1.up'.tok<|Is.up'.tok ks);have la:tA<Hs.n:=Is.hw _ _ ts;have li:iA<Hs.n:=Is.hw _ _ tiA;have hlb:(l++[0]).length<2000:=by rw[aT];exact gq hl
 have hnb:65279∉l++[0]:=λm=>(bF.mp m).elim (λm=>aG (h _ m)<|by decide) λm=>aG (aj.mp m)<|by decide
 refine⟨I1.obj,I2.obj,I3.obj,hq _ (RZ (l++[0]) tA iA kA Hs.n (Hs.n+1) (Hs.n+2) H.n) v ?_ rfl rfl (.inr ⟨nofun,trivial⟩) rfl I4.old I4.n ltA adk adl (cA s1)<|cA<|aR s1⟩;exact⟨⟨⟨⟨⟨I4.obj,aL hlb<|aB<|by rfl⟩,⟨l,rfl⟩,(show 0<(l++[0]).length from by rw[aT];exact eN _),rfl,t4,aB (by rfl),d4,I4.hw⟩,.out rfl i4,nit,nofun⟩,⟨[⟨.jG,0,0⟩],r,.cons k4 .nil,rfl,.more (r:=l++[0]) (c:=0) rfl ⟨rfl,rfl,hnb⟩ hs,λx m e=>by rw[aj.mp m]at e;exact Bool.noConfusion<|aq TK.UB e⟩,hr,hlb⟩,s4,m4,⟨aQ<|aR la,aQ<|aR li⟩,⟨aQ<|aR<|aR la,aQ<|aR<|aR li⟩,eS _,.refl,.refl,rfl,rfl,rfl,rfl,rfl,.inl rfl,I4.hw⟩
inductive Due where
 |stream
 |document (ex:Bool)
 |row
 |value (v:LN) (st:Option LN) (a z:Nat)
 |Cq
 |qZ
 |uA
noncomputable def Ag(b:Bool):MV:=.str<|if b then[121,101,115]else[110,111]
def oE:Due->MV
 |.stream=>.tup [.str [115,116,114,101,97,109]]
 |.document ex=>.tup [.str [100,111,99,117,109,101,110,116],Ag ex,.none,.none]
 |.row=>.tup [.str [114,111,119],.none,.none,Ag true,Ag false]
 |.value v st a z=>.tup [.str [118,97,108,117,101],.none,.none,.tup [Ag st.isNone,Ag !st.isNone],.str v,Rz st,.int a,.int z]
 |.Cq=>.tup [.str [114,111,119,32,101,110,100]]
 |.qZ=>.tup [.str [100,111,99,117,109,101,110,116,32,101,110,100],Ag false]
 |.uA=>.tup [.str [115,116,114,101,97,109,32,101,110,100]]
noncomputable def ua:Co->Due
 |⟨.jG,_,_⟩=>.stream
 |⟨.send,_,_⟩=>.uA
 |⟨.jq ex,_,_⟩=>.document ex
 |⟨.Jr,_,_⟩=>.qZ
 |⟨.row,_,_⟩=>.row
 |⟨.xN,_,_⟩=>.Cq
 |⟨.scalar v st,a,z⟩=>.value v st a z
end
section
variable{n:Nat}{H:MH}{b:LN}{v:MV}{Q:QV}
def oj{b:Bool}(hq:Q (Ag b) H):CW true (n+2) 1545 [.bool b] [] [] H Q:=
 xD (lv:=1) s9 rfl (by cases b<;>exact hq)
def yk{e:Co}(h:oB H b v e)(hq:Q (oE<|ua e) H):CW true (n+3) 1613 [v] [] [] H Q:=by
 obtain⟨i,m1,m2,rfl,h1,h2,ho⟩:=h;obtain⟨k,a,z⟩:=e;refine xD (lv:=2) tu rfl ?_;induction k with
 |jG=>exact n8 ho<|n8 ho<|n8 ho<|n8 ho<|n8 ho<|n8 ho hq
 |send=>exact n8 ho<|n8 ho<|n8 ho<|n8 ho<|n8 ho<|n8 ho<|n8 ho hq
 |jq ex=>exact n8 ho<|n8 ho<|n8 ho<|n8 ho<|aO ho rfl<|oj<|aO ho rfl<|aO ho rfl hq
 |Jr=>exact n8 ho<|n8 ho<|n8 ho<|n8 ho<|n8 ho<|aO ho rfl<|oj hq
 |row=>exact n8 ho<|n8 ho<|aO ho rfl<|aO ho rfl<|aO ho rfl<|oj<|aO ho rfl<|oj hq
 |xN=>exact n8 ho<|n8 ho<|n8 ho hq
 |scalar t st=>obtain⟨j1,q1,rfl,e1,o1⟩:=h1;obtain⟨j2,q2,rfl,e2,o2⟩:=h2;have e1:q1.idx=a:=e1;have e2:q2.idx=z:=e2;subst e1 e2;exact n8 ho<|aO ho rfl ⟨lb3,oj<|aO ho rfl ⟨lb3,oj<|aO ho rfl<|aO ho rfl<|aO ho rfl<|aO ho rfl<|aO ho rfl<|aO o1 rfl<|aO ho rfl<|aO o2 rfl hq⟩⟩
inductive AP:Option Mode->qY->List Co->Prop
 |stop {ts:qY}:AP none ts []
 |more {m:Mode} {ts ts':qY} {e:Co} {m':Option Mode} {es:List Co}:Ju m ts e m' ts'->AP m' ts' es->AP (some m) ts (e::es)
def Below(n:Nat)(H H':MH):Prop:=∀a o,a<n->H.at_ a=some o->H'.at_ a=some o
variable{p g n0:Nat}{s s':PS}{H':MH}{gv gI:gV}{k k':qb}{ts ts':qY}{ny wJ ms ms' gs:gV}
structure J1(p g n0:Nat)(s:PS)(H:MH)(gv:gV)(k:qb)(ts:qY)(ny ms:gV)(gs:gV):Prop where
 G:PG p s H s H gv k ts ny ms
 got:H.at_ g=some (.list gs)
 own:Own s g
 n2:g≠s.uz
 n3:g≠s.w9
 lo:∀a∈AM p s,n0<=a
 lg:n0<=g
 ln:n0<=H.n
def J1.no6(I:J1 p g n0 s H gv k ts ny ms gs):g∉AM p s:=λm=>by
 have e:=I.got;simp only[AM,ao,bq,dz]at m;rcases m with m|m|m|m|m|m
 ·subst m;rw[I.G.obj]at e;cases e
 ·exact I.own.t m
 ·obtain⟨es,ee⟩:=I.G.T.sc.R.qX;subst m;rw[ee]at e;cases e
 ·exact I.own.d m
 ·exact I.n2 m
 ·exact I.n3 m
def J1.step(I:J1 p g n0 s H gv k ts ny ms gs)(G:PG p s H s' H' gI k' ts' wJ ms'):J1 p g n0 s' H' gI k' ts' wJ ms' gs/\Below n0 H H':=by
 refine⟨⟨G.refl,G.kp.at_ _ _ I.got I.no6,⟨by rw[G.e2];exact I.own.t,by rw[G.e5];exact I.own.d⟩,by rw[G.e3];exact I.n2,by rw[G.e4];exact I.n3,λa m=>?_,I.lg,aa I.ln G.kp.n⟩,λa o l e=>G.kp.at_ _ _ e λm=>Nat.not_le_of_lt l<|I.lo a m⟩;have q:∀x∈AM p s,n0<=x:=I.lo;simp only[AM,ao,bq,dz]at m q;rcases m with m|m|m|m|m|m
 ·exact q _<|.inl m
 ·exact q _<|.inr<|.inl<|m.trans G.e2
 ·rcases G.kA with h|h
  ·exact q _<|.inr<|.inr<|.inl<|m.trans h
  ·exact aa I.ln<|m▸h
 ·exact q _<|.inr<|.inr<|.inr<|.inl<|m.trans G.e5
 ·exact q _<|.inr<|.inr<|.inr<|.inr<|.inl<|m.trans G.e3
 ·exact q _<|.inr<|.inr<|.inr<|.inr<|.inr<|m.trans G.e4
def J1.app(I:J1 p g n0 s H gv k ts ny ms gs)(u:MV):J1 p g n0 s (H.put g<|.list<|gs++[u]) gv k ts ny ms (gs++[u]):=
 have sc:Sc p (H.put g<|.list<|gs++[u]) s gv k:=I.G.T.sc.putL I.got I.own;⟨⟨I.G.T.up sc<|.putL I.got,(gD<|f5 I.n2).trans I.G.st,(gD<|f5 I.n3).trans I.G.mr,I.G.n1,I.G.n2,I.G.n3,.refl,.refl,rfl,rfl,rfl,rfl,rfl,.inl rfl,sc.R.hw⟩,gB,I.own,I.n2,I.n3,I.lo,I.lg,I.ln⟩
def oB.UH{H:MH}{b:LN}{v:MV}{e:Co}(h:oB H b v e):∃i,v=.ref i:=h.elim λi h=>h.elim λz h=>h.elim λz h=>⟨i,h.1⟩
noncomputable abbrev zW(f:Fm)(lv:Nat):En:=⟨false,true,f,lv,0,0⟩
noncomputable abbrev aaQ:IE:=.cmp .IsNot (.loc 15) .none
noncomputable abbrev aaR:IB:=(.cons (.expr<|.F6 .neg (.loc 14)<|.cons (.F5 1613 (.cons (.loc 15) .nil) [] .nil) .nil)<|.cons (.asg 15<|.nQ (.loc 13) 107 .nil [] .nil) .nil)
def Below.trans{n:Nat}{H H' zO:MH}(a:Below n H H')(b:Below n H' zO):Below n H zO:=λx o l e=>b x o l<|a x o l e
def J1.below{p g n0:Nat}{s:PS}{H:MH}{gv:gV}{k:qb}{ts:qY}{ny ms gs:gV}(I:J1 p g n0 s H gv k ts ny ms gs){o:MO}:Below n0 H (H.put g o):=λx o l e=>(gD<|av<|aL l I.lg).trans e
end
section
variable{p g n0:Nat}{l0 l1 l2 l3 l4 l5 l6 l7 l8 l9 l10 l11 l12 l16 l17 l18:nF}{Q:QF}{f:Fm}
def R0{mo:Option Mode}{ts:qY}{es:List Co}(ht:AP mo ts es):
  ∀(s:PS) (H:MH) (gv:gV) (k:qb) (ms gs:gV) (e:Co) (v:MV),J1 p g n0 s H gv k ts (Jt p mo) ms gs->MZ mo ms->DZ s gv k mo->s.cur=.none->s.state=stM p mo->gs.length+es.length<500->oB H s.gA v e->
  (∀H',H'.at_ g=some (.list<|gs++(e::es).map λe=>oE<|ua e)->Below n0 H H'->Q .next [l0,l1,l2,l3,l4,l5,l6,l7,l8,l9,l10,l11,l12,some<|.ref p,some<|.ref g,some .none,l16,l17,l18] H')->
  LW (zW f 17) aaQ aaR .nil [l0,l1,l2,l3,l4,l5,l6,l7,l8,l9,l10,l11,l12,some<|.ref p,some<|.ref g,some v,l16,l17,l18] H Q:=by
 have big:(500:Nat)<=gP:=aB<|by rfl
 induction ht with
 |@stop ts=>intro s H gv k ms gs e v I hm hr AN hst hgs hv hq;obtain⟨i,rfl⟩:=hv.UH;have I2:=I.app<|oE<|ua e;refine LW.turn (fs:=[]) nofun ⟨nB I.got,yk hv<|rJ I.got ⟨aL (ah (aA _ _) hgs) big,n8 I2.G.obj<|⟨rfl,(xP (n:=0) I2.G hst AN λs' H' gI k' G' z z=>?_).Aw⟩⟩⟩;obtain⟨I3,B3⟩:=I2.step G';exact LW.turn (fs:=[]) nofun<|hq H' I3.got<|I.below.trans B3
 |@more m ts ts' e' m' es hs ht ih=>intro s H gv k ms gs e v I hm hr AN hst hgs hv hq;obtain⟨i,rfl⟩:=hv.UH;have I2:=I.app<|oE<|ua e;refine LW.turn (fs:=[]) nofun ⟨nB I.got,yk hv<|rJ I.got ⟨aL (ah (aA _ _) hgs) big,n8 I2.G.obj<|⟨rfl,(wL (n:=0) I2.G hm hr hs hst AN λs' H' gI k' v' ms' G' hm' hr' M1 M3 hv'=>?_).Aw⟩⟩⟩;obtain⟨I3,B3⟩:=I2.step G';refine ih s' H' gI k' ms' (gs++[oE<|ua e]) e' v' I3 hm' hr' M3 M1 (by rw[aT];exact(gh gs.length 1 es.length).symm▸hgs) (G'.e1▸hv') λH4 h4 B4=>hq H4 (by rw[h4,aW];rfl)<|(I.below.trans B3).trans B4
end
section
open PyProof.Rows.LCg (lst lst_snoc NsObj ns_obj)
open PyProof.Rows.LCp (codeAny_compLoop_pair)
def NV(o:Obj):Prop:=(∀vs,o≠tB vs)/\∀f x,o≠methodObj f x
def qy.nv{o:Obj}(h:qy o):NV o:=⟨λvs e=>h.1 (by rw[e]),λf x e=>h.2<|by rw[e]⟩
def aaW{o:Obj}{m:Str->Option Value}(h:NsObj o m):NV o:=by obtain⟨es,ep,hd,_⟩:=h;exact⟨λvs e=>(by rw[e]at hd;cases hd),λf x e=>(by rw[e]at hd;cases hd)⟩
def XH{ys:lO}:NV (lst ys):=⟨λvs e=>aG (cu<|aq Obj.cls e) (by decide),λf x e=>aG (cu<|aq Obj.cls e)<|by decide⟩
def lY.M4{S:jy}{w:World}{U:jK}{H:MH}{own its:ig}{wr:List Addr}(R:lY S w U H)(hp:U.its=own++its)(hw:∀b∈wr,∃o,(b,o)∈own)(hv:∀p∈own,p.1∈wr/\NV p.2)(hps:∀p,jK.held ⟨U.jY,U.news,U.iw,U.fix,its⟩ p->p.1∉wr):
  xZ S w U ⟨U.jY,rF wr U.news,U.iw,U.fix,its⟩ H:=
 have oi:∀p∈own,p∈U.its:=λp h=>hp▸bW _ h;have si:∀p∈its,p∈U.its:=λp h=>hp▸bx _ h;have hd:∀p,jK.held ⟨U.jY,U.news,U.iw,U.fix,its⟩ p->U.held p:=λp h=>h.imp id<|.imp id<|si p;have nv:∀a x,(a,x)∈U.news->a∈wr->NV x:=λa x m h=>(hw a h).elim λo h'=>rE R.nodup (R.pin _<|.inr<|.inr<|oi _ h') m▸(hv _ h').2;have na:∀i a,AV U i a->a∉wr:=λi a m h=>(hw a h).elim λo h'=>R.uX _ (oi _ h') i m;have xT:ou U ⟨U.jY,rF wr U.news,U.iw,U.fix,its⟩:=⟨λz z h=>h,λa vs m=>jm.mpr ⟨m,λh=>(nv a _ m h).1 _ rfl⟩,λa f x m=>jm.mpr ⟨m,λh=>(nv a _ m h).2 _ _ rfl⟩,rfl⟩;⟨xT,R.nodup.sublist<|List.Sublist.map _ List.filter_sublist,R.lt,R.dom,λi a m=>(R.El i a m).elim λx h=>⟨x,jm.mpr ⟨h,na i a m⟩⟩,R.inj,
  λj u h=>(R.obj j u h).move xT (λz a z m h=>jm.mpr ⟨h,na j a m⟩) λz z z z m=>m,
  λp h=>jm.mpr ⟨R.pin p<|hd p h,hps p h⟩,λp h=>R.uX p<|si p h,λp h=>R.tE p<|hd p h⟩
inductive Bl(V:Th)(u:Nat)(G:Gm)(r:Rh)(wr:List Addr)(C D n:Nat)(pC:Nat->Heap->Prop)(v:Nat->LN)(K:Nat->MH->Prop)(Lc:Loc)(k:Nat)(s:Shared)(i:Nat)(r1:Rh)(H1:MH)(ys:lO)(m':Str->Option Value):Prop
 |mk (e:r1.s=s) (T:St V G r1 Lc H1) (l:Le r r1) (nw:∀p∈r1.U.news,p.1∉wr) (st:pC i s.heap) (ns:s.heap.Ns C m') (d:s.heap.get? D=some (lst ys)) (hi:i<=n) (hk:k=n+1-i) (len:ys.length=i) (val:∀(j:Nat) y,ys[j]?=some y->∃t,y=.str (gN<|v j) t) (kk:K i H1):Bl V u G r wr C D n pC v K Lc k s i r1 H1 ys m'
structure Sa(n0 C D:Nat)(wr w2:List Addr):Prop where
 ge:∀b∈wr,n0<=b
 nd:wr.Nodup
 in2:∀b∈w2,b∈wr
 nC2:C∉w2
 nD2:D∉w2
 ne:C≠D
 inC:C∈wr
 inD:D∈wr
 el:∀b∈wr,b∈w2∨b=C∨b=D
def mm{n k:Nat}{l:LN}(h:n+k∈l.map (n+·)):k∈l:=(bU.mp h).elim λa h=>Nat.add_left_cancel h.2▸h.1
def aaY{a b c d x:Nat}{P:Prop}(h:x∈[a,b,c,d])(k1:x=a->P)(k2:x=b->P)(k3:x=c->P)(k4:x=d->P):P:=(ao.mp h).elim k1 λh=>(ao.mp h).elim k2 λh=>(ao.mp h).elim k3 λh=>k4<|aj.mp h
def Sb{n:Nat}:Sa n (n+3) (n+2) [n+1,n,n+3,n+2] [n+1,n]:=
 ⟨λb h=>aaY h (λe=>e▸aA ..) (λe=>e▸aD _) (λe=>e▸aA ..) λe=>e▸aA ..,List.Pairwise.map (n+·) (λa b h e=>h<|Nat.add_left_cancel e) (show List.Pairwise (·≠·) [1,0,3,2] by decide),
  λb h=>A4 h (λe=>e▸.head _) λe=>e▸.tail _ (.head _),λh=>aG (mm (l:=[1,0]) h) (by decide),λh=>aG (mm (l:=[1,0]) h) (by decide),λe=>aG (Nat.add_left_cancel e) (by decide),.tail _<|.tail _<|.head _,.tail _<|.tail _<|.tail _<|.head _,
  λb h=>aaY h (λe=>.inl<|e▸.head _) (λe=>.inl<|e▸.tail _ (.head _)) (λe=>.inr<|.inl e) λe=>.inr<|.inr e⟩
def Sd{n C D:Nat}(hC:C=n+3)(hD:D=n+2):Sa n C D [n+1,n,C,D] [n+1,n]:=hC▸hD▸Sb
def XI{l:LN}{i:Nat}{v:Value}{h:Heap}{P:Value->Prop}(z:∃T jJ,v=.ref T/\(∃tk y,(∃c u,l[i]?=some c/\y=.str ⟨#[c]⟩ u)/\jJ=#[.int i tk,y])/\h.IsTuple T jJ)(k:∀T tk c u,l[i]?=some c->h.IsTuple T #[.int i tk,.str ⟨#[c]⟩ u]->P (.ref T)):P v:=
 z.elim λT z=>z.elim λjJ z=>z.2.1.elim λtk w=>w.elim λy w=>w.1.elim λc g=>g.elim λu g=>z.1.symm▸k T tk c u g.1 (g.2▸w.2▸z.2.2)
def kdn{sc:PySem.Scope}{cl:List (Str×Addr)}{C:Nat}{e:Env}(h:sc.kind=.function):((compEnvC sc cl C e).scope.kind==.class||((compEnvC sc cl C e).scope.kind==.module&&(compEnvC sc cl C e).locals !=(compEnvC sc cl C e).globals))=false:=by show(sc.kind==.class||(sc.kind==.module&&_))=false;rw[h];rfl
def adp{A B C D:Rh->MH->Prop}{s:Shared}{P:Shared->Prop}(z:∃r H,r.s=s/\A r H/\B r H/\C r H/\D r H)(k:∀r H,A r H->B r H->C r H->D r H->P r.s):P s:=by obtain⟨r,H,rfl,a,b,c,d⟩:=z;exact k _ _ a b c d
def M5{ys:lO}{y:Value}{v:Nat->LN}(yv:∀(j:Nat) y,ys[j]?=some y->∃t,y=.str (gN<|v j) t)(hy:∃t,y=.str (gN<|v ys.length) t)(j:Nat)(y':Value)(hj:(ys++[y])[j]?=some y'):∃t,y'=.str (gN<|v j) t:=by
 by_cases h:j<ys.length
 ·exact yv j y'<|List.getElem?_append_left h▸hj
 ·rw[gp<|gg.mp h]at hj;have e:j=ys.length:=Nat.le_antisymm (Nat.le_of_sub_eq_zero<|Nat.lt_one_iff.mp (bG.mp hj).1)<|gg.mp h;rw[e,Nat.sub_self]at hj;exact ay hj▸e▸hy
def Bl.go{V:Th}{u:Nat}{G:Gm}{r:Rh}{wr:List Addr}{C D n:Nat}{pC:Nat->Heap->Prop}{v:Nat->LN}{K:Nat->MH->Prop}{Lc:Loc}{k:Nat}{s:Shared}{P:Nat->Shared->Prop}(z:∃i r1 H1 ys m',Bl V u G r wr C D n pC v K Lc k s i r1 H1 ys m')
  (g:∀i r1 H1 ys m',i<=n->St V G r1 Lc H1->Le r r1->(∀p∈r1.U.news,p.1∉wr)->pC i r1.s.heap->r1.s.heap.Ns C m'->r1.s.heap.get? D=some (lst ys)->ys.length=i->(∀(j:Nat) y,ys[j]?=some y->∃t,y=.str (gN<|v j) t)->K i H1->P (n+1-i) r1.s):P k s:=by
 obtain⟨i,r1,H1,ys,m',rfl,T,l,nw,st,ns,d,hi,rfl,len,val,kk⟩:=z;exact g i r1 H1 ys m' hi T l nw st ns d len val kk
section
variable{V:Th}{G:Gm}{r:Rh}{Lc:Loc}{H:MH}{wr:List Addr}{h:Heap}{tk:Nat}
noncomputable abbrev Jv(h0:Heap)(wr:List Addr)(h:Heap)(U:jK):jK:=⟨U.jY,PyProof.Rows.ownOf h0 wr h++U.news,U.iw,U.fix,PyProof.Rows.ownOf h0 wr h++U.its⟩
def St.XJ(T:St V G r Lc H)(M6:G.L∉wr)(hwn:∀b∈wr,G.h₀.get? b=none)(hn:∀p∈r.U.news,p.1∉wr)(nd:wr.Nodup)(k:∀b o,b∉wr->r.s.heap.get? b=some o->h.get? b=some o):
  St V G ⟨Jv G.h₀ wr h r.U,r.m,{r.s with heap:=h,toks:=tk}⟩ Lc H/\ou r.U (Jv G.h₀ wr h r.U):=by
 have T3:=T.off (h':=h) (tk:=tk) M6 hwn hn k;have nd:((PyProof.Rows.ownOf G.h₀ wr h++r.U.news).map (·.1)).Nodup:=by rw[bJ];exact fz.mpr ⟨yb nd,T.R.nodup,λx hx y hy e=>(bU.mp hx).elim λp hp=>(bU.mp hy).elim λq hq=>hn q hq.1<|hq.2.trans (e.symm.trans hp.2.symm)▸(uw hp.1).1⟩
 have Z:=T3.R.yR nd;exact⟨T3.mT (U':=Jv G.h₀ wr h r.U) (λp hp=>(bF.mp hp).elim (news_ownOf M6 p)<|T3.N p) Z.R Z.x,Z.x⟩
def St.kept{r5:Rh}{m:Str->Option Value}{s:Shared}(T5:St V G r5 Lc H)(l5:Le ⟨Jv G.h₀ wr h r.U,m,s⟩ r5)(hwn:∀b∈wr,G.h₀.get? b=none){b:Addr}(hb:b∈wr){o:Obj}(ho:h.get? b=some o):r5.s.heap.get? b=some o:=
 (T5.N _<|T5.R.pin (b,o)<|.inr<|.inr<|l5.x.its▸bW _ (mem_ownOf hb (hwn b hb) ho)).1
def St.aaZ{r5:Rh}{h2 h':Heap}{H1 H5:MH}(T5:St V G r5 Lc H5)(l5:Le ⟨Jv G.h₀ wr h r.U,r.m,{r.s with heap:=h2,toks:=tk}⟩ r5)(T1:St V G r Lc H1)(x4:ou r.U<|Jv G.h₀ wr h r.U)(M6:G.L∉wr)(hwn:∀b∈wr,G.h₀.get? b=none)(hn:∀p∈r.U.news,p.1∉wr)
  (lv:∀b∈wr,∃o,h.get? b=some o/\NV o)(k:∀b o,b∉wr->r5.s.heap.get? b=some o->h'.get? b=some o):
  St V G ⟨⟨r5.U.jY,rF wr r5.U.news,r5.U.iw,r5.U.fix,r.U.its⟩,r5.m,{r5.s with heap:=h'}⟩ Lc H5/\Le r ⟨⟨r5.U.jY,rF wr r5.U.news,r5.U.iw,r5.U.fix,r.U.its⟩,r5.m,{r5.s with heap:=h'}⟩:=by
 have ei:r5.U.its=PyProof.Rows.ownOf G.h₀ wr h++r.U.its:=l5.x.its;have ow:∀p∈PyProof.Rows.ownOf G.h₀ wr h,p.1∈wr/\h.get? p.1=some p.2:=λp hp=>uw hp;have Z5:=T5.R.M4 ei (λb hb=>(lv b hb).elim λo z=>⟨o,mem_ownOf hb (hwn b hb) z.1⟩) (λp hp=>⟨(ow p hp).1,(lv p.1 (ow p hp).1).elim λo z=>(ay<|z.1.symm.trans (ow p hp).2)▸z.2⟩) λp hp=>hn p<|T1.R.pin p<|hp.imp (λh=>l5.x.iw▸h)<|Or.imp (λh=>l5.x.fix▸h) id;exact⟨(T5.mT (λp hp=>T5.N p (jm.mp hp).1) Z5.R Z5.x).off (h':=h') (tk:=r5.s.toks) M6 hwn (λp hp=>(jm.mp hp).2) k,⟨⟨(x4.trans l5.x.toou).trans Z5.x,l5.x.iw,rfl⟩,l5.g,l5.o⟩⟩
end
section
variable{V:Th}{u:Nat}{G:Gm}{E:qT}{r:Rh}{Lc:Loc}{H:MH}
def Jw{elt iter:Expr}{x x₂:Str}{px px₂ tp pos:Pos}{tk:Nat}{sc:Scope}{cl:List (Str×Addr)}{n0 C D it:Nat}{wr w2:List Addr}{l:LN}{Md:Nat->Value->Heap->Prop}{pC:Nat->Heap->Prop}{v:Nat->LN}{K:Nat->MH->Prop}{R:Result->Shared->Prop}
  (qt:V.S.quiet=true)(hkind:sc.kind=.function)(hx:sc.names.lookup x=some .local)(hx₂:sc.names.lookup x₂=some .local)(hxx:x≠x₂)(hn:l.length<=1000)
  (W:KTurns V.S.prog V.w G.A (.Tuple [.Name x px,.Name x₂ px₂] tk tp) it w2 w2 l.length (λi v h=>∃T jJ,v=.ref T/\(∃tk y,(∃c u,l[i]?=some c/\y=.str ⟨#[c]⟩ u)/\jJ=#[.int i tk,y])/\h.IsTuple T jJ) Md pC)
  (live:∀i h,pC i h->∀b∈w2,∃o,h.get? b=some o/\qy o)(hL:G.L<n0)(hnew:∀b,n0<=b->G.h₀.get? b=none)(O:Sa n0 C D wr w2)
  (C0:Ctx V G)(rm:CT u G.A)
  (helt:∀i c r3 H1 m' tx ty E',l[i]?=some c->At V u G r3 Lc H1->(∃oC,(C,oC)∈r3.U.its/\NsObj oC m')->m' x=some (.int (i:Nat) tx)->m' x₂=some (.str ⟨#[c]⟩ ty)->(∀p∈r.U.its,p∈r3.U.its)->ou r.U r3.U->K i H1->
   wpAny V.M G.A (eval elt<|compEnvC sc cl C<|V.f.env G.L) (λy s'=>∃r4 H4,r4.s=s'/\Le r3 r4/\St V G r4 Lc H4/\(∃t,y=.str (gN<|v i) t)/\K (i+1) H4) E' r3.s)
  (fin:∀r1 H1 ys m',St V G r1 Lc H1->Le r r1->(∀p∈r1.U.news,p.1∉wr)->r1.s.heap.Ns C m'->r1.s.heap.get? D=some (lst ys)->ys.length=l.length->(∀(j:Nat) y,ys[j]?=some y->∃t,y=.str (gN<|v j) t)->K l.length H1->R (.ok .next) r1.s)
  {s:Shared}(h0:∃r1 H1 ys m',Bl V u G r wr C D l.length pC v K Lc (l.length+1) s 0 r1 H1 ys m'):
  codeAny V.M G.A (.compLoop (.ListComp elt [⟨.Tuple [.Name x px,.Name x₂ px₂] tk tp,iter,[],0⟩] sc pos) 0 (.ref it) (.ref D)<|compEnvC sc cl C<|V.f.env G.L) R s:=by
 have M6:G.L∉wr:=λh=>bI _<|aL hL<|O.ge _ h;have hwn:∀b∈wr,G.h₀.get? b=none:=λb hb=>hnew b<|O.ge b hb;refine codeAny_compLoop_pair (λk s=>∃i r1 H1 ys m',Bl V u G r wr C D l.length pC v K Lc k s i r1 H1 ys m') (λk s1 z=>?_) (l.length+1)<|h0.elim λa h=>h.elim λb h=>h.elim λc h=>h.elim λd e=>⟨0,a,b,c,d,e⟩;apply Bl.go z;intro i r1 H1 ys m' hi T1 l1 hn1 st1 ns1 d1 yl yv kk;by_cases hlt:i<l.length
 ·refine W.item i _ _ _ hlt st1 λvv h₁ tk₁ hMd hk₁=>W.go i vv _ _ _ hMd λh₂ hP st2 hk₂=>?_;apply XI hP;intro TT tk c u' hc hT;have k2:∀b o,b∉w2->r1.s.heap.get? b=some o->h₂.get? b=some o:=λb o hb e=>hk₂ b o hb<|hk₁ b o hb e;refine assign_Tuple_tuple (C0.quiet qt) hT rfl rfl λh₅ he=>?_;have he':∀b o,h₂.get? b=some o->h₅.get? b=some o:=λb o e=>he b o (av<|bV e) e;refine assignInOrder_cons<|wpAny_assign_Name<|wpAny_storeName_local (lookup_relabel_local hx) ((ns1.at' λo e=>k2 _ o O.nC2 e).at' λo e=>he' _ o e) (λh₆ hn₆ hs₆=>?_)<|kdn hkind;refine assignInOrder_cons<|wpAny_assign_Name<|wpAny_storeName_local (lookup_relabel_local hx₂) hn₆ (λh₃ hn₃ hs₃=>?_)<|kdn hkind;refine assignInOrder_nil ?_;have XM:∀b o,b≠C->h₂.get? b=some o->h₃.get? b=some o:=λb o hb e=>hs₃.extBut b o hb<|hs₆.extBut b o hb<|he' b o e;have Yp:pC (i+1) h₃:=W.frame _ _ _ st2 λb hb o e=>XM b o (λq=>O.nC2<|q▸hb) e;have hC:=ns_obj hn₃;have dD:h₃.get? D=some (lst ys):=XM _ _ (f5 O.ne)<|k2 _ _ O.nD2 d1;have Z:=T1.XJ (tk:=tk₁+1+1) M6 hwn hn1 O.nd λb o hb e=>XM b o (λq=>hb<|q▸O.inC)<|k2 b o (λq=>hb<|O.in2 b q) e;refine cZ (helt i c _ H1 _ _ _ _ hc ⟨C0,rm,Z.1⟩ (hC.imp λo z=>⟨bW _<|mem_ownOf O.inC (hwn C O.inC) z.1,z.2⟩) ((aE hxx).trans<|aF rfl) (aF rfl) (λp hp=>bx _<|l1.x.its▸hp) (l1.x.toou.trans Z.2) kk) (λy s' hy=>?_) λn n e=>e;apply adp hy;intro r5 H5 l5 T5 hy kk5;have lv:∀b∈wr,∃o,h₃.get? b=some o/\NV o:=λb hb=>by
   rcases O.el b hb with hb|hb|hb
   ·obtain⟨o,a,b⟩:=live _ _ Yp _ hb;exact⟨o,a,b.nv⟩
   ·exact hb▸hC.imp λo z=>⟨z.1,aaW z.2⟩
   ·exact hb▸⟨_,dD,XH⟩
  refine append_at (hsz:=kJ<|aa (dH yl)<|aa hi<|aa hn<|by decide) (T5.kept l5 hwn O.inD dD) λh₇ hs₇ hD₇=>?_;have Y:=T5.aaZ l5 T1 Z.2 M6 hwn hn1 lv (h':=h₇) λb o hb e=>hs₇.extBut b o (λq=>hb<|q▸O.inD) e;refine⟨l.length+1-(i+1),Nat.sub_lt_sub_left (aR hlt)<|bS i,i+1,⟨⟨r5.U.jY,rF wr r5.U.news,r5.U.iw,r5.U.fix,r1.U.its⟩,r5.m,{r5.s with heap:=h₇}⟩,H5,ys++[y],_,⟨rfl,Y.1,l1.trans Y.2,λp hp=>(jm.mp hp).2,W.frame _ _ _ Yp λb hb o e=>hs₇.extBut b o (λq=>O.nD2<|q▸hb)<|T5.kept l5 hwn (O.in2 b hb) e,hC.elim λo z=>(z.2.ns<|T5.kept l5 hwn O.inC z.1).sameBut hs₇ O.ne,hD₇.trans<|aq some<|lst_snoc ys y,hlt,rfl,by rw[aT,aY,yl],M5 yv<|yl.symm▸hy,kk5⟩⟩
 ·have hin:i=l.length:=Nat.le_antisymm hi<|gg.mp hlt;refine W.done _ _ _ (hin▸st1) λh₁ tk₁ hk₁=>?_;have T2:=T1.off (h':=h₁) (tk:=tk₁) M6 hwn hn1 λb o hb e=>hk₁ b o (λq=>hb<|O.in2 b q) e;exact fin ⟨r1.U,r1.m,{r1.s with heap:=h₁,toks:=tk₁}⟩ H1 ys m' T2 ⟨l1.x,l1.g,l1.o⟩ hn1 (ns1.at' λo e=>hk₁ _ o O.nC2 e) (hk₁ _ _ O.nD2 d1) (yl.trans hin) yv<|hin▸kk
end
end
section
open PyProof.Rows.LCg (lst lst_snoc NsObj ns_obj)
noncomputable def pick(s0 s1 spot many:Nat):Nat:=(s0/(1+spot%7)+s1*(spot+1))%many
noncomputable def qN:iK:=[[10],[13,10],[133]]
section
variable{n:Nat}{H:MH}{Q:QV}
def ze(hq:Q (.ref H.n)<|H.new<|.list<|qN.map .str):CW true (n+2) 1531 [] [] [] H Q:=xD (lv:=1) pG rfl hq
def XN:2<gP:=aB<|by rfl
def Cr{n m:Nat}(h:n<m)(k:m<=1000000):0<=(n:Int)/\(n:Int)<1000000:=⟨cB _,gb.mpr<|aL h k⟩
def mQ{s0 s1 spot many:Nat}(h0:s0<27720)(h1:s1<27720)(h2:spot<10000)(hm:many≠0)(hq:Q (.int (pick s0 s1 spot many:Nat)) H):CW true (n+2) 1552 [.tup [.int s0,.int s1],.int spot,.int many] [] [] H Q:=by
 have e1:(1:Int)+(spot:Int).fmod 7=((1+spot%7:Nat):Int):=by rw[show((7:Int))=((7:Nat):Int)from rfl,dj _<|cB _];lia
 have e2:(s0:Int).fdiv ((1+spot%7:Nat):Int)=((s0/(1+spot%7):Nat):Int):=by rw[Int.fdiv_eq_ediv_of_nonneg _<|cB _];rfl
 have e3:((s0/(1+spot%7):Nat):Int)+(s1:Int)*((spot:Int)+1)=((s0/(1+spot%7)+s1*(spot+1):Nat):Int):=by push_cast;rfl
 have e4:(((s0/(1+spot%7)+s1*(spot+1):Nat):Int)).fmod (many:Int)=(pick s0 s1 spot many:Nat):=by rw[dj _<|cB _];rfl
 have lt:spot%7<7:=cC _<|by decide
 have hf:(many:Int)≠0:=λh=>hm<|gk h;rw[<-e4,<-e3,<-e2,<-e1]at hq;exact xD (lv:=1) n9 rfl ⟨XN,by decide,by rw[e1];exact⟨(Cr h0<|by decide).1,(Cr h0<|by decide).2,Int.natCast_pos.mpr<|Nat.add_pos_left Nat.one_pos _,(Cr (Nat.add_lt_add_left lt 1)<|by decide).2⟩,XN,⟨Cr h1 (by decide),Cr (n:=spot+1) (gq h2)<|by decide⟩,hf,hq⟩
end
abbrev XO:List (Str×NameKind):=[(q "run",.cell),(q "salt",.cell),(q "enumerate",.globalImplicit)]
abbrev M7:List (Str×NameKind):=[(q ".0",.local),(q "spot",.local),(q "c",.local),(q "_law_ENDS",.globalImplicit),(q "_law_pick",.globalImplicit),(q "len",.globalImplicit),(q "run",.free),(q "salt",.free)]
abbrev nmC:List (Str×NameKind):=[(q ".0",.local),(q "spot",.local),(q "c",.local),(q "_law_ENDS",.globalImplicit),(q "_law_pick",.globalImplicit),(q "len",.globalImplicit),(q "run",.cell),(q "salt",.cell)]
abbrev XQ(c1 c2:Addr):List (Str×Addr):=[(q "salt",c2),(q "run",c1)]
structure sU(f:Fm)(sc:PySem.Scope)(c1 c2:Addr):Prop where
 fk:f.sc.kind=.function
 fn:f.sc.names=XO
 fc:f.cl=(XQ c1 c2)
 sk:sc.kind=.function
 sn:sc.names=M7
section
variable{w:World}{f:Fm}{sc:PySem.Scope}{c1 c2 C u:Nat}{G:Gm}{E:qT}{r:Rh}{Lc:Loc}{H:MH}{R:qT}{p:Pos}
abbrev cenv(sc:PySem.Scope)(c1 c2 C:Addr)(f:Fm)(L:Addr):Env:=compEnvC sc (XQ c1 c2) C<|f.env L
def Cs(e:sU f sc c1 c2):(cenv sc c1 c2 C f G.L).scope.kind=.function:=e.sk
def kinds(e:sU f sc c1 c2):(cenv sc c1 c2 C f G.L).scope.names=nmC:=by obtain⟨ns,⟨fk,fn,g,co,mo⟩,cn,ccd,cl,fa⟩:=f;obtain⟨kd,nm,g',co',mo'⟩:=sc;obtain⟨h1,h2,h3,h4,h5⟩:=e;have h1:fk=.function:=h1;have h2:fn=XO:=h2;have h5:nm=M7:=h5;rw[h1,h2,h5];rfl
def wM(e:sU f sc c1 c2)(x:Str):(cenv sc c1 c2 C f G.L).kindOf x=nmC.lookup x:=aq (List.lookup x)<|kinds e
def Fy{x:Str}{v:Value}{m:Str->Option Value}(e:sU f sc c1 c2)(hx:nmC.lookup x=some .local)(hd:(x==("__debug__":Str))=false)(hns:r.s.heap.Ns C m)(hm:m x=some v)(h:R v r.s):
  wpAny (model (SG true).prog w) G.A (eval (.Name x p)<|cenv sc c1 c2 C f G.L) R E r.s:=
 wpAny_Name (eT (Cs e) ((wM e x).trans hx) hns hm h) hd
def M8{x:Str}{v:Value}{c:Addr}{o:Obj}{news:List (Addr×Obj)}{h₀:Heap}{L:Addr}(e:sU f sc c1 c2)(hx:nmC.lookup x=some .cell)(hd:(x==("__debug__":Str))=false)(hc:(XQ c1 c2).lookup x=some c)(N:News h₀ L r.s.heap news)(hm:(c,o)∈news)(hv:o.data=.cell (some v))(h:R v r.s):
  wpAny (model (SG true).prog w) G.A (eval (.Name x p)<|cenv sc c1 c2 C f G.L) R E r.s:=
 wpAny_Name (wpAny_loadName_cell (Cs e) ((wM e x).trans hx) hc ⟨o,N.get hm,hv⟩ h) hd
def Fz{x:Str}{v:Value}(e:sU f sc c1 c2)(hx:nmC.lookup x=some .globalImplicit)(hd:(x==("__debug__":Str))=false)(hg:glL.lookup x=some v)(a:At ⟨SG true,w,f⟩ u G r Lc H){E':qT}(h:R v r.s):
  wpAny (model (SG true).prog w) G.A (eval (.Name x p)<|cenv sc c1 c2 C f G.L) R E' r.s:=
 a.C.T.elim λmg T=>T.elim λmb TT=>((Dy true w).gl x v hg).elim
  (λz=>fP (Cs e) ((wM e x).trans hx) (loadGlobal_global (env:=cenv sc c1 c2 C f G.L) (TT.g.keeps a.T.F.keep) (mg_of a.C.X TT.g z) h) hd)
  λz=>fP (Cs e) ((wM e x).trans hx) (loadGlobal_builtin (env:=cenv sc c1 c2 C f G.L) (TT.g.keeps a.T.F.keep) (mg_none_of a.C.X TT.g z.1) (TT.b.keeps a.T.F.keep) ((TT.builtins x z.2.2).trans z.2.1) h) hd
def uN(s0 s1 m i c:Nat):LN:=if c=8232 then[8232]else qN.getD (pick s0 s1 (m+i) 3) []
structure qu(H H':MH):Prop where
 old:∀a o,H.at_ a=some o->H'.at_ a=some o
 n:H.n<=H'.n
 hw:HW H->HW H'
def qu.refl{H:MH}:qu H H:=⟨λz z h=>h,aD _,id⟩
def qu.trans{H H' zO:MH}(a:qu H H')(b:qu H' zO):qu H zO:=⟨λx o h=>b.old x o<|a.old x o h,aa a.n b.n,λh=>b.hw<|a.hw h⟩
def qu.new{H:MH}{o:MO}(hw:HW H):qu H (H.new o):=⟨λx o' h=>by rw[g8<|av<|hw _ _ h];exact h,bX _,λh=>h.new⟩
def M9(w:World)(f:Fm)(sc:PySem.Scope)(c1 c2:Addr)(run:LN)(s0 s1:Nat)(elt:Expr):Prop:=∀{G:Gm} {r:Rh} {Lc:Loc} {H:MH} {C i c:Nat} {o1 o2:Obj} {m':Str->Option Value} {vr vs:Value} {ts tc:Nat} {E:qT},i<run.length->HW H->At ⟨SG true,w,f⟩ 16 G r Lc H->(∃o,(C,o)∈r.U.its/\NsObj o m')->m' (q "spot")=some (.int (i:Nat) ts)->m' (q "c")=some (.str ⟨#[c]⟩ tc)->
 (c1,o1)∈r.U.its->o1.data=.cell (some vr)->VR r.U (.str run) vr->(c2,o2)∈r.U.its->o2.data=.cell (some vs)->VR r.U (.tup [.int s0,.int s1]) vs->wpAny (model (SG true).prog w) G.A (eval elt<|cenv sc c1 c2 C f G.L) (λy s'=>∃r4 H4,r4.s=s'/\Le r r4/\St ⟨SG true,w,f⟩ G r4 Lc H4/\(∃t,y=.str (gN<|uN s0 s1 run.length i c) t)/\qu H H4) E r.s
abbrev eH(H:MH):MH:=H.new<|.list<|qN.map .str
def At.goE{V:Th}{α:Type}{t:Sem α}{J:jK->MV->α->Prop}{R:α->Shared->Prop}{X:MV}{Y:MH}{By:Loc}(a:At V u G r Lc H)(h:Go V G E r t<|uE V G By J λv H'=>v=X/\H'=Y)(k:∀v r',Le r r'->At V u G r' By Y->J r'.U X v->R v r'.s):wpAny V.M G.A t R E r.s:=
 a.go h λv r' b H' l a j q=>k v r' l (q.2▸a)<|q.1▸j
theorem Na{run:LN}{s0 s1:Nat}{p1 p2 p3 p4 p5 p6 p7 p8 p9 UI UJ UK UL UM UN UO UP:Pos}{k1 k2:Nat}(e:sU f sc c1 c2)(hr:run.length<5000)(h0:s0<27720)(h1:s1<27720):M9 w f sc c1 c2 run s0 s1 (.IfExp (.Compare (.Name (q "c") p1) [.Eq] [.Constant (.str<|gN [8232]) k1 p2] p3) (.Name (q "c") p4) (.Subscript (.Call (.Name (q "_law_ENDS") p5) [] [] p6) (.Call (.Name (q "_law_pick") p7) [.Name (q "salt") p8,.BinOp (.Call (.Name (q "len") p9) [.Name (q "run") UI] [] UJ) .Add (.Name (q "spot") UK) UL,.Constant (.int 3) k2 UM] [] UN) UO) UP):=by
 intro G r Lc H C i c o1 o2 m' vr vs ts tc E hi hw a hC hms hmc hc1 d1 v1 hc2 d2 v2;have held:∀{r':Rh} {By:Loc} {H':MH} {p:Addr×Obj},Le r r'->St ⟨SG true,w,f⟩ G r' By H'->p∈r.U.its->p∈r'.U.news:=λl T m=>T.R.pin _<|.inr<|.inr<|l.x.its▸m;have ns:∀{r':Rh} {By:Loc} {H':MH},Le r r'->St ⟨SG true,w,f⟩ G r' By H'->r'.s.heap.Ns C m':=λl T=>hC.elim λo z=>z.2.ns (T.N _<|held l T z.1).1;refine wpAny_IfExp<|eO (Fy e rfl rfl (ns .refl a.T) hmc<|fj<|P.eq_str<|cX ?_) rfl;by_cases h:c=8232
 ·show if(([c]:LN)==[8232])=true then _ else _;rw[aF<|by rw[h];rfl];exact Fy (r:=r.tk _) e rfl rfl (ns .tk (a.tk _).T) hmc ⟨r.tk _,H,rfl,.tk,(a.tk _).T,⟨tc,by rw[uN,aF h,h]⟩,.refl⟩
 ·show if(([c]:LN)==[8232])=true then _ else _;rw[aE<|by simp[h]];have b0:=a.tk<|r.s.toks+1;refine fM<|Call_Name rfl<|Fz e rfl rfl (v:=.ref 1531) rfl b0<|callWith_function (o:=⟨.type "function",none,.func pG.fd,#[]⟩) (fd:=pG.fd)<|PyProof.Rows.evalArgs_none ⟨⟨b0.C.X.keeps b0.T.F.keep _ _<|LR 71 rfl w.params,rfl⟩,?_⟩;refine b0.goE (vO (kn:=[]) (ks:=[]) (ws:=[]) b0 (lP.u<|ze (n:=0) (Q:=λv H'=>v=.ref H.n/\H'=eH H) ⟨rfl,rfl⟩ w) rfl rfl) λo r1 l1 a1 w1=>?_;have l1':Le r r1:=Le.tk.trans l1;refine Call_Name rfl<|Fz e rfl rfl (v:=.ref 1552) rfl a1<|callWith_def (o:=⟨.type "function",none,.func n9.fd,#[]⟩) (fd:=n9.fd) rfl<|args_cons<|M8 e rfl rfl rfl a1.T.N (held l1' a1.T hc2) d2<|args_cons<|wpAny_BinOp<|Call_Name rfl<|Fz e rfl rfl (v:=.builtin "len") rfl a1<|callWith_builtin1<|args_cons<|M8 e rfl rfl rfl a1.T.N (held l1' a1.T hc1) d1<|args_nil ?_;refine a1.goE ((len_str (Q:=λv H'=>v=.int (run.length:Nat)/\H'=eH H) (aL hr<|aB<|by rfl) ⟨rfl,rfl⟩) G _ r1 [vr] a1<|.one<|v1.ext l1'.x) λvl r2 l2 a2 w2=>?_;have l2':Le r r2:=l1'.trans l2;refine Fy e rfl rfl (ns l2' a2.T) hms ?_;refine a2.goE ((Gb (op:=.Add) (Q:=λv H'=>v=.int ((run.length+i:Nat):Nat)/\H'=eH H)<|show CV .Add (.int (run.length:Nat)) (.int (i:Nat)) _ _ from⟨by push_cast;rfl,rfl⟩) G _ r2 [vl,.int (i:Nat) ts] a2<|.two w2 ⟨ts,rfl⟩) λva r3 l3 a3 w3=>?_;have l3':Le r r3:=l2'.trans l3;refine args_cons<|wpAny_Constant_int<|args_nil ⟨(a3.C.X.keeps a3.T.F.keep _ _<|LR 74 rfl w.params),?_⟩;have a4:=a3.tk<|r3.s.toks+1;refine a4.goE (vO (kn:=[]) (ks:=[]) (ws:=[vs,va,.int 3 r3.s.toks]) a4 (lP.u<|mQ (n:=0) (s0:=s0) (s1:=s1) (spot:=run.length+i) (many:=3) (Q:=λv H'=>v=.int (pick s0 s1 (run.length+i) 3:Nat)/\H'=eH H) h0 h1 (Nat.add_lt_add hr<|aK hi hr) (by decide) ⟨rfl,rfl⟩ w) (oG (v2.ext (l3'.trans .tk).x)<|.two (w3.ext Le.tk.x) ⟨_,rfl⟩) rfl) λvp r5 l5 a5 w5=>?_;have l5':Le r r5:=(l3'.trans .tk).trans l5;have wo:VR r5.U (.ref H.n) o:=w1.ext (((l2.trans l3).trans .tk).trans l5).x;have hlt:pick s0 s1 (run.length+i) 3<3:=cC _<|by decide
  have hit:rV (.ref H.n) (.int (pick s0 s1 (run.length+i) 3:Nat)) (eH H) λv H'=>v=.str (uN s0 s1 run.length i c)/\H'=eH H:=by
   have hE:uN s0 s1 run.length i c=qN.getD (pick s0 s1 (run.length+i) 3) []:=by rw[uN,aE h]
   rw[hE];generalize pick s0 s1 (run.length+i) 3=z at hlt;refine A9 (n:=z) (u:=.str<|qN.getD z []) gz ?_ ⟨rfl,rfl⟩;rw[bh,(by decide:∀z<3,qN[z]?=some (qN.getD z [])) z hlt];rfl
  refine(Gg (V:=⟨SG true,w,f⟩) (u:=16) (Lc:=Lc) hit).elim λk I=>k.yS.elim λid hid=>n7 (V:=⟨SG true,w,f⟩) (G:=G) (I.kind a5 wo).1 hid (a5.goE (I.item _ _ _ [o,vp] a5<|.two wo w5) λvy r6 l6 a6 w6=>?_)<|kK rfl;exact⟨r6,_,rfl,l5'.trans l6,a6.T,w6,.new hw⟩
end
end
section
open PyProof.Rows.LCg (lst lst_snoc NsObj ns_obj)
def oM(s0 s1 m:Nat):Nat->LN->iK
 |_,[]=>[]
 |i,c::t=>uN s0 s1 m i c::oM s0 s1 m (i+1) t
def zf{s0 s1 m i c:Nat}{t:LN}:oM s0 s1 m i (c::t)=uN s0 s1 m i c::oM s0 s1 m (i+1) t:=rfl
def Jx(s0 s1 m:Nat)(t:LN):∀(i j:Nat),(oM s0 s1 m i t)[j]?=t[j]?.map λc=>uN s0 s1 m (i+j) c:=by
 induction t with
 |nil=>intro i j;rfl
 |cons c t ih=>
  intro i j;induction j with
  |zero=>rfl
  |succ j=>exact(ih (i+1) j).trans (by rw[dY];rfl)
def xQ(s0 s1 m:Nat)(t:LN):∀i,(oM s0 s1 m i t).length=t.length:=by
 induction t with
 |nil=>intro i;rfl
 |cons c t ih=>intro i;exact aq (·+1)<|ih<|i+1
section
variable{w:World}{f:Fm}{sc:PySem.Scope}{c1 c2 C u:Nat}{G:Gm}{E:qT}{r:Rh}{Lc:Loc}{H:MH}{R:qT}{p:Pos}
def Ct(e:sU f sc c1 c2):closureFor sc (f.env G.L)=pure (XQ c1 c2):=by obtain⟨ns,fsc,cn,ccd,cl,fa⟩:=f;obtain⟨kd,nm,g,co,mo⟩:=sc;have h1:=e.sn;have h2:=e.fc;have h3:=e.fn;simp only at h1 h2 h3;subst h1 h2;rfl
inductive Se(V:Th)(G:Gm)(r:Rh)(Lc:Loc)(H:MH)(xs:gV)(y:Value)(s':Shared):Prop
 |mk (r4:Rh) (H4:MH) (j:Nat) (e:r4.s=s') (l:Le r r4) (T:St V G r4 Lc H4) (v:VR r4.U (.ref j) y) (o:H4.at_ j=some (.list xs)) (g:qu H H4):Se V G r Lc H xs y s'
def Jy{run:LN}{s0 s1:Nat}{ys:lO}(yl:ys.length=run.length)(yv:∀(j:Nat) y,ys[j]?=some y->∃t,y=.str (gN<|uN s0 s1 run.length j<|run.getD j 0) t)(U':jK):jr U' ((oM s0 s1 run.length 0 run).map .str) ys:=
 jr.of_get (by rw[aV,xQ,yl]) λi v y hv hy=>by rw[bh,Jx,bg<|yl▸(bG.mp hy).1]at hv;rw[<-ay hv,bQ];have z:=yv i y hy;rw[bD,bg<|yl▸(bG.mp hy).1]at z;exact z
def Nb{V:Th}{xs:gV}{n0 C D:Nat}{wr w2:List Addr}{r1:Rh}{H1:MH}{ys:lO}{h':Heap}(O:Sa n0 C D wr w2)(hL:G.L<n0)(hnew:∀b,n0<=b->G.h₀.get? b=none)(C0:Ctx V G)(rm:CT u G.A)(T:St V G r1 Lc H1)(l:Le r r1)(nw:∀p∈r1.U.news,p.1∉wr)
  (dd:r1.s.heap.get? D=some (lst ys))(ya:∀U',jr U' xs ys)(hl:xs.length<=1000)(g:qu H H1)(hw:HW H)(hs:Heap.SameBut C r1.s.heap h'):Se V G r Lc H xs (.ref D) {r1.s with heap:=h'}:=by
 have M6:G.L∉wr:=λq=>bI _<|aL hL<|O.ge _ q;have T2:=T.off (h':=h') (tk:=r1.s.toks) M6 (λb hb=>hnew b<|O.ge b hb) nw λb o hb z=>hs.extBut b o (λq=>hb<|q▸O.inC) z;have aN:At V u G ⟨r1.U,r1.m,{r1.s with heap:=h',toks:=r1.s.toks}⟩ Lc H1:=⟨C0,rm,T2⟩;have Z:=aN.new (o:=.list xs) (d:=D) (e:=D) (more:=[(D,lst ys)]) (h':=h') (tk:=r1.s.toks) (bN.mpr ⟨nofun,List.Pairwise.nil⟩) (λz hz p' uY=>aj.mp hz▸λq=>nw p' uY<|q▸O.inD) ⟨_,.head _⟩ ⟨_,.head _⟩ rfl T2.F
  (λz hz=>(ao.mp hz).elim (λq=>q▸⟨hs.extBut _ _ (f5 O.ne) dd,λq=>M6<|q▸O.inD,hnew _<|O.ge _ O.inD⟩)<|T2.N z) λY=>jT.mk D ys ys.length jK.uq (.head _) (ya _)<|aa hl<|by decide
 exact⟨_,_,H1.n,rfl,Le.trans (r':=⟨r1.U,r1.m,{r1.s with heap:=h',toks:=r1.s.toks}⟩) ⟨l.x,l.g,l.o⟩ Z.l,Z.a.T,jK.q9,gz,g.trans<|.new<|g.hw hw⟩
def Jz{elt:Expr}{run:LN}{s0 s1:Nat}{o1 o2:Obj}{vr vs:Value}{a1 a2 a3 a4 a5 a6 a7:Pos}{kk:Nat}{m:Str->Option Value}{n0 C D:Nat}{h' h₁:Heap}{pC:Nat->Heap->Prop}(ee:M9 w f sc c1 c2 run s0 s1 elt)(e:sU f sc c1 c2)(hr:run.length<=1000)(hw:HW H)
  (a:At ⟨SG true,w,f⟩ 16 G r Lc H)(hc1:(c1,o1)∈r.U.its)(d1:o1.data=.cell (some vr))(v1:VR r.U (.str run) vr)(hc2:(c2,o2)∈r.U.its)(d2:o2.data=.cell (some vs))(v2:VR r.U (.tup [.int s0,.int s1]) vs)
  (hC:C=n0+3)(hD:D=n0+2)(hn:r.s.heap.objs.size=n0)(aa2:∀b o,r.s.heap.get? b=some o->h₁.get? b=some o)(old:∀b o,h'.get? b=some o->h₁.get? b=some o)(hE:IsEnum h' (n0+1) n0 0 .none)(hns:h₁.Ns C m)(hD0:h₁.get? D=some (lst []))
  (DD:Draws (SG true).prog w G.A.in1 n0 [n0] (gN run).cps.size (λi v=>∃c u,(gN run).cps[i]?=some c/\v=.str ⟨#[c]⟩ u) pC)(live:∀i h,pC i h->∃o,h.get? n0=some o/\∃t,o.cls=.type t/\t≠"tuple"/\t≠"method")(hst:pC 0 h'):
  codeAny (model (SG true).prog w) G.A (.compLoop (.ListComp elt [⟨.Tuple [.Name (q "spot") a1,.Name (q "c") a2] kk a3,.Call (.Name (q "enumerate") a4) [.Name (q "run") a5] [] a6,[],0⟩] sc a7) 0 (.ref<|n0+1) (.ref D)<|cenv sc c1 c2 C f G.L)
   (compPost (model (SG true).prog w) G.A E none (Se ⟨SG true,w,f⟩ G r Lc H<|(oM s0 s1 run.length 0 run).map .str) (.ref D) C) {r.s with heap:=h₁,toks:=r.s.toks}:=by
 rw[show(λ(i:Nat) (v:Value)=>∃c u,(gN run).cps[i]?=some c/\v=.str ⟨#[c]⟩ u)=λi v=>∃c u,run[i]?=some c/\v=.str ⟨#[c]⟩ u by funext i v;simp,show(gN run).cps.size=run.length by simp]at DD;have W:=KTurns.ofWalksU (elts:=[.Name (q "spot") a1,.Name (q "c") a2]) (k:=kk) (pos:=a3) (WalksT.enumerateD DD (n0+1) (eS _) (by simp)<|by simp).toU;have O:=Sd hC hD;have hL:G.L<n0:=hn▸a.T.F.ns.lt;have hnew:∀b,n0<=b->G.h₀.get? b=none:=λb hb=>yU a.T<|hn.symm▸hb;have T1:St ⟨SG true,w,f⟩ G ⟨r.U,r.m,{r.s with heap:=h₁,toks:=r.s.toks}⟩ Lc H:=⟨a.T.F.keeps aa2,a.T.N.grown aa2,a.T.R,a.T.loc⟩;refine Jw (V:=⟨SG true,w,f⟩) (u:=16) (r:=⟨r.U,r.m,{r.s with heap:=h₁,toks:=r.s.toks}⟩) (Lc:=Lc) (l:=run) (v:=λi=>uN s0 s1 run.length i<|run.getD i 0) (K:=λi H'=>qu H H') rfl e.sk (by rw[e.sn];rfl) (by rw[e.sn];rfl) (by decide) hr W
  (λi h st b hb=>A4 hb (λz=>st.1.elim λold y=>⟨_,z▸y,lG rfl (by decide)<|by decide⟩) λz=>z▸(live i h st.2).elim λo y=>y.2.elim λt x=>⟨o,y.1,lG x.1 x.2.1 x.2.2⟩) hL hnew O a.C a.rm ?_ ?_
  ⟨_,H,[],_,⟨rfl,T1,.refl,λp hp q=>bI _<|aL (hn▸bV (a.T.N p hp).1)<|O.ge _ q,W.frame _ _ _ ⟨⟨_,hE⟩,hst⟩ λb hb o z=>old b o z,hns,hD0,cg _,rfl,rfl,λj y hj=>(nomatch hj),.refl⟩⟩
 ·intro i c r3 H3 m' ts tc E' hci a3' hC3 ms mc hits x3 g;have hgd:run.getD i 0=c:=by rw[bD,hci];rfl
  rw[hgd];exact cZ (ee (bG.mp hci).1 (g.hw hw) a3' hC3 ms mc (hits _ hc1) d1 (v1.mT x3) (hits _ hc2) d2<|v2.mT x3) (λy s' z=>z.imp λr4 z=>z.imp λH4 z=>⟨z.1,z.2.1,z.2.2.1,z.2.2.2.1,g.trans z.2.2.2.2⟩) λY Y z=>z
 ·intro r1 H1 ys m' T1 l1 nw ns dd yl yv g;exact⟨m',ns,λh'' hs=>Nb O hL hnew a.C a.rm T1 ⟨l1.x,l1.g,l1.o⟩ nw dd (Jy yl yv) (by rw[aV,xQ];exact hr) g hw hs⟩
def JA{elt:Expr}{run:LN}{s0 s1:Nat}{o1 o2:Obj}{vr vs:Value}{a1 a2 a3 a4 a5 a6 a7:Pos}{kk:Nat}(ee:M9 w f sc c1 c2 run s0 s1 elt)(e:sU f sc c1 c2)(hr:run.length<=1000)(hw:HW H)
  (a:At ⟨SG true,w,f⟩ 16 G r Lc H)(hc1:(c1,o1)∈r.U.its)(d1:o1.data=.cell (some vr))(v1:VR r.U (.str run) vr)(hc2:(c2,o2)∈r.U.its)(d2:o2.data=.cell (some vs))(v2:VR r.U (.tup [.int s0,.int s1]) vs):
  wpAny (model (SG true).prog w) G.A (eval (.ListComp elt [⟨.Tuple [.Name (q "spot") a1,.Name (q "c") a2] kk a3,.Call (.Name (q "enumerate") a4) [.Name (q "run") a5] [] a6,[],0⟩] sc a7)<|f.env G.L) (Se ⟨SG true,w,f⟩ G r Lc H<|(oM s0 s1 run.length 0 run).map .str) E r.s:=by
 have hns:∀y∈sc.names,y.2≠.cell:=by rw[e.sn];decide
 have hnl:∀y∈sc.names,y.2=.local->sc.names.lookup y.1=some .local:=by rw[e.sn];decide
 rw[eval_ListComp];refine wpAny_comprehension_free (use:=none) rfl (λx=>mC rfl) (Ct e) e.sk hnl ?_;have G_x:rY (K w.params) f (q "enumerate") (.type "enumerate"):=⟨(Dy true w).gl _ _ rfl,by rw[e.fn];rfl,rfl⟩;refine v1.elim λt ev=>?_;refine Call_Name rfl<|oZ (V:=⟨SG true,w,f⟩) G_x a<|PyProof.Rows.callWith_type1<|args_cons<|nameX_C (cl:=f.cl) a.T.N (by rw[e.fc];rfl) (a.T.R.pin _<|.inr<|.inr hc1) d1 (args_nil<|ev▸call_enumerate_str λh' hE hI hsz hk=>wpAny_pyIter_enum hE ?_) e.fk<|by show f.sc.names.lookup (q "run")=_;rw[e.fn];rfl
 refine wpAny_newObj_type<|wpAny_newFunctionEnv hns (by intro y hy;simp at hy) (λh₁ XR Sf=>?_) e.sk;dsimp only at XR Sf⊢;generalize hH2:h'.push {cls:=.type "list",dict:=none,data:=.seq ([]:lO).toArray}=H2 at XR Sf⊢;have hC:H2.objs.size=r.s.heap.objs.size+3:=by rw[<-hH2,fT,hsz]
 have old:∀b o,h'.get? b=some o->h₁.get? b=some o:=λb o z=>Sf.extBut b o (av<|aL (bV z)<|by rw[hC,hsz];exact bX _)<|bw _<|hH2▸bw _ z;have hD0:h₁.get? h'.objs.size=some (lst []):=Sf.extBut _ _ (av<|by rw[hC,hsz];exact bS _)<|bw _<|hH2▸cN _ rfl;have go:=λ{pC:Nat->Heap->Prop} D live hst=>have Z:=Jz (pC:=pC) (E:=E) (a1:=a1) (a2:=a2) (a3:=a3) (a4:=a4) (a5:=a5) (a6:=a6) (a7:=a7) (kk:=kk) ee e hr hw a hc1 d1 v1 hc2 d2 v2 hC hsz rfl (λb o z=>old b o<|hk b o z) old hE XR hD0 D live hst;codeAny_compStart_list Z<|wpAny_pyIter_enum (old _ _ hE) Z;cases ha:(gN run).cps.all (·<128)with
 |false=>exact go (Draws.strWide (A:=G.A.in1) (a.C.quiet rfl) r.s.heap.objs.size (gN run) t) (λi h st=>st.elim λo z=>⟨o,z.1,_,z.2.1,by decide,by decide⟩)<|by rw[show strIterType (gN run)="str_iterator" by unfold strIterType;rw[ha];rfl]at hI;exact hI
 |true=>exact go (Draws.strAscii (A:=G.A.in1) (a.C.quiet rfl) r.s.heap.objs.size (gN run) t) (λi h st=>st.elim λo z=>⟨o,z.1,_,z.2.1,by decide,by decide⟩)<|by rw[show strIterType (gN run)="str_ascii_iterator" by unfold strIterType;rw[ha];rfl]at hI;exact hI
end
end
def UQ(e:Expr):Bool:=Zj e λc a b=>(BN c λl os rs=>l1 os λo=>l1 rs λr=>(o==.Eq)&&(oW (q "c") l&&IU [8232] r))&&(oW (q "c") a&&yr b λv i=>(rH v λg es ks w=>oW (q "_law_ENDS") g&&(es.isEmpty&&ks.isEmpty))&&rH i λg es ks w=>oW (q "_law_pick") g&&(ks.isEmpty&&l3 es λx y z=>oW (q "salt") x&&((EF y λl o r=>(o==.Add)&&(oW (q "spot") r&&rH l λg es ks w=>oW (q "len") g&&(ks.isEmpty&&l1 es λx=>oW (q "run") x)))&&AA z λc=>c==.int 3)))
def UR(b:sD):Bool:=l1 b λst=>EI st λo=>o1 o λe=>rH e λg es ks p=>ks.isEmpty&&((xj g λo x ap=>(ap.endLine==p.line)&&((x==KM.nm .invert)&&IU [] o))&&l1 es λe=>Pp e λelt cs sc=>(sc.kind==.function)&&((sc.names==M7)&&(UQ elt&&l1 cs λc=>c.ifs.isEmpty&&((c.is_async==0)&&((EG c.target λes=>l2 es λa b=>oW (q "spot") a&&oW (q "c") b)&&rH c.iter λg es ks z=>oW (q "enumerate") g&&(ks.isEmpty&&l1 es λx=>oW (q "run") x))))))
def FA:UR (nV<|sG 59)=true:=by kernel_rfl
def ly:(je<|sG 59).kind=.function/\(je<|sG 59).names=XO/\(je<|sG 59).isCoroutine=false/\(je<|sG 59).isGenerator=false:=⟨by kernel_rfl,by kernel_rfl,by kernel_rfl,by kernel_rfl⟩
def Sh(P:Params):(K P).lookup 1557=some ⟨.type "function",none,.func jg.fd,#[]⟩:=by kernel_rfl
def Si(P:Params):codeIn (K P) (.ref 1556) (q "_law_ends")=true:=by kernel_rfl
def Sj{w:World}{a0 a1:MV}:jI (SG true) w jg.fd [q "run",q "salt"] [a0,a1] [] [] [a0,a1]:=.of [.a 0,.a 1] rfl rfl λs X z z=>.of_eq<|by rfl
def emp{α:Type}{l:List α}(h:l.isEmpty=true):l=[]:=List.isEmpty_iff.mp h
inductive Bm:sD->PySem.Scope->Prop
 |mk {a1 a2 a3 a4 a5 a6 a7 b1 b2 b3 b4 p1 p2 p3 p4 p5 p6 p7 p8 p9 UI UJ UK UL UM UN UO UP:Pos} {k0 k1 k2 kk:Nat} {sc:PySem.Scope}:sc.kind=.function->sc.names=M7->(b2.endLine==b3.line)=true->Bm [.Return (some (.Call (.Attribute (.Constant (.str<|gN []) k0 b1) (KM.nm .invert) b2) [.ListComp (.IfExp (.Compare (.Name (q "c") p1) [.Eq] [.Constant (.str<|gN [8232]) k1 p2] p3) (.Name (q "c") p4) (.Subscript (.Call (.Name (q "_law_ENDS") p5) [] [] p6) (.Call (.Name (q "_law_pick") p7) [.Name (q "salt") p8,.BinOp (.Call (.Name (q "len") p9) [.Name (q "run") UI] [] UJ) .Add (.Name (q "spot") UK) UL,.Constant (.int 3) k2 UM] [] UN) UO) UP)
   [⟨.Tuple [.Name (q "spot") a1,.Name (q "c") a2] kk a3,.Call (.Name (q "enumerate") a4) [.Name (q "run") a5] [] a6,[],0⟩] sc a7] [] b3)) b4] sc
def sV{C:Prop}{x:Str}{e:Expr}(h:oW x e=true)(c:∀p,e=.Name x p->C):C:=i6 h λy p e h=>by cases be h;exact c p e
def US{C:Prop}{l:LN}{e:Expr}(h:IU l e=true)(c:∀k p,e=.Constant (.str<|gN l) k p->C):C:=pS h λy k p e h=>by cases be h;exact c k p e
def Sk{C:Prop}{e:Expr}(h:UQ e=true)(c:∀p1 p2 p3 p4 p5 p6 p7 p8 p9 UI UJ UK UL UM UN UO UP k1 k2,e=.IfExp (.Compare (.Name (q "c") p1) [.Eq] [.Constant (.str<|gN [8232]) k1 p2] p3) (.Name (q "c") p4) (.Subscript (.Call (.Name (q "_law_ENDS") p5) [] [] p6) (.Call (.Name (q "_law_pick") p7) [.Name (q "salt") p8,.BinOp (.Call (.Name (q "len") p9) [.Name (q "run") UI] [] UJ) .Add (.Name (q "spot") UK) UL,.Constant (.int 3) k2 UM] [] UN) UO) UP->C):C:=by refine KH h λcc a b UP e0 h=>?_;refine rX (bl h) λl os rs p3 e1 h1=>n5 h1 λo e2 h1=>n5 h1 λr e3 h1=>sV (bl<|br h1) λp1 e4=>US (br<|br h1) λk1 p2 e5=>?_;have e6:=be<|bl h1;refine sV (bl<|br h) λp4 e7=>ro (br<|br h) λv i UO e8 h2=>mZ (bl h2) λg es ks p6 e9 h3=>sV (bl h3) λp5 e10=>?_;have e11:=emp<|bl<|br h3;have e12:=emp<|br<|br h3;refine mZ (br h2) λg' es' ks' UN e13 h4=>sV (bl h4) λp7 e14=>?_;have e15:=emp<|bl<|br h4;refine Zk (br<|br h4) λx y z e16 h5=>sV (bl h5) λp8 e17=>zy (bl<|br h5) λl' o' r' UL e18 h6=>sV (bl<|br h6) λUK e19=>?_;have e20:=be<|bl h6;refine mZ (br<|br h6) λg2 es2 ks2 UJ e21 h7=>sV (bl h7) λp9 e22=>?_;have e23:=emp<|bl<|br h7;refine n5 (br<|br h7) λx2 e24 h8=>sV h8 λUI e25=>pS (br<|br h5) λc3 k2 UM e26 h9=>?_;have e27:=be h9;refine c p1 p2 p3 p4 p5 p6 p7 p8 p9 UI UJ UK UL UM UN UO UP k1 k2 ?_;rw[e0,e1,e2,e3,e4,e5,e6,e7,e8,e9,e10,e11,e12,e13,e14,e15,e16,e17,e18,e19,e20,e21,e22,e23,e24,e25,e26,e27]
def Nc{b:sD}(h:UR b=true):∃sc,Bm b sc:=by refine n5 h λst e0 h=>zB h λv b4 e1 h=>Iq h λe e2 h=>mZ h λg es ks b3 e3 h=>?_;have e4:=emp<|bl h;refine pT (bl<|br h) λo x b2 e5 h1=>US (br<|br h1) λk0 b1 e6=>?_;have e7:=be<|bl<|br h1;have el:=bl h1;refine n5 (br<|br h) λlc e8 h2=>KL h2 λelt cs sc a7 e9 h3=>?_;have s1:=be<|bl h3;have s2:=be<|bl<|br h3;refine Sk (bl<|br<|br h3) λp1 p2 p3 p4 p5 p6 p7 p8 p9 UI UJ UK UL UM UN UO UP k1 k2 e10=>n5 (br<|br<|br h3) λcc e11 h4=>?_;obtain⟨tt,iter,ifs,ia⟩:=cc;have f1:ifs=[]:=emp<|bl h4;have f2:ia=0:=be<|bl<|br h4;refine zA (bl<|br<|br h4) λes2 kk a3 e12 h5=>Ip h5 λx1 x2 e13 h6=>sV (bl h6) λa1 e14=>sV (br h6) λa2 e15=>mZ (br<|br<|br h4) λg2 es3 ks3 a6 e16 h7=>sV (bl h7) λa4 e17=>?_;have e18:=emp<|bl<|br h7;refine n5 (br<|br h7) λx3 e19 h8=>sV h8 λa5 e20=>⟨sc,?_⟩;have e12:tt=_:=e12;have e16:iter=_:=e16;rw[e0,e1,e2,e3,e4,e5,e6,e7,e8,e9,e10,e11,f1,f2,e12,e13,e14,e15,e16,e17,e18,e19,e20];exact .mk s1 s2 el
def Nd(s0 s1 m i c:Nat):(uN s0 s1 m i c).length<=2:=by
 unfold uN;split
 ·exact bX _
 ·have:pick s0 s1 (m+i) 3<3:=cC _<|by decide
  generalize pick s0 s1 (m+i) 3=z at this
  match z,this with
  |0,_=>exact bX _
  |1,_=>exact aD _
  |2,_=>exact bX _
def Bo(s0 s1 m:Nat)(t:LN):∀i,((oM s0 s1 m i t).map length).sum<=2*t.length:=by
 induction t with
 |nil=>intro i;exact aD _
 |cons c t ih=>intro i;have h1:=ih<|i+1;have h2:=Nd s0 s1 m i c;show(uN s0 s1 m i c).length+((oM s0 s1 m (i+1) t).map length).sum<=2*(t.length+1);omega
def HG{o:Obj}{v:Option Value}(h:o.data=.cell v):NV o:=⟨λvs e=>(by rw[e]at h;cases h),λf x e=>(by rw[e]at h;cases h)⟩
def JB{w:World}{f:Fm}{b:sD}{sc:PySem.Scope}{c1 c2:Nat}{G:Gm}{E:qT}{r:Rh}{Lc:Loc}{H:MH}{run:LN}{s0 s1:Nat}{o1 o2:Obj}{vr vs:Value}(hA:Bm b sc)(e:sU f sc c1 c2)(hr:run.length<=1000)(h0:s0<27720)(h1:s1<27720)(hw:HW H)
  (a:At ⟨SG true,w,f⟩ 16 G r Lc H)(hc1:(c1,o1)∈r.U.its)(d1:o1.data=.cell (some vr))(v1:VR r.U (.str run) vr)(hc2:(c2,o2)∈r.U.its)(d2:o2.data=.cell (some vs))(v2:VR r.U (.tup [.int s0,.int s1]) vs):
  wpAny (model (SG true).prog w) G.A (execs b<|f.env G.L) (λfl s'=>∃r5 H5 v,fl=.ret v/\VR r5.U (.str (oM s0 s1 run.length 0 run).flatten) v/\r5.s=s'/\Le r r5/\St ⟨SG true,w,f⟩ G r5 Lc H5/\qu H H5) E r.s:=by
 induction hA with
 |mk hk hn hl=>
 refine wpAny_execs_cons<|wpAny_Return_some ?_;refine vP (V:=⟨SG true,w,f⟩) (G:=G) rfl rfl rfl rfl hl ?_;refine fj λpl=>?_;have b0:=a.tk<|r.s.toks+1;have ki:=BG (l:=[]) b0 ⟨r.s.toks,rfl⟩;have f1:PlainAttrs (Kind.tn .neg):=(vR .invert).1;have f2:Slot (Kind.tn .neg) (KM.nm .invert) (KM.id .invert):=(vR .invert).2.1;have f3:=(vR .invert).2.2;have KK:=λ(Q:Value×lO->Shared->Prop) h=>getMethod_builtin (M:=Th.M ⟨SG true,w,f⟩) (A:=G.A) (E:=E) (s:=(r.tk<|r.s.toks+1).s) (v:=.str (gN []) r.s.toks) (name:=KM.nm .invert) (pl:=pl) (T:=Kind.tn .neg) (id:=KM.id .invert) (Q:=Q) ki.1 f1 f2 f3 ki.2 h;refine KK _ ?_;refine PyProof.Rows.callWith_method1<|args_cons ?_;refine cZ (JA (Na e (ah hr<|by decide) h0 h1) e hr hw b0 hc1 d1 v1 hc2 d2 v2) (λy s' z=>?_) λk k z=>z;obtain⟨r4,H4,j,rfl,l4,T4,w4,o4,g4⟩:=z;refine args_nil ?_;have b4:At ⟨SG true,w,f⟩ 16 G r4 Lc H4:=⟨a.C,a.rm,T4⟩;have big:3000<=gP:=aB<|by rfl
 refine b4.go ((Gi (Q:=λv H'=>v=.str (oM s0 s1 run.length 0 run).flatten/\H'=H4) o4 (wG _) (aa (by rw[xQ];have:=Bo s0 s1 run.length run 0;omega) big) ⟨rfl,rfl⟩) G _ r4 [_,y] b4<|.two ⟨_,rfl⟩ w4) λv r5 mv5 H5 l5 a5 w5 q5=>?_;obtain⟨rfl,rfl⟩:=q5;exact⟨r5,_,v,rfl,w5,rfl,(Le.tk.trans l4).trans l5,a5.T,g4⟩
def FD{e:Env}{vr vs:Value}{a b:Addr}{cells:ig}(k1:e.kindOf (q "run")=some .cell)(k2:e.kindOf (q "salt")=some .cell)(Y:CellsAre (bindC e.kindOf [(q "run",vr),(q "salt",vs)] λz=>none) (XQ a b) cells):∃oS oR,cells=[(b,oS),(a,oR)]/\oS.data=.cell (some vs)/\oR.data=.cell (some vr):=by
 obtain⟨oS,oR,h,dS,dR⟩:=Y.two;have nq:q "run"≠q "salt":=by decide
 have n {x} (k:e.kindOf x=some .cell):e.kindOf x≠some .local:=k▸nofun;have X:∀x,bindC e.kindOf [(q "run",vr),(q "salt",vs)] (λz=>none) x=if x=q "salt" then some vs else if x=q "run" then some vr else none:=λx=>(dQ (aE<|n k2) x).trans<|aq (λm=>if x=q "salt" then some vs else m)<|dQ (aE<|n k1) x;exact⟨oS,oR,h,dS.trans<|aq _<|(X _).trans<|aF rfl,dR.trans<|aq _<|(X _).trans<|(aE nq).trans<|aF rfl⟩
def Nf{U:jK}{L n:Nat}(hlt:∀p∈U.news,p.1<L){p:Addr×Obj}(hp:p∈U.news)(e:p.1=L+n):False:=bI _<|aL (hlt p hp)<|e▸aA _ _
def Sl{news:ig}{L:Nat}{oS oR:Obj}(hlt:∀p∈news,p.1<L)(nd:(news.map (·.1)).Nodup):(([(L+2,oS),(L+1,oR)]++news).map (·.1)).Nodup:=by have no:∀n,L+n∉news.map (·.1):=λn hm=>(bU.mp hm).elim λp hp=>bI _<|aL (hlt p hp.1)<|hp.2▸aA _ _;refine bN.mpr ⟨λhm=>?_,bN.mpr ⟨no 1,nd⟩⟩;exact(ao.mp hm).elim (λe=>eS _ e) (no 2)
def Bm.kn{b:sD}{sc:PySem.Scope}(h:Bm b sc):sc.kind=.function/\sc.names=M7:=by
 induction h with
 |mk hk hn _=>exact⟨hk,hn⟩
def Sm{w:World}{run:LN}{s0 s1:Nat}{H:MH}{Q:QV}{f fe:Fm}{Lc:Loc}{G:Gm}{E E':qT}{r:Rh}{vr vs:Value}{g h₁:Heap}{L:Addr}{tk:Nat}{m':Str->Option Value}{oS oR:Obj}{b:sD}{sc:PySem.Scope}{V:Flow->Value}(hr:run.length<=1000)(h0:s0<27720)(h1:s1<27720)(hw:HW H)(hq:∀H',qu H H'->Q (.str (oM s0 s1 run.length 0 run).flatten) H')
  (a:At ⟨SG true,w,f⟩ (8*2+4) G r Lc H)(hA:Bm b sc)(eF:sU fe sc (L+1)<|L+2)(hk:fe.sc.kind=.function)(hns:fe.ns=[])(hfa:fe.fa≠1618)(v1:VR r.U (.str run) vr)(v2:VR r.U (.tup [.int s0,.int s1]) vs)(F':PyProof.Rows.Fr g L h₁ m')(N':News g L h₁<|[(L+2,oS),(L+1,oR)]++r.U.news)(B':PyProof.Rows.Below G.A G.base (f.env G.L::G.outer) g)(st:G.h₀.StaysIn g)(hlt:∀p∈r.U.news,p.1<L)(dS:oS.data=.cell (some vs))(dR:oR.data=.cell (some vr))(hV:∀v,V (.ret v)=v):
  wpAny (model (SG true).prog w) (G.A.deeper<|fe.env L) (execs b<|fe.env L) (λfl s'=>LeaveK G.h₀ G.L r.m g (Df ⟨SG true,w,f⟩ G E r Lc Q) (V fl) s') E' {r.s with heap:=h₁,toks:=tk}:=by
 have Z:=a.T.R.yR<|Sl (oS:=oS) (oR:=oR) hlt a.T.R.nodup;have A':At ⟨SG true,w,fe⟩ 16 (G.sub f fe g L) ⟨⟨r.U.jY,[(L+2,oS),(L+1,oR)]++r.U.news,r.U.iw,r.U.fix,[(L+2,oS),(L+1,oR)]++r.U.its⟩,m',{r.s with heap:=h₁,toks:=tk}⟩ [] H:=
  ⟨⟨B',eV a.C.fr,a.C.X.keeps st,a.C.T.elim λmg t=>t.elim λmb TT=>⟨mg,mb,TT.keeps st⟩,hk,hns▸List.Pairwise.nil,a.C.quiet,λe=>aG e hfa⟩,tQ (l:=2) a.rm,⟨F',N',Z.R,λk x v hx=>by rw[show(⟨SG true,w,fe⟩:Th).f.ns=[]from hns]at hx;cases hx⟩⟩
 refine cZ (JB hA eF hr h0 h1 hw A' (c1:=L+1) (c2:=L+2) (.tail _<|.head _) dR v1 (.head _) dS<|v2.mT Z.x) (λfl s' z=>?_) λy y z=>z;refine z.elim λr5 z=>z.elim λH5 z=>z.elim λv z=>?_;have ei:r5.U.its=[(L+2,oS),(L+1,oR)]++r.U.its:=z.2.2.2.1.x.its;have ep:r5.U.iw=r.U.iw:=z.2.2.2.1.x.iw;have ef:r5.U.fix=r.U.fix:=z.2.2.2.1.x.fix;have Z5:=z.2.2.2.2.1.R.M4 (own:=[(L+2,oS),(L+1,oR)]) (its:=r.U.its) (wr:=[L+2,L+1]) ei (λb hb=>(ao.mp hb).elim (λe=>⟨oS,e▸.head _⟩) λhb=>⟨oR,aj.mp hb▸.tail _ (.head _)⟩) (λp hp=>(ao.mp hp).elim (λe=>e▸⟨.head _,HG dS⟩) λhp=>aj.mp hp▸⟨.tail _<|.head _,HG dR⟩) λp hp hq=>have m:=a.T.R.pin p (hp.imp (λh=>ep▸h)<|Or.imp (λh=>ef▸h) id);(ao.mp hq).elim (Nf hlt m) λhq=>Nf hlt m<|aj.mp hq;have X5:Ext r.U ⟨r5.U.jY,rF [L+2,L+1] r5.U.news,r5.U.iw,r5.U.fix,r.U.its⟩:=⟨(Z.x.trans z.2.2.2.1.x.toou).trans Z5.x,ep,rfl⟩;rw[z.1,hV,<-z.2.2.1];exact⟨L,r5.m,_,z.2.2.2.2.1.F,λp hp=>z.2.2.2.2.1.N p (jm.mp hp).1,λFF NN=>⟨⟨⟨r5.U.jY,rF [L+2,L+1] r5.U.news,r5.U.iw,r5.U.fix,r.U.its⟩,r.m,r5.s⟩,rfl,⟨X5,z.2.2.2.1.g,z.2.2.2.1.o⟩,H5,.str _,⟨FF,NN,Z5.R,λk x v hx hv=>(a.T.loc k x v hx hv).elim λw h=>⟨w,h.1,h.2.ext X5⟩⟩,z.2.1.mT Z5.x,hq H5 z.2.2.2.2.2⟩⟩
abbrev UT(L:Addr):Fm:=⟨[],je jg.st,jg.ql,.ref jg.cd,XQ (L+1)<|L+2,1557⟩
abbrev UU(L:Addr):Env:=envOfC jg.ql (je jg.st) L 1557<|.ref jg.cd
def Ng{x:Str}{L:Addr}(h:XO.lookup x=some .cell):(UU L).kindOf x=some .cell:=(aq (λl:List (Str×NameKind)=>l.lookup x) ly.2.1).trans h
def Nh{L:Addr}:cellsFrom (L+1) (je jg.st).names []=XQ (L+1) (L+2):=by rw[show(je jg.st).names=XO from ly.2.1];rfl
def Ni{L:Addr}:UU L=(UT L).env L:=aq (envX _ _ _ _ _) Nh
def JC{w:World}{run:LN}{s0 s1:Nat}{H:MH}{Q:QV}(hr:run.length<=1000)(h0:s0<27720)(h1:s1<27720)(hw:HW H)(hq:∀H',qu H H'->Q (.str (oM s0 s1 run.length 0 run).flatten) H'):tK (SG true) w 2 1557 [.str run,.tup [.int s0,.int s1]] [] [] H Q:=by
 intro f Lc G E r ws ks a R R2;refine((Sj (w:=w)).go r.U r.s ws ks (a.C.X.keeps a.T.F.keep) R R2).elim λbs z=>?_;refine z.2.e2 (P:=λbs=>BindsTo _ _ _ ((List.take _ _).zip bs)->_) (λvr vs v1 v2 z1=>a.C.T.elim λmg t=>t.elim λmb TT=>?_) z.1;refine callX_cells (fo:=⟨.type "function",none,.func jg.fd,#[]⟩) a.C.B a.T.F a.T.N TT.nolimit a.C.fr rfl a.C.uD (a.C.X.keeps a.T.F.keep _ _<|Sh w.params) rfl (codeRec_of (a.C.X.keeps a.T.F.keep)<|Si w.params) (ah (aa (aA _ _) a.rm.depth)<|by decide) z1 ?_ ?_ (λg L' h₁ tk cells FG F' N' Y B' st hlt=>?_) ly.2.2.1 ly.2.2.2 ly.1
 ·intro n x hx;rw[show(je jg.st).names=XO from ly.2.1];exact(ao.mp hx).elim (λe=>.inr<|by rw[aq fst e];exact⟨rfl,rfl⟩) λhx=>.inr<|by rw[aq fst<|aj.mp hx];exact⟨rfl,rfl⟩
 ·rw[show(je jg.st).names=XO from ly.2.1];decide
 ·refine(FD (Ng rfl) (Ng rfl)<|Nh▸Y).elim λoS y=>y.elim λoR y=>(Nc FA).elim λsc hA=>?_;rw[y.1]at N';have eq:envOfC _ _ _ _ _=_:=Ni (L:=L');rw[eq];exact Sm (fe:=UT L') (V:=λfl=>match fl with|.ret v=>v|_=>.none) hr h0 h1 hw hq a hA ⟨ly.1,ly.2.1,rfl,hA.kn.1,hA.kn.2⟩ ly.1 rfl (show¬((1557:Nat)=1618)from by decide) v1 v2 F' N' B' st hlt y.2.1 y.2.2 λj=>rfl
def zg{n:Nat}{run:LN}{s0 s1:Nat}{H:MH}{Q:QV}(hr:run.length<=1000)(h0:s0<27720)(h1:s1<27720)(hw:HW H)(hq:∀H',qu H H'->Q (.str (oM s0 s1 run.length 0 run).flatten) H'):CW true (n+3) 1557 [.str run,.tup [.int s0,.int s1]] [] [] H Q:=λw=>⟨2,aL (by decide:2<3)<|aM _ _,JC hr h0 h1 hw hq⟩
abbrev Row:=LN×LN
abbrev rP:=List Row
noncomputable def gO:LN->LN->LN->rP
 |[],row,run=>[(row,run)]
 |c::v,row,run=>if c=10∨c=8232 then gO v row (run++[c])else if run=[]then gO v (row++[c]) []else(row,run)::gO v [c] []
def pD{c:Nat}{v row run:LN}:gO (c::v) row run=if c=10∨c=8232 then gO v row (run++[c])else if run=[]then gO v (row++[c]) []else(row,run)::gO v [c] []:=rfl
noncomputable def Nj(p:Row):MV:=.tup [.str p.1,.str p.2]
def oX(l:rP):MO:=.list<|l.map Nj
def nl2{c:Nat}{H:MH}:sW .In (.str [c]) (.tup [.str [10],.str [8232]]) H=some (decide<|c=10∨c=8232):=by rw[show sW .In (.str [c]) (.tup [.str [10],.str [8232]]) H=_ from MW (cs:=[[10],[8232]])];congr 1;exact cw.mpr<|by simp
abbrev lRu:IS:=ye pH.ib 3
section
variable{n:Nat}{H:MH}{Q:QV}
def JD{i:Nat}{Q:QF}{v0:nF}:∀(l row run:LN) (rows:rP) (H:MH) (v4:nF),H.at_ i=some (oX rows)->rows.length+l.length<5000->row.length+run.length+l.length<5000->
  (∀H' rows' Ah run' v4,H'.at_ i=some (oX rows')->rows'++[(Ah,run')]=rows++gO l row run->H'=H.put i (oX rows')->rows'.length<5000->Q .next [v0,some<|.ref i,some<|.str Ah,some<|.str run',v4] H')->
  FW (zW pH.fm 1) (rC lRu) (l.map λc Lc=>Lc.set 4<|some<|.str [c]) [v0,some<|.ref i,some<|.str row,some<|.str run,v4] H Q:=by
 have big:5000<=gP:=aB<|by rfl
 intro l;induction l with
 |nil=>exact λrow run rows H v4 o h1 h2 hq=>FW.nil<|hq H rows row run v4 o rfl (tZ o).symm<|by simpa using h1
 |cons c l ih=>
  intro row run rows H v4 o h1 h2 hq;simp only[aU]at h1 h2;refine FW.cons (fs:=[]) nofun<|yc (nl2 (H:=H)) ?_;have one:([c]:LN).length=1:=rfl;by_cases h:c=10∨c=8232
  ·refine dT h ⟨by rw[one];lia,ih row (run++[c]) rows H _ o (by omega) (by rw[aT,one];omega) λH' rows' Ah run' v4 a b d e=>hq H' rows' Ah run' v4 a (by rw[b,pD,aF h]) d e⟩
  ·refine dF h ?_;by_cases h0:run=[]
   ·subst h0;exact⟨by rw[one];lia,ih (row++[c]) [] rows H _ o (by omega) (by rw[aT,one];simp only[aZ]at*;lia) λH' rows' Ah run' v4 a b d e=>hq H' rows' Ah run' v4 a (by rw[b,pD,aE h,aF rfl]) d e⟩
   ·refine Mp h0 ⟨nB o,rJ o ⟨by rw[aV];omega,?_⟩⟩;refine ih [c] [] (rows++[(row,run)]) _ _ (gB.trans<|by unfold oX;rw[bJ];rfl) (by rw[aT];simp only[aY];omega) (by simp only[aY,aZ];omega) λH' rows' Ah run' v4 a b d e=>hq H' rows' Ah run' v4 a (by rw[b,pD,aE h,aE h0,aW];rfl) (d.trans r9) e
def Cu{v:LN}(hl:v.length<2000)(hq:Q (.ref H.n)<|H.new<|oX<|gO v [] []):CW true (n+2) 1564 [.str v] [] [] H Q:=by
 have big:5000<=gP:=aB<|by rfl
 refine xD (lv:=1) pH rfl<|JD (i:=H.n) v [] [] [] (H.new<|.list []) none gz (by simp only[aZ];omega) (by simp only[aZ];omega) λH' rows' Ah run' v4 o e d l=>⟨nB o,rJ o ⟨by rw[aV];omega,?_⟩⟩;have e:rows'++[(Ah,run')]=gO v [] []:=e;subst d;have e2:(((H.new<|.list []).put H.n<|oX rows').put H.n<|.list<|rows'.map Nj++[Nj (Ah,run')])=H.new (oX<|gO v [] []):=by rw[r9,qI,<-e];unfold oX;rw[bJ];rfl
 rw[<-e2]at hq;exact hq
noncomputable abbrev uO(k:Nat)(i:Nat)(Lc:Loc):Loc:=Lc.set k<|some<|.int (i:Nat)
def uc(k n:Nat):sL k n=(range' 0 n).map (uO k):=by unfold sL;rw[List.range_eq_range']
def ud(j m:Nat):range' j (m+1)=j::range' (j+1) m:=rfl
def Nk{α:Type}(l:List α):pB l (some<|-1) none=l.drop (l.length-1):=by
 unfold pB oH qC tL;simp only;have z:∀n:Nat,(max 0<|min (if(-1:Int)<0 then-1+(n:Int)else-1) (n:Int)).toNat=n-1:=λn=>by
  cases n with
  |zero=>rfl
  |succ k=>rw[aF (by decide),show-1+((k+1:Nat):Int)=k from(Int.add_comm _ _).trans (Int.add_neg_cancel_right (k:Int) 1),Int.min_eq_left<|Int.ofNat_le.mpr<|bX k,Int.max_eq_right<|cB k];rfl
 rw[z];exact dh<|by rw[cy];lia
noncomputable abbrev mH:LN:=[32,9]
def om(row:LN):Bool:=match row.getLast? with
 |some c=>decide<|c∈mH
 |none=>false
def JE(l:LN):l.drop (l.length-1)=match l.getLast? with|some c=>[c]|none=>[]:=by
 cases h:l.getLast? with
 |none=>rw[fy.mp h];rfl
 |some c=>obtain⟨t,rfl⟩:=List.getLast?_eq_some_iff.mp h;simp
def UW{l:LN}{H:MH}:sW .In (.str l) (.tup [.str [32],.str [9]]) H=some (decide<|l=[32]∨l=[9]):=by rw[show sW .In (.str l) (.tup [.str [32],.str [9]]) H=_ from MW (cs:=[[32],[9]])];congr 1;exact cw.mpr<|by simp
def Sn(l:LN):decide (pB l (some<|-1) none=[32]∨pB l (some<|-1) none=[9])=om l:=by
 rw[Nk,JE,om];cases l.getLast? with
 |none=>rfl
 |some c=>simp
noncomputable def lz:Bool->rP->Bool
 |_,[]=>true
 |first,(row,run)::r=>!((!run.isEmpty)&&om row)&&(!((!first)&&decide (row.headD 0∈mH))&&lz false r)
def wN{b:Bool}{row run:LN}{r:rP}:lz b ((row,run)::r)=(!((!run.isEmpty)&&om row)&&(!((!b)&&decide (row.headD 0∈mH))&&lz false r)):=rfl
def JF{l:LN}{i c:Nat}{H:MH}{Q:QV}(hl:l.length<gP)(g:l[i]?=some c)(h:Q (.str [c]) H):rV (.str l) (.int (i:Nat)) H Q:=⟨hl,by show jA l[i]? _;rw[g];exact h⟩
def adC{l:LN}{i c:Nat}{H:MH}{Q:QV}(hl:l.length<gP)(g:l[i]?=some c)(h:Q (.str [c]) H):rV (.str l) (.int<|((i+1:Nat):Int)-1) H Q:=by rw[show(((i+1:Nat):Int)-1)=(i:Int) by lia];exact JF hl g h
def XS{l:LN}{j c:Nat}{H:MH}{Q:QV}(hl:l.length<gP)(h0:0<j)(g:∀i,j=i+1->l[i]?=some c)(h:Q (.str [c]) H):rV (.str l) (.int<|(j:Int)-1) H Q:=by obtain⟨i,rfl⟩:∃i,j=i+1:=⟨j-1,(Nat.sub_add_cancel h0).symm⟩;exact adC hl (g i rfl) h
variable{b:Bool}{row run:LN}{l r:rP}
def adD(d:l=(row,run)::r)(h:run≠[])(e:om row=true):lz b l=false:=by rw[d,wN,gi.mpr h,e];rfl
def adE(d:l=(row,run)::r)(h:b=false)(e:row.headD 0∈mH):lz b l=false:=by rw[d,wN,h,az e];exact fU _
def adF(d:l=(row,run)::r)(h:run≠[]->om row=false)(e:b=false->row.headD 0∉mH):lz b l=lz false r:=by
 have x:((!run.isEmpty)&&om row)=false:=by
  by_cases z:run=[]
  ·rw[z];rfl
  ·rw[h z,fU]
 rw[d,wN,x];cases b with
 |true=>rfl
 |false=>rw[au<|e rfl];rfl
end
def QK{α:Type}(Q:QF)(F:α->Loc)(H:MH)(b:Bool):Prop:=(b=true->∀a,Q .next (F a) H)/\(b=false->∀a,Q (.ret<|.bool false) (F a) H)
abbrev lAp:IS:=ye lU.ib 1
section
variable{n:Nat}{H:MH}{Q:QV}
def FE{i:Nat}{rows:rP}{Q:QF}{v0:nF}(o:H.at_ i=some (oX rows))(hl:rows.length<5000)(hw:∀p∈rows,p.1.length+p.2.length<5000)(hn:∀p∈rows.tail,p.1≠[]):∀(m j:Nat) (v2 v3 v4:nF),j+m=rows.length->
  QK Q (λ(a:nF×nF×nF)=>[v0,some<|.ref i,a.1,a.2.1,a.2.2]) H (lz (decide<|j=0)<|rows.drop j)->
  FW (zW lU.fm 2) (rC lAp) ((range' j m).map<|uO 2) [v0,some<|.ref i,v2,v3,v4] H Q:=by
 intro m;induction m with
 |zero=>intro j v2 v3 v4 e hq;exact FW.nil<|hq.1 (by rw[cj<|show rows.length<=j from dH e.symm];rfl) (v2,v3,v4)
 |succ m ih=>
  intro j v2 v3 v4 e hq;have hj:j<rows.length:=by lia
  obtain⟨⟨row,rn⟩,hp⟩:∃p,rows[j]=p:=⟨_,rfl⟩;have g:rows[j]?=some (row,rn):=by rw[bg hj,hp]
  have d:rows.drop j=(row,rn)::rows.drop (j+1):=hp▸bL hj;have lr:row.length<gP:=ah (aA _ rn.length)<|aL (hw _<|bP g)<|aB<|by rfl
  rw[ud];refine FW.cons (fs:=[]) nofun<|A9 (n:=j) o (by rw[bh,g];rfl) ?_;have K2:(rn≠[]->om row=false)->run 398 ⟨zW lU.fm 2,turnF (zW lU.fm 2) (rC lAp) ((range' (j+1) m).map<|uO 2) Q⟩ [iT (rC lAp) 2] ⟨[(4,.str rn),(3,.str row)],[v0,some<|.ref i,some<|.int (j:Nat),v3,v4],[],[],H⟩:=by
   intro n1;have next:=λ(z:decide (j=0)=false->row.headD 0∉mH) v2 v3 v4=>ih (j+1) v2 v3 v4 (by lia) (by rw[au<|Nat.succ_ne_zero j];exact adF d n1 z▸hq)
   clear ih;by_cases j0:j=0
   ·exact dF (λz=>by lia)<|next (λz=>aG (z.symm.trans<|az j0) aI) _ _ _
   ·obtain⟨c,t,(er:row=c::t)⟩:=fV<|hn (row,rn)<|by rw[<-List.drop_one];exact bP (i:=j-1)<|by rw[dJ,dK,Nat.sub_add_cancel<|gn j0];exact g
    have hd:row.headD 0=c:=by rw[er];rfl
    refine dT (by lia)<|JF (i:=0) lr (by rw[er];rfl)<|yc (UW (H:=H)) ?_;by_cases hc:c∈mH
    ·exact dT (by simpa using hc)<|hq.2 (adE d (au j0)<|hd.symm▸hc) (_,_,_)
    ·exact dF (by simpa using hc)<|next (λz=>hd.symm▸hc) _ _ _
  by_cases r0:rn=[]
  ·exact AF r0<|K2 λz=>aG r0 z
  ·refine AG r0 ⟨lr,yc (UW (H:=H)) ?_⟩;rw[Sn];by_cases hb:om row=true
   ·exact cT hb<|hq.2 (adD d r0 hb) (_,_,_)
   ·exact cF (fZ.mpr hb)<|K2 λz=>fZ.mpr hb
def Ai{v:LN}(hl:v.length<2000)(hw:∀p∈gO v [] [],p.1.length+p.2.length<5000)(hr:(gO v [] []).length<5000)(hn:∀p∈(gO v [] []).tail,p.1≠[])(hq:Q (.bool<|lz true<|gO v [] [])<|H.new<|oX<|gO v [] []):CW true (n+3) 1571 [.str v] [] [] H Q:=by
 have K:∀b,lz true (gO v [] [])=b->Q (.bool b) (H.new<|oX<|gO v [] []):=λb e=>e▸hq;refine xD (lv:=2) lU rfl<|Cu hl<|yx gz ⟨?_,?_⟩
 ·rw[aV];exact aL hr<|aB<|by rfl
 rw[uc,aV];exact FE gz hr hw hn _ 0 _ _ _ (bQ _) ⟨λh a=>K _ h,λh a=>K _ h⟩
noncomputable def nH(t:LN):Bool:=match t with
 |[]=>true
 |d::_=>decide<|d∈[32,10,8232,9]
def UX{α:Type}(l:List α)(j:Nat):pB l (some<|(j:Int)+1) (some<|(j:Int)+2)=(l.drop<|j+1).take 1:=by rw[<-Ml l (j+1) 1];congr 2
def Nl{v:LN}{j:Nat}:([[],[32],[10],[8232],[9]]:iK).any (λx=>x==pB v (some<|(j:Int)+1) (some<|(j:Int)+2))=nH (v.drop<|j+1):=by
 rw[Cm,UX];cases v.drop (j+1)with
 |nil=>rfl
 |cons d t=>exact cw.mpr<|by simp
def mR:Nat->Bool->LN->Bool
 |_,_,[]=>true
 |p,f,c::t=>!((decide (c∈[9,7])||(decide (c=58)&&nH t))||(f&&(decide (c∈[45,63])&&nH t)))&&(!(decide (c=35)&&decide (p∈[32,10,8232]))&&mR c false t)
def uB{p c:Nat}{f:Bool}{t:LN}:mR p f (c::t)=(!((decide (c∈[9,7])||(decide (c=58)&&nH t))||(f&&(decide (c∈[45,63])&&nH t)))&&(!(decide (c=35)&&decide (p∈[32,10,8232]))&&mR c false t)):=rfl
variable{p c:Nat}{f:Bool}{l t:LN}
def adH(d:l=c::t)(h:c∈[9,7]):mR p f l=false:=by rw[d,uB,az h];rfl
def adI(d:l=c::t)(h:c=58)(e:nH t=true):mR p f l=false:=by rw[d,uB,az h,e,fC,fq];rfl
def adJ(d:l=c::t)(g:f=true)(h:c∈[45,63])(e:nH t=true):mR p f l=false:=by rw[d,uB,az h,e,g];simp
def adK(d:l=c::t)(h:c=35)(e:p∈[32,10,8232]):mR p f l=false:=by rw[d,uB,az h,az e];exact fU _
def adL(d:l=c::t)(h1:c∉[9,7])(h2:c=58->nH t=false)(h3:f=true->c∈[45,63]->nH t=false)(h4:c=35->p∉[32,10,8232]):mR p f l=mR c false t:=by
 have x2:(decide (c=58)&&nH t)=false:=by
  by_cases z:c=58
  ·rw[h2 z,fU]
  ·rw[au z];rfl
 have x3:(f&&(decide (c∈[45,63])&&nH t))=false:=by
  by_cases y:f=true
  ·by_cases z:c∈[45,63]
   ·rw[h3 y z,fU,fU]
   ·rw[au z,Bool.false_and,fU]
  ·rw[fZ.mpr y];rfl
 have x4:(decide (c=35)&&decide (p∈[32,10,8232]))=false:=by
  by_cases z:c=35
  ·rw[au<|h4 z,fU]
  ·rw[au z];rfl
 rw[d,uB,au h1,x2,x3,x4];rfl
abbrev XU:IS:=ye jD.ib 1
def JG{v:LN}{Q:QF}(hl:v.length<5000)(DT:v.head?≠some 35):∀(m j p:Nat) (v2 v3:nF),j+m=v.length->(∀i,j=i+1->v[i]?=some p)->
  QK Q (λ(a:nF×nF×nF)=>[some<|.str v,a.1,a.2.1,a.2.2]) H (mR p (decide<|j=0)<|v.drop j)->
  ∀v1,FW (zW jD.fm 3) (rC XU) ((range' j m).map<|uO 1) [some<|.str v,v1,v2,v3] H Q:=by
 have lv:v.length<gP:=aL hl<|aB<|by rfl
 intro m;induction m with
 |zero=>intro j p v2 v3 e hp hq v1;exact FW.nil<|hq.1 (by rw[cj<|show v.length<=j from dH e.symm];rfl) (v1,v2,v3)
 |succ m ih=>
  intro j p v2 v3 e hp hq v1;have hj:j<v.length:=by lia
  have g:v[j]?=some v[j]:=bg hj;have d:v.drop j=v[j]::v.drop (j+1):=bL hj;generalize v[j]=c at g d;rw[ud];have K3:c∉[9,7]->(c=58->nH (v.drop<|j+1)=false)->(decide (j=0)=true->c∈[45,63]->nH (v.drop<|j+1)=false)->∀nb,run 397 ⟨zW jD.fm 3,turnF (zW jD.fm 3) (rC XU) ((range' (j+1) m).map<|uO 1) Q⟩ [iT (rC XU) 3] ⟨[(3,.bool nb),(2,.str [c])],[some<|.str v,some<|.int (j:Nat),v2,v3],[],[],H⟩:=by
   intro n1 n2 n3 nb;have next:=λ(z:c=35->p∉[32,10,8232]) v2 v3=>ih (j+1) c v2 v3 (by lia) (λi e=>fK e▸g) (by rw[au<|Nat.succ_ne_zero j];exact adL d n1 n2 n3 z▸hq)
   clear ih;by_cases c35:c=35
   ·refine sT c35<|XS lv (gn λz=>DT<|by rw[List.head?_eq_getElem?,<-z,<-c35];exact g) hp ?_;by_cases hpm:p∈[32,10,8232]
    ·exact dT hpm<|hq.2 (adK d c35 hpm) (_,_,_)
    ·exact dF hpm<|next (λz=>hpm) _ _ _
   ·exact sF c35 (next (λz=>aG z c35) _ _ _)
  clear ih;have K2:∀nb,nb=nH (v.drop<|j+1)->run 398 ⟨zW jD.fm 3,turnF (zW jD.fm 3) (rC XU) ((range' (j+1) m).map<|uO 1) Q⟩ [iT (rC XU) 2] ⟨[(3,.bool nb),(2,.str [c])],[some<|.str v,some<|.int (j:Nat),v2,v3],[],[],H⟩:=by
   intro nb en;by_cases c1:c∈[9,7]
   ·exact dT c1<|hq.2 (adH d c1) (_,_,_)
   ·refine dF c1 ?_;have K1:(c=58->nb=false)->run 398 ⟨zW jD.fm 3,turnF (zW jD.fm 3) (rC XU) ((range' (j+1) m).map<|uO 1) Q⟩ [.ite (bO .And [cE (.loc 1)<|.int 0,cI (.loc 2)<|.str [45,63],.loc 3]) (iB [.ret<|.bool false]) .nil,iT (rC XU) 3] ⟨[(3,.bool nb),(2,.str [c])],[some<|.str v,some<|.int (j:Nat),v2,v3],[],[],H⟩:=by
     intro n2;have n2:c=58->nH (v.drop<|j+1)=false:=λz=>en.symm.trans<|n2 z;by_cases j0:j=0
     ·refine zT j0 ?_;by_cases c2:c∈[45,63]
      ·refine dT c2 ?_;by_cases hb:nb=true
       ·exact cT hb<|hq.2 (adJ d (az j0) c2<|en.symm.trans hb) (_,_,_)
       ·exact cF (fZ.mpr hb)<|K3 c1 n2 (λz z=>en.symm.trans<|fZ.mpr hb) _
      ·exact dF c2<|K3 c1 n2 (λz y=>aG y c2) _
     ·exact zF j0<|K3 c1 n2 (λz=>aG (aJ z) j0) _
    by_cases c58:c=58
    ·refine sT c58 ?_;by_cases hb:nb=true
     ·exact cT hb<|hq.2 (adI d c58<|en.symm.trans hb) (_,_,_)
     ·exact cF (fZ.mpr hb)<|K1 λz=>fZ.mpr hb
    ·exact sF c58<|K1 λz=>aG z c58
  exact FW.cons (fs:=[]) nofun<|JF lv g ⟨lv,K2 _ Nl⟩
def uW(v:LN):Bool:=match v with
 |[]=>false
 |c::_=>!(decide (c∈[32,10,8232,39,34,35])||decide (v.getLastD 0∈[32,10,8232]))&&(mR 0 true v&&lz true (gO v [] []))
def zh{c:Nat}{t:LN}:uW (c::t)=(!(decide (c∈[32,10,8232,39,34,35])||decide ((c::t).getLastD 0∈[32,10,8232]))&&(mR 0 true (c::t)&&lz true (gO (c::t) [] []))):=rfl
def zj{v:LN}(hl:v.length<2000)(hw:∀p∈gO v [] [],p.1.length+p.2.length<5000)(hr:(gO v [] []).length<5000)(hn:∀p∈(gO v [] []).tail,p.1≠[])(hq:∀H',qu H H'->Q (.bool<|uW v) H')(hh:HW H):CW true (n+4) 1578 [.str v] [] [] H Q:=by
 have big:5000<=gP:=aB<|by rfl
 have lv:v.length<gP:=by lia
 have K:∀b H',uW v=b->qu H H'->Q (.bool b) H':=λb H' e g=>e▸hq H' g;refine xD (lv:=3) jD rfl ?_;induction v with
 |nil=>exact K _ _ rfl .refl
 |cons c t=>
  have hz:(c::t)[(c::t).length-1]?=some ((c::t).getLastD 0):=by rw[<-List.getLast?_eq_getElem?,List.getLast?_cons,List.getLastD_cons,cY]
  have body:c∉[32,10,8232,39,34,35]->(c::t).getLastD 0∉[32,10,8232]->∀b,(mR 0 true (c::t)&&lz true (gO (c::t) [] []))=b->uW (c::t)=b:=λh1 h2 b e=>by rw[zh,au h1,au h2];exact e
  generalize hzz:(c::t).getLastD 0=z at hz body;by_cases h1:c∈[32,10,8232,39,34,35]
  ·exact⟨lv,dT h1<|K _ _ (by rw[zh,az h1];rfl) .refl⟩
  ·refine⟨lv,dF h1 ⟨lv,eN _,?_⟩⟩;show jA ((c::t)[(c::t).length-1]?) _;rw[hz];by_cases h2:z∈[32,10,8232]
   ·exact dT h2<|K _ _ (by rw[zh,hzz,az h2,fq];rfl) .refl
   ·refine dF h2 ⟨lv,lv,?_⟩;rw[uc];have body:=body h1 h2;refine JG (aL hl<|by decide) (λe=>h1<|by cases ay e;decide) _ 0 0 _ _ (bQ _) (λi e=>nomatch e) ⟨λh a=>?_,λh a=>?_⟩ _
    ·exact Ai hl hw hr hn<|K _ _ (body _<|by rw[show mR 0 true (c::t)=true from h,fC])<|.new hh
    ·exact K _ _ (body _<|by rw[show mR 0 true (c::t)=false from h];rfl) .refl
noncomputable abbrev kj(s0 s1:Nat):MV:=.tup [.int s0,.int s1]
def su(s0 s1 i:Nat):LN:=qN.getD (pick s0 s1 i 3) []
def Bp(s0 s1 i:Nat):pick s0 s1 i 3<3:=cC _<|by decide
def oN(s0 s1 i:Nat):(su s0 s1 i).length<=2:=by exact(by decide:∀z<3,(qN.getD z []).length<=2) _ (Bp s0 s1 i)
def XV(s0 s1 i:Nat):(qN.map MV.str)[pick s0 s1 i 3]?=some (.str<|su s0 s1 i):=by rw[bh,(by decide:∀z<3,qN[z]?=some (qN.getD z [])) _<|Bp s0 s1 i];rfl
def oU(s0 s1:Nat)(j p c:Nat)(t:LN):Bool:=decide (c=32)&&(decide (0<j)&&(!t.isEmpty&&(!decide (p∈mH)&&(!decide (t.headD 0∈mH)&&decide (pick s0 s1 j 2=1)))))
def lM(s0 s1:Nat)(mg:LN):Nat->Nat->LN->LN
 |_,_,[]=>[]
 |j,p,c::t=>(if oU s0 s1 j p c t=true then su s0 s1 (j+3)++mg else[c])++lM s0 s1 mg (j+1) c t
def xR{s0 s1 j p c:Nat}{mg t:LN}:lM s0 s1 mg j p (c::t)=(if oU s0 s1 j p c t=true then su s0 s1 (j+3)++mg else[c])++lM s0 s1 mg (j+1) c t:=rfl
def XW{s0 s1 j p:Nat}{mg:LN}:lM s0 s1 mg j p []=[]:=rfl
def aa5{l:LN}{i c:Nat}{H:MH}{Q:QV}(hl:l.length<gP)(g:l[i+1]?=some c)(h:Q (.str [c]) H):rV (.str l) (.int<|(i:Int)+1) H Q:=JF (i:=i+1) hl g h
def aa6{s0 s1 j p c:Nat}{t:LN}(h:c≠32):oU s0 s1 j p c t=false:=by rw[oU,au h];rfl
def aa7{s0 s1 j p c:Nat}{t:LN}(h:¬0<j):oU s0 s1 j p c t=false:=by rw[oU,au h];exact fU _
def aa8{s0 s1 j p c:Nat}{t:LN}(h:t=[]):oU s0 s1 j p c t=false:=by rw[oU,h];simp
def aa9{s0 s1 j p c:Nat}{t:LN}(h:p∈mH):oU s0 s1 j p c t=false:=by rw[oU,az h];simp
def aba{s0 s1 j p c x:Nat}{t u:LN}(d:t=x::u)(h:x∈mH):oU s0 s1 j p c t=false:=by rw[oU,d,List.headD_cons,az h];simp
def abb{s0 s1 j p c:Nat}{t:LN}(h:pick s0 s1 j 2≠1):oU s0 s1 j p c t=false:=by rw[oU,au h];simp
def abc{s0 s1 j p c x:Nat}{t u:LN}(h1:c=32)(h2:0<j)(d:t=x::u)(h4:p∉mH)(h5:x∉mH)(h6:pick s0 s1 j 2=1):oU s0 s1 j p c t=true:=by rw[oU,az h1,az h2,d,List.headD_cons,au h4,au h5,az h6];rfl
def abd{s0 s1 j p c:Nat}{mg wr l t x:LN}(d:l=c::t)(h:(if oU s0 s1 j p c t=true then su s0 s1 (j+3)++mg else[c])=x):wr++lM s0 s1 mg j p l=wr++x++lM s0 s1 mg (j+1) c t:=by rw[d,xR,h,aW]
def xS{l:LN}{j:Nat}(h:j<l.length):l.drop j=l[j]::l.drop (j+1):=bL h
def WK{α:Type}(Q:QF)(F:LN->α->Loc)(H:MH)(t:LN):Prop:=∀H' a,qu H H'->Q .next (F t a) H'
def WK.go{α:Type}{Q:QF}{F:LN->α->Loc}{H H':MH}{t t':LN}(h:WK Q F H t)(g:qu H H')(e:t=t'):WK Q F H' t':=λH2 a g2=>e▸h H2 a (g.trans g2)
abbrev lBr:IS:=ye lq.ib 1
def D5{row mg:LN}{s0 s1:Nat}{Q:QF}(hl:row.length<=300)(hm:mg.length<=10)(h0:s0<27720)(h1:s1<27720):∀(m j p:Nat) (wr:LN) (H:MH) (v5:nF),j+m=row.length->(∀i,j=i+1->row[i]?=some p)->wr.length<=12*j->HW H->
  WK Q (λt (a:nF×nF)=>[some<|.str row,some<|kj s0 s1,some<|.str mg,some<|.str t,a.1,a.2]) H (wr++lM s0 s1 mg j p (row.drop j))->
  ∀v4,FW (zW lq.fm 2) (rC lBr) ((range' j m).map<|uO 4) [some<|.str row,some<|kj s0 s1,some<|.str mg,some<|.str wr,v4,v5] H Q:=by
 have big:5000<=gP:=aB<|by rfl
 have lv:row.length<gP:=ah hl<|aL (by decide) big;intro m;induction m with
 |zero=>intro j p wr H v5 e hp hwr hw hq v4;exact FW.nil<|hq.go .refl (by rw[cj<|show row.length<=j from dH e.symm,XW,bf]) H (v4,v5) .refl
 |succ m ih=>
  intro j p wr H v5 e hp hwr hw hq v4;have hj:j<row.length:=aL (gj<|eN m)<|dH e;have js:j+1<=300:=aa hj hl;have B:=λ{n:Nat} (h:n<=4000)=>ah h<|aL (by decide:4000<5000) big;have g:row[j]?=some row[j]:=bg hj;have d:row.drop j=row[j]::row.drop (j+1):=xS hj;generalize row[j]=c at g d;rw[ud];have K:∀H' x,qu H H'->(if oU s0 s1 j p c (row.drop<|j+1)=true then su s0 s1 (j+3)++mg else[c])=x->x.length<=12->run 398 ⟨zW lq.fm 2,turnF (zW lq.fm 2) (rC lBr) ((range' (j+1) m).map<|uO 4) Q⟩ [iT (rC lBr) 2] ⟨[(5,.str x)],[some<|.str row,some<|kj s0 s1,some<|.str mg,some<|.str wr,some<|.int (j:Nat),v5],[],[],H'⟩:=
   λH' x g' ec lc=>⟨B (aa (fW hwr lc)<|aa (gc (f9 12<|cA js) 12)<|by decide),ih (j+1) c (wr++x) H' _ ((gh j 1 m).trans e) (λi e=>fK e▸g) (by rw[aT];exact fW hwr lc) (g'.hw hw) (hq.go g'<|abd d ec) _⟩
  have N:oU s0 s1 j p c (row.drop<|j+1)=false->_:=λh=>K H [c] .refl (aE λz=>aI<|h.symm.trans z)<|aM 1 11;refine FW.cons (fs:=[]) nofun<|JF lv g ?_;by_cases yJ:c=32
  ·refine sT yJ ?_;by_cases j0:0<j
   ·refine dT (by lia) ⟨lv,?_⟩;by_cases hlast:row.length=j+1
    ·exact dF (by lia)<|N<|aa8<|cj<|dH hlast
    ·have XX:j+1<row.length:=Nat.lt_of_le_of_ne hj<|f5 hlast;refine dT (by lia)<|XS lv j0 hp ?_;by_cases pb:p∈mH
     ·exact Jf pb<|N<|aa9 pb
     ·refine Mj pb<|aa5 lv (bg XX) ?_;by_cases xb:row[j+1]∈mH
      ·exact Jf xb<|N<|aba (xS XX) xb
      ·refine Mj xb<|mQ (spot:=j) (many:=2) h0 h1 (aK js<|by decide) (by decide) ?_;by_cases pk:pick s0 s1 j 2=1
       ·have le:=oN s0 s1<|j+3;exact xT (b:=1) pk<|ze<|mQ (spot:=j+3) (many:=3) h0 h1 (ah (gc (cA js) 3)<|by decide) (by decide)<|A9 (n:=pick s0 s1 (j+3) 3) gz (XV s0 s1<|j+3) ⟨B (aa (fW le hm)<|by decide),K _ _ (.new hw) (aF<|abc yJ j0 (xS XX) pb xb pk)<|by rw[aT];exact fW le hm⟩
       ·exact xF (b:=1) pk<|N<|abb pk
   ·exact dF (by lia)<|N<|aa7 j0
  ·exact sF yJ<|N<|aa6 yJ
def Aj(s0 s1:Nat)(mg:LN)(hm:mg.length<=10)(t:LN):∀j p,(lM s0 s1 mg j p t).length<=12*t.length:=by
 induction t with
 |nil=>intro j p;exact aD _
 |cons c t ih=>
  intro j p;rw[xR,aT,aU];have h1:=ih (j+1) c;have h2:=oN s0 s1<|j+3;split
  ·rw[aT];exact aa (fW (fW h2 hm) h1)<|dH<|dK 12 _
  ·exact aa (fW (show 1<=12 by decide) h1)<|dH<|dK 12 _
def Bq{row mg:LN}{s0 s1:Nat}(hl:row.length<=300)(hm:mg.length<=10)(h0:s0<27720)(h1:s1<27720)(hw:HW H)(hq:∀H',qu H H'->Q (.str<|lM s0 s1 mg 0 0 row) H'):CW true (n+3) 1585 [.str row,kj s0 s1,.str mg] [] [] H Q:=by refine xD (lv:=2) lq rfl ⟨ah hl (by decide),ah hl (by decide),?_⟩;rw[uc];exact D5 hl hm h0 h1 _ 0 0 [] H _ (bQ _) (λi e=>nomatch e) (cg _) hw (λH' a g=>hq H' g) _
def lN(s0 s1:Nat)(run:LN):LN:=(oM s0 s1 run.length 0 run).flatten
noncomputable def wO(run:LN):LN:=if run.headD 0=10 then 10::run else run
def nu(s0 s1:Nat)(mg:LN):rP->LN
 |[]=>[]
 |(row,run)::r=>lM s0 s1 mg 0 0 row++((if run=[]then[]else lN s0 s1 (wO run)++mg)++nu s0 s1 mg r)
def qn{s0 s1:Nat}{mg row run:LN}{r:rP}:nu s0 s1 mg ((row,run)::r)=lM s0 s1 mg 0 0 row++((if run=[]then[]else lN s0 s1 (wO run)++mg)++nu s0 s1 mg r):=rfl
def Cv{s0 s1:Nat}{mg:LN}:nu s0 s1 mg []=[]:=rfl
def xU(l:iK):l.flatten.length=(l.map length).sum:=by rw[List.length_flatten]
def rK(s0 s1:Nat)(run:LN):(lN s0 s1 run).length<=2*run.length:=by rw[lN,xU];exact Bo _ _ _ _ _
def Wv{l v:LN}{c:Nat}:(l++[c]).length+v.length=l.length+(v.length+1):=by rw[aT,dZ];exact aq (l.length+·)<|dK 1 _
def sx(v:LN):∀row run:LN,(gO v row run).length<=v.length+1/\∀p∈gO v row run,p.1.length<=row.length+v.length/\p.2.length<=run.length+v.length:=by
 induction v with
 |nil=>intro row run;exact⟨aD _,λp hp=>by rw[aj.mp hp];exact⟨aD _,aD _⟩⟩
 |cons c v ih=>
  intro row run;rw[pD];split
  ·have z:=ih row<|run++[c];exact⟨eG z.1,λp hp=>⟨eG (z.2 p hp).1,aa (z.2 p hp).2<|dH Wv⟩⟩
  ·have Z:∀{n:Nat},n<=([]:LN).length+v.length->n<=run.length+(v.length+1):=λz=>aa z<|aa (dH<|bQ _)<|aa (bX _)<|aM _ _;split
   ·have z:=ih (row++[c]) [];exact⟨eG z.1,λp hp=>⟨aa (z.2 p hp).1<|dH Wv,Z (z.2 p hp).2⟩⟩
   ·have z:=ih [c] [];refine⟨aP z.1,List.forall_mem_cons.mpr ⟨⟨aA _ _,aA _ _⟩,λp hp=>⟨aa (z.2 p hp).1<|aa (dH<|dK 1 _)<|aM _ _,Z (z.2 p hp).2⟩⟩⟩
def HH(v:LN):∀row run:LN,(run≠[]->row≠[]∨True)->∀p∈(gO v row run).tail,p.1≠[]:=by
 induction v with
 |nil=>intro row run _ p hp;cases hp
 |cons c v ih=>
  intro row run h;rw[pD];split
  ·exact ih row (run++[c]) λz=>.inr trivial
  ·split
   ·exact ih (row++[c]) [] λz=>.inr trivial
   ·intro p hp;have hp:p∈gO v [c] []:=hp;have hd:∀(v:LN) (row run:LN),row≠[]->∀p∈gO v row run,p.1≠[]:=by
     intro v;induction v with
     |nil=>intro row run hr p hp;rw[aj.mp hp];exact hr
     |cons d v ih2=>
      intro row run hr;rw[pD];split
      ·exact ih2 row _ hr
      ·split
       ·exact ih2 _ _<|by simp
       ·intro p hp;rcases ao.mp hp with rfl|hp
        ·exact hr
        ·exact ih2 _ _ (by simp) p hp
    exact hd v [c] [] (by simp) p hp
def qu.del{H:MH}{o:MO}(hw:HW H):qu H ((H.new o).del H.n):=⟨λa x h=>by
 have n:a≠H.n:=av<|hw _ _ h;rw[show((H.new o).del H.n).at_ a=(H.new o).at_ a from aE n,g8 n];exact h,bX _,λh=>λa x e=>by
 have e:(if a=H.n then none else(H.new o).at_ a)=some x:=e;split at e
 ·cases e
 ·exact h.new _ _ e⟩
abbrev lOp:IS:=ye oh.ib 1
def So{a b n:Nat}(h:b<=12*20)(k:a+300*(n+1)<=9000):a+b+60+300*n<=9000:=by lia
def XY{s0 s1:Nat}{mg wr row run x:LN}{r:rP}(h:(if run=[]then[]else lN s0 s1 (wO run)++mg)=x):wr++nu s0 s1 mg ((row,run)::r)=wr++lM s0 s1 mg 0 0 row++x++nu s0 s1 mg r:=by rw[qn,h,aW,aW]
def JH{mg:LN}{s0 s1:Nat}{Q:QF}{v0:nF}(hm:mg.length<=10)(h0:s0<27720)(h1:s1<27720):∀(rows:rP) (wr:LN) (H:MH) (v4 v5:nF),(∀p∈rows,p.1.length<=20/\p.2.length<=20)->wr.length+300*rows.length<=9000->HW H->
  WK Q (λt (a:nF×nF)=>[v0,some<|kj s0 s1,some<|.str mg,some<|.str t,a.1,a.2]) H (wr++nu s0 s1 mg rows)->
  FW (zW oh.fm 3) (rC lOp) ((rows.map λp=>[MV.str p.1,MV.str p.2]).map λp Lc=>nJ [4,5] p Lc) [v0,some<|kj s0 s1,some<|.str mg,some<|.str wr,v4,v5] H Q:=by
 have big:9000<gP:=aB<|by rfl
 intro rows;induction rows with
 |nil=>intro wr H v4 v5 hs hl hw hq;exact FW.nil<|hq.go .refl (by rw[Cv,bf]) H (v4,v5) .refl
 |cons p rows ih=>
  intro wr H v4 v5 hs hl hw hq;obtain⟨row,rn⟩:=p;have sz:row.length<=20/\rn.length<=20:=hs _<|.head _;have b1:(wr++lM s0 s1 mg 0 0 row).length+60+300*rows.length<=9000:=by rw[aT];exact So (aa (Aj s0 s1 mg hm row 0 0)<|f9 12 sz.1) hl
  have b2:=fY b1;have b3:=fY b2;refine FW.cons (fs:=[]) nofun<|Bq (row:=row) (aa sz.1<|by decide) hm h0 h1 hw λH1 g1=>⟨by rw[<-aT];exact ah b3 big,?_⟩;have next:∀H2 x t,qu H1 H2->(if rn=[]then[]else lN s0 s1 (wO rn)++mg)=x->x.length<=60->t=wr++lM s0 s1 mg 0 0 row++x->FW (zW oh.fm 3) (rC lOp) ((rows.map λp=>[MV.str p.1,MV.str p.2]).map λp Lc=>nJ [4,5] p Lc) [v0,some<|kj s0 s1,some<|.str mg,some<|.str t,some<|.str row,some<|.str rn] H2 Q:=
   λH2 x t g2 e lx et=>et▸ih _ H2 _ _ (λp hp=>hs p<|.tail _ hp) (by rw[aT];exact aa (gc (dU lx _) _) b1) ((g1.trans g2).hw hw) (hq.go (g1.trans g2)<|XY e)
  clear ih hq;by_cases n0:rn=[]
  ·exact AF n0<|next H1 [] _ .refl (aF n0) (cg _) (bf _).symm
  ·obtain⟨c,t,er⟩:=fV n0;refine AG n0<|JF (i:=0) (ah sz.2<|aK (by decide) big) (by rw[er];rfl) ?_;by_cases Em:c=10
   ·have e:wO rn=10::rn:=aF<|show rn.headD 0=10 by rw[er];exact Em
    have el:(lN s0 s1<|10::rn).length<=42:=aa (rK ..)<|f9 2<|aP sz.2;exact sT Em ⟨by show 1+rn.length<gP;exact ah (dU sz.2 1) (aK (by decide) big),zg (n:=0) (run:=10::rn) (aa (aP sz.2)<|by decide) h0 h1 (g1.hw hw) λH2 g2=>⟨ah (aa (dU (aa el<|by decide) _) b2) big,by rw[aT,dZ];exact ah (aa (dU (aa (fW el hm)<|by decide) _) b2) big,next H2 (lN s0 s1 (10::rn)++mg) _ g2 ((aE n0).trans<|by rw[e]) (by rw[aT];exact aa (fW el hm)<|by decide)<|aW ..⟩⟩
   ·have e:wO rn=rn:=aE<|show¬rn.headD 0=10 by rw[er];exact Em
    have el:(lN s0 s1 rn).length<=42:=aa (rK ..)<|aa (f9 2 sz.2)<|by decide
    exact sF Em<|zg (n:=0) (run:=rn) (aa (sz.2)<|by decide) h0 h1 (g1.hw hw) λH2 g2=>⟨ah (aa (dU (aa el<|by decide) _) b2) big,by rw[aT,dZ];exact ah (aa (dU (aa (fW el hm)<|by decide) _) b2) big,next H2 (lN s0 s1 (rn)++mg) _ g2 ((aE n0).trans<|by rw[e]) (by rw[aT];exact aa (fW el hm)<|by decide)<|aW ..⟩
def Cw{v mg:LN}{s0 s1:Nat}(hl:v.length<=19)(hm:mg.length<=10)(h0:s0<27720)(h1:s1<27720)(hw:HW H)(hq:∀H',qu H H'->Q (.str<|nu s0 s1 mg<|gO v [] []) H'):CW true (n+4) 1592 [.str v,kj s0 s1,.str mg] [] [] H Q:=by
 have rs:=sx v [] [];refine xD (lv:=3) oh rfl<|Cu (by omega) ?_;show kg ((H.new<|oX<|gO v [] []).at_ H.n) _;rw[gz];refine⟨(gO v [] []).map λ(p:Row)=>[MV.str p.1,MV.str p.2],by rw[bZ];rfl,λp hp=>?_,JH hm h0 h1 _ [] _ _ _ (λp hp=>?_) (by simp only[aZ];omega) ((qu.del hw).hw hw) λH' a g=>hq H'<|(qu.del hw).trans g⟩
 ·obtain⟨x,_,rfl⟩:=bU.mp hp;rfl
 ·have:=rs.2 p hp;simp only[aZ]at this;lia
noncomputable def qe(c:Nat):Option LN:=if c=34 then some [92,34]else if c=92 then some [92,92]else if c=10 then some [92,110]else if c=8232 then some [92,76]else if c=7 then some [92,97]else if c=9 then some [92,116]else none
def HJ(c:Nat):jQ [c] xt=(qe c).map .str:=by
 unfold qe;by_cases h1:c=34
 ·subst h1;rfl
 ·rw[aE h1];by_cases h2:c=92
  ·subst h2;rfl
  ·rw[aE h2];by_cases h3:c=10
   ·subst h3;rfl
   ·rw[aE h3];by_cases h4:c=8232
    ·subst h4;rfl
    ·rw[aE h4];by_cases h5:c=7
     ·subst h5;rfl
     ·rw[aE h5];by_cases h6:c=9
      ·subst h6;rfl
      ·rw[aE h6];unfold jQ xt;simp[List.find?,f5 h1,f5 h2,f5 h3,f5 h4,f5 h5,f5 h6]
def rL{P:Prop}[Decidable P]{a:LN}{o:Option LN}(ha:a.length=2)(ho:∀e,o=some e->e.length=2)(e:LN)(h:(if P then some a else o)=some e):e.length=2:=by
 by_cases p:P
 ·exact ay ((aF p).symm.trans h)▸ha
 ·exact ho e<|(aE p).symm.trans h
def Cy{c:Nat}{e:LN}(h:qe c=some e):e.length=2:=rL rfl (rL rfl<|rL rfl<|rL rfl<|rL rfl<|rL rfl λe h=>by cases h) e h
def qo(s0 s1:Nat)(mg:LN)(j p c:Nat)(t:LN):LN:=match qe c with
 |some e=>e
 |none=>if c=233/\pick s0 s1 j 5%2=1 then[92,120,101,57]else if c=32/\pick s0 s1 j 5=1 then[92,32]else if c=32/\pick s0 s1 j 5=2/\0<j/\t≠[]/\p≠32/\t.headD 0≠32 then su s0 s1 (j+3)++mg else[c]
def ue(s0 s1:Nat)(mg:LN)(j:Nat)(t:LN):LN:=if pick s0 s1 j 5=3/\t.headD 0≠32 then 92::(su s0 s1 (j+1)++mg)else[]
noncomputable def uf(s0 s1:Nat)(mg:LN):Nat->Nat->LN->LN
 |_,_,[]=>[]
 |j,p,c::t=>qo s0 s1 mg j p c t++(ue s0 s1 mg j t++uf s0 s1 mg (j+1) c t)
def xV{s0 s1 j p c:Nat}{mg t:LN}:uf s0 s1 mg j p (c::t)=qo s0 s1 mg j p c t++(ue s0 s1 mg j t++uf s0 s1 mg (j+1) c t):=rfl
def XZ{s0 s1 j p:Nat}{mg:LN}:uf s0 s1 mg j p []=[]:=rfl
def adN{d:Nat}{es:List (LN×MV)}{h:LN}{H:MH}{K:Bool->Prop}(o:H.at_ d=some (.iN es))(c:K (jQ h es).isSome):jA (sW .In (.str h) (.ref d) H) K:=by show jA ((H.at_ d).casesOn _ _) K;rw[o];exact c
def itE{d:Nat}{es:List (LN×MV)}{h:LN}{v:MV}{H:MH}{Q:QV}(o:H.at_ d=some (.iN es))(g:jQ h es=some v)(c:Q v H):rV (.ref d) (.str h) H Q:=by show qh (H.at_ d) _ _ _ _ _ _;rw[o];show jA (jQ h es) _;rw[g];exact c
end
section
variable{n:Nat}{H:MH}{Q:QV}
def Ak(hq:Q (.ref H.n)<|H.new<|.iN xt):CW true (n+2) 1538 [] [] [] H Q:=xD (lv:=1) qx rfl λQ' m=>m _ _ _ hq
abbrev lDo:IS:=ye jX.ib 1
def fm2(a:Nat):((a:Int).fmod 2==1)=decide (a%2=1):=by
 rw[dj _<|by decide];by_cases h:a%2=1
 ·rw[az h,cQ];lia
 ·rw[au h,cK];omega
def UY{v:LN}{j:Nat}:pB v (some<|(j:Int)+1) (some<|(j:Int)+2)=[32]↔(v.drop<|j+1).headD 0=32:=by
 rw[UX];cases v.drop (j+1)with
 |nil=>exact⟨nofun,nofun⟩
 |cons x t=>exact⟨λh=>(cH h).1,λh=>aq (λy=>[y]) h⟩
section
variable{s0 s1 j p c x:Nat}{mg t u:LN}
def adO{e:LN}(he:qe c=some e):qo s0 s1 mg j p c t=e:=by rw[qo,he]
def adP(he:qe c=none)(h1:c=233)(h2:pick s0 s1 j 5%2=1):qo s0 s1 mg j p c t=[92,120,101,57]:=by rw[qo,he];exact aF ⟨h1,h2⟩
def adQ(he:qe c=none)(h1:¬(c=233/\pick s0 s1 j 5%2=1))(h2:¬(c=32/\pick s0 s1 j 5=1))(h3:¬(c=32/\pick s0 s1 j 5=2/\0<j/\t≠[]/\p≠32/\t.headD 0≠32)):qo s0 s1 mg j p c t=[c]:=by rw[qo,he];exact(aE h1).trans ((aE h2).trans<|aE h3)
def adR(he:qe c=none)(h1:¬(c=233/\pick s0 s1 j 5%2=1))(h2:c=32)(h3:pick s0 s1 j 5=1):qo s0 s1 mg j p c t=[92,32]:=by rw[qo,he];exact(aE h1).trans (aF ⟨h2,h3⟩)
def adS(he:qe c=none)(h1:¬(c=233/\pick s0 s1 j 5%2=1))(h2:c=32)(h3:pick s0 s1 j 5=2)(j0:0<j)(d:t=x::u)(h5:p≠32)(h6:x≠32):qo s0 s1 mg j p c t=su s0 s1 (j+3)++mg:=by rw[qo,he];exact(aE h1).trans ((aE λz=>aG (h3.symm.trans z.2)<|by decide).trans<|aF ⟨h2,h3,j0,d▸aX _ _,h5,d▸h6⟩)
def abe{wr l y:LN}(d:l=c::t)(h:qo s0 s1 mg j p c t++ue s0 s1 mg j t=y):wr++uf s0 s1 mg j p l=wr++y++uf s0 s1 mg (j+1) c t:=by rw[d,xV,<-h,aW,aW]
def abf(h:¬(pick s0 s1 j 5=3/\t.headD 0≠32))(e:qo s0 s1 mg j p c t=u):qo s0 s1 mg j p c t++ue s0 s1 mg j t=u:=by rw[ue,aE h,bf,e]
end
def D6{v mg:LN}{s0 s1:Nat}{Q:QF}(hl:v.length<=300)(hm:mg.length<=10)(h0:s0<27720)(h1:s1<27720):∀(m j p:Nat) (wr:LN) (H:MH) (v5 v6:nF),j+m=v.length->(∀i,j=i+1->v[i]?=some p)->wr.length<=30*j+1->HW H->
  WK Q (λt (a:nF×nF×nF)=>[some<|.str v,some<|kj s0 s1,some<|.str mg,some<|.str t,a.1,a.2.1,a.2.2]) H (wr++uf s0 s1 mg j p (v.drop j))->
  ∀v4,FW (zW jX.fm 2) (rC lDo) ((range' j m).map<|uO 4) [some<|.str v,some<|kj s0 s1,some<|.str mg,some<|.str wr,v4,v5,v6] H Q:=by
 have big:10000<=gP:=aB<|by rfl
 have lv:v.length<gP:=ah hl<|aL (by decide) big;intro m;induction m with
 |zero=>intro j p wr H v5 v6 e hp hwr hw hq v4;exact FW.nil<|hq.go .refl (by rw[cj<|show v.length<=j from dH e.symm,XZ,bf]) H (v4,v5,v6) .refl
 |succ m ih=>
  intro j p wr H v5 v6 e hp hwr hw hq v4;have hj:j<v.length:=aL (gj<|eN m)<|dH e;have js:j+1<=300:=aa hj hl;have j30:30*j<=9000:=f9 30<|cA js;have J:∀k,k<=100->30*j+k<=9100:=λk h=>fW j30 h;have B:=λ{n:Nat} (h:n<=9100)=>ah h<|aL (by decide:9100<10000) big;have g:v[j]?=some v[j]:=bg hj;have d:v.drop j=v[j]::v.drop (j+1):=xS hj;generalize v[j]=c at g d;rw[ud];have next:∀H2 x c',qu H H2->qo s0 s1 mg j p c (v.drop<|j+1)++ue s0 s1 mg j (v.drop<|j+1)=x->x.length<=30->FW (zW jX.fm 2) (rC lDo) ((range' (j+1) m).map<|uO 4) [some<|.str v,some<|kj s0 s1,some<|.str mg,some<|.str<|wr++x,some<|.int (j:Nat),some<|.str c',some<|.int (pick s0 s1 j 5:Nat)] H2 Q:=
   λH2 x c' g2 ex lx=>ih (j+1) c _ H2 _ _ ((gh j 1 m).trans e) (λi e=>fK e▸g) (by rw[aT];exact show _<=30*j+1+30 from fW hwr lx) (g2.hw hw) (hq.go g2<|abe d ex) _
  clear ih hq;have K4:∀H1 c',qu H H1->qo s0 s1 mg j p c (v.drop<|j+1)=c'->c'.length<=13->run 397 ⟨zW jX.fm 2,turnF (zW jX.fm 2) (rC lDo) ((range' (j+1) m).map<|uO 4) Q⟩ [iT (rC lDo) 3] ⟨[(6,.int (pick s0 s1 j 5:Nat)),(5,.str c')],[some<|.str v,some<|kj s0 s1,some<|.str mg,some<|.str wr,some<|.int (j:Nat),v5,v6],[],[],H1⟩:=by
   intro H1 c' g1 ec lc;refine⟨B (aa (fW hwr lc)<|J 14<|by decide),?_⟩;by_cases c3:pick s0 s1 j 5=3
   ·refine xT (b:=3) c3 ⟨lv,?_⟩;by_cases yJ:pB v (some<|(j:Int)+1) (some<|(j:Int)+2)=[32]
    ·have:=next H1 c' c' g1 (abf (λz=>z.2<|UY.mp yJ) ec)<|aa lc<|by decide
     exact AF yJ this
    ·have le:=oN s0 s1<|j+1;have wl:(wr++c'++[92]).length<=30*j+1+13+1:=by rw[aT,aT];exact fW (fW hwr lc)<|aD 1
     have wm:(wr++c'++[92]++su s0 s1 (j+1)).length<=30*j+1+13+1+2:=by rw[aT];exact fW wl le
     refine AG yJ ⟨by show(wr++c').length+([92]:LN).length<gP;rw[<-aT];exact B (aa wl<|J 15<|by decide),ze<|mQ (spot:=j+1) (many:=3) h0 h1 (ah js<|by decide) (by decide)<|A9 (n:=pick s0 s1 (j+1) 3) gz (XV s0 s1<|j+1) ⟨B (aa (fW wl le)<|J 17<|by decide),B (aa (fW wm hm)<|J 27<|by decide),?_⟩⟩;have:=next (H1.new<|.list<|qN.map .str) (c'++92::(su s0 s1 (j+1)++mg)) c' (g1.trans<|.new<|g1.hw hw) (by rw[ec,ue,aF ⟨c3,λz=>yJ<|UY.mpr z⟩])<|by rw[aT,aU,aT];exact aa (fW lc<|aP<|fW le hm)<|by decide
     rw[show wr++(c'++92::(su s0 s1 (j+1)++mg))=wr++c'++[92]++su s0 s1 (j+1)++mg by simp]at this;exact this
   ·have:=next H1 c' c' g1 (abf (λz=>c3 z.1) ec)<|aa lc<|by decide
    exact xF (b:=3) c3 this
  clear next
  refine FW.cons (fs:=[]) nofun<|JF lv g<|mQ (spot:=j) (many:=5) h0 h1 (aK js<|by decide) (by decide)<|Ak<|adN gz ?_;rw[HJ];cases he:qe c with
  |some x=>exact Ak<|itE gz ((HJ c).trans<|by rw[he];rfl)<|K4 _ x ((qu.new hw).trans<|.new hw.new) (adO he)<|aa (dH<|Cy he)<|by decide
  |none=>
   have gE:=qu.new (o:=.iN xt) hw;have N:¬(c=233/\pick s0 s1 j 5%2=1)->¬(c=32/\pick s0 s1 j 5=1)->¬(c=32/\pick s0 s1 j 5=2/\0<j/\v.drop (j+1)≠[]/\p≠32/\(v.drop<|j+1).headD 0≠32)->_:=λa b d=>K4 _ _ gE (adQ he a b d)<|aM 1 12;by_cases c233:c=233
   ·refine sT c233 ⟨by decide,?_⟩;by_cases p2:pick s0 s1 j 5%2=1
    ·exact cT ((fm2 _).trans<|az p2)<|K4 _ _ gE (adP he c233 p2)<|by decide
    ·have yJ:c≠32:=λz=>aG (c233.symm.trans z)<|by decide
     exact cF ((fm2 _).trans<|au p2)<|sF yJ<|sF yJ<|N (λz=>p2 z.2) (λz=>yJ z.1) λz=>yJ z.1
   ·have n1:¬(c=233/\pick s0 s1 j 5%2=1):=λz=>c233 z.1;refine sF c233 ?_;by_cases yJ:c=32
    ·refine sT yJ ?_;by_cases p1:pick s0 s1 j 5=1
     ·exact xT (b:=1) p1<|K4 _ _ gE (adR he n1 yJ p1)<|by decide
     ·have n2:¬(c=32/\pick s0 s1 j 5=1):=λz=>p1 z.2;refine xF (b:=1) p1<|sT yJ ?_;by_cases p2:pick s0 s1 j 5=2
      ·refine xT (b:=2) p2 ?_;by_cases j0:0<j
       ·refine dT (by lia) ⟨lv,?_⟩;by_cases hlast:v.length=j+1
        ·exact dF (by lia)<|N n1 n2 λz=>z.2.2.2.1<|cj<|dH hlast
        ·have XX:j+1<v.length:=Nat.lt_of_le_of_ne hj<|f5 hlast;refine dT (by lia)<|XS lv j0 hp ?_;by_cases pb:p=32
         ·exact Xg pb<|N n1 n2 λz=>z.2.2.2.2.1 pb
         ·refine Oz pb<|aa5 lv (bg XX) ?_;by_cases xb:v[j+1]=32
          ·exact Xg xb<|N n1 n2 λz=>z.2.2.2.2.2<|by rw[xS XX];exact xb
          ·have le:=oN s0 s1<|j+3;exact Oz xb<|ze<|mQ (spot:=j+3) (many:=3) h0 h1 (ah (gc (cA js) 3)<|by decide) (by decide)<|A9 (n:=pick s0 s1 (j+3) 3) gz (XV s0 s1<|j+3) ⟨by lia,K4 _ _ (gE.trans<|.new hw.new) (adS he n1 yJ p2 j0 (xS XX) pb xb)<|by rw[aT];exact aa (fW le hm)<|by decide⟩
       ·exact dF (by lia)<|N n1 n2 λz=>j0 z.2.2.1
      ·exact xF (b:=2) p2<|N n1 n2 λz=>p2 z.2.1
    ·exact sF yJ<|sF yJ<|N n1 (λz=>yJ z.1) λz=>yJ z.1
def Nm(s0 s1:Nat)(mg:LN)(hm:mg.length<=10)(j p c:Nat)(t:LN):(qo s0 s1 mg j p c t).length<=13:=by
 have:=oN s0 s1<|j+3;unfold qo;set_option tactic.hygienic true in split
 ·rename_i e h;have:=Cy h;lia
 ·split
  ·decide
  ·split
   ·decide
   ·split
    ·rw[aT];lia
    ·simp
def Nn(s0 s1:Nat)(mg:LN)(hm:mg.length<=10)(j:Nat)(t:LN):(ue s0 s1 mg j t).length<=13:=by
 have:=oN s0 s1<|j+1;unfold ue;split
 ·rw[aU,aT];lia
 ·exact cg _
def Np(s0 s1:Nat)(mg:LN)(hm:mg.length<=10)(t:LN):∀j p,(uf s0 s1 mg j p t).length<=30*t.length:=by
 induction t with
 |nil=>intro j p;exact aD _
 |cons c t ih=>intro j p;have h1:=Nm s0 s1 mg hm j p c t;have h2:=Nn s0 s1 mg hm j t;have h3:=ih (j+1) c;rw[xV,aT,aT,aU];lia
def JI{v mg:LN}{s0 s1:Nat}(hl:v.length<=300)(hm:mg.length<=10)(h0:s0<27720)(h1:s1<27720)(hw:HW H)(hq:∀H',qu H H'->Q (.str<|34::(uf s0 s1 mg 0 0 v++[34])) H'):CW true (n+3) 1599 [.str v,kj s0 s1,.str mg] [] [] H Q:=by
 have big:10000<=gP:=aB<|by rfl
 have dl:=Np s0 s1 mg hm v 0 0;refine xD (lv:=2) jX rfl ⟨by omega,by omega,?_⟩;rw[uc];refine D6 hl hm h0 h1 _ 0 0 [34] H _ _ (bQ _) (λi e=>nomatch e) (aD _) hw (λH' a g=>⟨by show([34]++uf s0 s1 mg 0 0 v).length+1<gP;rw[aT,aY];lia,?_⟩) _;exact hq H' g
end
def Cz{α:Type}(l:List α)(n:Nat):pB l none (some (n:Int))=l.take n:=by unfold pB oH qC;simp only[o7,List.drop_zero,Nat.sub_zero];rw[List.take_eq_take_iff];lia
def qf(row:LN):Bool:=match row with
 |[]=>false
 |c::_=>!decide (c∈mH)
def Nq(row:LN):(!([[],[32],[9]]:iK).any (λx=>x==pB row none (some 1)))=qf row:=by
 rw[Cm,show pB row none (some 1)=row.take 1 from Cz row 1];induction row with
 |nil=>rfl
 |cons c t=>exact aq not<|cw.mpr<|by simp
def qO(fd:Bool)(row run:LN):rP->LN
 |(r2,_)::_=>if fd=true/\qf row=true/\run.headD 0=10/\r2.headD 0∉mH then 10::run else run
 |[]=>if row≠[]/\run=[]then[10]else run
def uP(s0 s1:Nat)(fd:Bool)(mg row:LN):LN:=if row=[]then[]else mg++(if(fd&&qf row)=true then lM s0 s1 mg 0 0 row else row)
noncomputable def vq(s0 s1:Nat)(fd:Bool)(mg:LN):rP->LN
 |[]=>[]
 |(row,run)::t=>uP s0 s1 fd mg row++(lN s0 s1 (qO fd row run t)++vq s0 s1 fd mg t)
def xW{s0 s1:Nat}{fd:Bool}{mg row run:LN}{t:rP}:vq s0 s1 fd mg ((row,run)::t)=uP s0 s1 fd mg row++(lN s0 s1 (qO fd row run t)++vq s0 s1 fd mg t):=rfl
def FH{s0 s1:Nat}{fd:Bool}{mg:LN}:vq s0 s1 fd mg []=[]:=rfl
abbrev X3:IS:=ye gJ.ib 8
section
variable{n:Nat}{H:MH}{Q:QV}
def Nr(s0 s1:Nat)(fd:Bool){mg row:LN}(hm:mg.length<=10)(hr:row.length<=20):(uP s0 s1 fd mg row).length<=250:=by
 have:=Aj s0 s1 mg hm row 0 0;unfold uP;split
 ·exact cg _
 ·rw[aT];split<;>lia
def Nt(fd:Bool){row run:LN}{t:rP}(hr:run.length<=20):(qO fd row run t).length<=21:=by
 unfold qO;split
 ·split
  ·rw[aU];lia
  ·omega
 ·split
  ·decide
  ·omega
section
variable{fd:Bool}{row run r2 n2:LN}{t u:rP}
def D7(d:t=(r2,n2)::u)(h:¬(fd=true/\qf row=true/\run.headD 0=10/\r2.headD 0∉mH)):qO fd row run t=run:=by rw[d];exact aE h
def abg(d:t=(r2,n2)::u)(h1:fd=true)(h2:qf row=true)(h3:run.headD 0=10)(h4:r2.headD 0∉mH):qO fd row run t=10::run:=by rw[d];exact aF ⟨h1,h2,h3,h4⟩
def Sp(d:t=[])(h:¬(row≠[]/\run=[])):qO fd row run t=run:=by rw[d];exact aE h
def abh(d:t=[])(h1:row≠[])(h2:run=[]):qO fd row run t=[10]:=by rw[d];exact aF ⟨h1,h2⟩
def adT{s0 s1:Nat}{mg:LN}(h:row=[]):uP s0 s1 fd mg row=[]:=aF h
def adU{s0 s1:Nat}{mg:LN}(h:row≠[])(e:(fd&&qf row)=false):uP s0 s1 fd mg row=mg++row:=(aE h).trans (aq (mg++·)<|aE<|by rw[e];exact aI)
def adV{s0 s1:Nat}{mg:LN}(h:row≠[])(e:fd=true)(e2:qf row=true):uP s0 s1 fd mg row=mg++lM s0 s1 mg 0 0 row:=(aE h).trans (aq (mg++·)<|aF<|by rw[e,e2];rfl)
def abi{s0 s1:Nat}{mg wr w1 rn:LN}{l:rP}(d:l=(row,run)::t)(e:w1=wr++uP s0 s1 fd mg row)(er:qO fd row run t=rn):wr++vq s0 s1 fd mg l=w1++lN s0 s1 rn++vq s0 s1 fd mg t:=by rw[d,xW,e,er,aW,aW]
end
def FI{i:Nat}{rows:rP}{mg:LN}{fd:Bool}{s0 s1:Nat}{Q:QF}{v0 v3 v5 v6 v8 v9 v12:nF}(hl:rows.length<=20)(hs:∀p∈rows,p.1.length<=20/\p.2.length<=20)(hn:∀p∈rows.tail,p.1≠[])(hr:∀p∈rows.dropLast,p.2≠[])(hm:mg.length<=10)(h0:s0<27720)(h1:s1<27720):∀(m j:Nat) (wr:LN) (H:MH) (yi rO X4:nF),H.at_ i=some (oX rows)->j+m=rows.length->wr.length<=300*j+20->HW H->
  WK Q (λt (a:nF×nF×nF×nF)=>[v0,some<|.bool fd,some<|kj s0 s1,v3,some<|.ref i,v5,v6,some<|.str mg,v8,v9,some<|.str t,a.1,v12,a.2.1,a.2.2.1,a.2.2.2]) H (wr++vq s0 s1 fd mg (rows.drop j))->
  ∀v11,FW (zW gJ.fm 3) (rC X3) ((range' j m).map<|uO 11) [v0,some<|.bool fd,some<|kj s0 s1,v3,some<|.ref i,v5,v6,some<|.str mg,v8,v9,some<|.str wr,v11,v12,yi,rO,X4] H Q:=by
 have big:20000<=gP:=aB<|by rfl
 have Nu:20<gP:=aL (by decide) big;intro m;induction m with
 |zero=>intro j wr H yi rO X4 o e hwr hw hq v11;exact FW.nil<|hq.go .refl (by rw[cj<|show rows.length<=j from dH e.symm,FH,bf]) H (v11,yi,rO,X4) .refl
 |succ m ih=>
  intro j wr H yi rO X4 o e hwr hw hq v11;have hj:j<rows.length:=aL (gj<|eN m)<|dH e;have j20:300*j<=6000:=f9 300<|cA<|aL hj hl;have B:=λ{n:Nat} (h:n<=9000)=>ah h<|aL (by decide:9000<20000) big;obtain⟨⟨row,rn⟩,hp⟩:∃p,rows[j]=p:=⟨_,rfl⟩;have g:rows[j]?=some (row,rn):=by rw[bg hj,hp]
  have d:rows.drop j=(row,rn)::rows.drop (j+1):=hp▸bL hj;have sz:row.length<=20/\rn.length<=20:=hs _<|bP g;rw[ud];have K2:∀sb,sb=qf row->run 398 ⟨zW gJ.fm 3,turnF (zW gJ.fm 3) (rC X3) ((range' (j+1) m).map<|uO 11) Q⟩ [iT (rC X3) 2] ⟨[(13,.bool sb),(15,.str rn),(14,.str row)],[v0,some<|.bool fd,some<|kj s0 s1,v3,some<|.ref i,v5,v6,some<|.str mg,v8,v9,some<|.str wr,some<|.int (j:Nat),v12,yi,rO,X4],[],[],H⟩:=by
   intro sb es;have K4:∀pre wr1 H1 rn',((pre=[]/\wr1=wr)∨pre=[(10,MV.str wr1)])->qu H H1->wr1=wr++uP s0 s1 fd mg row->qO fd row rn (rows.drop<|j+1)=rn'->run 396 ⟨zW gJ.fm 3,turnF (zW gJ.fm 3) (rC X3) ((range' (j+1) m).map<|uO 11) Q⟩ [iT (rC X3) 4] ⟨pre++[(13,.bool sb),(15,.str rn'),(14,.str row)],[v0,some<|.bool fd,some<|kj s0 s1,v3,some<|.ref i,v5,v6,some<|.str mg,v8,v9,some<|.str wr,some<|.int (j:Nat),v12,yi,rO,X4],[],[],H1⟩:=by
    intro pre wr1 H1 rn' hpre g1 ew er;have y1:=Nr s0 s1 fd hm sz.1;have y2:rn'.length<=21:=er▸Nt fd sz.2;have y3:(lN s0 s1 rn').length<=42:=aa (rK s0 s1 rn')<|f9 2 y2;have lw:wr1.length<=300*j+270:=by rw[ew,aT];exact show _<=300*j+20+250 from fW hwr y1
    have fin:=λH2 (g2:qu H1 H2)=>ih (j+1) (wr1++lN s0 s1 rn') H2 (some<|.bool sb) (some<|.str row) (some<|.str rn') (g2.old _ _<|g1.old _ _ o) ((gh j 1 m).trans e) (by rw[aT];exact aa (fW lw y3)<|show 300*j+312<=300*j+320 from dU (by decide) _) ((g1.trans g2).hw hw)<|hq.go (g1.trans g2)<|abi d ew er;rcases hpre with⟨rfl,rfl⟩|rfl
    ·exact zg (n:=0) (run:=rn') (aa y2<|by decide) h0 h1 (g1.hw hw) λH2 g2=>⟨B (aa (fW (aa lw<|gc j20 270) y3)<|by decide),fin H2 g2 _⟩
    ·exact zg (n:=0) (run:=rn') (aa y2<|by decide) h0 h1 (g1.hw hw) λH2 g2=>⟨B (aa (fW (aa lw<|gc j20 270) y3)<|by decide),fin H2 g2 _⟩
   clear ih hq;have K3:∀pre wr1 H1,((pre=[]/\wr1=wr)∨pre=[(10,MV.str wr1)])->qu H H1->wr1=wr++uP s0 s1 fd mg row->run 397 ⟨zW gJ.fm 3,turnF (zW gJ.fm 3) (rC X3) ((range' (j+1) m).map<|uO 11) Q⟩ [iT (rC X3) 3] ⟨pre++[(13,.bool sb),(15,.str rn),(14,.str row)],[v0,some<|.bool fd,some<|kj s0 s1,v3,some<|.ref i,v5,v6,some<|.str mg,v8,v9,some<|.str wr,some<|.int (j:Nat),v12,yi,rO,X4],[],[],H1⟩:=by
    intro pre wr1 H1 hpre g1 ew;have o1:=g1.old _ _ o;by_cases hlast:j+1<rows.length
    ·obtain⟨⟨r2,n2⟩,hp2⟩:∃p,rows[j+1]=p:=⟨_,rfl⟩;have g2:rows[j+1]?=some (r2,n2):=by rw[bg hlast,hp2]
     have d2:rows.drop (j+1)=(r2,n2)::rows.drop (j+1+1):=hp2▸bL hlast;have sz2:r2.length<=20:=(hs _<|bP g2).1;obtain⟨c2,t2,(YA:r2=c2::t2)⟩:=fV<|hn (r2,n2)<|by rw[<-List.drop_one];exact bP (i:=j)<|by rw[dJ,dK 1 j];exact g2
     obtain⟨c1,t1,(er:rn=c1::t1)⟩:=fV<|hr (row,rn)<|by rw[List.dropLast_eq_take];exact bP (i:=j)<|by rw[fB<|Nat.lt_sub_of_add_lt hlast];exact g
     rcases hpre with⟨rfl,rfl⟩|rfl
     ·refine yx o1<|dT (by rw[aV];exact gb.mpr hlast) ?_;by_cases hf:fd=true
      ·refine cT hf ?_;by_cases hb:qf row=true
       ·refine cT (es.trans hb)<|JF (i:=0) (ah sz.2 Nu) (by rw[er];rfl) ?_;by_cases Em:c1=10
        ·refine sT Em<|A9 (n:=j+1) (u:=.tup [.str r2,.str n2]) o1 (by rw[bh,g2];rfl) ⟨XN,JF (i:=0) (ah sz2 Nu) (by rw[YA];rfl) ?_⟩;by_cases cb:c2∈mH
         ·exact Jf cb<|K4 _ _ _ _ (.inl ⟨rfl,rfl⟩) g1 ew<|D7 d2 λz=>z.2.2.2<|by rw[YA];exact cb
         ·exact Mj cb ⟨B (aa (dU sz.2 1)<|by decide),K4 _ _ _ _ (.inl ⟨rfl,rfl⟩) g1 ew<|abg d2 hf hb (by rw[er];exact Em)<|by rw[YA];exact cb⟩
        ·exact sF Em<|K4 _ _ _ _ (.inl ⟨rfl,rfl⟩) g1 ew<|D7 d2 λz=>Em<|by rw[er]at z;exact z.2.2.1
       ·exact cF (es.trans<|fZ.mpr hb)<|K4 _ _ _ _ (.inl ⟨rfl,rfl⟩) g1 ew<|D7 d2 λz=>hb z.2.1
      ·exact cF (fZ.mpr hf)<|K4 _ _ _ _ (.inl ⟨rfl,rfl⟩) g1 ew<|D7 d2 λz=>hf z.1
     ·refine yx o1<|dT (by rw[aV];exact gb.mpr hlast) ?_;by_cases hf:fd=true
      ·refine cT hf ?_;by_cases hb:qf row=true
       ·refine cT (es.trans hb)<|JF (i:=0) (ah sz.2 Nu) (by rw[er];rfl) ?_;by_cases Em:c1=10
        ·refine sT Em<|A9 (n:=j+1) (u:=.tup [.str r2,.str n2]) o1 (by rw[bh,g2];rfl) ⟨XN,JF (i:=0) (ah sz2 Nu) (by rw[YA];rfl) ?_⟩;by_cases cb:c2∈mH
         ·exact Jf cb<|K4 _ _ _ _ (.inr rfl) g1 ew<|D7 d2 λz=>z.2.2.2<|by rw[YA];exact cb
         ·exact Mj cb ⟨B (aa (dU sz.2 1)<|by decide),K4 _ _ _ _ (.inr rfl) g1 ew<|abg d2 hf hb (by rw[er];exact Em)<|by rw[YA];exact cb⟩
        ·exact sF Em<|K4 _ _ _ _ (.inr rfl) g1 ew<|D7 d2 λz=>Em<|by rw[er]at z;exact z.2.2.1
       ·exact cF (es.trans<|fZ.mpr hb)<|K4 _ _ _ _ (.inr rfl) g1 ew<|D7 d2 λz=>hb z.2.1
      ·exact cF (fZ.mpr hf)<|K4 _ _ _ _ (.inr rfl) g1 ew<|D7 d2 λz=>hf z.1
    ·have d2:rows.drop (j+1)=[]:=cj<|gg.mp hlast;rcases hpre with⟨rfl,rfl⟩|rfl
     ·refine yx o1<|dF (by rw[aV];exact λz=>hlast<|gb.mp z) ?_;by_cases r0:row=[]
      ·exact AF r0<|K4 _ _ _ _ (.inl ⟨rfl,rfl⟩) g1 ew<|Sp d2 λz=>z.1 r0
      ·refine AG r0 ?_;by_cases n0:rn=[]
       ·exact OA n0<|K4 _ _ _ _ (.inl ⟨rfl,rfl⟩) g1 ew<|abh d2 r0 n0
       ·exact Mp n0<|K4 _ _ _ _ (.inl ⟨rfl,rfl⟩) g1 ew<|Sp d2 λz=>n0 z.2
     ·refine yx o1<|dF (by rw[aV];exact λz=>hlast<|gb.mp z) ?_;by_cases r0:row=[]
      ·exact AF r0<|K4 _ _ _ _ (.inr rfl) g1 ew<|Sp d2 λz=>z.1 r0
      ·refine AG r0 ?_;by_cases n0:rn=[]
       ·exact OA n0<|K4 _ _ _ _ (.inr rfl) g1 ew<|abh d2 r0 n0
       ·exact Mp n0 (K4 _ _ _ _ (.inr rfl) g1 ew<|Sp d2 λz=>n0 z.2)
   clear K4;by_cases r0:row=[]
   ·exact AF r0<|K3 [] wr H (.inl ⟨rfl,rfl⟩) .refl<|by rw[adT r0,bf]
   ·have bl:=Aj s0 s1 mg hm row 0 0;have wm:(wr++mg).length<=300*j+20+10:=by rw[aT];exact fW hwr hm
    have N:(fd&&qf row)=false->_:=λe=>K3 [(10,.str<|wr++mg++row)] (wr++mg++row) H (.inr rfl) .refl<|by rw[adU r0 e,aW]
    have wb:(wr++mg).length<=6030:=aa wm<|gc j20 30;refine AG r0 ⟨by rw[<-aT];exact B (aa wb<|by decide),?_⟩;by_cases hf:fd=true
    ·refine cT hf ?_;by_cases hb:qf row=true
     ·refine cT (es.trans hb)<|Bq (row:=row) (aa sz.1<|by decide) hm h0 h1 hw λH1 g1=>?_;have:=K3 [(10,.str<|wr++mg++lM s0 s1 mg 0 0 row)] (wr++mg++lM s0 s1 mg 0 0 row) H1 (.inr rfl) g1<|by rw[adV r0 hf hb,aW]
      exact⟨B (aa (fW wb<|aa bl<|f9 12 sz.1)<|by decide),this⟩
     ·exact cF (es.trans<|fZ.mpr hb) ⟨B (aa (fW wb sz.1)<|by decide),N<|by rw[fZ.mpr hb,fU]⟩
    ·exact cF (fZ.mpr hf) ⟨B (aa (fW wb sz.1)<|by decide),N<|by rw[fZ.mpr hf,Bool.false_and]⟩
  exact FW.cons (fs:=[]) nofun<|A9 (n:=j) (u:=.tup [.str row,.str rn]) o (by rw[bh,g];rfl) ⟨ah sz.1 Nu,K2 _<|Nq row⟩
end
def HK(v:LN):∀(a b:LN),gO v a b≠[]:=by
 induction v with
 |nil=>exact λa b=>aX _ _
 |cons d v ih=>intro a b;rw[pD];split;exact ih _ _;split;exact ih _ _;exact aX _ _
def Sq(v:LN):∀row run:LN,∀p∈(gO v row run).dropLast,p.2≠[]:=by
 induction v with
 |nil=>intro row run p hp;cases hp
 |cons c v ih=>
  intro row run;rw[pD];split
  ·exact ih row<|run++[c]
  ·split
   ·exact ih (row++[c]) []
   ·rename _=>h
    intro p hp;rw[List.dropLast_cons_of_ne_nil<|HK v [c] []]at hp;rcases ao.mp hp with rfl|hp
    ·exact h
    ·exact ih [c] [] p hp
noncomputable def ko:rP->LN
 |[]=>[]
 |(r0,_)::t=>if r0≠[]∨t=[]then r0 else(t.headD ([],[])).1
noncomputable def qP(rows:rP):LN:=(rows.getLastD ([],[])).2
def sy(s0 s1:Nat)(v words tail:LN):LN:=if words=[]then(if v≠[]then[43]else([[45],[],[43]]:iK).getD (pick s0 s1 1 3) [])else if tail=[]then[45]else if tail.length=1 then([[],[43]]:iK).getD (pick s0 s1 1 2) []else[43]
def rA(s0 s1:Nat)(words:LN):LN:=if words.take 1=[32]∨pick s0 s1 3 2=1 then[49+pick s0 s1 2 2]else[]
def CA(s0 s1:Nat)(fd:Bool)(d c:LN):LN:=cond fd 62 124::((if pick s0 s1 4 2=1 then d++c else c++d)++[10])
def oP(s0 s1:Nat)(fd:Bool)(least:Nat)(v:LN):LN:=
 CA s0 s1 fd (rA s0 s1<|ko<|gO v [] []) (sy s0 s1 v (ko<|gO v [] [])<|qP<|gO v [] [])++vq s0 s1 fd (replicate (least+pick s0 s1 2 2) 32) (gO v [] [])
def adX{i m n:Nat}{xs:gV}{u:MV}{H:MH}{Q:QV}(o:H.at_ i=some (.list xs))(e:m=n+1)(g:xs[n]?=some u)(h:Q u H):rV (.ref i) (.int<|(m:Int)-1) H Q:=by rw[show((m:Int)-1)=(n:Int) by lia];exact A9 o g h
def ch3{z:Nat}(h:z<3):([.str [45],.str [],.str [43]]:gV)[z]?=some (.str<|([[45],[],[43]]:iK).getD z [])/\(([[45],[],[43]]:iK).getD z []).length<=1:=
 have z:=(by decide:∀z<3,([[45],[],[43]]:iK)[z]?=some (([[45],[],[43]]:iK).getD z [])/\(([[45],[],[43]]:iK).getD z []).length<=1) z h;⟨(bh (f:=MV.str) (l:=[[45],[],[43]])).trans<|aq (Option.map MV.str) z.1,z.2⟩
def ch2{z:Nat}(h:z<2):([.str [],.str [43]]:gV)[z]?=some (.str<|([[],[43]]:iK).getD z [])/\(([[],[43]]:iK).getD z []).length<=1:=
 have z:=(by decide:∀z<2,([[],[43]]:iK)[z]?=some (([[],[43]]:iK).getD z [])/\(([[],[43]]:iK).getD z []).length<=1) z h;⟨(bh (f:=MV.str) (l:=[[],[43]])).trans<|aq (Option.map MV.str) z.1,z.2⟩
def J2{a b:LN}(h:a.length<=1)(k:b.length<=1):(a++b).length<=2:=by rw[aT];exact fW h k
def UZ{s0 s1:Nat}{fd:Bool}{d c d':LN}{k:Nat}(hf:cond fd 62 124=k)(p:pick s0 s1 4 2=1)(e:d=d'):CA s0 s1 fd d c=k::(d'++c++[10]):=by rw[CA,aF p,hf,e]
def U0{s0 s1:Nat}{fd:Bool}{d c d':LN}{k:Nat}(hf:cond fd 62 124=k)(p:pick s0 s1 4 2≠1)(e:d=d'):CA s0 s1 fd d c=k::(c++d'++[10]):=by rw[CA,aE p,hf,e]
def kr{k n:Nat}{v:MV}{C:Cx}{rs rs':List IS}{Z Z':Sg}(h:run n C rs' Z')(hk:Nat.beq k 0=false)(e:rs=rs')(e':Z.as k v=Z'):ZV k (run n C rs) v Z:=by subst e e';show @Bool.rec (λz=>Prop) _ _ (Nat.beq k 0);rw[hk];exact h
def Ss{a b:MV}{H:MH}{Q:QV}(h:Q a H):rV (.tup [a,b]) (.int 0) H Q:=⟨XN,h⟩
def Br(s0 s1 i:Nat):pick s0 s1 i 2<2:=cC _<|by decide
section
variable{n:Nat}{H:MH}{Q:QV}
def D8{v:LN}{fd:Bool}{s0 s1 least:Nat}(hl:v.length<=19)(hL:least<=5)(h0:s0<27720)(h1:s1<27720)(hw:HW H)(hq:∀H',qu H H'->Q (.str<|oP s0 s1 fd least v) H'):CW true (n+4) 1606 [.str v,.bool fd,kj s0 s1,.int least] [] [] H Q:=by
 have big:20000<=gP:=aB<|by rfl
 have rs:=sx v [] [];have hn:=HH v [] [] λy=>.inr trivial;have hd:=Sq v [] [];have nn:=HK v [] [];unfold oP at hq;generalize hrows:gO v [] []=rows at rs hn hd nn hq;have hs:∀p∈rows,p.1.length<=20/\p.2.length<=20:=λp hp=>by exact⟨aa (rs.2 p hp).1 (aa (dH<|bQ _)<|aa hl<|by decide),aa (rs.2 p hp).2<|aa (dH<|bQ _)<|aa hl<|by decide⟩
 obtain⟨⟨r0,n0⟩,rest,er⟩:=fV nn;obtain⟨k,ek⟩:∃k,rows.length=k+1:=⟨rest.length,by rw[er];rfl⟩;have lr:rows.length<=20:=aa rs.1<|aP hl;have B:=λ{n:Nat} (h:n<=100)=>ah h<|aL (by decide:100<20000) big;obtain⟨⟨ra,ta⟩,hlast⟩:∃p,rows[k]?=some p:=⟨_,bg<|ek▸bS k⟩;have abk:qP rows=ta:=by unfold qP;rw[cY,List.getLast?_eq_getElem?,ek,Nat.add_sub_cancel,hlast];rfl
 have o:(H.new<|oX rows).at_ H.n=some (oX rows):=gz;have pw:=Br s0 s1 2;have ml:(replicate (least+pick s0 s1 2 2) 32).length<=10:=by rw[bz];exact aa (fW hL<|cA pw)<|by decide
 have gR:qu H (H.new<|oX rows):=.new hw;refine xD (lv:=3) gJ rfl<|Cu (ah hl<|by decide) ?_;rw[hrows];refine yx o<|adX o (n:=k) (by rw[aV];exact ek) (u:=.tup [.str ra,.str ta]) (by rw[bh,hlast];rfl) ⟨XN,mQ (spot:=2) (many:=2) h0 h1 (by decide) (by decide) ⟨⟨cB<|least+pick s0 s1 2 2,gb.mpr (ah (fW hL<|cA pw)<|by decide),rfl⟩,?_⟩⟩;rw[abk]at hq;have eM:replicate ((least:Int)+((pick s0 s1 2 2:Nat):Int)).toNat 32=replicate (least+pick s0 s1 2 2) 32:=by congr 1
 have K5:∀mg wd,mg=replicate (least+pick s0 s1 2 2) 32->ko rows=wd->run 395 (Rw gJ.fm 3 Q) [iT gJ.ib 5] ⟨[(8,.str wd),(7,.str mg),(6,.int (pick s0 s1 2 2:Nat)),(5,.str ta),(4,.ref H.n)],iQ gJ.ns [.str v,.bool fd,kj s0 s1,.int least],[],[],H.new<|oX rows⟩:=by
  intro mg wd em ew;rw[ew,<-em]at hq;rw[<-em]at ml;have vl:v.length<gP:=B<|aa hl<|by decide
  have K6:∀ch H1,sy s0 s1 v wd ta=ch->ch.length<=1->qu H H1->H1.at_ H.n=some (oX rows)->run 394 (Rw gJ.fm 3 Q) [iT gJ.ib 6] ⟨[(12,.str ch),(8,.str wd),(7,.str mg),(6,.int (pick s0 s1 2 2:Nat)),(5,.str ta),(4,.ref H.n)],iQ gJ.ns [.str v,.bool fd,kj s0 s1,.int least],[],[],H1⟩:=by
   intro ch H1 ec lc g1 o1;rw[ec]at hq;have wl:wd.length<=20:=by
    rw[<-ew,er,ko];split
    ·exact(hs _<|by rw[er];exact .head _).1
    ·cases hrest:rest with
     |nil=>exact cg _
     |cons p t=>exact(hs p<|by rw[er,hrest];exact .tail _<|.head _).1
   have wl6:wd.length<gP:=B<|aa wl<|by decide
   have K8:∀wr,CA s0 s1 fd (rA s0 s1 wd) ch=wr->wr.length<=5->∀dg,run 392 (Rw gJ.fm 3 Q) [iT gJ.ib 8] ⟨[(10,.str wr),(9,.str dg),(12,.str ch),(8,.str wd),(7,.str mg),(6,.int (pick s0 s1 2 2:Nat)),(5,.str ta),(4,.ref H.n)],iQ gJ.ns [.str v,.bool fd,kj s0 s1,.int least],[],[],H1⟩:=by intro wr eh lw dg;rw[eh]at hq;refine yx o1 ⟨by rw[aV];exact B (aa lr<|by decide),?_⟩;rw[uc,aV];exact FI lr hs hn hd ml h0 h1 _ 0 wr H1 _ _ _ o1 (bQ _) (aa lw<|by decide) (g1.hw hw) (λH' a g=>hq H'<|g1.trans g) _
   have K7:∀dg,rA s0 s1 wd=dg->dg.length<=1->run 393 (Rw gJ.fm 3 Q) [iT gJ.ib 7] ⟨[(9,.str dg),(12,.str ch),(8,.str wd),(7,.str mg),(6,.int (pick s0 s1 2 2:Nat)),(5,.str ta),(4,.ref H.n)],iQ gJ.ns [.str v,.bool fd,kj s0 s1,.int least],[],[],H1⟩:=by
    intro dg ed ld;by_cases p4:pick s0 s1 4 2=1
    ·by_cases hf:fd=true
     ·exact cT hf (mQ (spot:=4) (many:=2) h0 h1 (by decide) (by decide) (xT (b:=1) p4 ⟨B (aa (fW ld lc)<|by decide),B (aa (dU (J2 ld lc) 1)<|by decide),(show(dg++ch).length+2<gP from B<|aa (gc (J2 ld lc) 2)<|by decide),K8 _ (UZ (aq (cond · 62 124) hf) p4 ed) (by rw[aU,aT];exact aa (aP<|fW (J2 ld lc)<|aD 1)<|by decide) _⟩))
     ·exact cF (fZ.mpr hf) (mQ (spot:=4) (many:=2) h0 h1 (by decide) (by decide) (xT (b:=1) p4 ⟨B (aa (fW ld lc)<|by decide),B (aa (dU (J2 ld lc) 1)<|by decide),(show(dg++ch).length+2<gP from B<|aa (gc (J2 ld lc) 2)<|by decide),K8 _ (UZ (aq (cond · 62 124)<|fZ.mpr hf) p4 ed) (by rw[aU,aT];exact aa (aP<|fW (J2 ld lc)<|aD 1)<|by decide) _⟩))
    ·by_cases hf:fd=true
     ·exact cT hf (mQ (spot:=4) (many:=2) h0 h1 (by decide) (by decide) (xF (b:=1) p4 ⟨B (aa (fW lc ld)<|by decide),B (aa (dU (J2 lc ld) 1)<|by decide),(show(ch++dg).length+2<gP from B<|aa (gc (J2 lc ld) 2)<|by decide),K8 _ (U0 (aq (cond · 62 124) hf) p4 ed) (by rw[aU,aT];exact aa (aP<|fW (J2 lc ld)<|aD 1)<|by decide) _⟩))
     ·exact cF (fZ.mpr hf) (mQ (spot:=4) (many:=2) h0 h1 (by decide) (by decide) (xF (b:=1) p4 ⟨B (aa (fW lc ld)<|by decide),B (aa (dU (J2 lc ld) 1)<|by decide),(show(ch++dg).length+2<gP from B<|aa (gc (J2 lc ld) 2)<|by decide),K8 _ (U0 (aq (cond · 62 124)<|fZ.mpr hf) p4 ed) (by rw[aU,aT];exact aa (aP<|fW (J2 lc ld)<|aD 1)<|by decide) _⟩))
   have lw2:2<gP:=XN;have i12:([49,50]:LN)[pick s0 s1 2 2]?=some (49+pick s0 s1 2 2):=(by decide:∀z<2,([49,50]:LN)[z]?=some (49+z)) _ pw;have esl:pB wd none (some 1)=wd.take 1:=Cz wd 1;refine⟨wl6,?_⟩;by_cases w32:wd.take 1=[32]
   ·exact OA (esl.trans w32)<|JF lw2 i12<|K7 _ (aF<|.inl w32)<|aD _
   ·refine Mp (λz=>w32<|esl.symm.trans z)<|mQ (spot:=3) (many:=2) h0 h1 (by decide) (by decide) ?_;by_cases p3:pick s0 s1 3 2=1
    ·exact xT (b:=1) p3<|JF lw2 i12<|K7 _ (aF<|.inr p3)<|aD _
    ·exact xF (b:=1) p3<|K7 _ (aE λz=>z.elim w32 p3)<|cg _
  by_cases w0:wd=[]
  ·refine OA w0 ?_;by_cases v0:v=[]
   ·have c3:=ch3<|Bp s0 s1 1;exact AF v0<|mQ (spot:=1) (many:=3) h0 h1 (by decide) (by decide)<|A9 (n:=pick s0 s1 1 3) gz c3.1<|K6 _ _ ((aF w0).trans<|aE λz=>z v0) c3.2 (gR.trans<|.new<|gR.hw hw)<|(g8<|av<|bS _).trans o
   ·exact AG v0<|K6 _ _ ((aF w0).trans<|aF v0) (aD _) gR o
  ·refine Mp w0 ?_;by_cases t0:ta=[]
   ·exact OA t0<|K6 _ _ ((aE w0).trans<|aF t0) (aD _) gR o
   ·refine Mp t0 ⟨ah (hs _<|bP hlast).2 (aL (by decide) big),?_⟩;by_cases t1:ta.length=1
    ·have c2:=ch2<|Br s0 s1 1;exact xT (b:=1) t1<|mQ (spot:=1) (many:=2) h0 h1 (by decide) (by decide)<|A9 (n:=pick s0 s1 1 2) gz c2.1<|K6 _ _ ((aE w0).trans<|(aE t0).trans<|aF t1) c2.2 (gR.trans<|.new<|gR.hw hw)<|(g8<|av<|bS _).trans o
    ·exact xF (b:=1) t1<|K6 _ _ ((aE w0).trans<|(aE t0).trans<|aE t1) (aD _) gR o
 have g0:(rows.map Nj)[0]?=some (.tup [.str r0,.str n0]):=by rw[er];rfl
 refine A9 (n:=0) o g0<|Ss ?_;by_cases r00:r0=[]
 ·refine AF r00<|yx o ?_;by_cases l1:rows.length=1
  ·have re:rest=[]:=bH.mp<|by rw[er]at l1;simpa using l1
   refine xT (b:=1) (by rw[aV];exact l1)<|A9 (n:=0) o g0<|Ss ?_;show ZV 8 _ _ _;exact kr (n:=395) (C:=Rw gJ.fm 3 Q) (K5 _ _ eM<|by rw[er];exact aF<|.inr re) rfl rfl rfl
  ·obtain⟨⟨r1,n1⟩,rest2,e2⟩:=fV (l:=rest) λz=>l1<|by rw[er,z];rfl
   have g1:(rows.map Nj)[1]?=some (.tup [.str r1,.str n1]):=by rw[er,e2];rfl
   refine xF (b:=1) (by rw[aV];exact l1)<|A9 (n:=1) o g1<|Ss ?_;show ZV 8 _ _ _;exact kr (n:=395) (C:=Rw gJ.fm 3 Q) (K5 _ _ eM<|by rw[er,e2];exact aE λz=>z.elim (λz=>z r00) λz=>aG z<|aX _ _) rfl rfl rfl
 ·refine AG r00<|A9 (n:=0) o g0<|Ss ?_;show ZV 8 _ _ _;exact kr (n:=395) (C:=Rw gJ.fm 3 Q) (K5 _ _ eM<|by rw[er];exact aF<|.inl r00) rfl rfl rfl
def abl(n:Nat):tL n 7=min 7 n:=o7 n 7
def abm(n:Nat):tL n 3=min 3 n:=o7 n 3
noncomputable def jx(xs:List Int):LN:=(xs.take 7).map (λi=>(i.fmod 27720).toNat)++[0,0,0]
noncomputable def ug(t:LN):gV:=t.map λn=>.int (n:Nat)
def Su(xs:List Int):(pB (xs.map MV.int) none<|some 7).map PK++[.int 0,.int 0,.int 0]=ug (jx xs):=by
 have e:pB (xs.map MV.int) none (some 7)=(xs.take 7).map MV.int:=by
  unfold pB;show((xs.map MV.int).drop 0).take (tL _ 7-0)=_;rw[List.drop_zero,Nat.sub_zero,<-List.map_take,abl];congr 1;by_cases h:7<=xs.length
  ·rw[eZ<|by rw[aV];exact h]
  ·rw[fE (by rw[aV];exact cA<|Nat.not_le.mp h),aV,dh<|aD _,dh<|cA<|Nat.not_le.mp h]
 rw[e];unfold ug jx;rw[bJ,bZ,bZ];congr 1;refine dW λi z=>?_;show MV.int (i.fmod 27720)=MV.int (((i.fmod 27720).toNat:Nat):Int);rw[Int.toNat_of_nonneg<|eE _<|by decide]
def D9(xs:List Int):3<=(jx xs).length/\(jx xs).length<=10:=by unfold jx;rw[aT,aV,dI];exact⟨aM 3 _,gc (gu 7 _) 3⟩
def HL(xs:List Int):∀n∈jx xs,n<27720:=by
 intro n hn;rcases bF.mp hn with h|h
 ·obtain⟨i,_,rfl⟩:=bU.mp h;exact(Int.toNat_lt<|eE i<|by decide).mpr (Int.fmod_lt_of_pos i (b:=27720)<|by decide)
 ·simp only[ao,bq,dz,or_self]at h;subst h;decide
def pF(t:LN):iK:=((t.drop 3).take<|t.length-6).map λn=>pieces.getD (n%20) []
def vz(t:LN):LN:=(pF t).flatten
def JJ(t:LN)(h:3<=t.length):(pB (ug t) (some 3)<|some<|(t.length:Int)-3).map (Wd pieces)=(pF t).map MV.str:=by
 have e:pB (ug t) (some 3) (some<|(t.length:Int)-3)=ug ((t.drop 3).take<|t.length-6):=by
  unfold pB ug;have e1:oH (t.map λn=>MV.int (n:Nat)).length (some 3)=3:=by rw[aV];show tL _ 3=3;rw[abm];exact eZ h
  have e2:qC (t.map λn=>MV.int (n:Nat)).length (some<|(t.length:Int)-3)=t.length-3:=by rw[aV,show((t.length:Int)-3)=((t.length-3:Nat):Int)from(Int.ofNat_sub h).symm];show tL _ _=_;rw[o7];exact eZ<|Nat.sub_le ..
  rw[e1,e2,<-List.map_drop,<-List.map_take];rfl
 rw[e];unfold pF ug;rw[bZ,bZ];refine dW λn z=>?_;show MV.str (pieces.getD ((n:Int).fmod 20).toNat [])=MV.str (pieces.getD (n%20) []);rw[dj _<|by decide];rfl
def JK(n:Nat):(pieces.getD (n%20) []).length<=4:=by
 have h:n%20<20:=cC _<|by decide
 generalize n%20=m at h;revert m;decide
def Bs(xs:List Int):((pF<|jx xs).map length).sum<=16/\(pF<|jx xs).length<=4:=by
 have h1:(pF<|jx xs).length<=4:=by unfold pF;rw[aV,dI];exact aa (gu _ _)<|Nat.sub_le_of_le_add (D9 xs).2
 refine⟨?_,h1⟩;have h2:∀l:iK,(∀p∈l,p.length<=4)->(l.map length).sum<=4*l.length:=by
  intro l;induction l with
  |nil=>intro _;exact aD _
  |cons p l ih=>intro h;have a:=ih λq m=>h q<|.tail _ m;have b:=h p<|.head _;exact aa (fW b a)<|dH<|dK 4 _
 have:=h2 (pF<|jx xs) λp m=>by obtain⟨n,_,rfl⟩:=bU.mp m;exact JK n
 exact aa this<|f9 4 h1
def OC{i:Nat}{xs:gV}{a b:Option Int}{H:MH}{Q:QV}(o:H.at_ i=some (.list xs))(h:Q (.ref H.n)<|H.new<|.list<|pB xs a b):EO (.ref i) a b H Q:=Mk o h
def slF{i:Nat}{xs:gV}{a b:Option Int}{H:MH}{Q:QV}(o:H.at_ i=some (.Bu xs))(h:Q (.ref H.n)<|H.new<|.list<|pB xs a b):EO (.ref i) a b H Q:=by show qh (H.at_ i) _ _ _ _ _ _;rw[o];exact h
def JL{o:Option MO}{xs:gV}{K:gV->Prop}(e:o=some (.list xs))(h:K xs):kg o K:=by rw[e];exact h
end
section
variable{H:MH}{j:Nat}{Q:QF}
abbrev zL:En:=zW iP.fm 17
abbrev cL(Q:QF):Cx:=⟨zL,aao zL Q⟩
abbrev wQ(j:Nat):Loc:=iQ iP.ns [.ref j]
noncomputable def JM(h:Nat):LN:=replicate (h%3) 32
noncomputable def sA(h:Nat):LN:=replicate (h%3+1+h/2%2) 32
def Al{t:LN}{n:Nat}(h:n<t.length):(ug t)[n]?=some (.int (t.getD n 0:Nat)):=by unfold ug;rw[bh,bD,bg h];rfl
def Am(l:iK):nY (l.map MV.str)=some l:=wG l
def JN(h k:Nat):(h:Int).fmod (k:Nat)=((h%k:Nat):Int):=by rw[dj _<|cB _];rfl
def Nv(h k:Nat):(h:Int).fdiv (k:Nat)=((h/k:Nat):Int):=by rw[Int.fdiv_eq_ediv_of_nonneg _<|cB _];rfl
def adY{xs:List Int}(hj:H.at_ j=some (.Bu<|xs.map .int))(hw:HW H)(K:∀H' r,HW H'->run 393 (cL Q) [iT iP.ib 7] ⟨[(7,.str<|sA<|(jx xs).getD 0 0),(6,.int<|((jx xs).getD 0 0%3+1:Nat)),(5,.str<|JM<|(jx xs).getD 0 0),(4,.str<|vz<|jx xs),(3,kj ((jx xs).getD 1 0)<|(jx xs).getD 2 0),(2,.int ((jx xs).getD 0 0:Nat)),(1,.ref r)],wQ j,[],[],H'⟩):run 400 (cL Q) [iP.ib] ⟨[],wQ j,[],[],H⟩:=by
 have big:(20000:Nat)<=gP:=aB<|by rfl
 have tl:=D9 xs;have vl:=Bs xs;have lt0:(jx xs).getD 0 0<27720:=HL xs _<|by rw[bD,bg<|aL (by decide) tl.1];exact List.getElem_mem _
 have te:=Su xs;generalize jx xs=t at*;generalize hh:t.getD 0 0=h at*;have K4:∀H' r,HW H'->run 396 (cL Q) [iT iP.ib 4] ⟨[(4,.str<|vz t),(3,kj (t.getD 1 0)<|t.getD 2 0),(2,.int (h:Nat)),(1,.ref r)],wQ j,[],[],H'⟩:=by
  intro H' r hw;have m3:h%3<3:=cC _<|by decide
  have m2:h/2%2<2:=cC _<|by decide
  have q3:(h:Int).fmod 3=((h%3:Nat):Int):=JN h 3;have q2:(h:Int).fdiv 2=((h/2:Nat):Int):=Nv h 2;have q22:((h/2:Nat):Int).fmod 2=((h/2%2:Nat):Int):=JN (h/2) 2;have K6:∀(mg:LN) (l:Int),mg=JM h->l=((h%3+1:Nat):Int)->run 394 (cL Q) [iT iP.ib 6] ⟨[(6,.int l),(5,.str mg),(4,.str<|vz t),(3,kj (t.getD 1 0)<|t.getD 2 0),(2,.int (h:Nat)),(1,.ref r)],wQ j,[],[],H'⟩:=by intro mg l em el;subst em el;refine⟨⟨(Cr lt0<|by decide).1,(Cr lt0<|by decide).2,by decide,by decide⟩,by decide,?_⟩;rw[q2,q22];exact⟨⟨cB<|h%3+1+h/2%2,gb.mpr (aL (Nat.add_lt_add_of_le_of_lt m3 m2)<|by decide),rfl⟩,K _ r hw⟩
  refine⟨by decide,?_⟩;rw[q3];exact⟨⟨cB _,gb.mpr (aL m3<|by decide),rfl⟩,by rw[bz];exact aL m3 (aa (by decide) big),K6 _ _ rfl<|by rw[bz];rfl⟩
 have K1:∀H' r,HW H'->H'.at_ r=some (.list<|ug t)->run 399 (cL Q) [iT iP.ib 1] ⟨[(1,.ref r)],wQ j,[],[],H'⟩:=by
  intro H' r hw o;have o1:(H'.new<|.list<|pB (ug t) (some 3)<|some<|(t.length:Int)-3).at_ H'.n=some (.list<|pB (ug t) (some 3)<|some<|(t.length:Int)-3):=gz;refine A9 (n:=0) o (Al<|aL (by decide) tl.1)<|A9 (n:=1) o (Al<|aL (by decide) tl.1)<|A9 (n:=2) o (Al<|aL (by decide) tl.1) ⟨trivial,yx o ?_⟩;rw[hh,show(ug t).length=t.length from aV _];refine OC o<|JL o1 ⟨rfl,λm hm=>?_,?_⟩
  ·have hm:m∈pB (ug t) (some 3) (some<|(t.length:Int)-3):=hm;unfold pB at hm;obtain⟨i,_,rfl⟩:=bU.mp<|eU<|dB hm;exact⟨_,rfl⟩
  rw[JJ t tl.1];have o2:((H'.new<|.list<|pB (ug t) (some 3)<|some<|(t.length:Int)-3).new<|.list<|(pF t).map MV.str).at_ (H'.n+1)=some (.list<|(pF t).map MV.str):=gz;refine kmJ o2 ⟨rfl,?_⟩;rw[Am];exact⟨by omega,K4 _ r hw.new.new⟩
 refine slF hj<|JL gz ⟨λm hm=>?_,?_⟩
 ·have hm:m∈pB (xs.map MV.int) none (some 7):=hm;unfold pB at hm;obtain⟨i,_,rfl⟩:=bU.mp<|eU<|dB hm;exact⟨i,rfl⟩
 have e2:ug t=(pB (xs.map MV.int) none<|some 7).map PK++[.int 0,.int 0,.int 0]:=te.symm;refine JL ((g8<|av<|bS _).trans gz)<|JL gz ⟨?_,?_⟩
 ·rw[<-aT,<-e2,ug,aV];omega
 rw[<-e2];exact K1 _ _ hw.new.new.new.new gz
noncomputable def wR(l:rP):Nat:=(l.map λp=>p.1.length+p.2.length).sum
def Ny(v:LN):∀row run:LN,wR (gO v row run)=row.length+run.length+v.length:=by
 induction v with
 |nil=>intro row run;rfl
 |cons c v ih=>
  intro row run;rw[pD];split
  ·rw[ih];simp only[aT,aU,aZ];lia
  ·split
   ·rename _=>h;subst h;rw[ih];simp only[aT,aU,aZ];lia
   ·show row.length+run.length+wR (gO v [c] [])=_;rw[ih];simp only[aU,aZ];lia
def HM(s0 s1:Nat)(mg:LN)(t:LN):∀j p,(lM s0 s1 mg j p t).length<=(2+mg.length)*t.length:=by
 induction t with
 |nil=>intro j p;exact aD _
 |cons c t ih=>
  intro j p;have h1:=ih (j+1) c;have h2:=oN s0 s1<|j+3;rw[xR,aT,aU,Nat.mul_succ];split
  ·rw[aT];exact aa (fW (gc h2 _) h1)<|dH<|dK _ _
  ·exact aa (fW (show 1<=2+mg.length from aa (by decide)<|aA 2 _) h1)<|dH<|dK _ _
def arA{a b c x y z w m:Nat}(h1:a<=x)(h2:b<=y+m)(h3:c<=z+w):a+(b+c)<=x+y+z+(w+m):=aa (fW h1<|fW h2 h3)<|dH<|by ac_rfl
def arB{a b c x y z w m:Nat}(h1:a<=m+x)(h2:b<=y+2)(h3:c<=z+w):a+(b+c)<=x+y+z+(w+(2+m)):=aa (fW h1<|fW h2 h3)<|dH<|by ac_rfl
def arC{a b c x m:Nat}(h1:a<=4+m)(h2:b<=3+m)(h3:c<=x):a+(b+c)<=x+(7+2*m):=aa (fW h1<|fW h2 h3)<|dH<|by rw[Nat.two_mul,show(7:Nat)=4+3 from rfl];ac_rfl
def An(s0 s1:Nat)(mg:LN)(l:rP):(nu s0 s1 mg l).length<=(2+mg.length)*wR l+(2+mg.length)*l.length:=by
 induction l with
 |nil=>exact cg _
 |cons p l ih=>
  obtain⟨row,run⟩:=p;have h1:=HM s0 s1 mg row 0 0;have h2:=rK s0 s1<|wO run;have h3:(wO run).length<=run.length+1:=by unfold wO;split;exact aD _;exact bX _
  have e:wR ((row,run)::l)=row.length+run.length+wR l:=rfl;have h4:2*run.length<=(2+mg.length)*run.length:=cU _<|aA _ _;rw[qn,e,Nat.mul_add,Nat.mul_add,aT,aT,aU,Nat.mul_succ];split
  ·exact arA h1 (cg _) ih
  ·rw[aT];exact arA h1 (aa (gc (aa (aa h2<|f9 2 h3)<|gc h4 2) _)<|dH<|dZ ..) ih
def Sv(s0 s1:Nat)(fd:Bool)(mg:LN)(l:rP):(vq s0 s1 fd mg l).length<=(2+mg.length)*wR l+(2+mg.length)*l.length:=by
 induction l with
 |nil=>exact cg _
 |cons p l ih=>
  obtain⟨row,run⟩:=p;have h1:=HM s0 s1 mg row 0 0;have h2:=rK s0 s1<|qO fd row run l;have h3:(qO fd row run l).length<=run.length+1:=by
   unfold qO;split
   ·split;exact aD _;exact bX _
   ·split;exact aM _ _;exact bX _
  have h0:(uP s0 s1 fd mg row).length<=mg.length+(2+mg.length)*row.length:=by
   unfold uP;split
   ·exact cg _
   ·rw[aT];split
    ·exact dU h1 _
    ·exact dU (Nat.le_mul_of_pos_left _<|aL (by decide)<|aA 2 _) _
  have e:wR ((row,run)::l)=row.length+run.length+wR l:=rfl;have h4:2*run.length<=(2+mg.length)*run.length:=cU _<|aA _ _;rw[xW,e,Nat.mul_add,Nat.mul_add,aT,aT,aU,Nat.mul_succ];exact arB h0 (aa (aa h2<|f9 2 h3)<|gc h4 2) ih
def Sw(s0 s1:Nat)(mg:LN)(t:LN):∀j p,(uf s0 s1 mg j p t).length<=(7+2*mg.length)*t.length:=by
 induction t with
 |nil=>intro j p;exact aD _
 |cons c t ih=>
  intro j p;have h1:=ih (j+1) c;have h2:(qo s0 s1 mg j p c t).length<=4+mg.length:=by
   unfold qo
   set_option tactic.hygienic true in split
   ·rename_i e h;rw[Cy h];omega
   ·split
    ·show 4<=_;lia
    ·split
     ·show 2<=_;omega
     ·split
      ·rw[aT];have:=oN s0 s1<|j+3;lia
      ·show 1<=_;lia
  have h3:(ue s0 s1 mg j t).length<=3+mg.length:=by
   unfold ue;split
   ·rw[aU,aT];have:=oN s0 s1<|j+1;lia
   ·exact cg _
  rw[xV,aT,aT,aU,Nat.mul_succ];exact arC h2 h3 h1
noncomputable def pX(l:LN):LN:=(l.map λc=>if c=39 then[39,39]else[c]).flatten
def HN(l:LN):(pX l).length<=2*l.length:=by
 unfold pX;induction l with
 |nil=>exact aD _
 |cons c l ih=>
  rw[cG,cR,aT,aU];split
  ·simp only[aU,aZ];lia
  ·simp only[aU,aZ];lia
abbrev q8:=Option LN×LN
def pe(p:q8):MV:=.tup [Rz p.1,.str p.2]
def yK(l:List q8):MO:=.list<|l.map pe
def Nz(s0 s1 h:Nat)(v:LN):LN:=34::(uf s0 s1 (replicate (1+h/5%2) 32) 0 0 v++[34])
def Sx(s0 s1 h:Nat)(v:LN):LN:=39::(pX (nu s0 s1 (replicate (1+h/7%2) 32)<|gO v [] [])++[39])
def Ao(s0 s1 h:Nat)(v:LN):LN:=nu s0 s1 (sA h)<|gO v [] []
def kq(s0 s1 h:Nat)(v:LN):List q8:=
 (some [34],Nz s0 s1 h v)::(if 7∈v then[]else[(some [124],oP s0 s1 false (h%3+1) v),(some [62],oP s0 s1 true (h%3+1) v)]++((if lz true (gO v [] [])=true then[(some [39],Sx s0 s1 h v)]else[])++(if uW v=true then[(none,Ao s0 s1 h v)]else[])))
def uC{P:q8->Prop}{s0 s1 h:Nat}{v:LN}(h1:P (some [34],Nz s0 s1 h v))(h2:7∉v->∀fd,P (some [cond fd 62 124],oP s0 s1 fd (h%3+1) v))(h3:7∉v->lz true (gO v [] [])=true->P (some [39],Sx s0 s1 h v))(h4:7∉v->uW v=true->P (none,Ao s0 s1 h v)):∀p∈kq s0 s1 h v,P p:=by
 have I:∀{c:Bool} {x:q8},(c=true->P x)->∀p∈(if c=true then[x]else[]),P p:=λ{c x} k p m=>by
  by_cases e:c=true
  ·rw[aF e]at m;exact aj.mp m▸k e
  ·rw[aE e]at m;exact aG m bq
 refine List.forall_mem_cons.mpr ⟨h1,λp m=>?_⟩;by_cases e:7∈v
 ·rw[aF e]at m;exact aG m bq
 ·rw[aE e]at m;exact(bF.mp m).elim (λm=>(ao.mp m).elim (λq=>q▸h2 e false) λm=>aj.mp m▸h2 e true) λm=>(bF.mp m).elim (I (h3 e) p)<|I (h4 e) p
def ND{v:LN}(h:v.length<=16):wR (gO v [] [])<=16/\(gO v [] []).length<=17:=by have:=Ny v [] [];have:=(sx v [] []).1;simp only[aZ]at*;lia
def Sy(s0 s1:Nat)(fd:Bool)(v:LN)(rows:rP):(CA s0 s1 fd (rA s0 s1<|ko rows)<|sy s0 s1 v (ko rows)<|qP rows).length<=5:=by
 have h1:(rA s0 s1<|ko rows).length<=1:=by unfold rA;split;exact aD _;exact cg _
 have h2:(sy s0 s1 v (ko rows)<|qP rows).length<=1:=by
  unfold sy;split
  ·split
   ·exact aD _
   ·exact(ch3<|cC _<|by decide).2
  ·split
   ·exact aD _
   ·split
    ·exact(ch2<|cC _<|by decide).2
    ·exact aD _
 unfold CA;rw[aU,aT];split<;>(simp only[aT,aU,aZ];lia)
def Ea{s0 s1 h:Nat}{v:LN}(hv:v.length<=16):∀p∈kq s0 s1 h v,p.2.length<=300:=by
 have hr:=ND hv;have m2:∀k,k%2<2:=λk=>cC _<|by decide
 have m3:h%3<3:=cC _<|by decide
 have pw:=Br s0 s1 2;have hb:∀fd,(oP s0 s1 fd (h%3+1) v).length<=300:=λfd=>by
  have h1:=Sy s0 s1 fd v<|gO v [] [];have h2:=Sv s0 s1 fd (replicate (h%3+1+pick s0 s1 2 2) 32)<|gO v [] [];rw[bz]at h2;have e:2+(h%3+1+pick s0 s1 2 2)<=6:=by clear h1 h2 hr hv;lia
  unfold oP;rw[aT];exact aa (fW h1<|aa h2<|fW (gf e hr.1)<|gf e hr.2) (by decide:5+(6*16+6*17)<=300)
 refine uC (P:=λp=>p.2.length<=300) ?_ (λz=>hb) (λz z=>?_) λz z=>?_
 ·have:=Sw s0 s1 (replicate (1+h/5%2) 32) v 0 0;have m:=m2<|h/5;rw[bz]at this;have e:=aa this<|gf (show 7+2*(1+h/5%2)<=11 by lia) hv;show(_++[34]).length+1<=300;rw[aT];exact aP<|fW (aa e (by decide:11*16<=298))<|aD 1
 ·have h1:=An s0 s1 (replicate (1+h/7%2) 32)<|gO v [] [];have h2:=HN<|nu s0 s1 (replicate (1+h/7%2) 32)<|gO v [] [];have m:=m2<|h/7;rw[bz]at h1;have e:2+(1+h/7%2)<=4:=by lia
  have e:=aa h1<|fW (gf e hr.1)<|gf e hr.2;show(_++[39]).length+1<=300;rw[aT];exact aP<|fW (aa (aa h2<|f9 2 e) (by decide:2*(4*16+4*17)<=298))<|aD 1
 ·have h1:=An s0 s1 (sA h)<|gO v [] [];have m:=m2<|h/2;rw[show(sA h).length=h%3+1+h/2%2 from bz]at h1;have e:2+(h%3+1+h/2%2)<=6:=by clear h1 hr hv hb;lia
  exact aa h1<|aa (fW (gf e hr.1)<|gf e hr.2) (by decide:6*16+6*17<=300)
end
section
variable{H:MH}{Q:QV}
def apF{i:Nat}{l:List q8}{p:q8}(o:H.at_ i=some (yK l))(n:l.length<100)(h:Q .none<|H.put i<|yK<|l++[p]):Ij .neg (.ref i) [pe p] H Q:=rJ o ⟨by rw[aV];exact aK n (aL (by decide:100<20000)<|aB<|by rfl),by
 have e:yK (l++[p])=.list (l.map pe++[pe p]):=by unfold yK;rw[bJ];rfl
 rw[<-e];exact h⟩
def Sz(l:LN):(l.map λc=>We<|.str [c])=(l.map λc=>if c=39 then[39,39]else[c]).map MV.str:=by
 rw[bZ];refine dW λc z=>?_;show MV.str (if[c]=[39]then[39,39]else[c])=MV.str (if c=39 then[39,39]else[c]);by_cases h:c=39
 ·rw[aF (by rw[h]),aF h]
 ·rw[aE λe=>h<|List.head_eq_of_cons_eq e,aE h]
def U1(s0 s1 h:Nat)(v:LN):List q8:=[(some [34],Nz s0 s1 h v),(some [124],oP s0 s1 false (h%3+1) v),(some [62],oP s0 s1 true (h%3+1) v)]
def SA(s0 s1 h:Nat)(v:LN):List q8:=if lz true (gO v [] [])=true then[(some [39],Sx s0 s1 h v)]else[]
def adZ{s0 s1 h:Nat}{v:LN}(h7:7∈v):kq s0 s1 h v=[(some [34],Nz s0 s1 h v)]:=aq (_::·)<|aF h7
def ad0{s0 s1 h:Nat}{v:LN}(h7:7∉v)(hb:uW v=true):kq s0 s1 h v=U1 s0 s1 h v++SA s0 s1 h v++[(none,Ao s0 s1 h v)]:=by rw[kq,aE h7,aF hb];exact(aW (U1 s0 s1 h v) (SA s0 s1 h v) [(none,Ao s0 s1 h v)]).symm
def ad1{s0 s1 h:Nat}{v:LN}(h7:7∉v)(hb:uW v=false):kq s0 s1 h v=U1 s0 s1 h v++SA s0 s1 h v:=by rw[kq,aE h7,hb];exact aq (U1 s0 s1 h v++·)<|bf _
def U9{s0 s1 h:Nat}{v:LN}:(U1 s0 s1 h v++SA s0 s1 h v).length<100:=by rw[SA];split<;>exact aB rfl
end
section
variable{H:MH}{j r:Nat}{Q:QF}
abbrev Va(r h s0 s1:Nat)(v:LN):Fs:=[(7,.str<|sA h),(6,.int<|(h%3+1:Nat)),(5,.str<|JM h),(4,.str v),(3,kj s0 s1),(2,.int (h:Nat)),(1,.ref r)]
abbrev irF:IS:=rC<|ye iP.ib 8
inductive CB:Fs->Prop
 |no:CB []
 |yes {t:LN}:CB [(11,.str t)]
def ad2{h s0 s1:Nat}{v:LN}(hw:HW H)(hv:v.length<=16)(hh:h<27720)(h0:s0<27720)(h1:s1<27720)
  (K:∀m H' i A,CB A->HW H'->H'.at_ i=some (yK<|kq s0 s1 h v)->run (m+100) (cL Q) [iT iP.ib 9] ⟨A++((8,.ref i)::Va r h s0 s1 v),wQ j,[],[],H'⟩):run 393 (cL Q) [iT iP.ib 7] ⟨Va r h s0 s1 v,wQ j,[],[],H⟩:=by
 have big:(20000:Nat)<=gP:=aB<|by rfl
 have q5:(h:Int).fdiv 5=((h/5:Nat):Int):=Nv h 5;have q52:((h/5:Nat):Int).fmod 2=((h/5%2:Nat):Int):=JN (h/5) 2;have q7:(h:Int).fdiv 7=((h/7:Nat):Int):=Nv h 7;have q72:((h/7:Nat):Int).fmod 2=((h/7%2:Nat):Int):=JN (h/7) 2;have m5:h/5%2<2:=cC _<|by decide
 have m7:h/7%2<2:=cC _<|by decide
 have m3:h%3<3:=cC _<|by decide
 have m22:h/2%2<2:=cC _<|by decide
 have e5:((1:Int)+((h/5%2:Nat):Int)).toNat=1+h/5%2:=rfl;have e7:((1:Int)+((h/7%2:Nat):Int)).toNat=1+h/7%2:=rfl;have rw':=ND hv;have JO:∀p∈gO v [] [],p.1.length+p.2.length<5000:=λp hp=>by have z:=(sx v [] []).2 p hp;exact ah (fW (aa z.1<|dH<|bQ _)<|aa z.2<|dH<|bQ _)<|ah (fW hv hv)<|by decide
 have hne:∀p∈(gO v [] []).tail,p.1≠[]:=HH v [] [] λz=>.inr trivial;have vl:v.length<2000:=ah hv<|by decide
 have vl9:v.length<=19:=aa hv<|by decide
 have rl:(gO v [] []).length<5000:=ah rw'.2<|by decide
 have K8:∀H' i,HW H'->H'.at_ i=some (yK [(some [34],Nz s0 s1 h v)])->run 392 (cL Q) [iT iP.ib 8] ⟨(8,.ref i)::Va r h s0 s1 v,wQ j,[],[],H'⟩:=by
  intro H' i hw o;by_cases h7:7∈v
  ·exact Jf h7<|K 291 H' i [] .no hw<|by rw[adZ h7];exact o
  ·have K2:∀H' i,HW H'->H'.at_ i=some (yK<|U1 s0 s1 h v)->run 390 (cL Q) [iT irF 2,iT iP.ib 9] ⟨(8,.ref i)::Va r h s0 s1 v,wQ j,[],[],H'⟩:=by
    intro H' i hw o;have K3:∀m H' i A,CB A->HW H'->H'.at_ i=some (yK<|U1 s0 s1 h v++SA s0 s1 h v)->run (m+102) (cL Q) [iT irF 3,iT iP.ib 9] ⟨A++((8,.ref i)::Va r h s0 s1 v),wQ j,[],[],H'⟩:=by
     intro m H' i A hA hw o;have fm:(sA h).length<=10:=by rw[sA,bz];exact aa (fW m3<|cA m22)<|by decide
     by_cases hb:uW v=true
     ·have KK:=λH1 (g1:qu H' H1) A' (a:CB A')=>K (m+1) (H1.put i<|yK<|U1 s0 s1 h v++SA s0 s1 h v++[(none,Ao s0 s1 h v)]) i A' a ((g1.hw hw).put<|g1.old _ _ o)<|by rw[ad0 h7 hb];exact gB
      cases hA with
      |no=>exact zj vl JO rl hne (λH1 g1=>cT hb ⟨nB<|g1.old _ _ o,Cw (mg:=sA h) vl9 fm h0 h1 (g1.hw hw) λH2 g2=>apF (p:=(none,Ao s0 s1 h v)) (g2.old _ _<|g1.old _ _ o) U9<|KK H2 (g1.trans g2) [] .no⟩) hw
      |yes=>exact zj vl JO rl hne (λH1 g1=>cT hb ⟨nB<|g1.old _ _ o,Cw (mg:=sA h) vl9 fm h0 h1 (g1.hw hw) λH2 g2=>apF (p:=(none,Ao s0 s1 h v)) (g2.old _ _<|g1.old _ _ o) U9<|KK H2 (g1.trans g2) [_] .yes⟩) hw
     ·have hb:=fZ.mpr hb;have KK:=λH1 (g1:qu H' H1) A' (a:CB A')=>K (m+1) H1 i A' a (g1.hw hw)<|by rw[ad1 h7 hb];exact g1.old _ _ o
      cases hA with
      |no=>exact zj vl JO rl hne (λH1 g1=>cF hb<|KK H1 g1 [] .no) hw
      |yes=>exact zj vl JO rl hne (λH1 g1=>cF hb<|KK H1 g1 [_] .yes) hw
    by_cases ha:lz true (gO v [] [])=true
    ·have ml:(replicate (1+h/7%2) 32).length<=10:=by rw[bz];exact aa (dU (cA m7) 1)<|by decide
     have ol:=An s0 s1 (replicate (1+h/7%2) 32)<|gO v [] [];rw[bz]at ol;have e4:2+(1+h/7%2)<=4:=dU (dU (Nat.le_of_lt_succ m7) 1) 2;have ol:=aa ol<|fW (gf e4 rw'.1)<|gf e4 rw'.2;have sl:=HN<|nu s0 s1 (replicate (1+h/7%2) 32)<|gO v [] [];refine Ai vl JO rl hne<|cT ha ⟨trivial,⟨(Cr hh<|by decide).1,(Cr hh<|by decide).2,by decide,by decide⟩,by decide,?_⟩;rw[q7,q72];refine⟨⟨cB<|1+h/7%2,gb.mpr (aL (Nat.add_lt_add_left m7 1)<|by decide),rfl⟩,?_⟩;rw[e7];refine Cw vl9 ml h0 h1 hw.new λH1 g1=>⟨by lia,?_⟩;rw[Sz];refine kmJ gz ⟨rfl,?_⟩;rw[Am];have g2:qu H' (H1.new<|.list<|((nu s0 s1 (replicate (1+h/7%2) 32)<|gO v [] []).map λc=>if c=39 then[39,39]else[c]).map MV.str):=((qu.new hw).trans g1).trans<|.new<|g1.hw hw.new;have sq:(pX<|nu s0 s1 (replicate (1+h/7%2) 32)<|gO v [] []).length<=1000:=aa sl<|aa (f9 2 ol)<|by decide
     refine⟨by rw[aV];exact aa (fW (by rw[<-xU];exact sq) ol) (aa (by decide) big),nB<|g2.old _ _ o,?_⟩;refine⟨?_,?_,?_⟩
     ·show 1+(pX<|nu s0 s1 (replicate (1+h/7%2) 32)<|gO v [] []).length<gP;lia
     ·show(pX<|nu s0 s1 (replicate (1+h/7%2) 32)<|gO v [] []).length+1+1<gP;lia
     ·exact apF (p:=(some [39],Sx s0 s1 h v)) (g2.old _ _ o) (by show 3<100;decide)<|K3 286 _ i [_] .yes ((g2.hw hw).put<|g2.old _ _ o)<|by rw[SA,aF ha];exact gB
    ·exact Ai vl JO rl hne<|cF (fZ.mpr ha)<|K3 287 _ i [] .no hw.new<|by rw[SA,aE ha,bf];exact(qu.new hw).old _ _ o
   refine Mj h7 ⟨nB o,D8 vl9 (aa m3<|by decide) h0 h1 hw λH1 g1=>?_⟩;refine apF (p:=(some [124],oP s0 s1 false (h%3+1) v)) (g1.old _ _ o) (by show 1<100;decide) ?_;refine⟨nB gB,D8 vl9 (aa m3<|by decide) h0 h1 ((g1.hw hw).put<|g1.old _ _ o) λH2 g2=>?_⟩;exact apF (p:=(some [62],oP s0 s1 true (h%3+1) v)) (g2.old _ _ gB) (by show 2<100;decide)<|K2 _ _ ((g2.hw<|(g1.hw hw).put<|g1.old _ _ o).put<|g2.old _ _ gB) gB
 refine⟨⟨(Cr hh<|by decide).1,(Cr hh<|by decide).2,by decide,by decide⟩,by decide,?_⟩;rw[q5,q52];refine⟨⟨cB<|1+h/5%2,gb.mpr (aL (Nat.add_lt_add_left m5 1)<|by decide),rfl⟩,?_⟩;rw[e5];exact JI (mg:=replicate (1+h/5%2) 32) (by lia) (by rw[bz];exact aa (dU (cA m5) 1)<|by decide) h0 h1 hw λH1 g=>K8 _ _ (g.hw hw).new gz
noncomputable abbrev vcs:LN:=[97,32,10,98,39,34,92,35,58,45,9,233,8232,7,99,100,63,101,102,107,118]
def JP(n:Nat):∀c∈pieces.getD (n%20) [],c∈vcs:=by
 have h:n%20<20:=cC _<|by decide
 generalize n%20=m at h;revert m;decide
def JQ(t:LN):∀c∈vz t,c∈vcs:=λc hc=>by obtain⟨l,hl,hc⟩:=List.mem_flatten.mp hc;obtain⟨n,_,rfl⟩:=bU.mp hl;exact JP n c hc
def CC{c:Nat}{z:LN}(h:c=10∨c=133)(n:z≠[]):LB (c::z) [10] z:=by
 cases z with
 |nil=>exact aG rfl n
 |cons d z=>rcases h with rfl|rfl<;>exact .one (by decide) nofun
def NF{i:Nat}{z:LN}(h:i<3)(n:z≠[]):LB (qN.getD i []++z) [10] z:=by
 match i,h with
 |0,_=>exact CC (.inl rfl) n
 |1,_=>exact .crlf
 |2,_=>exact CC (.inr rfl) n
def zk{s0 s1 i:Nat}{z:LN}(n:z≠[]):LB (su s0 s1 i++z) [10] z:=NF (Bp ..) n
def zl{s0 s1 m i c:Nat}{z:LN}(h:c=10∨c=8232)(n:z≠[]):LB (uN s0 s1 m i c++z) [c] z:=by
 unfold uN;split
 ·rename _=>e;rw[e];exact .ls<|by decide
 ·rename _=>e;rw[h.resolve_right e];exact NF (Bp ..) n
def FJ{r:LN}(h:r.headD 0∉[45,46]):zZ r=false:=by
 unfold zZ;rw[au,au];rfl
 ·intro e;induction r with|nil=>cases e|cons c t=>exact h<|by rw[show(c::t).headD 0=c from rfl,(cH e).1];decide
 ·intro e;induction r with|nil=>cases e|cons c t=>exact h<|by rw[show(c::t).headD 0=c from rfl,(cH e).1];decide
def LB.zZ{r l r1:LN}(h:LB r l r1):zZ r=false:=by obtain⟨c,t,rfl,m⟩:=h.ne;exact FJ<|(by decide:∀c∈jV,c∉[45,46]) c m
inductive ER:LN->LN->Prop
 |nil:ER [] []
 |cons {c:Nat} {l run e:LN}:(∀z,z≠[]->LB (l++z) [c] z)->ER run e->ER (c::run) (l++e)
def wU{s0 s1 m:Nat}{run:LN}(h:∀c∈run,c=10∨c=8232):∀i,ER run (oM s0 s1 m i run).flatten:=by
 induction run with
 |nil=>exact λy=>.nil
 |cons c run ih=>exact λi=>.cons (λz n=>zl (h c<|.head _) n)<|ih (λx m=>h x<|.tail _ m)<|i+1
structure NB(x:Nat):Prop where
 b:x∉oQ
 l:x∉jV
 z:x≠0
def Eb{x:Nat}(h:x∉0::(oQ++jV)):NB x:=⟨λm=>h<|.tail _<|bW _ m,λm=>h<|.tail _<|bx _ m,λe=>h<|e▸.head _⟩
structure Mg(mg:LN):Prop where
 n:mg≠[]
 s:∀y∈mg,y=32
def Mg.rep{n:Nat}(h:n≠0):Mg (replicate n 32):=⟨λe=>h (by have:=aq length e;rwa[bz]at this),λy m=>(List.mem_replicate.mp m).2⟩
def Mg.zZ{mg r:LN}(h:Mg mg):zZ (mg++r)=false:=by
 obtain⟨n,s⟩:=h;induction mg with
 |nil=>exact aG rfl n
 |cons c t=>exact FJ<|by show c∉_;rw[s c<|.head _];decide
def Mg.fb{mg r:LN}{x:Nat}(h:Mg mg)(n:NB x):FB (mg++x::r) [] (x::r):=.stop h.zZ (λy m=>by rw[h.s y m];decide) n.b n.l
def abp{run e r0 r':LN}(h:ER run e)(n:r0≠[])(k:FB r0 [] r'):FB (e++r0) (run.map λc=>[c]) r':=by
 induction h with
 |nil=>exact k
 |@cons c l run e hl _ ih=>have q:=hl (e++r0) λz=>n (bA.mp z).2;rw[aW];exact .nl (t:=[]) q.zZ nofun q ih
def Ec(l:LN):(l.map λc=>[c]).flatten=l:=by
 induction l with
 |nil=>rfl
 |cons c l ih=>exact aq (c::·) ih
def HO{c:Nat}{run:LN}(h:c=10->run≠[]):(gap [c] (run.map λc=>[c])++run.map λc=>[c]).flatten=if c=10 then run else c::run:=by
 rw[bM,Ec];unfold gap;split
 ·rename _=>e
  have e:=(cH e).1;rw[aE λz=>h e<|List.map_eq_nil_iff.mp z,aF e];rfl
 ·rename _=>e
  rw[aE λz=>e<|aq (λc=>[c]) z];rfl
def NG{run:LN}(h:run≠[])(hr:∀c∈run,c=10∨c=8232):∃c t,wO run=c::t/\(c=10∨c=8232)/\(∀x∈t,x=10∨x=8232)/\(c=10->t≠[])/\(if c=10 then t else c::t)=run:=by
 obtain⟨c,t,rfl⟩:=fV h;unfold wO;split
 ·exact⟨10,c::t,rfl,.inl rfl,hr,λy=>aX _ _,aF rfl⟩
 ·rename _=>e
  exact⟨c,t,rfl,hr c<|.head _,λx m=>hr x<|.tail _ m,λz=>aG z e,aE e⟩
end
section
variable{d:Bool}{r v e:LN}{x y:Nat}
def yL:Ord []:=nofun
inductive QW(d:Bool):LN->LN->LN->Prop
 |mk {w r v e:LN} {x:Nat}:(∀y∈w,y∈oQ)->NB x->QR d (x::r) v e->QW d (w++x::r) (w++v) e
def QW.qr(h:QW d r v e):QR d r v e:=by
 induction h with
 |@mk w r v _ x hw n h=>
  induction w with
  |nil=>exact h
  |cons y w=>exact .sp (t:=[]) yL (aX _ _) hw n.b n.l n.z h
def QW.bl(h:QW d r v e)(m:y∈oQ):QW d (y::r) (y::v) e:=by
 induction h with
 |@mk w r v _ x hw n h=>exact .mk (w:=y::w) (λz q=>(ao.mp q).elim (λe=>e▸m)<|hw z) n h
def QW.of(n:NB x)(h:QR d (x::r) v e):QW d (x::r) v e:=.mk (w:=[]) nofun n h
def NH{i s0 s1:Nat}{mg:LN}(hm:Mg mg)(n:NB x)(h:QR d (x::r) v e):QR d (su s0 s1 i++(mg++x::r)) (32::v) e:=
 .fold (t:=[]) (w:=[]) (l:=[10]) (bs:=[]) yL nofun (zk λz=>hm.n (bA.mp z).1) (hm.fb n) h
def NI{s0 s1:Nat}{mg run:LN}(hm:Mg mg)(n:NB x)(hn:run≠[])(hr:∀c∈run,c=10∨c=8232)(h:QR d (x::r) v e):QR d (lN s0 s1 (wO run)++(mg++x::r)) (run++v) e:=by obtain⟨c,t,e1,hc,ht,ho,e2⟩:=NG hn hr;have ne:mg++x::r≠[]:=λz=>hm.n (bA.mp z).1;have q:=wU (s0:=s0) (s1:=s1) (m:=(c::t).length) ht<|0+1;rw[e1,lN,zf,cR,aW];have z:=QR.fold (d:=d) (t:=[]) (w:=[]) (l:=[c]) yL nofun (zl (s0:=s0) (s1:=s1) (m:=(c::t).length) (i:=0) hc λz=>ne (bA.mp z).2) (abp q ne<|hm.fb n) h;rw[HO ho,e2]at z;exact z
variable{s0 s1:Nat}{mg:LN}
def HP{c:Nat}(h:c∈vcs):(∃y,qe c=some [92,y]/\jQ [y] zJ=some (.str [c])/\y∉jV)∨(qe c=none/\(c=32∨NB c)/\(c=39∨c=32∨c∉wD)):=by
 by_cases h1:c=34
 ·subst h1;exact .inl ⟨34,rfl,rfl,by decide⟩
 by_cases h2:c=92
 ·subst h2;exact .inl ⟨92,rfl,rfl,by decide⟩
 by_cases h3:c=10
 ·subst h3;exact .inl ⟨110,rfl,rfl,by decide⟩
 by_cases h4:c=8232
 ·subst h4;exact .inl ⟨76,rfl,rfl,by decide⟩
 by_cases h5:c=7
 ·subst h5;exact .inl ⟨97,rfl,rfl,by decide⟩
 by_cases h6:c=9
 ·subst h6;exact .inl ⟨116,rfl,rfl,by decide⟩
 have q:=(by decide:∀c∈vcs,c≠34->c≠92->c≠10->c≠8232->c≠9->(c=32∨c∉0::(oQ++jV))/\(c=39∨c=32∨c∉wD)) c h h1 h2 h3 h4 h6;exact .inr ⟨by unfold qe;rw[aE h1,aE h2,aE h3,aE h4,aE h5,aE h6],q.1.imp id Eb,q.2⟩
def SE:NB 92:=Eb<|by decide
def abq:NB 34:=Eb<|by decide
def SH:NB 39:=Eb<|by decide
def NJ{t r0:LN}(hv:∀c∈t,c∈vcs)(h:t.headD 0≠32)(j p:Nat):∃x r,uf s0 s1 mg j p t++34::r0=x::r/\NB x:=by
 induction t with
 |nil=>exact⟨34,r0,rfl,abq⟩
 |cons c t=>
  have h:c≠32:=h;rw[xV,qo];rcases HP (hv c (.head _))with⟨y,e,-,-⟩|⟨e,n,-⟩
  ·rw[e];exact⟨92,_,rfl,SE⟩
  ·rw[e];dsimp only;split
   ·exact⟨92,_,rfl,SE⟩
   ·rw[aE λz=>h z.1,aE λz=>h z.1];exact⟨c,_,rfl,n.resolve_left h⟩
def X6(hm:Mg mg){y:Nat}{r0:LN}(t:LN):∀j p,(∀c∈t,c∈vcs)->QR true (uf s0 s1 mg j p t++34::y::r0) t (34::y::r0)/\(p=32->QW true (uf s0 s1 mg j p t++34::y::r0) t (34::y::r0)):=by
 induction t with
 |nil=>intro j p _;have q:QR true (34::y::r0) [] (34::y::r0):=.fin (t:=[]) yL nofun;exact⟨q,λw=>.of abq q⟩
 |cons c t ih=>
  intro j p hv;have hv':∀c∈t,c∈vcs:=λx m=>hv x<|.tail _ m;obtain⟨i1,i2⟩:=ih (j+1) c hv';have hd:=λh=>NJ (s0:=s0) (s1:=s1) (mg:=mg) (r0:=y::r0) hv' h (j+1) c;rw[xV,aW,aW];generalize uf s0 s1 mg (j+1) c t++34::y::r0=R at i1 i2 hd;have two:∀{r v},QR true (92::r) v (34::y::r0)->QR true (92::r) v (34::y::r0)/\(p=32->QW true (92::r) v (34::y::r0)):=λq=>⟨q,λw=>.of SE q⟩;have B:QR true (ue s0 s1 mg j t++R) t (34::y::r0)/\(c=32->QW true (ue s0 s1 mg j t++R) t (34::y::r0)):=by
   unfold ue;split
   ·rename _=>h
    obtain⟨x,r,e,n⟩:=hd h.2;rw[e]at i1⊢;have q:QR true (92::(su s0 s1 (j+1)++(mg++x::r))) t (34::y::r0):=.enl (t:=[]) (bs:=[]) yL rfl (zk λz=>hm.n (bA.mp z).1) (hm.fb n) i1;rw[c8,aW];exact⟨q,λw=>.of SE q⟩
   ·exact⟨i1,i2⟩
  unfold qo;rcases HP (hv c (.head _))with⟨x,e,g,n⟩|⟨e,n,o⟩
  ·rw[e];exact two<|.Yw (t:=[]) yL rfl n g B.1
  ·rw[e];dsimp only;split
   ·rename _=>h
    rw[h.1];exact two<|.hex (t:=[]) yL rfl B.1
   ·split
    ·rename _=>h
     rw[h.1];exact two<|.Yw (t:=[]) (x:=32) yL rfl (by decide) rfl B.1
    ·split
     ·rename _=>h
      obtain⟨h1,h2,_,_,h5,h6⟩:=h;obtain⟨x,r,e,n⟩:=hd h6;have eB:ue s0 s1 mg j t=[]:=aE λz=>aG (h2.symm.trans z.1)<|by decide
      rw[eB,e]at B⊢;rw[h1,aW];exact⟨NH hm n B.1,λz=>aG z h5⟩
     ·by_cases h:c=32
      ·have q:=(B.2 h).bl (y:=c)<|by rw[h];decide
       exact⟨q.qr,λw=>q⟩
      ·have q:QR true (c::(ue s0 s1 mg j t++R)) (c::t) (34::y::r0):=by
        rcases o with o|o|o
        ·exact .Yv (t:=[]) yL (.inl ⟨rfl,o⟩) B.1
        ·exact aG o h
        ·exact B.1.ord o
       exact⟨q,λw=>.of (n.resolve_left h) q⟩
def RC(l:LN):Prop:=∀c∈l,c∈vcs/\c≠10/\c≠8232
def NC(l:LN):Prop:=∀c∈l,c=10∨c=8232
inductive RW:Bool->rP->LN->Prop
 |one {row run:LN} {f:Bool}:RC row->NC run->(f=false->row≠[])->RW f [(row,run)] (row++run)
 |cons {row run v:LN} {f:Bool} {rs:rP}:RC row->NC run->(f=false->row≠[])->run≠[]->RW false rs v->RW f ((row,run)::rs) (row++(run++v))
def CD(v:LN):∀(row run:LN) (f:Bool),(∀c∈v,c∈vcs)->RC row->NC run->(f=false->row≠[])->RW f (gO v row run) (row++(run++v)):=by
 induction v with
 |nil=>intro row run f _ h1 h2 h3;rw[bf];exact .one h1 h2 h3
 |cons c v ih=>
  intro row run f hv h1 h2 h3;have hv':∀x∈v,x∈vcs:=λx m=>hv x<|.tail _ m;rw[pD];split
  ·rename _=>h
   have z:=ih row (run++[c]) f hv' h1 (λx m=>(bF.mp m).elim (h2 x) λm=>aj.mp m▸h) h3;rw[aW]at z;exact z
  ·rename _=>h
   have hc:RC [c]:=λx m=>by rw[aj.mp m];exact⟨hv c<|.head _,λe=>h<|.inl e,λe=>h<|.inr e⟩
   split
   ·rename _=>e
    subst e;have z:=ih (row++[c]) [] f hv' (λx m=>(bF.mp m).elim (h1 x)<|hc x) nofun λy z=>aX _ _ (bA.mp z).2;rw[aW]at z;exact z
   ·rename _=>e
    exact .cons h1 h2 h3 e<|ih [c] [] false hv' hc nofun λy=>aX _ _
def RW.ne{rows:rP}{v:LN}(h:RW false rows v):∃c t run rs,rows=(c::t,run)::rs/\∃v',v=c::v':=by
 cases h with
 |@one row run _ _ _ n=>induction row with|nil=>exact aG rfl (n rfl)|cons c t=>exact⟨c,t,run,[],rfl,_,rfl⟩
 |@cons row run v' _ rs _ _ n=>induction row with|nil=>exact aG rfl (n rfl)|cons c t=>exact⟨c,t,run,rs,rfl,_,rfl⟩
def RC.t{c:Nat}{t:LN}(h:RC<|c::t):RC t:=λx m=>h x<|.tail _ m
def RC.bl{c:Nat}{t:LN}(h:RC<|c::t):c∈oQ∨NB c:=by have q:=h c<|.head _;exact((by decide:∀c∈vcs,c≠10->c≠8232->c∈oQ∨c∉0::(oQ++jV)) c q.1 q.2.1 q.2.2).imp id Eb
def wV{p c:Nat}{t:LN}:om (p::c::t)=om (c::t):=by unfold om;rw[List.getLast?_cons_cons]
def wW{f:Bool}{row run:LN}{rs:rP}(h:lz f ((row,run)::rs)=true):(run≠[]->om row=false)/\(f=false->row.headD 0∉mH)/\lz false rs=true:=by
 rw[wN,bB,bB]at h;obtain⟨h1,h2,h3⟩:=h;refine⟨λn=>?_,λe m=>?_,h3⟩
 ·induction run with
  |nil=>exact aG rfl n
  |cons c t=>cases e:om row with|false=>rfl|true=>rw[e]at h1;cases h1
 ·rw[e,az m]at h2;cases h2
def CE{s0 s1 j p c:Nat}{t:LN}(h:oU s0 s1 j p c t=true):c=32/\p∉mH/\∃d t2,t=d::t2/\d∉mH:=by
 unfold oU at h;simp only[bB,decide_eq_true_eq,dG,decide_eq_false_iff_not]at h;obtain⟨h1,-,h3,h4,h5,-⟩:=h;induction t with
 |nil=>cases h3
 |cons d t=>exact⟨h1,h4,d,t,rfl,h5⟩
def rB{s0 s1 j p c:Nat}{t:LN}(h:c∉mH):oU s0 s1 j p c t=false:=by
 cases e:oU s0 s1 j p c t with
 |false=>rfl
 |true=>exact aG (by rw[(CE e).1];decide) h
def pg{s0 s1 j p c:Nat}{mg t:LN}(h:oU s0 s1 j p c t=false):lM s0 s1 mg j p (c::t)=c::lM s0 s1 mg (j+1) c t:=by rw[xR,h];rfl
def FL{s0 s1 j p c:Nat}{mg t:LN}(h:oU s0 s1 j p c t=true):lM s0 s1 mg j p (c::t)=su s0 s1 (j+3)++(mg++lM s0 s1 mg (j+1) c t):=by rw[xR,aF h,aW]
def sC(a b:LN):pX (a++b)=pX a++pX b:=by unfold pX;rw[bJ,bM]
def Aq{l:LN}(h:39∉l):pX l=l:=by
 induction l with
 |nil=>rfl
 |cons c l ih=>show(if c=39 then[39,39]else[c])++pX l=_;rw[ih λm=>h<|.tail _ m,aE λe:c=39=>h<|e▸.head _];rfl
def abr{c:Nat}{l:LN}(h:c≠39):pX (c::l)=c::pX l:=(sC [c] l).trans<|by rw[Aq (l:=[c]) λm=>h (aj.mp m).symm];rfl
noncomputable abbrev FN:LN:=[10,13,133,8232]
def NK{i:Nat}:∀c∈qN.getD i [],c∈FN:=by
 match i with
 |0=>decide
 |1=>decide
 |2=>decide
 |n+3=>exact nofun
def zm(s0 s1 i:Nat):∀c∈su s0 s1 i,c∈FN:=NK
def wX(s0 s1:Nat)(run:LN):∀c∈lN s0 s1 run,c∈FN:=by
 have K:∀m l i,∀c∈(oM s0 s1 m i l).flatten,c∈FN:=by
  intro m l;induction l with
  |nil=>exact λz=>nofun
  |cons d l ih=>
   intro i c hc;rw[zf,cR]at hc;rcases bF.mp hc with q|q
   ·unfold uN at q;split at q
    ·rw[aj.mp q];decide
    ·exact NK c q
   ·exact ih _ c q
 exact K _ run 0
def FP{l:LN}(h:∀c∈l,c∈FN):39∉l:=λm=>aG (h _ m)<|by decide
def Mg.FP{mg:LN}(h:Mg mg):39∉mg:=λm=>aG (h.s _ m)<|by decide
def CF(hm:Mg mg){tl vt e:LN}(K:QR false tl vt e)(t:LN):∀j p,RC t->(om (p::t)=true->QW false tl vt e)->
  QR false (pX (lM s0 s1 mg j p t)++tl) (t++vt) e/\(p∈mH->QW false (pX (lM s0 s1 mg j p t)++tl) (t++vt) e)/\(t.headD 0∉mH->t≠[]->∃x r,pX (lM s0 s1 mg j p t)++tl=x::r/\NB x):=by
 induction t with
 |nil=>exact λj p y hK=>⟨K,λm=>hK<|az m,λy n=>aG rfl n⟩
 |cons c t ih=>
  intro j p hc hK;obtain⟨i1,i2,i3⟩:=ih (j+1) c hc.t λe=>hK<|wV.trans e;cases hb:oU s0 s1 j p c t with
  |true=>obtain⟨e,np,d,t2,et,nd⟩:=CE hb;obtain⟨x,r,ex,nx⟩:=i3 (et▸nd)<|et▸aX _ _;rw[FL hb,sC,sC,Aq<|FP<|zm _ _ _,Aq hm.FP,aW,aW];rw[ex]at i1⊢;exact⟨by rw[e];exact NH hm nx i1,λm=>aG m np,λm=>aG (show c∈mH by rw[e];decide) m⟩
  |false=>
   rw[pg hb];by_cases h9:c=39
   ·rw[h9,show pX (39::lM s0 s1 mg (j+1) 39 t)=39::39::pX (lM s0 s1 mg (j+1) 39 t)from sC [39] _];rw[h9]at i1;have q:QR false (39::39::(pX (lM s0 s1 mg (j+1) 39 t)++tl)) (39::(t++vt)) e:=.two (t:=[]) yL rfl i1;exact⟨q,λy=>.of SH q,λy y=>⟨39,_,rfl,SH⟩⟩
   ·rw[abr h9];by_cases m:c∈oQ
    ·have q:=(i2 m).bl m;exact⟨q.qr,λy=>q,λz=>aG m z⟩
    ·have n:=hc.bl.resolve_left m;have q:QR false (c::(pX (lM s0 s1 mg (j+1) c t)++tl)) (c::(t++vt)) e:=by
      by_cases h:c=34∨c=92
      ·exact .Yv (t:=[]) yL (.inr ⟨rfl,h⟩) i1
      ·exact i1.ord<|(by decide:∀c∈vcs,c≠10->c≠8232->c∉oQ->c≠39->¬(c=34∨c=92)->c∉wD) c (hc c<|.head _).1 (hc c<|.head _).2.1 (hc c<|.head _).2.2 m h9 h
     exact⟨q,λy=>.of n q,λy y=>⟨c,_,rfl,n⟩⟩
def NL(hm:Mg mg){y:Nat}{r0:LN}(hy:y≠39){f:Bool}{rows:rP}{v:LN}(h:RW f rows v):lz f rows=true->
  QR false (pX (nu s0 s1 mg rows)++39::y::r0) v (39::y::r0)/\(f=false->∃x r,pX (nu s0 s1 mg rows)++39::y::r0=x::r/\NB x):=by
 have fin:QR false (39::y::r0) [] (39::y::r0):=.fin (t:=[]) yL λw=>hy;induction h with
 |@one row run f hr hn hf=>
  intro ha;obtain⟨a1,a2,-⟩:=wW ha;rw[qn,Cv,bf,sC,aW];by_cases e:run=[]
  ·subst e;rw[aF rfl];have z:=CF (s0:=s0) (s1:=s1) hm fin row 0 0 hr λw=>.of SH fin;exact⟨z.1,λq=>z.2.2 (a2 q)<|hf q⟩
  ·rw[aE e,Aq λm=>(bF.mp m).elim (FP<|wX _ _ _) hm.FP,aW];have q:=NI (s0:=s0) (s1:=s1) hm SH e hn fin;have z:=CF (s0:=s0) (s1:=s1) hm q row 0 0 hr λl=>by
    induction row with
    |nil=>cases l
    |cons c t=>rw[wV,a1 e]at l;cases l
   exact⟨by rw[bf]at z;exact z.1,λq=>z.2.2 (a2 q)<|hf q⟩
 |@cons row run v f rs hr hn hf e _ ih=>
  intro ha;obtain⟨a1,a2,a3⟩:=wW ha;obtain⟨i1,i2⟩:=ih a3;obtain⟨x,r,ex,nx⟩:=i2 rfl;rw[qn,aE e,sC,sC,Aq λm=>(bF.mp m).elim (FP<|wX _ _ _) hm.FP,aW,aW,aW];rw[ex]at i1⊢;have z:=CF (s0:=s0) (s1:=s1) hm (NI (s0:=s0) (s1:=s1) hm nx e hn i1) row 0 0 hr λl=>by
   induction row with
   |nil=>cases l
   |cons c t=>rw[wV,a1 e]at l;cases l
  exact⟨z.1,λq=>z.2.2 (a2 q)<|hf q⟩
inductive PT(ind:Nat):LN->Nat->LN->LN->LN->Nat->Prop
 |last {t r r':LN} {x c c':Nat} {sp:iK}:wI x t->x∈vm->OB (x::r) (c+t.length) sp r' c' true->sp≠[]->c'<ind->PT ind (t++x::r) c t (x::r) r' c'
 |more {t r r1 v re r':LN} {x c c1 c':Nat} {sp:iK} {fl:Bool}:wI x t->x∈vm->OB (x::r) (c+t.length) sp r1 c1 fl->sp≠[]->¬c1<ind->PL ind r1 c1 v re r' c'->PT ind (t++x::r) c (t++(sp.flatten++v)) re r' c'
variable{ind c c':Nat}{re r' y2:LN}
def PT.ord(h:PT ind r (c+1) v re r' c')(hy:y∉vm)(h58:y=58->r.headD 0∉vm):PT ind (y::r) c (y::v) re r' c':=by
 have hd:∀{t:LN} {x:Nat} {r0:LN},(t++x::r0).headD 0=t.headD x:=λ{t x r0}=>by cases t<;>rfl
 have ln:∀t:LN,c+(y::t).length=c+1+t.length:=λt=>by rw[aU];omega
 cases h with
 |@last t _ _ x _ _ _ hw hx hs n l=>exact .last (t:=y::v) ⟨hy,λe=>hd▸h58 e,hw⟩ hx (by rw[ln];exact hs) n l
 |@more t _ _ _ _ _ x _ _ _ _ _ hw hx hs n l k=>exact .more (t:=y::t) ⟨hy,λe=>hd▸h58 e,hw⟩ hx (by rw[ln];exact hs) n l k
def PT.pl(h:PT ind r c v re r' c'):(r=x::y2->x∉vm->x≠35->PL ind r c v re r' c'):=by
 intro e hx DT;have no:∀{t:LN} {z:Nat} {r0:LN},t++z::r0=x::y2->z∈vm->t≠[]/\t.head?≠some 35:=λ{t z r0} e m=>by
  induction t with
  |nil=>exact aG ((cH e).1▸m) hx
  |cons a t=>exact⟨aX _ _,λq=>DT<|(cH e).1.symm.trans<|ay q⟩
 induction h with
 |last hw hm hs n l=>exact .last (no e hm).1 hw hm (no e hm).2 hs n l
 |more hw hm hs n l k=>exact .more (no e hm).1 hw hm (no e hm).2 hs n l k
inductive Vb(ind:Nat):LN->Nat->LN->LN->LN->Nat->Prop
 |mk {w r v re r':LN} {x c c':Nat}:(∀y∈w,y=32)->x≠32->x∉jV->PL ind (x::r) (c+w.length) v re r' c'->Vb ind (w++x::r) c (w++v) re r' c'
def Vb.bl(h:Vb ind r (c+1) v re r' c'):Vb ind (32::r) c (32::v) re r' c':=by
 cases h with
 |@mk w _ _ _ _ x _ _ hw h1 h2 k=>exact .mk (w:=32::w) (λy m=>(ao.mp m).elim id<|hw y) h1 h2<|by rw[aU,dK w.length 1,<-dZ];exact k
def Vb.pt(h:Vb ind r c v re r' c')(e:r=32::y2)(hi:ind<=c):PT ind r c v re r' c':=by
 cases h with
 |@mk w r _ _ _ x _ _ hw h1 h2 k=>
  induction w with
  |nil=>exact aG (cH e).1 h1
  |cons a w=>have ea:a=32:=(cH e).1;have z:=PT.more (ind:=ind) (t:=[]) (x:=a) (r:=w++x::r) (c:=c) (sp:=[a::w]) trivial (by rw[ea];decide) (.flat (t:=a::w) hw h1 h2) (aX _ _) (by show¬c+0+_<ind;omega) k;rw[d8]at z;exact z
def NM{sp:LN}(h:∀y∈sp,y=32)(hx:x∉32::jV):∀c,PB (sp++x::r) c [] (x::r) (c+sp.length):=by
 induction sp with
 |nil=>exact λc=>.stop hx
 |cons a sp ih=>intro c;rw[h a<|.head _,aU,dK sp.length 1,<-dZ];exact .sp<|ih (λy m=>h y<|.tail _ m)<|c+1
def abt{run e r0:LN}(h:ER run e)(n:r0≠[])(hd:zZ r0=false)(k:PB r0 0 [] r' c'):zZ (e++r0)=false/\PB (e++r0) 0 (run.map λc=>[c]) r' c':=by
 induction h with
 |nil=>exact⟨hd,k⟩
 |@cons c l run e hl _ ih=>have q:=hl (e++r0) λz=>n (bA.mp z).2;rw[aW];exact⟨q.zZ,.nl q ih.1 ih.2⟩
def abu{x:Nat}(h:x∈jV):x∈vm:=(by decide:∀x∈jV,x∈vm) x h
def NO{l r1 r2:LN}{c1:Nat}{bs:iK}(hl:LB r l r1)(hd:zZ r1=false)(k:PB r1 0 bs r2 c1)(n:gap l bs++bs≠[])(hi:ind<=c1)(h:PL ind r2 c1 v re r' c'):PT ind r c ((gap l bs++bs).flatten++v) re r' c':=by refine fX λgG=>?_;obtain⟨x,t,rfl,m⟩:=hl.ne;refine gG ?_;exact .more (t:=[]) trivial (abu m) (.brk (t:=[]) nofun hl hd k) n (by omega) h
def X7{i s0 s1:Nat}{mg:LN}(hm:Mg mg)(hi:ind<=mg.length)(hx:x∉32::jV)(h:PL ind (x::r) mg.length v re r' c'):PT ind (su s0 s1 i++(mg++x::r)) c (32::v) re r' c':=
 NO (bs:=[]) (l:=[10]) (zk λz=>hm.n (bA.mp z).1) hm.zZ (by rw[<-bQ mg.length];exact NM hm.s hx 0) (aX _ _) hi h
def X8{s0 s1:Nat}{mg run:LN}(hm:Mg mg)(hi:ind<=mg.length)(hx:x∉32::jV)(hn:run≠[])(hr:NC run)(h:PL ind (x::r) mg.length v re r' c'):PT ind (lN s0 s1 (wO run)++(mg++x::r)) c (run++v) re r' c':=by
 refine fX λgG=>?_;obtain⟨d,t,e1,hc,ht,ho,e2⟩:=NG hn hr;refine gG ?_;have ne:mg++x::r≠[]:=λz=>hm.n (bA.mp z).1;have q:=abt (wU (s0:=s0) (s1:=s1) (m:=(d::t).length) ht<|0+1) ne hm.zZ<|NM hm.s hx 0;rw[bQ mg.length]at q;rw[e1,lN,zf,cR,aW];have z:=NO (ind:=ind) (c:=c) (zl (s0:=s0) (s1:=s1) (m:=(d::t).length) (i:=0) hc λz=>ne (bA.mp z).2) q.1 q.2 (λz=>by
  have z:=(bA.mp z);have z2:=List.map_eq_nil_iff.mp z.2;have z1:=z.1;by_cases e:d=10
  ·exact ho e z2
  ·unfold gap at z1;rw[aE λq=>e (cH q).1]at z1;cases z1) hi h
 rw[HO ho,e2]at z;exact z
def nE{p c:Nat}{f:Bool}{t:LN}(h:mR p f (c::t)=true):c≠9/\(c=58->nH t=false)/\(f=true->c∈[45,63]->nH t=false)/\(c=35->p∉[32,10,8232])/\mR c false t=true:=by
 rw[uB,bB,bB,dG,fQ,fQ]at h;refine fX λgG=>?_;obtain⟨⟨⟨h1,h2⟩,h3⟩,h4,h5⟩:=h;refine gG ?_;refine⟨λe=>?_,λe=>?_,λe m=>?_,λe m=>?_,h5⟩
 ·rw[e]at h1;cases h1
 ·rw[az e]at h2;exact h2
 ·rw[e,az m]at h3;exact h3
 ·rw[az e,az m]at h4;cases h4
def Bt{b:LN}(a:LN):∀{p f},mR p f (a++b)=true->(∃p' f',mR p' f' b=true)/\9∉a:=by
 induction a with
 |nil=>exact λ{p f} h=>⟨⟨p,f,h⟩,nofun⟩
 |cons c a ih=>exact λ{p f} h=>⟨(ih (nE h).2.2.2.2).1,λm=>(ao.mp m).elim (λe=>(nE h).1 e.symm) (ih (nE h).2.2.2.2).2⟩
def NP{b:LN}(a:LN):∀{p f},NC a->a≠[]->mR p f (a++b)=true->∃q,q∈[32,10,8232]/\mR q false b=true:=by
 induction a with
 |nil=>exact λy n=>aG rfl n
 |cons c a ih=>
  intro p f hn _ h;have z:=(nE h).2.2.2.2;induction a with
  |nil=>exact⟨c,by rcases hn c (.head _)with e|e<;>rw[e]<;>decide,z⟩
  |cons d a=>exact ih (λx m=>hn x<|.tail _ m) (aX _ _) z
def SI{l:LN}(h:9∉l)(h2:l.getLastD 0≠32):om l=false:=by
 unfold om;rw[cY]at h2;cases e:l.getLast? with
 |none=>rfl
 |some c=>rw[e]at h2;exact au λm=>(ao.mp m).elim h2 λm=>h<|aj.mp m▸List.mem_of_getLast? e
def NQ{c:Nat}(h:c∈vcs)(h1:c≠10)(h2:c≠8232)(h3:c≠9)(h4:c≠32):c∉vm:=(by decide:∀c∈vcs,c≠10->c≠8232->c≠9->c≠32->c∉vm) c h h1 h2 h3 h4
def NR{d:Nat}{t:LN}(h:om (d::t)=false):om t=false:=by
 cases t with
 |nil=>rfl
 |cons a t=>rwa[wV]at h
def NS{t rest:LN}(tn:t≠[])(b5:mR 32 false (t++rest)=true):t.headD 0≠35:=λe=>by
 cases t with
 |nil=>exact tn rfl
 |cons a t=>exact(nE b5).2.2.2.1 e (.head _)
def NT(hm:Mg mg)(hi:ind<=mg.length){tl vt re r' rest:LN}{c':Nat}(K:∀c,ind<=c->PT ind tl c vt re r' c')(hn:nH rest=true)(t:LN):∀j p q f c,ind<=c->RC t->mR q f (t++rest)=true->om t=false->
  PT ind (lM s0 s1 mg j p t++tl) c (t++vt) re r' c'/\(t.headD 0≠32->t.headD 0≠35->t≠[]->PL ind (lM s0 s1 mg j p t++tl) c (t++vt) re r' c')/\(p∈mH->t.headD 0=32->Vb ind (lM s0 s1 mg j p t++tl) c (t++vt) re r' c'):=by
 induction t with
 |nil=>exact λj p q f c hc y y y=>⟨K c hc,λy y n=>aG rfl n,λy e=>nomatch e⟩
 |cons d t ih=>
  intro j p q f c hc hr hb hl;obtain⟨b1,b2,-,b4,b5⟩:=nE hb;have hl':=NR hl;have hv:=hr d<|.head _;by_cases h32:d=32
  ·subst h32;have tn:t≠[]:=λe=>by rw[e]at hl;cases hl
   have t35:=NS tn b5;cases hbk:oU s0 s1 j p 32 t with
   |true=>refine fX λgG=>?_;obtain⟨-,np,a,t2,et,na⟩:=CE hbk;refine gG ?_;have k:=(ih (j+1) 32 32 false mg.length hi hr.t b5 hl').2.1 (λe=>na<|by rw[et]at e;rw[show a=32 from e];decide) t35 tn;clear ih;subst et;have nb:=hr.t.bl.resolve_left na;rw[FL hbk,aW,aW];rw[pg<|rB na]at k⊢;exact⟨X7 hm hi (λm=>(ao.mp m).elim (λe=>na<|e▸.head _) nb.l) k,λe=>aG rfl e,λm=>aG m np⟩
   |false=>
    have i:=ih (j+1) 32 32 false (c+1) (by omega) hr.t b5 hl';clear ih;have k:Vb ind (32::(lM s0 s1 mg (j+1) 32 t++tl)) c (32::(t++vt)) re r' c':=by
     by_cases e:t.headD 0=32
     ·exact(i.2.2 (.head _) e).bl
     ·have k:=i.2.1 e t35 tn;clear i;obtain⟨a,t2,rfl⟩:=fV tn;have e:a≠32:=e;have na:a∉mH:=λm=>(ao.mp m).elim e λm=>(nE b5).1<|aj.mp m;rw[pg<|rB na]at k⊢;exact .bl<|.mk (w:=[]) nofun e (hr.t.bl.resolve_left na).l k
    rw[pg hbk];exact⟨k.pt rfl hc,λe=>aG rfl e,λy y=>k⟩
  ·have nd:d∉mH:=λm=>(ao.mp m).elim h32 λm=>b1<|aj.mp m;have nw:=NQ hv.1 hv.2.1 hv.2.2 b1 h32;have i:=(ih (j+1) d d false (c+1) (by omega) hr.t b5 hl').1;rw[pg<|rB nd];have q:PT ind (d::(lM s0 s1 mg (j+1) d t++tl)) c (d::(t++vt)) re r' c':=i.ord nw λe=>by
    have z:=b2 e;clear i ih hl hl';induction t with
    |nil=>exact nomatch hn.symm.trans z
    |cons a t=>have na:a∉[32,10,8232,9]:=fu z;have a32:a≠32:=λe=>na<|e▸.head _;have a9:=(nE b5).1;rw[pg<|rB λm=>(ao.mp m).elim a32 λm=>a9<|aj.mp m];exact NQ (hr.t a<|.head _).1 (hr.t a<|.head _).2.1 (hr.t a<|.head _).2.2 a9 a32
   exact⟨q,λy DT y=>q.pl rfl nw DT,λy e=>aG e h32⟩
def CG{a b:LN}(n:b≠[]):(a++b).getLastD 0=b.getLastD 0:=by
 rw[cY,cY,List.getLast?_append];cases e:b.getLast? with
 |none=>exact aG (fy.mp e) n
 |some x=>rfl
def X9{row run:LN}(hn:NC run)(hla:(row++run).getLastD 0∉[32,10,8232]):run=[]:=by
 induction run with
 |nil=>rfl
 |cons a run=>
  rw[CG<|aX _ _]at hla;have m:(a::run).getLastD 0∈a::run:=by rw[cY];cases e:(a::run).getLast? with|none=>cases fy.mp e|some z=>exact List.mem_of_getLast? e
  exact aG (by rcases hn _ m with e|e<;>rw[e]<;>decide) hla
def RW.rc{f:Bool}{row run:LN}{rs:rP}{v:LN}(h:RW f ((row,run)::rs) v):RC row:=by
 cases h with
 |one h=>exact h
 |cons h=>exact h
def NU{a b:LN}(n:a≠[]):(a++b).headD 0=a.headD 0:=by
 cases a with
 |nil=>exact aG rfl n
 |cons=>rfl
def SJ(hm:Mg mg)(hi:ind<=mg.length){sp r:LN}{x:Nat}(hs:∀y∈sp,y=32)(hl:sp.length<ind)(hx:x∉32::jV)(hd:zZ (sp++x::r)=false){f:Bool}{rows:rP}{v:LN}(h:RW f rows v):∀p g c,ind<=c->lz f rows=true->mR p g v=true->v.getLastD 0∉[32,10,8232]->v≠[]->v.headD 0∉[32,10,8232,35]->
  PL ind (nu s0 s1 mg rows++10::(sp++x::r)) c v (10::(sp++x::r)) (x::r) sp.length:=by
 have K0:∀c,PT ind (10::(sp++x::r)) c [] (10::(sp++x::r)) (x::r) sp.length:=λc=>.last (t:=[]) trivial (by decide) (.brk (t:=[]) nofun (CC (.inl rfl)<|bE _<|aX _ _) hd<|by rw[<-bQ sp.length];exact NM hs hx 0) (aX [32] _) hl;induction h with
 |@one row run f hr hn hf=>intro p g c hc ha hb hla ne hh;have er:=X9 hn hla;subst er;rw[bf]at*;rw[qn,Cv,aF rfl,bf,bf];have h9:=(Bt row (b:=[])<|by rw[bf];exact hb).2;have z:=(NT (s0:=s0) (s1:=s1) hm hi (rest:=[]) (λc j=>K0 c) rfl row 0 0 p g c hc hr (by rw[bf];exact hb)<|SI h9 λe=>hla<|e▸.head _).2.1 (λe=>hh<|e▸.head _) (λe=>hh<|by rw[e];decide) ne;rw[bf]at z;exact z
 |@cons row run v f rs hr hn hf e hw ih=>
  intro p g c hc ha hb hla ne hh;obtain⟨a1,-,a3⟩:=wW ha;obtain⟨y,t,run2,rs2,er,v',ev⟩:=hw.ne;have nv:v≠[]:=ev▸aX _ _;obtain⟨z,tr,etr⟩:=fV e;have rn:row≠[]:=λer=>by rw[er,etr]at hh;exact hh (by rcases hn z (etr▸.head _)with e|e<;>(show z∈_;rw[e];decide))
  obtain⟨⟨p2,g2,hb2⟩,h9⟩:=Bt row hb;obtain⟨q,hq,hb3⟩:=NP run hn e hb2;rw[CG λz=>e (bA.mp z).1,CG nv]at hla;have hR:=RW.rc<|er▸hw;have a4:y∉mH:=by rw[er]at a3;exact(wW a3).2.1 rfl
  have DT:y≠35:=λe=>by rw[ev]at hb3;exact(nE hb3).2.2.2.1 e hq
  have nb:=hR.bl.resolve_left a4;have k:=ih q false mg.length hi a3 hb3 hla nv (by
   rw[ev];intro m;have m:y∈[32,10,8232,35]:=m;rcases ao.mp m with m|m
   ·exact a4<|m▸.head _
   ·rcases ao.mp m with m|m
    ·exact(hR y<|.head _).2.1 m
    ·rcases ao.mp m with m|m
     ·exact(hR y<|.head _).2.2 m
     ·exact DT<|aj.mp m)
  have ex:∃w,nu s0 s1 mg rs++10::(sp++x::r)=y::w:=by rw[er,qn,pg<|rB a4];exact⟨_,rfl⟩
  obtain⟨w,ew⟩:=ex;have hl':=a1 e;rw[qn,aE e,aW,aW,aW];rw[ew]at k⊢;refine(NT (s0:=s0) (s1:=s1) hm hi (rest:=run++v) (λc j=>X8 (s0:=s0) (s1:=s1) hm hi (λm=>(ao.mp m).elim (λe:y=32=>a4<|e▸.head _) nb.l) e hn k) ?_ row 0 0 p g c hc hr hb hl').2.1 ?_ ?_ rn
  ·rw[etr];exact az (by rcases hn z (etr▸.head _)with e|e<;>rw[e]<;>decide)
  ·exact λe=>hh<|by rw[NU rn,e];decide
  ·exact λe=>hh<|by rw[NU rn,e];decide
inductive BT(fd:Bool)(ind h:Nat):LN->LN->LN->iK->LN->LN->Nat->Prop
 |last {t r0 l r1 JZ r2:LN} {c2:Nat} {zc:iK}:(∀y∈t,y∉0::jV)->LB r0 l r1->BB ind r1 zc JZ r2 c2->(c2≠ind∨r2.headD 0=0)->BT fd ind h (t++r0) t l zc JZ r2 c2
 |more {t r0 l r1 JZ r3 mU l' re' r':LN} {x c':Nat} {zc bs':iK}:(∀y∈t,y∉0::jV)->LB r0 l r1->BB ind r1 zc JZ (x::r3) ind->x≠0->BM fd ind (x::r3) zc mU l' bs' re' r' c'->BT fd ind h (t++r0) (t++((xH fd l h x zc).flatten++mU)) l' bs' re' r' c'
variable{fd:Bool}{h:Nat}{mU l' re':LN}{bs':iK}
def zo{y:Nat}{t:LN}(hy:y∉0::jV)(ht:∀y∈t,y∉0::jV):∀z∈y::t,z∉0::jV:=λz m=>(ao.mp m).elim (λe=>e▸hy)<|ht z
def BT.ord(hy:y∉0::jV)(b:BT fd ind h r mU l' bs' re' r' c'):BT fd ind h (y::r) (y::mU) l' bs' re' r' c':=by
 cases b with
 |last ht a b c=>exact .last (t:=y::mU) (zo hy ht) a b c
 |@more t _ _ _ _ _ _ _ _ _ _ _ _ _ ht a b c d=>exact .more (t:=y::t) (zo hy ht) a b c d
def BT.app{t:LN}(ht:∀y∈t,y∉0::jV)(b:BT fd ind h r mU l' bs' re' r' c'):BT fd ind h (t++r) (t++mU) l' bs' re' r' c':=by
 induction t with
 |nil=>exact b
 |cons y t ih=>exact .ord (ht y<|.head _)<|ih λz m=>ht z<|.tail _ m
def BT.bm(hy:y∉0::jV)(b:BT fd ind y r mU l' bs' re' r' c')(bs:iK):BM fd ind (y::r) bs (bs.flatten++(y::mU)) l' bs' re' r' c':=by
 cases b with
 |last ht a b c=>exact .last (t:=y::mU) (aX _ _) (zo hy ht) a b c
 |@more t _ _ _ _ _ _ _ _ _ _ _ _ _ ht a b c d=>exact .more (t:=y::t) (aX _ _) (zo hy ht) a b c d
def RC.Kp{t:LN}(h:RC t):∀y∈t,y∉0::jV:=λy m=>(by decide:∀c∈vcs,c≠10->c≠8232->c∉0::jV) y (h y m).1 (h y m).2.1 (h y m).2.2
def wY{ind x:Nat}{sp r:LN}(hs:∀y∈sp,y=32)(hl:sp.length<=ind)(hx:x=32->sp.length=ind)(n:x∉jV):BB ind (sp++x::r) [] (sp++x::r) (x::r) sp.length:=.stop hs hl hx n
def HQ{ind c':Nat}{run e r0 re r':LN}(h:ER run e)(n:r0≠[])(k:BB ind r0 [] re r' c'):BB ind (e++r0) (run.map λc=>[c]) re r' c':=by
 induction h with
 |nil=>exact k
 |@cons c l run e hl _ ih=>rw[aW];exact .nl (t:=[]) nofun (cg _) (hl (e++r0) λz=>n (bA.mp z).2) ih
def Vc{r0 sp r:LN}{x:Nat}(hs:∀y∈sp,y=32)(hx:x∉32::jV):∀c,BI r0 (sp++x::r) c c [] r0 (x::r) (c+sp.length) (c+sp.length):=by
 induction sp with
 |nil=>exact λc=>.stop hx
 |cons a sp ih=>intro c;have z:=ih (λy m=>hs y<|.tail _ m)<|c+1;rw[hs a<|.head _,aU,dK sp.length 1,<-dZ];exact .sp<|by rw[show mx c (c+1)=c+1 from aF<|bS c];exact z
def Vd{c' m':Nat}{run e r0 r':LN}(h:ER run e)(n:r0≠[])(k:BI r0 r0 0 0 [] r0 r' c' m'):BI (e++r0) (e++r0) 0 0 (run.map λc=>[c]) r0 r' c' m':=by
 induction h with
 |nil=>exact k
 |@cons c l run e hl _ ih=>rw[aW];exact .nl (hl (e++r0) λz=>n (bA.mp z).2) ih
def SK(hm:Mg mg)(hi:mg.length=ind){tl vt l' re' r':LN}{c':Nat}{bs':iK}(K:∀h,h∉oQ->BT true ind h tl vt l' bs' re' r' c')(t:LN):∀j p,RC t->
  (∀h,h∉oQ->BT true ind h (lM s0 s1 mg j p t++tl) (t++vt) l' bs' re' r' c')/\(t≠[]->t.headD 0∉mH->∀bs,BM true ind (lM s0 s1 mg j p t++tl) bs (bs.flatten++(t++vt)) l' bs' re' r' c'):=by
 induction t with
 |nil=>exact λj p y=>⟨K,λn=>aG rfl n⟩
 |cons c t ih=>
  intro j p hr;obtain⟨i1,i2⟩:=ih (j+1) c hr.t;have hc:=hr.Kp c<|.head _;refine⟨λh nh=>?_,λy nc bs=>?_⟩
  ·cases hb:oU s0 s1 j p c t with
   |false=>rw[pg hb];exact .ord hc<|i1 h nh
   |true=>obtain⟨e,-,d,t2,et,nd⟩:=CE hb;have k:=i2 (et▸aX _ _) (et▸nd) [];subst et e;rw[FL hb,aW,aW];rw[pg<|rB nd]at k⊢;have dn:=hr.t.Kp d<|.head _;have z:=BT.more (t:=[]) (h:=h) nofun (zk (s0:=s0) (s1:=s1) (i:=j+3) λz=>hm.n (bA.mp z).1) (hi▸wY hm.s (aD _) (λy=>rfl) λm=>dn<|.tail _ m) (λe=>dn<|e▸.head _) k;rw[show xH true [10] h d []=[[32]]from(aF ⟨rfl,rfl,nh,nd⟩).trans (aF rfl)]at z;exact z
  ·have nc:c∉mH:=nc;rw[pg<|rB nc];exact(i1 c nc).bm hc bs
abbrev NW(s0 s1:Nat)(fd:Bool)(mg row:LN):LN:=if(fd&&qf row)=true then lM s0 s1 mg 0 0 row else row
def NX{fd:Bool}{c:Nat}{t:LN}:∃w,NW s0 s1 fd mg (c::t)=c::w:=by
 unfold NW;split
 ·rename _=>h
  rw[bB]at h;have nc:c∉mH:=λm=>by rw[qf,az m]at h;cases h.2
  exact⟨_,pg<|rB nc⟩
 ·exact⟨t,rfl⟩
def NY(hm:Mg mg)(hi:mg.length=ind){fd:Bool}{c:Nat}{t tl vt l' re' r':LN}{c':Nat}{bs':iK}(hr:RC<|c::t)(K:∀h,(h∈oQ↔c∈oQ)->BT fd ind h tl vt l' bs' re' r' c')(bs:iK):BM fd ind (NW s0 s1 fd mg (c::t)++tl) bs (bs.flatten++((c::t)++vt)) l' bs' re' r' c':=by
 unfold NW;split
 ·rename _=>h
  rw[bB]at h;have nc:c∉mH:=λm=>by rw[qf,az m]at h;cases h.2
  obtain⟨rfl,-⟩:=h;exact(SK hm hi (λh nh=>K h ⟨λm=>aG m nh,λm=>aG m nc⟩) (c::t) 0 0 hr).2 (aX _ _) nc bs
 ·exact((K c Iff.rfl).app hr.t.Kp).bm (hr.Kp c<|.head _) bs
inductive Tl:LN->LN->LN->LN->iK->Prop
 |no {v:LN}:Tl [] v v [10] []
 |yes {c:Nat} {tr mU:LN}:Tl (c::tr) (mU++c::tr) mU [c]<|tr.map λc=>[c]
def Tl.app{a v mU l t:LN}{bs:iK}(h:Tl t v mU l bs):Tl t (a++v) (a++mU) l bs:=by
 induction h with
 |no=>exact .no
 |yes=>rw[<-aW];exact .yes
def NZ{fd:Bool}{c:Nat}{t run:LN}{rs:rP}:vq s0 s1 fd mg ((c::t,run)::rs)=mg++(NW s0 s1 fd mg (c::t)++(lN s0 s1 (qO fd (c::t) run rs)++vq s0 s1 fd mg rs)):=by rw[xW,uP,aE<|aX _ _,aW]
def N1{d:Nat}{tr z:LN}(h:NC<|d::tr)(n:z≠[]):∃r1,LB (lN s0 s1 (d::tr)++z) [d] (r1++z)/\ER tr r1:=by refine⟨(oM s0 s1 (d::tr).length (0+1) tr).flatten,?_,wU (λx m=>h x<|.tail _ m) _⟩;rw[lN,zf,cR,aW];exact zl (h d<|.head _) λq=>n (bA.mp q).2
def HR(hm:Mg mg)(hi:mg.length=ind){fd:Bool}{sp r:LN}{x:Nat}(hs:∀y∈sp,y=32)(hl:sp.length<ind)(hx:x∉32::jV){f:Bool}{rows:rP}{v:LN}(h:RW f rows v):(rows.headD ([],[])).1≠[]->
  ∃mU l' bs' w,Tl (qP rows) v mU l' bs'/\vq s0 s1 fd mg rows++(sp++x::r)=mg++(v.headD 0::w)/\∀bs,BM fd ind (v.headD 0::w) bs (bs.flatten++mU) l' bs' (sp++x::r) (x::r) sp.length:=by
 have ne:sp++x::r≠[]:=bE _<|aX _ _;have stop:BB ind (sp++x::r) [] (sp++x::r) (x::r) sp.length:=wY hs (cA hl) (λe=>aG (e▸.head _) hx) λm=>hx<|.tail _ m;have eh:∀{c:Nat} {t z:LN},(c::t++z).headD 0=c:=rfl;induction h with
 |@one row run f hr hn hf=>
  intro nr;obtain⟨c,t,rfl⟩:=fV nr;have K:∀d tr,NC (d::tr)->∀h,(h∈oQ↔c∈oQ)->BT fd ind h (lN s0 s1 (d::tr)++(sp++x::r)) [] [d] (tr.map λc=>[c]) (sp++x::r) (x::r) sp.length:=λd tr hn h j=>by refine fX λgG=>?_;obtain⟨r1,q1,q2⟩:=N1 (s0:=s0) (s1:=s1) hn ne;refine gG ?_;exact .last (t:=[]) nofun q1 (HQ q2 ne stop)<|.inl<|av hl
  obtain⟨w,ew⟩:=NX (s0:=s0) (s1:=s1) (mg:=mg) (fd:=fd) (c:=c) (t:=t);have fin:∀d tr,NC (d::tr)->qO fd (c::t) run []=d::tr->Tl run (c::t++run) (c::t) [d] (tr.map λc=>[c])->∃mU l' bs' w,Tl (qP [(c::t,run)]) (c::t++run) mU l' bs'/\vq s0 s1 fd mg [(c::t,run)]++(sp++x::r)=mg++(c::w)/\∀bs,BM fd ind (c::w) bs (bs.flatten++mU) l' bs' (sp++x::r) (x::r) sp.length:=λd tr hn er tl=>by have z:=λbs=>NY (s0:=s0) (s1:=s1) hm hi hr (K d tr hn) bs;rw[NZ,FH,bf,er,ew];rw[ew,bf]at z;exact⟨_,_,_,_,tl,by rw[aW,aW];rfl,z⟩
  induction run with
  |nil=>exact fin 10 [] (λz m=>.inl<|aj.mp m) (by rw[qO];exact aF ⟨aX _ _,rfl⟩)<|by rw[bf];exact .no
  |cons d tr=>exact fin d tr hn (by rw[qO];exact aE λq=>nomatch q.2) .yes
 |@cons row run v f rs hr hn hf e hw ih=>
  intro nr;obtain⟨c,t,rfl⟩:=fV nr;obtain⟨d,tr,rfl⟩:=fV e;refine fX λgG=>?_;obtain⟨y,t2,run2,rs2,er,v',ev⟩:=hw.ne;refine gG ?_;obtain⟨mU,l',bs',w,tl,eb,k⟩:=ih<|by rw[er];exact aX _ _
  have hy:v.headD 0=y:=by rw[ev];rfl
  rw[hy]at eb k;have y0:y∉0::jV:=by rw[er]at hw;cases hw with|one h=>exact h.Kp y (.head _)|cons h=>exact h.Kp y<|.head _
  have nm:mg++y::w≠[]:=bE _<|aX _ _;have abv:BB ind (mg++y::w) [] (mg++y::w) (y::w) ind:=by have z:=wY (ind:=ind) (x:=y) (r:=w) hm.s (dH hi) (λj=>hi) λm=>y0<|.tail _ m;rw[hi]at z;exact z
  have K2:∀g gr,NC (g::gr)->∀h,(xH fd [g] h y<|gr.map λc=>[c]).flatten++gr=d::tr->BT fd ind h (lN s0 s1 (g::gr)++(mg++y::w)) (d::tr++mU) l' bs' (sp++x::r) (x::r) sp.length:=λg gr hg h es=>by obtain⟨r1,q1,q2⟩:=N1 (s0:=s0) (s1:=s1) hg nm;have z:=BT.more (t:=[]) (h:=h) nofun q1 (HQ q2 nm abv) (λe=>y0<|e▸.head _)<|k<|gr.map λc=>[c];rw[Ec,<-aW _ gr,es]at z;exact z
  have K:∀h,(h∈oQ↔c∈oQ)->BT fd ind h (lN s0 s1 (qO fd (c::t) (d::tr) rs)++(mg++y::w)) (d::tr++mU) l' bs' (sp++x::r) (x::r) sp.length:=λh hh=>by
   rw[er,qO];split
   ·rename _=>q
    have nc:c∉oQ:=λm=>by rw[qf,az m]at q;cases q.2.1
    exact K2 10 (d::tr) (λz m=>(ao.mp m).elim .inl<|hn z) h<|by rw[show xH fd [10] h y ((d::tr).map λc=>[c])=[]from(aF ⟨q.1,rfl,λm=>nc<|hh.mp m,q.2.2.2⟩).trans (aE<|aX _ _)];rfl
   ·rename _=>q
    have es:xH fd [d] h y (tr.map λc=>[c])=[[d]]:=aE λz=>q ⟨z.1,aq not<|au λm=>z.2.2.1<|hh.mpr m,(cH z.2.1).1,z.2.2.2⟩;exact K2 d tr hn h<|by rw[es];rfl
  obtain⟨w2,ew⟩:=NX (s0:=s0) (s1:=s1) (mg:=mg) (fd:=fd) (c:=c) (t:=t);have z:=λbs=>NY (s0:=s0) (s1:=s1) hm hi hr K bs;rw[ew]at z;refine⟨_,_,_,_,?_,?_,z⟩
  ·rw[show qP ((c::t,d::tr)::rs)=qP rs from by rw[er];rfl];exact tl.app.app
  ·rw[NZ,ew,aW,aW,aW,eb];rfl
inductive CH:LN->Option Bool->Prop
 |n:CH [] none
 |y (b:Bool):CH [cond b 43 45]<|some b
inductive DG:LN->Option Nat->Prop
 |n:DG [] none
 |y (b:Bool):DG [cond b 49 50]<|some<|cond b 1 2
def abw{p:Prop}[Decidable p]{c d:LN}{ch:Option Bool}{inc:Option Nat}(hc:CH c ch)(hd:DG d inc):Hd (if p then d++c else c++d) ch inc:=by
 induction hc with
 |n=>induction hd with
  |n=>split<;>exact .no
  |y b=>split<;>exact .d b
 |y a=>induction hd with
  |n=>split<;>exact .c a
  |y b=>
   split
   ·exact .dc a b
   ·exact .cd a b
end
section
variable{s0 s1:Nat}
def N4(words:LN):∃inc,DG (rA s0 s1 words) inc/\((inc=none/\words.take 1≠[32])∨inc=some (1+pick s0 s1 2 2)):=by
 have h:=Br s0 s1 2;unfold rA;generalize pick s0 s1 2 2=z at h;split
 ·match z,h with
  |0,_=>exact⟨_,.y true,.inr rfl⟩
  |1,_=>exact⟨_,.y false,.inr rfl⟩
 ·rename _=>n
  exact⟨_,.n,.inl ⟨rfl,λe=>n<|.inl e⟩⟩
def Ed(v words tail:LN):∃ch,CH (sy s0 s1 v words tail) ch/\(words=[]->v≠[]->ch=some true)/\(words≠[]->tail=[]->ch=some false)/\(words≠[]->tail≠[]->ch=some true∨ch=none/\tail.length=1):=by
 unfold sy;split
 ·rename _=>h
  split
  ·exact⟨_,.y true,λw w=>rfl,λn=>aG h n,λn=>aG h n⟩
  ·rename _=>h2
   have q:=Bp s0 s1 1;generalize pick s0 s1 1 3=z at q;have K:∀ch,(words=[]->v≠[]->ch=some true)/\(words≠[]->tail=[]->ch=some false)/\(words≠[]->tail≠[]->ch=some true∨ch=none/\tail.length=1):=λch=>⟨λw n=>aG n h2,λn=>aG h n,λn=>aG h n⟩;match z,q with
   |0,_=>exact⟨_,.y false,K _⟩
   |1,_=>exact⟨_,.n,K _⟩
   |2,_=>exact⟨_,.y true,K _⟩
 ·rename _=>h
  split
  ·rename _=>h2
   exact⟨_,.y false,λe=>aG e h,λw w=>rfl,λw n=>aG h2 n⟩
  ·rename _=>h2
   split
   ·rename _=>h3
    have q:=Br s0 s1 1;generalize pick s0 s1 1 2=z at q;match z,q with
    |0,_=>exact⟨_,.n,λe=>aG e h,λw e=>aG e h2,λw w=>.inr ⟨rfl,h3⟩⟩
    |1,_=>exact⟨_,.y true,λe=>aG e h,λw e=>aG e h2,λw w=>.inl rfl⟩
   ·exact⟨_,.y true,λe=>aG e h,λw e=>aG e h2,λw w=>.inl rfl⟩
def Tl.val{tail v mU l':LN}{bs':iK}{ch:Option Bool}(h:Tl tail v mU l' bs')(h1:tail=[]->ch=some false)(h2:tail≠[]->ch=some true∨ch=none/\tail.length=1):mU++sr ch l' bs'=v:=by
 induction h with
 |no=>rw[h1 rfl,Fj,bf]
 |@yes c tr=>
  rcases h2 (aX _ _)with e|⟨e,n⟩
  ·rw[e,Ck,Ec];rfl
  ·rw[e,Fi,bH.mp<|fK n]
section
variable{k:Nat}{fd:Bool}{sp r:LN}{x:Nat}
abbrev OD(s0 s1 k:Nat):LN:=replicate (k+1+pick s0 s1 2 2) 32
def HS{L e hd w mU l' re' r':LN}{y c':Nat}{bs':iK}{ch:Option Bool}{inc:Option Nat}(hh:Hd hd ch inc)(hL:ER L e)(hy:y∉0::jV)(hi:(inc=none/\y≠32)∨inc=some (1+pick s0 s1 2 2))
  (hb:∀bs,BM fd (k+1+pick s0 s1 2 2) (y::w) bs (bs.flatten++mU) l' bs' re' r' c'):BL fd (k+1) (cond fd 62 124::(hd++10::(e++(OD s0 s1 k++y::w)))) (L++mU++sr ch l' bs') re' r' c':=by
 have hm:Mg (OD s0 s1 k):=Mg.rep<|by lia
 have ml:(OD s0 s1 k).length=k+1+pick s0 s1 2 2:=bz;have ne:OD s0 s1 k++y::w≠[]:=bE _<|aX _ _;have b:=hb<|L.map λc=>[c];rw[Ec]at b;have hw:=Br s0 s1 2;rcases hi with⟨rfl,n32⟩|rfl
 ·have z:=Vd hL ne<|Vc (r0:=OD s0 s1 k++y::w) (sp:=OD s0 s1 k) (r:=w) (x:=y) hm.s (λm=>(ao.mp m).elim n32 λm=>hy<|.tail _ m) 0;rw[bQ,ml]at z;have em:mx (k+1) (k+1+pick s0 s1 2 2)=k+1+pick s0 s1 2 2:=by unfold mx;split<;>lia
  exact .mk (eN _) (bE _ ne) hh (.look z)<|by rw[em];exact .some b
 ·have ei:k+1+(1+pick s0 s1 2 2)-1=k+1+pick s0 s1 2 2:=by lia
  have z:=HQ hL ne<|wY (ind:=k+1+(1+pick s0 s1 2 2)-1) (sp:=OD s0 s1 k) (r:=w) (x:=y) hm.s (by omega) (λv=>by lia) λm=>hy<|.tail _ m;rw[ml]at z;exact .mk (eN _) (bE _ ne) hh (.told z)<|by rw[ei];exact .some b
def SM{L e hd:LN}{ch:Option Bool}{inc:Option Nat}(hh:Hd hd ch inc)(hL:ER L e)(hs:∀y∈sp,y=32)(hl:sp.length<=k)(hx:x∉32::jV)(hi:inc=none∨inc=some (1+pick s0 s1 2 2))(hc:L≠[]->ch=some true):BL fd (k+1) (cond fd 62 124::(hd++10::(e++(sp++x::r)))) L (sp++x::r) (x::r) sp.length:=by
 have ne:sp++x::r≠[]:=bE _<|aX _ _;have ev:[]++sr ch [] (L.map λc=>[c])=L:=by
  induction L with
  |nil=>unfold sr;split<;>split<;>rfl
  |cons c L=>rw[hc<|aX _ _,Ck,Ec];rfl
 have G:∀{a b c d f g},BL fd (k+1) a b c d f->b=g->BL fd (k+1) a g c d f:=λh e=>e▸h;refine G ?_ ev;rcases hi with rfl|rfl
 ·have z:=Vd hL ne<|Vc (r0:=sp++x::r) (sp:=sp) (r:=r) (x:=x) hs hx 0;rw[bQ]at z;have em:mx (k+1) sp.length=k+1:=aE<|by omega
  exact .mk (eN _) (bE _ ne) hh (.look z)<|by rw[em];exact .none (.inl<|by lia)<|aX _ _
 ·exact .mk (eN _) (bE _ ne) hh (.told<|HQ hL ne<|wY (ind:=k+1+(1+pick s0 s1 2 2)-1) hs (by omega) (λe=>aG (e▸.head _) hx) λm=>hx<|.tail _ m)<|.none (.inl<|by omega)<|aX _ _
def RW.top{f:Bool}{c:Nat}{t run:LN}{rs:rP}{v:LN}(h:RW f ((c::t,run)::rs) v):v.headD 0=c/\c∉0::jV:=by
 cases h with
 |one h=>exact⟨rfl,h.Kp c<|.head _⟩
 |cons h=>exact⟨rfl,h.Kp c<|.head _⟩
def RW.inv{rows:rP}{v:LN}(h:RW true rows v):(∃row run,rows=[(row,run)]/\v=row++run/\NC run)∨∃row run v' rs,rows=(row,run)::rs/\v=row++(run++v')/\NC run/\run≠[]/\RW false rs v':=by
 cases h with
 |one _ hn _=>exact .inl ⟨_,_,rfl,rfl,hn⟩
 |cons _ hn _ e h=>exact .inr ⟨_,_,_,_,rfl,rfl,hn,e,h⟩
def Yb{v:LN}(hv:∀c∈v,c∈vcs)(hs:∀y∈sp,y=32)(hl:sp.length<=k)(hx:x∉32::jV):BL fd (k+1) (oP s0 s1 fd (k+1) v++(sp++x::r)) v (sp++x::r) (x::r) sp.length:=by
 have hw:=CD v [] [] true hv nofun nofun nofun;rw[ck,ck]at hw;obtain⟨inc,hdg,hi⟩:=N4 (s0:=s0) (s1:=s1)<|ko<|gO v [] [];obtain⟨ch,hc,c1,c2,c3⟩:=Ed (s0:=s0) (s1:=s1) v (ko<|gO v [] [])<|qP<|gO v [] [];have hh:=abw (p:=pick s0 s1 4 2=1) hc hdg;rw[oP,CA,aW,c8,aW];show BL fd (k+1) (cond fd 62 124::(_++10::_)) _ _ _ _;generalize(if pick s0 s1 4 2=1 then rA s0 s1 (ko<|gO v [] [])++sy s0 s1 v (ko<|gO v [] []) (qP<|gO v [] [])else sy s0 s1 v (ko<|gO v [] []) (qP<|gO v [] [])++rA s0 s1 (ko<|gO v [] []))=hd at hh;generalize gO v [] []=rows at*;have hm:Mg (OD s0 s1 k):=Mg.rep<|by lia
 have ml:(OD s0 s1 k).length=k+1+pick s0 s1 2 2:=bz;have G:∀{a b c d f g},BL fd (k+1) a b c d f->b=g->BL fd (k+1) a g c d f:=λh e=>e▸h;have abx:∀{y t},ko rows=y::t->(inc=none/\y≠32)∨inc=some (1+pick s0 s1 2 2):=λ{y t} e=>hi.imp (λq=>⟨q.1,λz=>q.2<|by rw[e,z];rfl⟩) id;have B:∀{f:Bool} {row run:LN} {rs:rP},rows=(row,run)::rs->RW f rows v->row≠[]->BL fd (k+1) (cond fd 62 124::(hd++10::(vq s0 s1 fd (OD s0 s1 k) rows++(sp++x::r)))) v (sp++x::r) (x::r) sp.length:=λ{f row run rs} er hw nr=>by
  obtain⟨c,t,rfl⟩:=fV nr;have ew:ko rows=c::t:=by rw[er,ko,aF<|.inl<|aX _ _]
  have wn:ko rows≠[]:=ew▸aX _ _;refine fX λgG=>?_;obtain⟨mU,l',bs',w,tl,eb,k2⟩:=HR (s0:=s0) (s1:=s1) (fd:=fd) hm ml hs (ah hl<|by omega) (r:=r) hx hw<|by rw[er];exact aX _ _
  refine gG ?_;have e0:=RW.top<|er▸hw;rw[e0.1]at eb k2;rw[eb];exact G (HS (L:=[]) (e:=[]) hh .nil e0.2 (abx ew) k2)<|(tl.val (c2 wn)<|c3 wn)
 rcases hw.inv with⟨row,run,er,ev,hn⟩|⟨row,run,v',rs,er0,ev0,hn,e,Bh⟩
 ·by_cases h:row=[]
  ·rw[h]at er ev;have G2:=SM (s0:=s0) (s1:=s1) (fd:=fd) (r:=r) hh (wU (s0:=s0) (s1:=s1) (m:=run.length) hn 0) hs hl hx (hi.imp And.left id) (by have z:=c1 (by rw[er];rfl);rw[ev]at z;exact z);rw[er,ev,xW,FH,bf,uP,aF rfl,ck,show qO fd [] run []=run from by rw[qO];exact aE λq=>q.1 rfl];exact G2
  ·exact B er hw h
 ·by_cases h:row=[]
  ·rw[h]at er0 ev0;obtain⟨y,t2,run2,rs2,er,v2,ev⟩:=Bh.ne;have ew:ko rows=y::t2:=by rw[er0,er];rfl
   have wn:ko rows≠[]:=ew▸aX _ _;refine fX λgG=>?_;obtain⟨mU,l',bs',w,tl,eb,k2⟩:=HR (s0:=s0) (s1:=s1) (fd:=fd) hm ml hs (ah hl<|by omega) (r:=r) hx Bh<|by rw[er];exact aX _ _
   refine gG ?_;have y0:y∉0::jV:=(RW.top<|er▸Bh).2;rw[show v'.headD 0=y from by rw[ev];rfl]at eb k2;have eY:qO fd [] run rs=run:=by rw[er,qO];exact aE λq=>nomatch q.2.1
   rw[er0,ev0,xW,uP,aF rfl,ck,eY,aW,eb];have et:qP rows=qP rs:=by rw[er0,er];rfl
   rw[et]at c2 c3;exact G (HS (L:=run) hh (wU (s0:=s0) (s1:=s1) (m:=run.length) hn 0) y0 (abx ew) k2)<|(tl.app.val (c2 wn)<|c3 wn)
  ·exact B er0 hw h
end
end
inductive Itm(k:Nat)(v:LN):q8->Prop
 |q {d:Bool} {w:LN}:(∀r,QR d (w++qc d::10::r) v<|qc d::10::r)->Itm k v (some [qc d],qc d::(w++[qc d]))
 |b {fd:Bool} {w:LN}:(∀sp x r,(∀y∈sp,y=32)->sp.length<=k->x∉32::jV->BL fd (k+1) (cond fd 62 124::(w++(sp++x::r))) v (sp++x::r) (x::r) sp.length)->Itm k v (some [cond fd 62 124],cond fd 62 124::w)
 |p {x:Nat} {w:LN}:x∉32::35::jV->x≠46->oJ x ((w++[10]).headD 0)=true->(∀sp y r,(∀y∈sp,y=32)->sp.length<=k->y∉32::jV->zZ (sp++y::r)=false->PL (k+1) (x::(w++10::(sp++y::r))) (k+2) v (10::(sp++y::r)) (y::r) sp.length)->Itm k v (none,x::w)
def SN{s0 s1 h:Nat}{v:LN}(hv:∀c∈v,c∈vcs)(hw:RW true (gO v [] []) v)(hb:uW v=true):Itm (h%3) v (none,Ao s0 s1 h v):=by
 obtain⟨c,t,rfl⟩:∃c t,v=c::t:=by induction v with|nil=>cases hb|cons c t=>exact⟨c,t,rfl⟩
 rw[zh,bB,bB,dG,fQ]at hb;obtain⟨⟨h1,h2⟩,h3,h4⟩:=hb;have h1:=fu h1;have h2:=fu h2;have hm:Mg (sA h):=Mg.rep<|by lia
 have hi:h%3+1<=(sA h).length:=by rw[sA,bz];omega
 have z:=λsp y r a b g d=>SJ (s0:=s0) (s1:=s1) (ind:=h%3+1) hm hi (sp:=sp) (r:=r) (x:=y) a (Nat.lt_succ_of_le b) g d hw 0 true (h%3+2) (by lia) h4 h3 h2 (aX _ _) λm=>h1<|(by decide:∀c∈[32,10,8232,35],c∈[32,10,8232,39,34,35]) c m;have c9:=(nE h3).1;have cv:=hv c<|.head _;have yJ:c≠32:=λe=>h1<|e▸.head _;have Em:c≠10:=λe=>h1<|e▸.tail _ (.head _);have c82:c≠8232:=λe=>h1<|e▸.tail _ (.tail _<|.head _);have nb:c∉mH:=λm=>(ao.mp m).elim yJ λm=>c9<|aj.mp m;have er:∃t1 run rs,gO (c::t) [] []=(c::t1,run)::rs/\RC (c::t1)/\∃z,t=t1++z/\nH z=true:=by
  generalize gO (c::t) [] []=rows at hw;have no:∀{run b:LN},NC run->c::t=run++b->run=[]:=λ{run b} hn e=>by
   induction run with
   |nil=>rfl
   |cons a run=>exact aG (hn a<|.head _)<|by rw[<-(cH e).1];exact λq=>q.elim Em c82
  have nn:∀{run b:LN},NC run->(run=[]->b=[])->nH (run++b)=true:=λ{run b} hn e=>by
   induction run with
   |nil=>rw[e rfl];rfl
   |cons a run=>exact az (by rcases hn a (.head _)with e|e<;>rw[e]<;>decide)
  have K:∀{row run b:LN} {rs:rP},RC row->NC run->(run=[]->b=[])->c::t=row++(run++b)->∃t1 run1 rs1,(row,run)::rs=(c::t1,run1)::rs1/\RC (c::t1)/\∃z,t=t1++z/\nH z=true:=λ{row run b rs} hr hn e ee=>by
   induction row with
   |nil=>have q:=no hn ee;rw[q,e q]at ee;cases ee
   |cons a row=>obtain⟨rfl,e2⟩:=cH ee;exact⟨row,run,rs,rfl,hr,run++b,e2,nn hn e⟩
  generalize hu:c::t=u at hw;cases hw with
  |one hr hn=>exact K (b:=[]) hr hn (λj=>rfl)<|hu.trans<|by rw[bf]
  |cons hr hn _ ne _=>exact K hr hn (λq=>aG q ne) hu
 obtain⟨t1,run,rs,er,hrc,zz,et,hz⟩:=er;have eo:∃w,Ao s0 s1 h (c::t)=c::(lM s0 s1 (sA h) 1 c t1++w):=by refine⟨(if run=[]then[]else lN s0 s1 (wO run)++sA h)++nu s0 s1 (sA h) rs,?_⟩;rw[Ao,er,qn,pg<|rB nb];rfl
 obtain⟨w,eo⟩:=eo;change∀sp y r,_->_->_->_->PL _ (Ao s0 s1 h (c::t)++10::(sp++y::r)) _ _ _ _ _ at z;rw[eo]at z⊢;have y0:c∈[45,63,58]->((lM s0 s1 (sA h) 1 c t1++w)++[10]).headD 0∉vm:=λm=>by
  have q:nH t=false:=by
   rcases ao.mp m with e|m
   ·exact(nE h3).2.2.1 rfl (e▸.head _)
   ·rcases ao.mp m with e|m
    ·exact(nE h3).2.2.1 rfl (e▸.tail _ (.head _))
    ·exact(nE h3).2.1 (aj.mp m)
  induction t1 with
  |nil=>rw[et]at q;exact nomatch hz.symm.trans q
  |cons d t1=>rw[et]at q;have nd:d∉[32,10,8232,9]:=fu q;have d32:d≠32:=λe=>nd<|e▸.head _;have d9:d≠9:=λe=>nd<|e▸.tail _ (.tail _<|.tail _<|.head _);rw[pg<|rB λm=>(ao.mp m).elim d32 λm=>d9<|aj.mp m];exact NQ (hrc.t d<|.head _).1 (hrc.t d<|.head _).2.1 (hrc.t d<|.head _).2.2 d9 d32
 have q:=(by decide:∀c∈vcs,c∉[32,10,8232,39,34,35]->c≠9->c∉32::35::jV/\c≠46/\(c∈[45,63,58]∨c∉L27)) c cv h1 c9;refine .p q.1 q.2.1 ?_ z;unfold oJ;rcases q.2.2 with m|m
 ·rw[au<|y0 m,show(decide (c=45)||decide (c∈[63,58]))=true from by
   rcases ao.mp m with e|m
   ·rw[e];rfl
   ·rw[az m,fq],Bool.not_false,fC,fq]
 ·rw[au m];rfl
def JR{s0 s1 h:Nat}{v:LN}(hv:∀c∈v,c∈vcs):∀p∈kq s0 s1 h v,Itm (h%3) v p:=by have hw:=CD v [] [] true hv nofun nofun nofun;rw[ck,ck]at hw;refine uC (.q (d:=true) λr=>(X6 (Mg.rep<|by lia) v 0 0 hv).1) (λz fd=>?_) (λz ha=>.q (d:=false) λr=>(NL (Mg.rep<|by lia) (by decide) hw ha).1) λz hb=>SN hv hw hb;have e:∃w,oP s0 s1 fd (h%3+1) v=cond fd 62 124::w:=⟨_,rfl⟩;have z:=λsp x r a b c=>Yb (s0:=s0) (s1:=s1) (fd:=fd) (k:=h%3) (sp:=sp) (r:=r) (x:=x) hv a b c;obtain⟨w,e⟩:=e;rw[e]at z⊢;exact .b z
noncomputable def yM(st:Option LN):LN:=if st≠some [124]/\st≠some [62]then[10]else[]
noncomputable def nN(k:Nat):List q8->LN
 |[]=>[]
 |(st,w)::l=>replicate k 32++(45::32::(w++(yM st++nN k l)))
def FQ{k:Nat}{st:Option LN}{w:LN}{l:List q8}:nN k ((st,w)::l)=replicate k 32++(45::32::(w++(yM st++nN k l))):=rfl
def Yc{k:Nat}:nN k []=[]:=rfl
noncomputable def HT(k:Nat)(l:List q8):LN:=if l=[]then[]else replicate k 32
def yN(k:Nat):List q8->LN
 |[]=>[0]
 |(st,w)::l=>45::32::(w++(yM st++(nN k l++[0])))
def Ve(k:Nat)(l:List q8):nN k l++[0]=HT k l++yN k l:=by
 induction l with
 |nil=>rfl
 |cons p l=>rw[FQ,yN,HT,aE<|aX _ _,aW,c8,c8,aW,aW]
def N5(k:Nat)(l:List q8):(∀y∈HT k l,y=32)/\(HT k l).length<=k/\(l≠[]->(HT k l).length=k):=by
 unfold HT;split
 ·rename _=>h;exact⟨nofun,cg _,λn=>aG h n⟩
 ·rw[bz];exact⟨λy m=>(List.mem_replicate.mp m).2,aD _,λz=>rfl⟩
def N6(k:Nat)(l:List q8):∃x r,yN k l=x::r/\x∉32::35::jV/\zZ (HT k l++x::r)=false:=by
 cases l with
 |nil=>exact⟨0,[],rfl,by decide,rfl⟩
 |cons p l=>
  refine⟨45,_,rfl,by decide,?_⟩;rw[HT,aE<|aX _ _];induction k with
  |zero=>rfl
  |succ k=>exact FJ<|by show 32∉_;decide
def Vf(k:Nat)(l:List q8)(a:Bool):TN (nN k l++[0]) 0 a (yN k l) (HT k l).length a:=by refine fX λgG=>?_;obtain⟨x,r,e,n,-⟩:=N6 k l;refine gG ?_;rw[Ve,e];have z:=TN.stop (r:=r) (c:=0) (a:=a) (N5 k l).1 n;rw[bQ]at z;exact z
def Yd(k:Nat)(l:List q8):nN k l++[0]≠[]:=bE _<|aX _ _
def Vg(k:Nat)(l:List q8)(c:Nat)(a:Bool):TN (10::(nN k l++[0])) c a (yN k l) (HT k l).length true:=
 .nl (t:=[]) nofun (CC (.inl rfl)<|Yd k l) (Vf k l true)
def aby(k:Nat)(l:List q8)(c:Nat)(a:Bool):TN (yN k l) c a (yN k l) c a:=by refine fX λgG=>?_;obtain⟨x,r,e,n,-⟩:=N6 k l;refine gG ?_;rw[e];exact .stop (t:=[]) nofun n
noncomputable def yO(N k:Nat)(v:LN)(i:Int):List q8->qY
 |[]=>yy i<|N-1
 |(st,w)::l=>xK i (N-(yN k<|(st,w)::l).length)++(⟨.scalar v st,N-(w++(yM st++(nN k l++[0]))).length,N-(yM st++(nN k l++[0])).length⟩::yO N k v k l)
def FU{N k:Nat}{v:LN}{i:Int}{st:Option LN}{w:LN}{l:List q8}:yO N k v i ((st,w)::l)=xK i (N-(yN k<|(st,w)::l).length)++(⟨.scalar v st,N-(w++(yM st++(nN k l++[0]))).length,N-(yM st++(nN k l++[0])).length⟩::yO N k v k l):=rfl
def N7{N k:Nat}{v:LN}{i:Int}:yO N k v i []=yy i (N-1):=rfl
def strm{N k:Nat}{v:LN}(l:List q8):(∀p∈l,Itm k v p)->∀{r c a i c1 a1},TN r c a (yN k l) c1 a1->(l≠[]->c1=k/\a1=true)->(i=-1∨i=(k:Int))->pA N r c a i false (yO N k v i l):=by
 induction l with
 |nil=>intro _ r c a i c1 a1 hT _ _;have z:=pA.cons (N:=N) (i:=i) hT .stop λj j=>.nil;rw[bf]at z;exact z
 |cons p l ih=>
  intro hI r c a i c1 a1 hT h1 hi;obtain⟨st,w⟩:=p;obtain⟨rfl,rfl⟩:=h1<|aX _ _;have hI':∀p∈l,Itm c1 v p:=λq m=>hI q<|.tail _ m;have sp:=N5 c1 l;have nx:∀c,pA N (10::(nN c1 l++[0])) c false c1 false (yO N c1 v c1 l):=λc=>ih hI' (Vg c1 l c false) (λn=>⟨sp.2.2 n,rfl⟩)<|.inr rfl;have nx2:pA N (yN c1 l) (HT c1 l).length true c1 false (yO N c1 v c1 l):=ih hI' (aby c1 l _ true) (λn=>⟨sp.2.2 n,rfl⟩)<|.inr rfl;have t32:∀{x:Nat} {r:LN},x∉32::35::jV->TN (32::x::r) (c1+1) true (x::r) (c1+2) true:=λn=>.stop (t:=[32]) (λy m=>aj.mp m) n;obtain⟨x,r0,ed,nd,dm⟩:=N6 c1 l;have nd':x∉32::jV:=λm=>nd<|(by decide:∀x∈32::jV,x∈32::35::jV) x m;have eL:nN c1 l++[0]=HT c1 l++x::r0:=ed▸Ve c1 l;rw[ed]at nx2;refine .cons hT (.entry (by decide) hi) λc2 hc2=>?_;subst hc2;have K:=hI _<|.head _;have e1:((c1:Nat):Int)+1=((c1+1:Nat):Int):=rfl;generalize nN c1 l++[0]=L at*;cases K with
  |@q d w h=>
   have en:yM (some [qc d])=[10]:=by cases d<;>decide
   rw[en,show qc d::(w++[qc d])++([10]++L)=qc d::(w++qc d::10::L)from by rw[c8,aW];rfl];exact .cons (ts:=[_]) (t32<|by cases d<;>decide) (.quoted (h L)<|by omega) λc j=>nx c
  |@b fd w h=>
   have en:yM (some [cond fd 62 124])=[]:=by cases fd<;>decide
   rw[en,ck,c8];have z:=h (HT c1 l) x r0 sp.1 sp.2.1 nd';rw[<-eL]at z;exact .cons (ts:=[_]) (t32<|by cases fd<;>decide) (.block z e1<|by omega) λc hc=>hc▸nx2
  |@p y w n1 n2 n3 h=>
   have z:=h (HT c1 l) x r0 sp.1 sp.2.1 nd' dm;rw[<-eL]at z;rw[show yM none=[10]from rfl,c8,List.singleton_append];obtain⟨g,r',eg,eh⟩:∃g r',w++10::L=g::r'/\(w++[10]).headD 0=g:=by induction w with|nil=>exact⟨_,_,rfl,rfl⟩|cons g w=>exact⟨_,_,rfl,rfl⟩
   rw[eg]at z⊢;exact .cons (ts:=[_]) (t32 n1) (.plain z e1 (by omega) (by lia) n2<|eh▸n3) λc hc=>hc▸nx2
def yP(k:Nat)(v:LN):Nat->List q8->List Due
 |_,[]=>[]
 |n,(st,w)::l=>.value v st (n+k+2) (n+k+2+w.length)::yP k v (n+k+2+w.length+(yM st).length) l
def FY{k n:Nat}{v:LN}{st:Option LN}{w:LN}{l:List q8}:yP k v n ((st,w)::l)=.value v st (n+k+2) (n+k+2+w.length)::yP k v (n+k+2+w.length+(yM st).length) l:=rfl
def Ye{k n:Nat}{v:LN}:yP k v n []=[]:=rfl
noncomputable abbrev AO:List Due:=[.Cq,.qZ,.uA]
def HU{k:Nat}{st:Option LN}{w:LN}{l:List q8}:(nN k<|(st,w)::l).length=k+2+w.length+(yM st).length+(nN k l).length:=by rw[FQ];simp only[aT,bz,aU];lia
def N8{k:Nat}{st:Option LN}{w:LN}{l:List q8}:(nN k ((st,w)::l)++[0]).length=k+2+(w.length+((yM st).length+(nN k l++[0]).length)):=by rw[aT,HU,aT];simp only[dZ]
def CI{N n k:Nat}{v:LN}{st:Option LN}{w:LN}{l:List q8}(hN:N=n+(nN k ((st,w)::l)++[0]).length):Due.value v st (N-(w++(yM st++(nN k l++[0]))).length) (N-(yM st++(nN k l++[0])).length)=.value v st (n+k+2) (n+k+2+w.length)/\N=n+k+2+w.length+(yM st).length+(nN k l++[0]).length:=by rw[N8,<-dZ n]at hN;rw[aT,aT,hN];refine⟨?_,by simp only[dZ]⟩;rw[Nat.add_sub_cancel,<-dZ<|n+(k+2),Nat.add_sub_cancel];rfl
def FZ{N k:Nat}{v:LN}(l:List q8):∀n,N=n+(nN k l++[0]).length->∃es,AP (some .halfDown) (yO N k v k l) es/\es.map ua=yP k v n l++AO:=by
 induction l with
 |nil=>intro n _;rw[N7,yy,aE<|by lia];exact⟨_,.more (.aaM rfl) (.more (.close<|show TK.send.ids≠Ft from by decide)<|.more (.fin rfl) .stop),rfl⟩
 |cons p l ih=>intro n hN;obtain⟨st,w⟩:=p;obtain⟨es,h1,h2⟩:=ih _ (CI (v:=v) hN).2;rw[FU,xK,aE<|by lia];refine⟨_,.more (.item rfl) h1,?_⟩;rw[cG,h2,FY,c8];exact aq (·::_) (CI hN).1
noncomputable def CJ(mk:Bool):LN:=if mk then[45,45,45,10]else[]
def Ar(mk:Bool)(k:Nat)(l:List q8):LN:=CJ mk++nN k l
def ad6(mk:Bool)(k:Nat)(v:LN)(l:List q8):List Due:=.stream::.document mk::.row::(yP k v (CJ mk).length l++AO)
def SO(N k:Nat)(v:LN)(l:List q8):∀i,(yO N k v i l).length<=3*l.length+2:=by
 have e:∀i n,(xK i n).length<=2:=λi n=>by unfold xK;split<;>simp
 induction l with
 |nil=>intro i;rw[N7];unfold yy;split<;>simp
 |cons p l ih=>intro i;have a:=ih k;have b:=e i<|N-(yN k<|(p.1,p.2)::l).length;rw[FU,aT,aU,aU];lia
def SP(k:Nat)(v:LN)(l:List q8):∀n,(yP k v n l).length=l.length:=by
 induction l with
 |nil=>exact λz=>rfl
 |cons p l ih=>exact λn=>aq Nat.succ<|ih _
def N9{k:Nat}{v:LN}{l:List q8}(mk:Bool)(hl:l≠[])(hI:∀p∈l,Itm k v p):∃r es,pA (Ar mk k l++[0]).length (Ar mk k l++[0]) 0 true (-1) false r/\AP (some .up) (⟨.jG,0,0⟩::r) es/\es.map ua=ad6 mk k v l/\r.length<=3*l.length+3:=by
 have sp:=N5 k l;have tl:=λN=>SO N k v l<|-1;obtain⟨⟨st,w⟩,l2,rfl⟩:=fV hl;have ev:∀n N,N=n+(nN k ((st,w)::l2)++[0]).length->∃es,AP (some .halfUp) (yO N k v (-1)<|(st,w)::l2) es/\es.map ua=yP k v n ((st,w)::l2)++AO/\∃e ts,yO N k v (-1) ((st,w)::l2)=⟨.wz,e,e⟩::ts:=λn N hN=>by refine fX λgG=>?_;obtain⟨es,h1,h2⟩:=FZ (v:=v) l2 _ (CI (v:=v) hN).2;refine gG ?_;rw[FU,xK,aF rfl];refine⟨_,.more (.UG rfl) h1,?_,_,_,rfl⟩;rw[cG,h2,FY,c8];exact aq (·::_) (CI hN).1
 induction mk with
 |false=>
  refine fX λgG=>?_;obtain⟨es,ht,hd,e,ts,et⟩:=ev 0 (Ar false k ((st,w)::l2)++[0]).length<|by rw[bQ];rfl
  refine gG ?_;refine⟨_,⟨.jG,0,0⟩::⟨.jq false,e,e⟩::⟨.row,e,e⟩::es,strm _ hI (Vf k ((st,w)::l2) true) (λn=>⟨sp.2.2 n,rfl⟩)<|.inl rfl,.more (.first rfl) ?_,?_,eG<|tl _⟩
  ·change AP _ (yO (Ar false k ((st,w)::l2)++[0]).length k v (-1)<|(st,w)::l2) _;rw[et]at ht⊢;exact .more (.bare<|show TK.wz.ids∉_ from by decide)<|.more (.block rfl) ht
  ·exact aq (Due.stream::Due.document false::Due.row::·) hd
 |true=>
  refine fX λgG=>?_;obtain⟨es,ht,hd,e,ts,et⟩:=ev 4 (Ar true k ((st,w)::l2)++[0]).length<|by unfold Ar;rw[aT,aT,aT];exact dZ ..
  refine gG ?_;have z:=pA.cons (N:=(Ar true k ((st,w)::l2)++[0]).length) (.stop (t:=[]) (c:=0) (a:=true) nofun (by decide:45∉32::35::jV)) (.jq (by decide) (r:=nN k ((st,w)::l2)++[0]) (x:=10)) λc2 y=>strm _ hI (Vg k ((st,w)::l2) c2 false) (λn=>⟨sp.2.2 n,rfl⟩)<|.inl rfl;refine⟨_,⟨.jG,0,0⟩::⟨.jq true,_,_⟩::⟨.row,e,e⟩::es,z,.more (.first rfl)<|.more (.open_ rfl) ?_,?_,aP<|tl _⟩
  ·rw[et]at ht⊢;exact .more (.content rfl) ht
  ·exact aq (Due.stream::Due.document true::Due.row::·) hd
abbrev Pr(l:LN):Prop:=∀c∈l,Fx c=true
def Pr.app{a b:LN}(h:Pr a)(k:Pr b):Pr (a++b):=λc m=>(bF.mp m).elim (h c)<|k c
def Pr.cons{a:Nat}{b:LN}(h:Fx a=true)(k:Pr b):Pr (a::b):=λc m=>(ao.mp m).elim (λe=>e▸h)<|k c
def pY:Pr []:=nofun
def Oa{c:Nat}(h:c∈vcs)(n:c≠7):Fx c=true:=(by decide:∀c∈vcs,c≠7->Fx c=true) c h n
def Ef{l:LN}(h:∀c∈l,c∈FN):Pr l:=λc m=>(by decide:∀c∈FN,Fx c=true) c<|h c m
def Eg(n:Nat):Pr (replicate n 32):=λc m=>by rw[(List.mem_replicate.mp m).2];decide
def Yg{c:Nat}{e:LN}(h:qe c=some e):Pr e:=by
 unfold qe at h
 repeat' split at h
 all_goals first|(cases h;decide)|cases h
def xX{c:Nat}(h:Fx c=true):Pr [c]:=.cons h pY
section
variable{s0 s1:Nat}{mg:LN}
def Yh(hm:Pr mg)(t:LN):∀j p,(∀c∈t,c∈vcs)->Pr (uf s0 s1 mg j p t):=by
 induction t with
 |nil=>exact λz z z=>pY
 |cons c t ih=>
  intro j p hv;rw[xV];refine .app ?_<|.app ?_<|ih _ _ λx m=>hv x<|.tail _ m
  ·unfold qo;cases he:qe c with
   |some e=>exact Yg he
   |none=>
    dsimp only;split
    ·decide
    ·split
     ·decide
     ·split
      ·exact .app (Ef<|zm _ _ _) hm
      ·exact xX<|Oa (hv c<|.head _) λe=>by rw[e]at he;cases he
  ·unfold ue;split
   ·exact .cons (by decide)<|.app (Ef<|zm _ _ _) hm
   ·exact pY
def Ob(hm:Pr mg)(t:LN):∀j p,Pr t->Pr (lM s0 s1 mg j p t):=by
 induction t with
 |nil=>exact λz z z=>pY
 |cons c t ih=>
  intro j p h;rw[xR];refine .app ?_<|ih _ _ λx m=>h x<|.tail _ m;split
  ·exact .app (Ef<|zm _ _ _) hm
  ·exact xX<|h c<|.head _
def SQ{f:Bool}{rows:rP}{v:LN}(h:RW f rows v):7∉v->∀p∈rows,Pr p.1:=by
 induction h with
 |one hr _ _=>exact λh7 p m=>by rw[aj.mp m];exact λc q=>Oa (hr c q).1 λe=>h7<|bW _<|e▸q
 |cons hr _ _ _ _ ih=>
  intro h7 p m;rcases ao.mp m with rfl|m
  ·exact λc q=>Oa (hr c q).1 λe=>h7<|bW _<|e▸q
  ·exact ih (λq=>h7<|bx _<|bx _ q) p m
def HV(hm:Pr mg){rows:rP}(h:∀p∈rows,Pr p.1):Pr (nu s0 s1 mg rows):=by
 induction rows with
 |nil=>exact pY
 |cons p rows ih=>
  rw[qn];refine .app (Ob hm _ _ _<|h _<|.head _)<|.app ?_<|ih λq m=>h q<|.tail _ m;split
  ·exact pY
  ·exact .app (Ef<|wX _ _ _) hm
def Yi(hm:Pr mg){fd:Bool}{rows:rP}(h:∀p∈rows,Pr p.1):Pr (vq s0 s1 fd mg rows):=by
 induction rows with
 |nil=>exact pY
 |cons p rows ih=>
  rw[xW];refine .app ?_<|.app (Ef<|wX _ _ _)<|ih λq m=>h q<|.tail _ m;unfold uP;split
  ·exact pY
  ·refine .app hm ?_;split
   ·exact Ob hm _ _ _<|h _<|.head _
   ·exact h _<|.head _
def Yj{l:LN}(h:Pr l):Pr (pX l):=by
 induction l with
 |nil=>exact pY
 |cons c l ih=>
  show Pr ((if c=39 then[39,39]else[c])++pX l);refine .app ?_<|ih λx m=>h x<|.tail _ m;split
  ·decide
  ·exact xX<|h c<|.head _
def abz{l:LN}{i:Option Nat}(h:DG l i):Pr l:=by induction h with|n=>exact pY|y b=>cases b<;>decide
def abA{l:LN}{i:Option Bool}(h:CH l i):Pr l:=by induction h with|n=>exact pY|y b=>cases b<;>decide
def Oc{s0 s1 h:Nat}{v:LN}(hv:∀c∈v,c∈vcs):∀p∈kq s0 s1 h v,Pr p.2:=by
 have hw:=CD v [] [] true hv nofun nofun nofun;rw[ck,ck]at hw;have hr:=SQ hw;refine uC (P:=λp=>Pr p.2) (.cons (by decide)<|.app (Yh (Eg _) v 0 0 hv)<|xX<|by decide) (λh7 fd=>?_) (λh7 z=>.cons (by decide)<|.app (Yj<|HV (Eg _)<|hr h7)<|xX<|by decide) λh7 z=>HV (Eg _)<|hr h7;obtain⟨inc,hd,-⟩:=N4 (s0:=s0) (s1:=s1)<|ko<|gO v [] [];obtain⟨ch,hc,-⟩:=Ed (s0:=s0) (s1:=s1) v (ko<|gO v [] [])<|qP<|gO v [] [];have d:=abz hd;have c:=abA hc;refine .app (.cons (by cases fd<;>decide)<|.app ?_<|xX<|by decide)<|Yi (Eg _)<|hr h7;split
 ·exact d.app c
 ·exact c.app d
def SS{mk:Bool}{k:Nat}{l:List q8}(h:∀p∈l,Pr p.2):Pr (Ar mk k l):=by
 refine .app (by cases mk<;>decide) ?_;induction l with
 |nil=>exact pY
 |cons p l ih=>exact .app (Eg _)<|.cons (by decide)<|.cons (by decide)<|.app (h p<|.head _)<|.app (by unfold yM;split<;>decide)<|ih λq m=>h q<|.tail _ m
def Od(st:Option LN):(yM st).length<=1:=by unfold yM;split;exact aD _;exact cg _
def Yk{k:Nat}(hk:k<3){l:List q8}(h:∀p∈l,p.2.length<=300):(nN k l).length<=305*l.length:=by
 induction l with
 |nil=>exact aD _
 |cons p l ih=>have a:=ih λq m=>h q<|.tail _ m;have b:=h p<|.head _;have c:=Od p.1;have e:=HU (k:=k) (st:=p.1) (w:=p.2) (l:=l);have e:(nN k<|p::l).length=_:=e;rw[e,aU];lia
abbrev lDu:IS:=ye iP.ib 13
def Yl{a b k n:Nat}(hk:k<3)(h:b<=300)(ht:a+305*(n+1)<5000):a+k+2+b<=6000:=aa (fW (fW (fW (cA<|ah (aA ..) ht)<|cA hk)<|aD 2) h)<|by decide
def Ym{a b c k n:Nat}(hk:k<3)(h:b<=300)(hc:c<=1)(ht:a+305*(n+1)<5000):a+k+2+b+c+305*n<5000:=ah (aa (gc (show a+k+2+b+c<=a+305 from show _<=a+2+2+300+1 from fW (fW (fW (fW (aD a)<|Nat.le_of_lt_succ hk)<|aD 2) h) hc) _) (dH ((dZ ..).trans (aq (a+·)<|dK 305 _)))) ht
abbrev Oe(st:Option LN):Prop:=st=none∨st=some [34]∨st=some [124]∨st=some [62]∨st=some [39]
variable{Q:QF}{v0 v1 v2 v3 v6 v7 v8 v9 v10:nF}{k d:Nat}{v:LN}
def DK{α:Type}(Q:QF)(F:LN->α->Loc)(d:Nat)(ds:List Due)(t:LN):Prop:=∀H' a,HW H'->H'.at_ d=some (.list<|ds.map oE)->Q .next (F t a) H'
def abB{ds:List Due}{tx w:LN}{st:Option LN}{l:List q8}{n:Nat}(e:n=tx.length+k+2+w.length+(yM st).length):ds++yP k v tx.length ((st,w)::l)=ds++[Due.value v st (tx.length+k+2)<|tx.length+k+2+w.length]++yP k v n l:=by rw[FY,e,aW];rfl
def abC{tx w:LN}{st:Option LN}{l:List q8}:tx++nN k ((st,w)::l)=tx++replicate k 32++[45,32]++w++yM st++nN k l:=by rw[FQ];simp only[aW,c8,ck]
def Of(hk:k<3)(hv:v.length<100):∀(l:List q8) (tx:LN) (ds:List Due) (H:MH) (SU SV SW:nF),(∀p∈l,Oe p.1/\p.2.length<=300)->tx.length+305*l.length<5000->ds.length+l.length<100->HW H->H.at_ d=some (.list<|ds.map oE)->
  DK Q (λt (a:nF×nF×nF)=>[v0,v1,v2,v3,some<|.str v,some<|.str<|replicate k 32,v6,v7,v8,v9,v10,some<|.str t,some<|.ref d,none,none,none,a.1,a.2.1,a.2.2]) d (ds++yP k v tx.length l) (tx++nN k l)->
  FW zL (rC lDu) ((l.map λp=>[Rz p.1,MV.str p.2]).map λp Lc=>nJ [16,17] p Lc) [v0,v1,v2,v3,some<|.str v,some<|.str<|replicate k 32,v6,v7,v8,v9,v10,some<|.str tx,some<|.ref d,none,none,none,SU,SV,SW] H Q:=by
 have big:(20000:Nat)<=gP:=aB<|by rfl
 intro l;induction l with
 |nil=>intro tx ds H SU SV SW _ _ _ hw o hq;rw[Ye,Yc,bf,bf]at hq;exact FW.nil<|hq H (SU,SV,SW) hw o
 |cons p l ih=>
  intro tx ds H SU SV SW hp ht hd hw o hq;obtain⟨st,w⟩:=p;have s1:Oe st:=(hp _<|.head _).1;have s2:w.length<=300:=(hp _<|.head _).2;have nl:=Od st;have rk:(replicate k 32).length=k:=bz;have e2:(tx++replicate k 32).length=tx.length+k:=by rw[aT,rk]
  have e3:(tx++replicate k 32++[45,32]).length=tx.length+k+2:=by rw[aT,e2];rfl
  have e4:(tx++replicate k 32++[45,32]++w).length=tx.length+k+2+w.length:=by rw[aT,e3]
  have tl:(tx++replicate k 32++[45,32]++w++yM st).length=tx.length+k+2+w.length+(yM st).length:=by rw[aT,e4]
  have b4:tx.length+k+2+w.length<=6000:=Yl hk s2 ht;have b0:=λ{n:Nat} (h:n<=6000)=>ah h<|aL (by decide:6000<20000) big;have b3:tx.length+k+2<=6000:=fY b4;have K':∀SU SV SW tx' dv,tx'=tx++replicate k 32++[45,32]++w++yM st->dv=oE (.value v st (tx.length+k+2)<|tx.length+k+2+w.length)->FW zL (rC lDu) ((l.map λp=>[Rz p.1,MV.str p.2]).map λp Lc=>nJ [16,17] p Lc) [v0,v1,v2,v3,some<|.str v,some<|.str<|replicate k 32,v6,v7,v8,v9,v10,some<|.str tx',some<|.ref d,none,none,none,SU,SV,SW] (H.put d<|.list<|ds.map oE++[dv]) Q:=λSU SV SW tx' dv e ev=>e▸ih _ (ds++[Due.value v st (tx.length+k+2)<|tx.length+k+2+w.length]) _ _ _ _ (λp m=>hp p<|.tail _ m) (by rw[tl];exact Ym hk s2 nl ht) (by rw[aT,dZ,dK _ l.length];exact hd) (hw.put o) (gB.trans<|by rw[ev,bJ];rfl) λH2 a hw2 o2=>by rw[<-abC];exact hq H2 a hw2 (by rw[abB tl];exact o2)
  clear hq ih hp;refine FW.cons (fs:=[]) nofun ⟨by rw[rk];exact b0<|fY b3,?_⟩;have l3:(tx++replicate k 32++[45,32]).length+w.length<gP:=by rw[e3];exact b0 b4
  have l2:(tx++replicate k 32).length+([45,32]:LN).length<gP:=by rw[e2];exact b0 b3
  have ld:(ds.map oE).length<gP:=by rw[aV];exact b0<|cA<|ah (aA ..)<|aK hd<|by decide
  refine⟨l2,?_⟩;have l4:(tx++replicate k 32++[45,32]).length<gP:=by rw[e3];exact b0 b3
  have l5:w.length<gP:=b0<|aa s2<|by decide
  have e5:(((tx++replicate k 32++[45,32]).length:Nat):Int)=((tx.length+k+2:Nat):Int):=aq Int.ofNat e3;have l6:(tx++replicate k 32++[45,32]++w).length+([10]:LN).length<gP:=by rw[e4];exact ah (aP b4) (aL (by decide) big)
  clear nl s2 hd ht tl e2 e3 e4 b4 b0 b3 l2 hw;rcases s1 with rfl|rfl|rfl|rfl|rfl
  ·exact⟨nB o,l4,l4,l5,rJ o ⟨ld,l3,l6,K' _ _ _ _ _ rfl<|by rw[e5];rfl⟩⟩
  ·exact⟨nB o,l4,l4,l5,rJ o ⟨ld,l3,l6,K' _ _ _ _ _ rfl<|by rw[e5];rfl⟩⟩
  ·exact⟨nB o,l4,l4,l5,rJ o ⟨ld,l3,K' _ _ _ _ _ (bf _).symm<|by rw[e5];rfl⟩⟩
  ·exact⟨nB o,l4,l4,l5,rJ o ⟨ld,l3,K' _ _ _ _ _ (bf _).symm<|by rw[e5];rfl⟩⟩
  ·exact⟨nB o,l4,l4,l5,rJ o ⟨ld,l3,l6,K' _ _ _ _ _ rfl<|by rw[e5];rfl⟩⟩
noncomputable def SX(h:Nat)(v:LN)(fs:List q8):List q8:=(fs.drop (h/3%fs.length)++fs.take (h/3%fs.length)).take<|if 5<v.length then 3 else 5
def Eh{s0 s1 h:Nat}{v:LN}:(∀p∈kq s0 s1 h v,Oe p.1)/\(kq s0 s1 h v).length<=5/\kq s0 s1 h v≠[]:=by
 refine⟨uC (P:=λp=>Oe p.1) (.inr<|.inl rfl) (λz fd=>by cases fd;exact .inr<|.inr<|.inl rfl;exact .inr<|.inr<|.inr<|.inl rfl) (λz z=>.inr<|.inr<|.inr<|.inr rfl) λz z=>.inl rfl,?_,aX _ _⟩
 ·unfold kq;split
  ·exact aB rfl
  ·rw[aU,aT,aT];split<;>split<;>exact aB rfl
def F0{h:Nat}{v:LN}{fs:List q8}:∀p∈SX h v fs,p∈fs:=λp m=>(bF.mp<|dB m).elim eU dB
def Og{h:Nat}{v:LN}{fs:List q8}(n:fs≠[]):(SX h v fs).length<=5/\SX h v fs≠[]:=by refine⟨aa (List.length_take_le _ _) (by split<;>decide),λq=>(List.take_eq_nil_iff.mp q).elim (λz=>?_) λz=>n<|(List.take_append_drop (h/3%fs.length) fs).symm.trans<|by rw[(bA.mp z).1,(bA.mp z).2];rfl⟩;split at z<;>exact aG z<|by decide
noncomputable abbrev Ei(mk:Bool):List Due:=[.stream,.document mk,.row]
def Oh{α:Type}(l:List α)(n:Nat)(h:n<=l.length):pB l (some (n:Int)) none=l.drop n:=by unfold pB oH qC;simp only[o7];rw[eZ h,dh<|by rw[cy];exact aD _]
variable{H:MH}{j r:Nat}
set_option maxHeartbeats 4000000 in
def ad8{h s0 s1 i:Nat}{v:LN}{A:Fs}(hv:v.length<=16)(hh:h<27720)(hA:CB A)(hw:HW H)(o:H.at_ i=some (yK<|kq s0 s1 h v))
  (K:∀m H' d l9 SU SV SW,HW H'->H'.at_ d=some (.list<|(Ei (decide<|h/6%2=1)++yP (h%3) v (CJ<|decide<|h/6%2=1).length (SX h v<|kq s0 s1 h v)).map oE)->run (m+90) (cL Q) [iT iP.ib 14] ⟨[],[some<|.ref j,some<|.ref r,some<|.int h,some<|kj s0 s1,some<|.str v,some<|.str<|JM h,some<|.int<|(h%3+1:Nat),some<|.str<|sA h,some<|.ref i,l9,some<|.bool<|decide<|h/6%2=1,some<|.str<|Ar (decide<|h/6%2=1) (h%3)<|SX h v<|kq s0 s1 h v,some<|.ref d,none,none,none,SU,SV,SW],[],[],H'⟩)(m:Nat):run (m+100) (cL Q) [iT iP.ib 9] ⟨A++((8,.ref i)::Va r h s0 s1 v),wQ j,[],[],H⟩:=by
 have big:(20000:Nat)<=gP:=aB<|by rfl
 have q3:(h:Int).fdiv 3=((h/3:Nat):Int):=Nv h 3;have q6:(h:Int).fdiv 6=((h/6:Nat):Int):=Nv h 6;have q62:((h/6:Nat):Int).fmod 2=((h/6%2:Nat):Int):=JN (h/6) 2;obtain⟨f1,f2,f3⟩:=Eh (s0:=s0) (s1:=s1) (h:=h) (v:=v);have f4:∀p∈kq s0 s1 h v,p.2.length<=300:=Ea hv;generalize kq s0 s1 h v=fs at*;have c1:=Og (h:=h) (v:=v) f3;have c2:∀p∈SX h v fs,Oe p.1/\p.2.length<=300:=λp m=>⟨f1 p<|F0 p m,f4 p<|F0 p m⟩;have l0:fs.length≠0:=λe=>f3<|bH.mp e;have m3:h%3<3:=cC _<|by decide
 have mt:h/3%fs.length<=fs.length:=cA<|cC _<|gn l0;have ef:(fs.map pe).length=fs.length:=aV _;have qt:((h/3:Nat):Int).fmod ((fs.map pe).length:Nat)=((h/3%fs.length:Nat):Int):=by rw[ef];exact JN _ _
 have K12:∀mk,mk=decide (h/6%2=1)->∀A',CB A'->run (m+98) (cL Q) [iT iP.ib 11] ⟨(10,.bool mk)::(9,.int (h/3%fs.length:Nat))::(A'++((8,.ref i)::Va r h s0 s1 v)),wQ j,[],[],H⟩:=by
  intro mk emk A' hA';rw[<-emk]at K;have o1:∀{D:MO},(H.new D).at_ i=some (yK fs):=λ{D}=>(g8<|av<|hw _ _ o).trans o;have K13:∀A',CB A'->run (m+96) (cL Q) [iT iP.ib 13] ⟨(12,.ref H.n)::(11,.str<|CJ mk)::(10,.bool mk)::(9,.int (h/3%fs.length:Nat))::(A'++((8,.ref i)::Va r h s0 s1 v)),wQ j,[],[],H.new<|.list<|(Ei mk).map oE⟩:=by
   intro A' hA';have w1:HW (H.new<|.list<|(Ei mk).map oE):=hw.new;have d1:(H.new<|.list<|(Ei mk).map oE).at_ H.n=some (.list<|(Ei mk).map oE):=gz;have o1:=o1 (D:=.list<|(Ei mk).map oE);generalize H.new (.list<|(Ei mk).map oE)=H1 at*;generalize H.n=d at*;have e1:pB (fs.map pe) (some ((h/3%fs.length:Nat):Int)) none=(fs.drop<|h/3%fs.length).map pe:=by rw[Oh _ _ (by rw[ef];exact mt),List.map_drop]
   have e2:pB (fs.map pe) none (some ((h/3%fs.length:Nat):Int))=(fs.take<|h/3%fs.length).map pe:=by rw[Cz,List.map_take]
   have o2:(H1.new<|.list<|(fs.drop<|h/3%fs.length).map pe).at_ i=some (yK fs):=(g8<|av<|w1 _ _ o1).trans o1;have K14:∀H4,qu H1 H4->FW zL (rC lDu) (((SX h v fs).map λp=>[Rz p.1,MV.str p.2]).map λp Lc=>nJ [16,17] p Lc) [some<|.ref j,some<|.ref r,some<|.int h,some<|kj s0 s1,some<|.str v,some<|.str<|JM h,some<|.int<|(h%3+1:Nat),some<|.str<|sA h,some<|.ref i,some<|.int (h/3%fs.length:Nat),some<|.bool mk,some<|.str<|CJ mk,some<|.ref d,none,none,none,none,none,none] H4 (kW zL<|stk (run<|m+95) (cL Q) [iT iP.ib 14]):=λH4 g=>by
    have pl:(CJ mk).length<=4:=by cases mk<;>exact aB rfl
    exact Of m3 (ah hv<|by decide) _ (CJ mk) (Ei mk) H4 none none none c2 (ah (fW pl<|f9 305 c1.1)<|by decide) (ah (dU c1.1 3)<|by decide) (g.hw w1) (g.old _ _ d1) λH' a Bh o'=>K (m+5) H' d _ a.1 a.2.1 a.2.2 Bh o'
   have fin:∀H4 n a,qu H1 H4->HW H4->n=(if 5<v.length then 3 else 5)->H4.at_ a=some (.list<|(fs.drop<|h/3%fs.length).map pe++(fs.take<|h/3%fs.length).map pe)->EO (.ref a) none (some (n:Nat)) H4 λu H5=>nR u λj5=>kg (H5.at_ j5) λxs=>∃ps:List gV,xs=ps.map .tup/\(∀p∈ps,p.length=[16,17].length)/\FW zL (rC lDu) (ps.map λp Lc=>nJ [16,17] p Lc) [some<|.ref j,some<|.ref r,some<|.int h,some<|kj s0 s1,some<|.str v,some<|.str<|JM h,some<|.int<|(h%3+1:Nat),some<|.str<|sA h,some<|.ref i,some<|.int (h/3%fs.length:Nat),some<|.bool mk,some<|.str<|CJ mk,some<|.ref d,none,none,none,none,none,none] (H5.del j5) (kW zL<|stk (run<|m+95) (cL Q) [iT iP.ib 14]):=λH4 n a g w4 en o4=>by
    refine OC o4<|JL gz ⟨(SX h v fs).map λp=>[Rz p.1,MV.str p.2],?_,?_,K14 _<|g.trans<|.del w4⟩
    ·rw[Cz,<-bJ,<-List.map_take,en,bZ];rfl
    ·intro p m;obtain⟨q,_,rfl⟩:=bU.mp m;rfl
   have w3:=(w1.new (o:=.list<|(fs.drop<|h/3%fs.length).map pe)).new (o:=.list<|(fs.take<|h/3%fs.length).map pe);have g4:qu H1 (((H1.new<|.list<|(fs.drop<|h/3%fs.length).map pe).new<|.list<|(fs.take<|h/3%fs.length).map pe).new<|.list<|(fs.drop<|h/3%fs.length).map pe++(fs.take<|h/3%fs.length).map pe):=((qu.new w1).trans<|.new w1.new).trans<|.new w3;have lv:v.length<gP:=ah hv<|aL (by decide) big;have ll:((fs.drop<|h/3%fs.length).map pe).length+((fs.take<|h/3%fs.length).map pe).length<=gP:=by rw[aV,aV,cy,dI,eZ mt,Nat.sub_add_cancel mt];exact aa f2<|aa (by decide) big
   have oa:((H1.new<|.list<|(fs.drop<|h/3%fs.length).map pe).new<|.list<|(fs.take<|h/3%fs.length).map pe).at_ H1.n=some (.list<|(fs.drop<|h/3%fs.length).map pe):=(g8<|av<|bS _).trans gz;have ob:((H1.new<|.list<|(fs.drop<|h/3%fs.length).map pe).new<|.list<|(fs.take<|h/3%fs.length).map pe).at_ (H1.n+1)=some (.list<|(fs.take<|h/3%fs.length).map pe):=gz;by_cases gt:5<v.length
   ·have f:=fin _ 3 _ g4 w3.new (aF gt).symm gz;have gt':((v.length:Nat):Int)>5:=gb.mpr gt;cases hA' with
    |no=>refine OC o1 ?_;rw[e1];refine OC o2 ?_;rw[e2];exact JL oa<|JL ob ⟨ll,lv,dT gt'<|Eq.mp (by kernel_rfl) f⟩
    |yes=>refine OC o1 ?_;rw[e1];refine OC o2 ?_;rw[e2];exact JL oa<|JL ob ⟨ll,lv,dT gt'<|Eq.mp (by kernel_rfl) f⟩
   ·have f:=fin _ 5 _ g4 w3.new (aE gt).symm gz;have gt':¬((v.length:Nat):Int)>5:=λz=>gt<|gb.mp z;cases hA' with
    |no=>refine OC o1 ?_;rw[e1];refine OC o2 ?_;rw[e2];exact JL oa<|JL ob ⟨ll,lv,dF gt'<|Eq.mp (by kernel_rfl) f⟩
    |yes=>refine OC o1 ?_;rw[e1];refine OC o2 ?_;rw[e2];exact JL oa<|JL ob ⟨ll,lv,dF gt'<|Eq.mp (by kernel_rfl) f⟩
  induction mk with
  |true=>induction hA' with
   |no=>exact K13 [] .no
   |yes=>exact K13 [_] .yes
  |false=>induction hA' with
   |no=>exact K13 [] .no
   |yes=>exact K13 [_] .yes
 induction hA with
 |no=>refine⟨⟨(Cr hh<|by decide).1,(Cr hh<|by decide).2,by decide,by decide⟩,yx o ⟨by rw[ef];exact λz=>l0<|gk z,?_⟩⟩;rw[q3,qt];refine⟨⟨(Cr hh<|by decide).1,(Cr hh<|by decide).2,by decide,by decide⟩,by decide,?_⟩;rw[q6,q62];exact K12 _ (cw.mpr<|Int.ofNat_inj (n:=1)) [] .no
 |yes=>refine⟨⟨(Cr hh<|by decide).1,(Cr hh<|by decide).2,by decide,by decide⟩,yx o ⟨by rw[ef];exact λz=>l0<|gk z,?_⟩⟩;rw[q3,qt];refine⟨⟨(Cr hh<|by decide).1,(Cr hh<|by decide).2,by decide,by decide⟩,by decide,?_⟩;rw[q6,q62];exact K12 _ (cw.mpr<|Int.ofNat_inj (n:=1)) [_] .yes
def Yn{H:MH}(ds:List Due):xr H 100 (ds.map oE) (ds.map oE):=by
 induction ds with
 |nil=>exact .nil
 |cons d ds ih=>
  induction d with
  |stream=>exact .tup (.flat trivial .nil) ih
  |document ex=>exact .tup (.flat trivial<|.flat trivial<|.flat trivial<|.flat trivial .nil) ih
  |row=>exact .tup (.flat trivial<|.flat trivial<|.flat trivial<|.flat trivial<|.flat trivial .nil) ih
  |value v st a z=>
   induction st with
   |none=>exact .tup (.flat trivial<|.flat trivial<|.flat trivial<|.tup (.flat trivial<|.flat trivial .nil)<|.flat trivial<|.flat trivial<|.flat trivial<|.flat trivial .nil) ih
   |some t=>exact .tup (.flat trivial<|.flat trivial<|.flat trivial<|.tup (.flat trivial<|.flat trivial .nil)<|.flat trivial<|.flat trivial<|.flat trivial<|.flat trivial .nil) ih
  |Cq=>exact .tup (.flat trivial .nil) ih
  |qZ=>exact .tup (.flat trivial<|.flat trivial .nil) ih
  |uA=>exact .tup (.flat trivial .nil) ih
end
section
variable{H:MH}{d:Nat}{l0 l1 l2 l3 l4 l5 l6 l7 l8 l9 l10 l16 l17 l18:nF}{Q:QF}{tx:LN}{ds:List Due}{r:qY}{es:List Co}
def ad9(w2:HW H)(o2:H.at_ d=some (.list<|ds.map oE++AO.map oE))(el:es.length<200)(hp:∀c∈tx,Fx c=true)(hl:tx.length<1999)(hs:pA (tx++[0]).length (tx++[0]) 0 true (-1) false r)(hr:r.length<90)(ht:AP (some .up) (⟨.jG,0,0⟩::r) es)(he:es.map ua=ds++AO)(hq:∀L H',Q (.ret<|.bool true) L H')(m:Nat):
  run (m+80) (cL Q) [iT iP.ib 15] ⟨[],[l0,l1,l2,l3,l4,l5,l6,l7,l8,l9,l10,some<|.str tx,some<|.ref d,none,none,none,l16,l17,l18],[],[],H⟩:=by
 refine Af (n:=11) w2 hp hl hs (by lia) λH2 s v G hst AN R eb old lt k1 k2 k3 k4 k5=>⟨rfl,?_⟩;have I:J1 H.n H2.n H.n s (H2.new<|.list []) [v] none (⟨.jG,0,0⟩::r) (Jt H.n<|some .up) [] []:=
  ⟨(G.new<|.list []).refl,gz,⟨aQ<|G.Bh _ _ G.T.sc.R.tok,λe=>by obtain⟨xs,z⟩:=G.T.sc.ind.lst;exact bI _<|e▸G.Bh _ _ z⟩,aQ<|G.Bh _ _ G.st,aQ<|G.Bh _ _ G.mr,λa m=>by
   simp only[AM,ao,bq,dz]at m;rcases m with m|m|m|m|m|m<;>rw[m]
   ·exact aD _
   ·exact k1
   ·exact k2
   ·exact k3
   ·exact k4
   ·exact k5,cA lt,cA<|aR lt⟩
 cases ht with
 |@more _ _ ts' e m' es hstp ht=>
  refine n8 I.G.obj ⟨rfl,(wL (n:=0) I.G rfl R hstp hst AN λs' H' gI k' v' ms' G' hm' hr' M1 M3 hv'=>?_).Aw⟩;obtain⟨I3,B3⟩:=I.step G';refine R0 ht s' H' gI k' ms' [] e v' I3 hm' hr' M3 M1 (by simp only[aU,aZ]at el⊢;lia) (G'.e1▸hv') λH4 h4 B4=>?_;have od:H4.at_ d=some (.list<|ds.map oE++AO.map oE):=(B3.trans B4) d _ (w2 _ _ o2)<|(g8<|av<|G.Bh _ _<|old _ _ o2).trans<|old _ _ o2;refine λQ' mm=>⟨H2.n,d,_,_,rfl,rfl,h4,od,?_,mm _ _ _<|hq _ _⟩;have ee:([]++(e::es).map λe=>oE<|ua e)=ds.map oE++AO.map oE:=by rw[ck,<-bJ,<-he,bZ];rfl
  rw[ee,<-bJ];exact Yn _
def aea(hw:HW H)(o:H.at_ d=some (.list<|ds.map oE))(hd:ds.length<100)(hp:∀c∈tx,Fx c=true)(hl:tx.length<1999)(hs:pA (tx++[0]).length (tx++[0]) 0 true (-1) false r)(hr:r.length<90)(ht:AP (some .up) (⟨.jG,0,0⟩::r) es)(he:es.map ua=ds++AO)(hq:∀L H',Q (.ret<|.bool true) L H')(m:Nat):
  run (m+90) (cL Q) [iT iP.ib 14] ⟨[],[l0,l1,l2,l3,l4,l5,l6,l7,l8,l9,l10,some<|.str tx,some<|.ref d,none,none,none,l16,l17,l18],[],[],H⟩:=by
 have big:(5000:Nat)<=gP:=aB<|by rfl
 have o1:(H.new<|.list<|AO.map oE).at_ d=some (.list<|ds.map oE):=(g8<|av<|hw _ _ o).trans o;have el:es.length=ds.length+3:=by have:=aq length he;rwa[aV,aT]at this
 exact⟨nB o,JX (ys:=AO.map oE) o1 gz ⟨by rw[aV];show ds.length+3<=gP;lia,ad9 (hw.new.put o1) gB (by omega) hp hl hs hr ht he hq<|m+9⟩⟩
end
section
variable{H:MH}{j:Nat}{Q:QF}{xs:List Int}
def SY(hj:H.at_ j=some (.Bu<|xs.map .int))(hw:HW H)(hq:∀L H',Q (.ret<|.bool true) L H'):run 400 (cL Q) [iP.ib] ⟨[],wQ j,[],[],H⟩:=by
 have g:∀n,(jx xs).getD n 0<27720:=λn=>by
  rw[bD];cases e:(jx xs)[n]? with
  |none=>decide
  |some x=>exact HL xs x<|bP e
 have hv:(vz<|jx xs).length<=16:=by rw[vz,xU];exact(Bs xs).1
 have vc:=JQ<|jx xs;have h0:=g 0;have h1:=g 1;have h2:=g 2;refine adY hj hw λH1 r w1=>ad2 w1 hv h0 h1 h2 λm H2 i A hA w2 o2=>ad8 hv h0 hA w2 o2 (λm H3 d l9 a b c w3 o3=>?_) m;generalize vz (jx xs)=v at*;generalize(jx xs).getD 0 0=h at*;have fi:=JR (s0:=(jx xs).getD 1 0) (s1:=(jx xs).getD 2 0) (h:=h) vc;have fp:=Oc (s0:=(jx xs).getD 1 0) (s1:=(jx xs).getD 2 0) (h:=h) vc;have fl:∀p∈kq ((jx xs).getD 1 0) ((jx xs).getD 2 0) h v,p.2.length<=300:=Ea hv;have cl:=Og (h:=h) (v:=v) (Eh (s0:=(jx xs).getD 1 0) (s1:=(jx xs).getD 2 0) (h:=h) (v:=v)).2.2;have cm:=F0 (h:=h) (v:=v) (fs:=kq ((jx xs).getD 1 0) ((jx xs).getD 2 0) h v);generalize kq ((jx xs).getD 1 0) ((jx xs).getD 2 0) h v=fs at*;generalize SX h v fs=l at*;generalize decide (h/6%2=1)=mk at*;obtain⟨r,es,hs,ht,he,hr⟩:=N9 (k:=h%3) mk cl.2 λp m=>fi p<|cm p m;have ll:=Yk (k:=h%3) (cC _<|by decide) λp m=>fl p<|cm p m;have tl:(Ar mk (h%3) l).length<1999:=by
  unfold Ar;rw[aT];have pl:(CJ mk).length<=4:=by cases mk<;>exact aB rfl
  have:=cl.1;lia
 exact aea w3 o3 (by rw[aT,SP];show 3+_<100;have:=cl.1;omega) (SS λp m=>fp p<|cm p m) tl hs (by have:=cl.1;lia) ht (he.trans<|by rw[aW];rfl) hq m
noncomputable def uh(l:Addr)(o:Obj):jK:=⟨λi=>i.casesOn (some (l,l)) λz=>none,[(l,o)],[],[(l,o)],[]⟩
noncomputable def Oi(xs:List Int):MH:=⟨1,λi=>i.casesOn (some<|.Bu<|xs.map .int) λz=>none⟩
def Oj(xs:List Int):HW (Oi xs):=λa o e=>by
 induction a with
 |zero=>exact Nat.zero_lt_one
 |succ a=>cases e
def Ol{S:jy}{w:World}{l:Addr}{vs:lO}{xs:List Int}(hv:jr (uh l<|listOf vs.toArray 0) (xs.map .int) vs)(len:xs.length<=1000000):lY S w (uh l<|listOf vs.toArray 0) (Oi xs):=by
 have a0:∀{i a},AV (uh l<|listOf vs.toArray 0) i a->i=0/\a=l:=λ{i a} h=>by
  induction i with
  |zero=>exact⟨rfl,h.elim λp z=>by cases z.1;exact z.2.elim id id⟩
  |succ i=>exact h.elim λp z=>nomatch z.1
 have hd:∀{p},(uh l<|listOf vs.toArray 0).held p->p=(l,listOf vs.toArray 0):=λh=>h.elim nofun λh=>h.elim aj.mp nofun;have hp:∀{p},(uh l<|listOf vs.toArray 0).held p->p∈(uh l<|listOf vs.toArray 0).news:=λh=>(hd h).symm▸.head _;have dm:=Oj xs;constructor
 ·exact(bN (a:=l) (l:=[])).mpr ⟨bq,List.nodup_nil⟩
 ·intro i p e;induction i with
  |zero=>exact Nat.zero_lt_one
  |succ i=>cases e
 ·exact dm
 ·exact λi a h=>(a0 h).2▸⟨_,.head _⟩
 ·exact λi j a h k=>(a0 h).1.trans (a0 k).1.symm
 ·intro i o e;induction i with
  |zero=>cases e;exact .mk l vs 0 rfl (.head _) hv<|by rw[aV];exact len
  |succ i=>cases e
 ·exact λp h=>hp h
 ·exact λp m=>aG m bq
 ·intro p h i o e z;induction i with
  |zero=>cases e;cases z
  |succ i=>cases e
def SZ(xs:List Int):(Oi xs).at_ 0=some (.Bu<|xs.map .int):=rfl
def Om:iP.ns[0]?=some (q "script"):=by kernel_rfl
def Oo(v:Value):((iP.ns.take 1).zip [v]).reverse.lookup (q "script")=some v:=by kernel_rfl
def JS:∀x∈(je<|sG 68).names,x.2≠.cell:=aJ<|by kernel_rfl
def Oq(v:Value):∀x∈(iP.ns.take 1).zip [v],(je<|sG 68).names.lookup x.1=some .local:=λx hx=>by rw[aj.mp<|show x∈[(q "script",v)]from hx];kernel_rfl
def JT{w:World}{s:Shared}{mg mb:Str->Option Value}{l:Addr}{vs:lO}{xs:List Int}{Q:qT}{E:qT}
  (X:(K w.params).In<|hideAll s.heap [l])(T:TopRead qv loose mg mb<|hideAll s.heap [l])(hl:s.heap.get? l=some (listOf vs.toArray 0))(hv:jr (uh l<|listOf vs.toArray 0) (xs.map .int) vs)(len:xs.length<=1000000)
  (hQ:∀s',(∀b o,s.heap.get? b=some o->s'.heap.get? b=some o)->s'.gens=s.gens->s'.os=s.os->Q (.bool true) s'):
  codeAny (model pw w) callerA (.call (.ref 1618) ⟨[.ref l],[]⟩) (λr s'=>match r with|.ok (.ret v)=>Q v s'|.ok _=>False|.error e=>E e s') s:=by
 have h:Ox (SG true) w B9 17 iP.ib (iQ iP.ns [.ref 0]) (Oi xs) (m9 λv d=>v=.bool true):=vj w 400 (SY (Q:=m9 λv d=>v=.bool true) (j:=0) (SZ xs) (Oj xs) λd d=>rfl) nofun λmf σ1 d q=>q;have S:=h _ WO;have up:∀b o,(hideAll s.heap [l]).get? b=some o->s.heap.get? b=some o:=λb o e=>of_hideAll [l] e;have hK:=up _ _<|X _ _<|WN w.params;have bt:BindsTo s E5 ⟨[.ref l],[]⟩ ((iP.ns.take 1).zip [.ref l]):=BindsTo.of_eq<|by rfl
 refine codeAny_call_def (fd:=E5) (body:=nV<|sG 68) (aB<|by rfl) hK rfl (T.nolimit.keeps up) ((codeRec_of X<|by kernel_rfl).keeps up) rfl bt JS (Oq _) (λh₁ hns hk=>?_) (by kernel_rfl) (by kernel_rfl)<|by kernel_rfl
 have a:At ⟨SG true,w,B9⟩ (8*17) ⟨callerA.deeper<|B9.env s.heap.objs.size,callerA,hideAll s.heap [l],hideAll s.heap [l],[],s.heap.objs.size⟩ ⟨uh l<|listOf vs.toArray 0,λy=>((iP.ns.take 1).zip [.ref l]).reverse.lookup y,{s with heap:=h₁,toks:=s.toks+((iP.ns.take 1).zip [Value.ref l]).length}⟩ (iQ iP.ns [.ref 0]) (Oi xs):=by
  refine⟨⟨below_caller _,eV rfl,X,⟨mg,mb,T⟩,by kernel_rfl,aJ (by kernel_rfl),λd=>rfl,λd=>rfl⟩,⟨aB (by rfl),aB<|by rfl⟩,⟨⟨hns,λb o e=>hk b o<|up b o e,dH<|hideAll_size _ _⟩,λp hp=>?_,Ol hv len,λk x v hx hv=>?_⟩⟩
  ·rw[aj.mp<|show p∈[(l,listOf vs.toArray 0)]from hp];exact⟨hk _ _ hl,av<|bV hl,hideAll_none _<|.head _⟩
  ·induction k with
   |zero=>have hx:iP.ns[0]?=some x:=hx;rw[Om]at hx;cases hx;cases hv;exact⟨_,Oo _,⟨_,rfl,rfl⟩⟩
   |succ k=>have hv:(replicate (iP.ns.length-1) (none:nF))[k]?=some (some v):=hv;rw[List.getElem?_replicate]at hv;split at hv<;>cases hv
 refine cZ (S _ _ _ a) (λfl s' z=>?_) λd d z=>z;obtain⟨r,es,le,p⟩:=z;induction p with
 |mk L H' mf T1 fr q1=>
  induction mf with
  |next=>exact nomatch(show MV.none=.bool true from q1)
  |brk=>exact q1.elim
  |cont=>exact q1.elim
  |ret v=>
   obtain⟨x,ef,vr⟩:=(fr:∃x,fl=.ret x/\VR r.U v x);have q1:v=.bool true:=q1;subst ef;subst q1;subst es;rw[show x=.bool true from vr];refine hQ _ (λb o e=>?_) le.g le.o;by_cases hb:b=l
   ·cases hb;rw[hl]at e;cases e;exact(T1.N _<|T1.R.pin _<|.inr<|.inl<|by rw[le.x.fix];exact .head _).1
   ·exact T1.F.keep b o<|hideAll_get [l] e λm=>hb<|aj.mp m
def Ot:looseW qv loose=loose:=by kernel_rfl
def Yo(P:Params):nsIn (K P) mainGlobals (q "law")=some (some<|.ref 1618):=by kernel_rfl
def WV(P:Params)(h:Heap)(v:Value):WData->Prop
 |.list xs=>∃a vs,v=.ref a/\h.get? a=some (listOf vs.toArray 0)/\WellAll P h vs xs
 |.int i=>∃t,v=.int i t
 |_=>True
def wv{P:Params}{h:Heap}{v:Value}{d:WData}(x:Well P h v d):WV P h v d:=by
 cases x with
 |list a b=>exact⟨_,_,rfl,a,b⟩
 |int i t=>exact⟨t,rfl⟩
 |_=>trivial
def wZ{P:Params}{h:Heap}{vs:lO}{ds:List WData}(x:WellAll P h vs ds):ds=[]->vs=[]:=by
 cases x with
 |nil=>exact λz=>rfl
 |cons=>exact nofun
def S1{P:Params}{h:Heap}{U:jK}(xs:List Int):∀{vs:lO},WellAll P h vs (xs.map .int)->jr U (xs.map .int) vs:=by
 induction xs with
 |nil=>exact λx=>wZ x rfl
 |cons n xs ih=>intro vs x;obtain⟨v,vs',e,hv,hn⟩:=wellAll_cons_inv x;exact⟨v,vs',e,wv hv,ih hn⟩
def JU:PySem.W.same (.bool true) (.bool true)=true:=by decide+kernel
def S4{xs:List WData}(h:HZ.row.toRowW.pre.holds HZ.row.toRowW.records {args:=[.list xs]}=true):xs.length<=63:=by
 have e:WTm.value HZ.row.toRowW.records HZ.row.toRowW.pre {args:=[.list xs]}=some (.bool<|!decide ((63:Int)<xs.length)&&true):=by
  have k:∀b:Bool,WTm.value HZ.row.toRowW.records (.and (.not<|.lit<|.bool b)<|.lit<|.bool true) {args:=[.list xs]}=some (.bool<|!b&&true):=λb=>by cases b<;>rfl
  exact k<|decide<|(63:Int)<xs.length
 unfold WTm.holds at h;rw[e]at h;by_cases q:xs.length<=63
 ·exact q
 ·rw[az<|by omega]at h;exact aG h<|by decide
def S5{R:WRecords}{g7:List WData}(h:WShape.hasAll R g7 [.list .int]=true):∃xs:List Int,g7=[.list<|xs.map .int]:=by obtain⟨d,r,rfl,hd,hr⟩:=hasAllW_cons h;obtain rfl:=hasAllW_nil hr;obtain⟨ys,rfl,hy⟩:=hasW_list hd;obtain⟨xs,rfl⟩:=items_int hy;exact⟨xs,rfl⟩
def F4{R:WRecords}{cl:Str->Option Addr}{h:Heap}{v:Value}{xs:List WData}{as:List Addr}(r:ReadsW R cl h v (.list xs) as):∃l ai,v=.ref l/\as=l::ai:=by cases r with|list=>exact⟨_,_,rfl,rfl⟩
def S6{R:WRecords}{cl:Str->Option Addr}{P:Params}{h h':Heap}{jJ:lO}{ys:List WData}{as:List Addr}(hr:ReadsAllW R cl h' jJ [.list ys] as)(hw:WellAll P h jJ [.list ys]):∃l vs,jJ=[.ref l]/\l∈as/\h.get? l=some (listOf vs.toArray 0)/\WellAll P h vs ys:=by obtain⟨v,vs',e,hv,hn⟩:=wellAll_cons_inv hw;obtain⟨a,vs,e2,hl,hi⟩:=(wv hv:WV P h v<|.list ys);rw[wZ hn rfl]at e;obtain⟨v2,vs2,as2,bs,e3,e4,r1,r2⟩:=readsAllW_cons_inv hr;obtain⟨l,ai,e5,e6⟩:=F4 r1;have ev:v=v2:=(cH<|e.symm.trans e3).1;have el:a=l:=Value.ref.inj<|e2.symm.trans<|ev.trans e5;exact⟨a,vs,e2▸e,by rw[e4,e6,el];exact .head _,hl,hi⟩
def Ou{mg mb:Str->Option Value}{h:Heap}{l:Addr}{vs:lO}(hl:h.get? l=some (listOf vs.toArray 0))(T:TopRead qv loose mg mb h):TopRead qv loose mg mb (hideAll h [l]):=by
 have nsl:∀{b m},h.Ns b m->(hideAll h [l]).Ns b m:=λ{b m} z=>by obtain⟨o',es,ep,e1,e2,e3⟩:=z;refine⟨o',es,ep,hideAll_get [l] e1 λq=>?_,e2,e3⟩;cases aj.mp q;rw[hl]at e1;cases e1;cases e2
 obtain⟨mc,z1,z2⟩:=T.nolimit;exact⟨nsl T.g,nsl T.b,⟨mc,nsl z1,z2⟩,T.builtins,T.free⟩
def abD{Yf:Shared->List (Option Obj)}{Ya:World->List (Option Obj)}(hY:∀w s,Yf s=Ya w->(K w.params).In s.heap):WalkX qv loose XT Yf Ya HZ.row.toRowW Vl [] λf vs=>PySem.call f vs:=by
 intro w s₀ s₁ mg mb G Y a o pm cd doc dV kV ho hod hcd hdf hmg hg g7 jJ as L hpre hlay hrd hwell hsys;obtain⟨hsh,hpr⟩:=pre_splitW hpre;obtain⟨xs,rfl⟩:=S5 hsh;have len:=S4 hpr;have win:=L.within;have X0:=hY w s₀ Y;obtain⟨l,vs,rfl,lm,hl,hvs⟩:=S6 hrd hwell;have lo:s₀.heap.get? l=none:=by
  cases e:s₀.heap.get? l with
  |none=>rfl
  |some ob=>exact aG (bV e)<|gg.mpr (win.2.2 l lm).1
 have nl:∀b ob,s₀.heap.get? b=some ob->b∉[l]:=λb ob e q=>by rw[aj.mp q,lo]at e;cases e
 have st:∀b ob,s₀.heap.get? b=some ob->(hideAll s₁.heap [l]).get? b=some ob:=λb ob e=>hideAll_get [l] (L.keeps _ _ e)<|nl b ob e;have X:(K w.params).In (hideAll s₁.heap [l]):=X0.keeps st;have T:TopRead qv loose mg mb (hideAll s₁.heap [l]):=Ou hl<|Ot▸topRead_of G.T;have ea:a=1618:=by have z:=mg_of X T.g<|Yo w.params;rw[show mg (q "law")=some (.ref a)from hmg]at z;cases z;rfl
 rw[ea];exact wpAny_call<|JT X T hl (S1 _ hvs) (by rw[aV]at len;exact aa len<|aB rfl) λs' k1 k2 k3=>⟨.inl ⟨.bool true,.bool true,[],rfl,λy=>rfl,.bool true,postW_of (X:=true) (by rfl) (by show WTm.value _ (.eq .res<|.lit<|.bool true) _=_;exact aq (λb=>some<|WData.bool b) JU) rfl,λy=>⟨.nil,λa m=>by cases m⟩⟩,.of_keep k1,k3,.of_eq<|by rw[k2];exact hg⟩
def S8(P:Params):Kas=(K P).map (·.1):=by kernel_rfl
def abE{α:Type}{a:Nat}{b:α}{l:List (Nat×α)}:l.lookup a=some b->(a,b)∈l:=by
 induction l with
 |nil=>exact λe=>nomatch e
 |cons x r ih=>
  intro e;rw[c7]at e;cases q:a==x.1 with
  |true=>rw[q]at e;rw[eq_of_beq q,<-ay e];exact .head _
  |false=>rw[q]at e;exact .tail _<|ih e
def hY(w:World)(s:Shared)(h:Yf s=Ya w):(K w.params).In s.heap:=by unfold Yf Ya at h;rw[S8 w.params,bZ]at h;intro a o e;have m:=List.map_inj_left.mp h (a,o)<|abE e;exact m
end
end
end Mine
theorem PySem.Challenge.cw_te0012_05_holds : PySem.Challenge.rw_te0012_05.Holds :=
 Mine.head (Mine.abD Mine.hY)
