import PyProof.Rows.All
import PyProof.DictWalks
import PyProof.Draws
import PyProof.EnumMake
import PyProof.Rows.EqNone
import PyProof.ExcArgs
import PyProof.ExcBaseAll.Exception
import PyProof.ExcClass3
import PyProof.ExcInit
import PyProof.ReprUnder
import PyProof.StrLawsRepr
import Wide.Data
import Wide.Lay
import Wide.Reads
import ObjForm.In
import ObjForm.Claim3
import Wide.Claim
import Wide.Tm
import Wide.Row
import Wide.ObjOpen
import Wide.Head
import Wide.Well
import Wide.Vals
import Wide.Ends
import Wide.BridgeG
import OpenK.Peek
import OpenK.KGet
import OpenK.KDescr
import OpenK.KCall
import OpenK.KMake
import OpenK.KCls
import Open.Row
import OpenK.TopRead
import OpenK.KWalk
import OpenK.KList
import OpenK.KDict
import OpenK.KCell
import OpenK.KLine
import OpenK.KRaise
import KE.IntText
import KE.KBoundM
import KE.KPop
import KE.KListMore
import KE.KDictAny
import KE.KDictList
import KE.KDictNew
import KE.KDictObj
import KE.KEqDict
import KE.KExtendNil
import KE.KTurns
import KE.KIntText
import KE.KIsAll
import KE.KxPercent
import KE.KSuperObj
import KE.KSuper
import KE.KWhile
import Wide.Built
import OpenK.XOpen
import Wide.Closed
import Lean
import PySem.Challenge.RW_te0012_01
set_option maxRecDepth 1000000
set_option Elab.async false
set_option linter.all false
set_option genSizeOf false
set_option genInjectivity false
namespace Mine
noncomputable section
open PySem PySem.W PySem.Calls PyProof.Rows PySem.Spec
def av:=@Nat.le_trans
def gf:=@wpAny_bind
def H8:=@Nat.lt_of_le_of_lt
def aaa:=@List.mem_singleton
def aab:=@List.mem_cons
def aac:=@congrArg
def aad:=@decide_eq_false
def aae:=@Nat.ne_of_lt
def aaf:=@Option.some.inj
def aag:=@decide_eq_true
def aah:=@Nat.le_add_right
def aai:=@Nat.le_of_ble_eq_true
def aaj:=@Nat.le_refl
def aal:=@if_neg
def aam:=@if_pos
def aan:=@absurd
def aao:=@wpAny_pure
def aap:=@Bool.false_ne_true
def aaq:=@of_decide_eq_true
def aar:=@Nat.lt_trans
def aas:=@Nat.lt_of_lt_of_le
def aat:=@Nat.le_add_left
def aau:=@Nat.succ_le_succ
def aav:=@Nat.ne_of_gt
def aaw:=@Nat.lt_succ_of_lt
def aax:=@wpAny_holding
inductive MV where
 |none
 |bool (b:Bool)
 |int (i:Int)
 |str (s:List Nat)
 |ref (i:Nat)
 |tup (l:List MV)
 |fj (f:Nat) (i:Nat)
 |cls (c:Nat)
 |ty (n:String)
structure Fm where
 ns:List Str
 sc:Scope
 cn:Str
 ccd:Value
 cl:List (Str×Addr)
 fa:Addr
inductive BF where
 |len|int|isinstance|list
inductive KM where
 |append|pop|extend|join
inductive IE where
 |none|bool (b:Bool)|int (i:Int)|str (l:List Nat)
 |loc (k:Nat)|iV (c:Nat)|Zf (n:String)
 |attr (e:IE) (k:Nat)|qn (e:IE) (k:Nat)
 |gJ (o:IE) (k:Nat) (az:IE) (kn:List Str) (kws:IE)
 |yG (o:IE) (k:Nat)
 |uq (fa:Nat) (az:IE) (kn:List Str) (kws:IE)
 |make (c:Nat) (az:IE) (kn:List Str) (kws:IE)
 |yH (k:Nat) (az:IE)
 |yI (b:BF) (az:IE)
 |su (m:KM) (o:IE) (az:IE)
 |bin (op:Operator) (l r:IE)
 |cmp (op:CmpOp) (l r:IE)
 |chain (op₁ op₂:CmpOp) (l m r:IE)
 |Tv (op:BoolOp) (es:IE)
 |not (e:IE)|neg (e:IE)
 |TR (c a b:IE)
 |sub (e i:IE)
 |slc (e:IE) (lo hi:IE)
 |list (es:IE)|tup (es:IE)
 |WN|Zg
 |bot
 |nil|cons (e:IE) (r:IE)
 |no|yes (e:IE)
inductive IS where
 |pass|brk|cont
 |ret (e:IE)|Qj
 |expr (e:IE)
 |asg (k:Nat) (e:IE)
 |Kd (k j:Nat) (e:IE)
 |TU (k j i:Nat) (e:IE)
 |Ah (ks:List Nat) (e:IE)
 |TV (o:IE) (k:Nat) (e:IE)
 |sets (o i e:IE)
 |rz (k:Nat) (op:Operator) (e:IE)
 |Ec (o:IE) (k:Nat) (op:Operator) (e:IE)
 |ite (c:IE) (t e:IS)
 |Zh (c:IE) (b o:IS)
 |forL (k:Nat) (e:IE) (b:IS)
 |TX (k:Nat) (e:IE) (b:IS)
 |TY (ks:List Nat) (e:IE) (b:IS)
 |TZ (b o:IS)
 |del (o i:IE)
 |Qk (e:IE)
 |spec (i:Nat) (b:IS)
 |bot
 |nil|cons (s:IS) (r:IS)
abbrev IB:=IS
noncomputable abbrev q(s:String):Str:=Str.ofString s
noncomputable abbrev pw:Program:=PySem.Challenge.pw_te0012_01
def qo(i:Nat):Stmt:=pw.main.body.getD i<|.Pass ⟨0,0,0,0⟩
def dw(i j:Nat):Stmt:=if h:(qo i).ctorIdx=2 then Stmt.ClassDef.elim (motive_2:=λ_=>Stmt) (qo i) h λ_ _ _ b _ _ _ _ _ _ _=>b.getD j (.Pass ⟨0,0,0,0⟩)else qo i
noncomputable def s8(s:Stmt):Arguments:=if h:s.ctorIdx=0 then Stmt.FunctionDef.elim (motive_2:=λ_=>Arguments) s h λ_ a _ _ _ _ _ _ _ _=>a else default
noncomputable def gV(s:Stmt):List Stmt:=if h:s.ctorIdx=0 then Stmt.FunctionDef.elim (motive_2:=λ_=>List Stmt) s h λ_ _ b _ _ _ _ _ _ _=>b else[]
noncomputable def dS(s:Stmt):Scope:=if h:s.ctorIdx=0 then Stmt.FunctionDef.elim (motive_2:=λ_=>Scope) s h λ_ _ _ _ _ _ sc _ _ _=>sc else default
structure FR where
 i:Nat
 np:Nat
 fa:Nat
 nm:Str
 ql:Str
 dV:Value
 pm:Value
 st:Stmt
 ns:List Str
 ib:IS
noncomputable abbrev FR.cd(r:FR):Nat:=r.fa-1
abbrev FR.fd(r:FR):FuncData:=fnX r.nm r.ql (s8 r.st) (gV r.st) (dS r.st) [] r.dV .none .none r.pm none (.ref r.cd) .none
def FR.fm(r:FR):Fm:=⟨r.ns,dS r.st,r.ql,.ref r.cd,[],r.fa⟩
def qs(l:List String):List Str:=l.rec [] λx _ r=>q x::r
def iL(l:List IE):IE:=l.rec .nil λa _ r=>.cons a r
def iB(l:List IS):IS:=l.rec .nil λa _ r=>.cons a r
noncomputable def fF(k:Nat):IE:=.attr (.loc 0) k
def sM(k:Nat)(as:List IE):IE:=.gJ (.loc 0) k (iL as) [] .nil
def xM(k:Nat)(as:List IE):IS:=.expr<|sM k as
def gC(f:Nat)(as:List IE):IE:=.uq f (iL as) [] .nil
def mK(c:Nat)(as:List IE):IE:=.make c (iL as) [] .nil
def kC(m:KM)(o:IE)(as:List IE):IE:=.su m o<|iL as
def bC(b:BF)(as:List IE):IE:=.yI b<|iL as
def bO(o:BoolOp)(as:List IE):IE:=.Tv o<|iL as
def tU(as:List IE):IE:=.tup<|iL as
noncomputable def cE(a b:IE):IE:=.cmp .Eq a b
noncomputable def cI(a b:IE):IE:=.cmp .In a b
def iF(c:IE)(t e:List IS):IS:=.ite c (iB t)<|iB e
def wH(c:IE)(t:List IS):IS:=.Zh c (iB t) .nil
noncomputable def sS(k:Nat)(e:IE):IS:=.TV (.loc 0) k e
def kS(x:String)(t:Nat):Value:=.str (q x) t
def Fy:Value:=kS "yaml.parser" 2098
def jB:Value:=kS "yaml.scanner" 1285
def J1:Value:=kS "yaml.reader" 1142
def wh:Value:=kS "yaml.events" 798
def sy:Value:=kS "yaml.tokens" 321
def T7:Value:=kS "yaml.error" 194
def Fz:Value:=kS "law_te0012_01" 2419
def lK:FR:=⟨0,8,35,q "__init__",q "Mark.__init__",.none,T7,(dw 2 0),qs ["self","name","index","line","column","buffer","pointer"],iB [sS 0<|.loc 1,sS 9<|.loc 2,sS 10<|.loc 3,sS 11<|.loc 4,sS 4<|.loc 5,sS 5<|.loc 6]⟩
def g6:FR:=⟨1,0,85,q "__init__",q "MarkedYAMLError.__init__",(.ref 78),T7,(dw 4 0),qs ["self","context","context_mark","problem","problem_mark","note"],iB [sS 26<|.loc 1,sS 27<|.loc 2,sS 28<|.loc 3,sS 29<|.loc 4,sS 30<|.loc 5]⟩
def gK:FR:=⟨2,4,111,q "__init__",q "Token.__init__",.none,sy,(dw 6 0),qs ["self","start_mark","end_mark"],iB [sS 31<|.loc 1,sS 32<|.loc 2]⟩
def fH:FR:=⟨3,6,132,q "__init__",q "DirectiveToken.__init__",.none,sy,(dw 7 1),qs ["self","name","value","start_mark","end_mark"],iB [sS 0<|.loc 1,sS 33<|.loc 2,sS 31<|.loc 3,sS 32<|.loc 4]⟩
def bN:FR:=⟨4,0,176,q "__init__",q "StreamStartToken.__init__",(.ref 169),sy,(dw 10 1),qs ["self","start_mark","end_mark","encoding"],iB [sS 31<|.loc 1,sS 32<|.loc 2,sS 8<|.loc 3]⟩
def gY:FR:=⟨5,5,339,q "__init__",q "AliasToken.__init__",.none,sy,(dw 23 1),qs ["self","value","start_mark","end_mark"],iB [sS 33<|.loc 1,sS 31<|.loc 2,sS 32<|.loc 3]⟩
def bq:FR:=⟨6,0,397,q "__init__",q "ScalarToken.__init__",(.ref 390),sy,(dw 26 1),qs ["self","value","plain","start_mark","end_mark","style"],iB [sS 33<|.loc 1,sS 34<|.loc 2,sS 31<|.loc 3,sS 32<|.loc 4,sS 35<|.loc 5]⟩
def gM:FR:=⟨7,0,417,q "__init__",q "Event.__init__",(.ref 410),wh,(dw 28 0),qs ["self","start_mark","end_mark"],iB [sS 31<|.loc 1,sS 32<|.loc 2]⟩
def dZ:FR:=⟨8,0,446,q "__init__",q "NodeEvent.__init__",(.ref 439),wh,(dw 29 0),qs ["self","anchor","start_mark","end_mark"],iB [sS 36<|.loc 1,sS 31<|.loc 2,sS 32<|.loc 3]⟩
def bP:FR:=⟨9,0,498,q "__init__",q "StreamStartEvent.__init__",(.ref 491),wh,(dw 32 0),qs ["self","start_mark","end_mark","encoding"],iB [sS 31<|.loc 1,sS 32<|.loc 2,sS 8<|.loc 3]⟩
def aI:FR:=⟨10,0,530,q "__init__",q "DocumentStartEvent.__init__",(.ref 523),wh,(dw 34 0),qs ["self","start_mark","end_mark","explicit","version","tags"],iB [sS 31<|.loc 1,sS 32<|.loc 2,sS 37<|.loc 3,sS 38<|.loc 4,sS 39<|.loc 5]⟩
def bQ:FR:=⟨11,0,550,q "__init__",q "DocumentEndEvent.__init__",(.ref 543),wh,(dw 35 0),qs ["self","start_mark","end_mark","explicit"],iB [sS 31<|.loc 1,sS 32<|.loc 2,sS 37<|.loc 3]⟩
def bu:FR:=⟨12,0,582,q "__init__",q "ScalarEvent.__init__",(.ref 575),wh,(dw 37 0),qs ["self","anchor","tag","implicit","value","start_mark","end_mark","style"],iB [sS 36<|.loc 1,sS 40<|.loc 2,sS 41<|.loc 3,sS 33<|.loc 4,sS 31<|.loc 5,sS 32<|.loc 6,sS 35<|.loc 7]⟩
def jj:FR:=⟨13,2,668,q "_is_printable",q "_is_printable",.none,J1,(qo 44),qs ["ch"],iB [.ret<|bO .Or [cI (.loc 0)<|.str [9,10,13,133],.chain .LtE .LtE (.str [32]) (.loc 0)<|.str [126],.chain .LtE .LtE (.str [160]) (.loc 0)<|.str [55295],.chain .LtE .LtE (.str [57344]) (.loc 0)<|.str [65533],.chain .LtE .LtE (.str [65536]) (.loc 0)<|.str [1114111]]]⟩
def jC:FR:=⟨14,3,682,q "__init__",q "Reader.__init__",.none,J1,(dw 45 0),qs ["self","stream"],iB [sS 0 .none,sS 1 .none,sS 2<|.int 0,sS 3<|.bool true,sS 4<|.str [],sS 5<|.int 0,sS 6 .none,sS 7 .none,sS 8 .none,sS 9<|.int 0,sS 10<|.int 0,sS 11<|.int 0,iF (bC .isinstance [.loc 1,.Zf "str"]) [sS 0<|.str [60,117,110,105,99,111,100,101,32,115,116,114,105,110,103,62],xM 42 [.loc 1],sS 4<|.bin .Add (.loc 1)<|.str [0]] []]⟩
def cN:FR:=⟨15,0,690,q "peek",q "Reader.peek",(.ref 683),J1,(dw 45 1),qs ["self","index"],iB [.TZ (iB [.ret<|.sub (fF 4)<|.bin .Add (fF 5)<|.loc 1])<|iB []]⟩
def fk:FR:=⟨16,0,698,q "prefix",q "Reader.prefix",(.ref 691),J1,(dw 45 2),qs ["self","length"],iB [iF (.cmp .GtE (.bin .Add (fF 5)<|.loc 1)<|bC .len [fF 4]) [xM 43 [.loc 1]] [],.ret<|.slc (fF 4) (.yes<|fF 5)<|.yes<|.bin .Add (fF 5)<|.loc 1]⟩
def aG:FR:=⟨17,0,706,q "forward",q "Reader.forward",(.ref 699),J1,(dw 45 3),qs ["self","length","ch"],iB [iF (.cmp .GtE (.bin .Add (.bin .Add (fF 5)<|.loc 1)<|.int 1)<|bC .len [fF 4]) [xM 43 [.bin .Add (.loc 1)<|.int 1]] [],wH (.loc 1) [.asg 2<|.sub (fF 4)<|fF 5,.Ec (.loc 0) 5 .Add<|.int 1,.Ec (.loc 0) 9 .Add<|.int 1,iF (bO .Or [cI (.loc 2)<|.str [10,133,8232,8233],bO .And [cE (.loc 2)<|.str [13],.cmp .NotEq (.sub (fF 4)<|fF 5)<|.str [10]]]) [.Ec (.loc 0) 10 .Add<|.int 1,sS 11<|.int 0] [iF (.cmp .NotEq (.loc 2)<|.str [65279]) [.Ec (.loc 0) 11 .Add<|.int 1] []],.rz 1 .Sub<|.int 1]]⟩
def fJ:FR:=⟨18,2,713,q "get_mark",q "Reader.get_mark",.none,J1,(dw 45 4),qs ["self"],iB [iF (.cmp .Is (fF 1) .none) [.ret<|mK 53 [fF 0,fF 9,fF 10,fF 11,fF 4,fF 5]] [.bot]]⟩
def bG:FR:=⟨19,3,720,q "check_printable",q "Reader.check_printable",.none,J1,(dw 45 5),qs ["self","data","start","character","position"],iB [.TY [2,3] (.loc 1)<|iB [iF (.not<|gC 668 [.loc 3]) [.bot,.bot] []]]⟩
def iW:FR:=⟨20,3,727,q "update",q "Reader.update",.none,J1,(dw 45 6),qs ["self","length"],iB [iF (.cmp .Is (fF 6) .none) [.Qj] []]⟩
def iw:FR:=⟨21,8,760,q "__init__",q "SimpleKey.__init__",.none,jB,(dw 48 0),qs ["self","token_number","required","index","line","column","mark"],iB [sS 44<|.loc 1,sS 45<|.loc 2,sS 9<|.loc 3,sS 10<|.loc 4,sS 11<|.loc 5,sS 46<|.loc 6]⟩
def cu:FR:=⟨22,0,792,q "check_token",q "Scanner.check_token",(.ref 785),jB,(dw 49 1),qs ["self","choices"],iB [wH (sM 48 []) [xM 49 []],iF (fF 14) [iF (.not<|.loc 1) [.bot] [],iF (cI (.attr (.sub (fF 14)<|.int 0) 50)<|.loc 1) [.ret<|.bool true] []] [],.ret<|.bool false]⟩
def f6:FR:=⟨23,2,799,q "peek_token",q "Scanner.peek_token",.none,jB,(dw 49 2),qs ["self"],iB [wH (sM 48 []) [xM 49 []],iF (fF 14) [.ret<|.sub (fF 14)<|.int 0] [.bot]]⟩
def gh:FR:=⟨24,2,806,q "get_token",q "Scanner.get_token",.none,jB,(dw 49 3),qs ["self"],iB [wH (sM 48 []) [.bot],iF (fF 14) [.Ec (.loc 0) 15 .Add<|.int 1,.ret<|kC .pop (fF 14) [.int 0]] []]⟩
def dz:FR:=⟨25,2,813,q "need_more_tokens",q "Scanner.need_more_tokens",.none,jB,(dw 49 4),qs ["self"],iB [iF (fF 12) [.ret<|.bool false] [],iF (.not<|fF 14) [.ret<|.bool true] [],xM 51 [],iF (cE (sM 52 [])<|fF 15) [.ret<|.bool true] []]⟩
def aT:FR:=⟨26,2,820,q "fetch_more_tokens",q "Scanner.fetch_more_tokens",.none,jB,(dw 49 5),qs ["self","ch"],iB [xM 53 [],xM 51 [],xM 54 [fF 11],.asg 1<|sM 55 [],iF (cE (.loc 1)<|.str [0]) [.ret<|sM 56 []] [],iF (bO .And [cE (.loc 1)<|.str [37],sM 57 []]) [.ret<|sM 58 []] [],iF (bO .And [cE (.loc 1)<|.str [45],sM 59 []]) [.ret<|sM 60 []] [],iF (bO .And [cE (.loc 1)<|.str [46],sM 61 []]) [.ret<|sM 62 []] [],iF (cE (.loc 1)<|.str [91]) [.bot] [],iF (cE (.loc 1)<|.str [123]) [.bot] [],iF (cE (.loc 1)<|.str [93]) [.bot] [],iF (cE (.loc 1)<|.str [125]) [.bot] [],iF (cE (.loc 1)<|.str [44]) [.bot] [],iF (bO .And [cE (.loc 1)<|.str [45],sM 63 []]) [.bot] [],iF (bO .And [cE (.loc 1)<|.str [63],sM 64 []]) [.bot] [],iF (bO .And [cE (.loc 1)<|.str [58],sM 65 []]) [.bot] [],iF (cE (.loc 1)<|.str [42]) [.ret<|sM 66 []] [],iF (cE (.loc 1)<|.str [38]) [.bot] [],iF (cE (.loc 1)<|.str [33]) [.bot] [],iF (bO .And [cE (.loc 1)<|.str [124],.not<|fF 13]) [.bot] [],iF (bO .And [cE (.loc 1)<|.str [62],.not<|fF 13]) [.bot] [],iF (cE (.loc 1)<|.str [39]) [.ret<|sM 67 []] [],iF (cE (.loc 1)<|.str [34]) [.ret<|sM 68 []] [],iF (sM 69 []) [.ret<|sM 70 []] [],.bot]⟩
def bR:FR:=⟨27,2,827,q "next_possible_simple_key",q "Scanner.next_possible_simple_key",.none,jB,(dw 49 6),qs ["self","min_token_number","level","key"],iB [.asg 1 .none,.TX 2 (fF 19)<|iB [.asg 3<|.sub (fF 19)<|.loc 2,iF (bO .Or [.cmp .Is (.loc 1) .none,.cmp .Lt (.attr (.loc 3) 44)<|.loc 1]) [.asg 1<|.attr (.loc 3) 44] []],.ret<|.loc 1]⟩
def bA:FR:=⟨28,2,834,q "stale_possible_simple_keys",q "Scanner.stale_possible_simple_keys",.none,jB,(dw 49 7),qs ["self","level","key"],iB [.forL 1 (bC .list [fF 19])<|iB [.asg 2<|.sub (fF 19)<|.loc 1,iF (bO .Or [.cmp .NotEq (.attr (.loc 2) 10)<|fF 10,.cmp .Gt (.bin .Sub (fF 9)<|.attr (.loc 2) 9)<|.int 1024]) [iF (.attr (.loc 2) 45) [.bot] [],.del (fF 19)<|.loc 1] []]]⟩
def bS:FR:=⟨29,2,841,q "save_possible_simple_key",q "Scanner.save_possible_simple_key",.none,jB,(dw 49 8),qs ["self","required","token_number","key"],iB [.asg 1<|bO .And [.not<|fF 13,cE (fF 16)<|fF 11],iF (fF 18) [xM 71 [],.asg 2<|.bin .Add (fF 15)<|bC .len [fF 14],.asg 3<|mK 763 [.loc 2,.loc 1,fF 9,fF 10,fF 11,sM 72 []],.sets (fF 19) (fF 13)<|.loc 3] []]⟩
def bB:FR:=⟨30,2,848,q "remove_possible_simple_key",q "Scanner.remove_possible_simple_key",.none,jB,(dw 49 9),qs ["self","key"],iB [iF (cI (fF 13)<|fF 19) [.asg 1<|.sub (fF 19)<|fF 13,iF (.attr (.loc 1) 45) [.bot] [],.del (fF 19)<|fF 13] []]⟩
def eH:FR:=⟨31,3,855,q "unwind_indent",q "Scanner.unwind_indent",.none,jB,(dw 49 10),qs ["self","column","mark"],iB [iF (fF 13) [.bot] [],wH (.cmp .Gt (fF 16)<|.loc 1) [.bot,.bot,.bot]]⟩
def cQ:FR:=⟨32,2,869,q "fetch_stream_start",q "Scanner.fetch_stream_start",.none,jB,(dw 49 12),qs ["self","mark"],iB [.asg 1<|sM 72 [],.expr<|kC .append (fF 14) [.make 179 (iL [.loc 1,.loc 1]) [q "encoding"]<|iL [fF 8]]]⟩
def dB:FR:=⟨33,2,876,q "fetch_stream_end",q "Scanner.fetch_stream_end",.none,jB,(dw 49 13),qs ["self","mark"],iB [xM 54 [.neg<|.int 1],xM 71 [],sS 18<|.bool false,sS 19 .Zg,.asg 1<|sM 72 [],.expr<|kC .append (fF 14) [mK 191 [.loc 1,.loc 1]],sS 12<|.bool true]⟩
def dI:FR:=⟨34,2,883,q "fetch_directive",q "Scanner.fetch_directive",.none,jB,(dw 49 14),qs ["self"],iB [xM 54 [.neg<|.int 1],xM 71 [],sS 18<|.bool false,.expr<|kC .append (fF 14) [sM 73 []]]⟩
def cC:FR:=⟨35,2,890,q "fetch_document_start",q "Scanner.fetch_document_start",.none,jB,(dw 49 15),qs ["self"],iB [xM 74 [.iV 147]]⟩
def cR:FR:=⟨36,2,897,q "fetch_document_end",q "Scanner.fetch_document_end",.none,jB,(dw 49 16),qs ["self"],iB [xM 74 [.iV 159]]⟩
def bT:FR:=⟨37,3,904,q "fetch_document_indicator",q "Scanner.fetch_document_indicator",.none,jB,(dw 49 17),qs ["self","TokenClass","start_mark","end_mark"],iB [xM 54 [.neg<|.int 1],xM 71 [],sS 18<|.bool false,.asg 2<|sM 72 [],xM 75 [.int 3],.asg 3<|sM 72 [],.expr<|kC .append (fF 14) [.yH 1<|iL [.loc 2,.loc 3]]]⟩
def fK:FR:=⟨38,2,981,q "fetch_alias",q "Scanner.fetch_alias",.none,jB,(dw 49 28),qs ["self"],iB [xM 76 [],sS 18<|.bool false,.expr<|kC .append (fF 14) [sM 77 [.iV 342]]]⟩
def fq:FR:=⟨39,2,1023,q "fetch_single",q "Scanner.fetch_single",.none,jB,(dw 49 34),qs ["self"],iB [.expr<|.gJ (.loc 0) 78 .nil [q "style"]<|iL [.str [39]]]⟩
def fy:FR:=⟨40,2,1030,q "fetch_double",q "Scanner.fetch_double",.none,jB,(dw 49 35),qs ["self"],iB [.expr<|.gJ (.loc 0) 78 .nil [q "style"]<|iL [.str [34]]]⟩
def bg:FR:=⟨41,0,1037,q "fetch_flow_scalar",q "Scanner.fetch_flow_scalar",.none,jB,(dw 49 36),qs ["self","style"],iB [xM 76 [],sS 18<|.bool false,.expr<|kC .append (fF 14) [sM 79 [.loc 1]]]⟩
def fL:FR:=⟨42,2,1044,q "fetch_plain",q "Scanner.fetch_plain",.none,jB,(dw 49 37),qs ["self"],iB [xM 76 [],sS 18<|.bool false,.expr<|kC .append (fF 14) [sM 80 []]]⟩
def dJ:FR:=⟨43,2,1051,q "check_directive",q "Scanner.check_directive",.none,jB,(dw 49 38),qs ["self"],iB [iF (cE (fF 11)<|.int 0) [.ret<|.bool true] []]⟩
def cG:FR:=⟨44,2,1058,q "check_document_start",q "Scanner.check_document_start",.none,jB,(dw 49 39),qs ["self"],iB [iF (cE (fF 11)<|.int 0) [iF (bO .And [cE (sM 81 [.int 3])<|.str [45,45,45],cI (sM 55 [.int 3])<|.str [0,32,9,13,10,133,8232,8233]]) [.ret<|.bool true] []] []]⟩
def cU:FR:=⟨45,2,1065,q "check_document_end",q "Scanner.check_document_end",.none,jB,(dw 49 40),qs ["self"],iB [iF (cE (fF 11)<|.int 0) [iF (bO .And [cE (sM 81 [.int 3])<|.str [46,46,46],cI (sM 55 [.int 3])<|.str [0,32,9,13,10,133,8232,8233]]) [.ret<|.bool true] []] []]⟩
def c7:FR:=⟨46,2,1072,q "check_block_entry",q "Scanner.check_block_entry",.none,jB,(dw 49 41),qs ["self"],iB [.ret<|cI (sM 55 [.int 1])<|.str [0,32,9,13,10,133,8232,8233]]⟩
def fM:FR:=⟨47,2,1093,q "check_plain",q "Scanner.check_plain",.none,jB,(dw 49 44),qs ["self","ch"],iB [.asg 1<|sM 55 [],.ret<|bO .Or [.cmp .NotIn (.loc 1)<|.str [0,32,9,13,10,133,8232,8233,45,63,58,44,91,93,123,125,35,38,42,33,124,62,39,34,37,64,96],bO .And [.cmp .NotIn (sM 55 [.int 1])<|.str [0,32,9,13,10,133,8232,8233],bO .Or [cE (.loc 1)<|.str [45],bO .And [.not<|fF 13,cI (.loc 1)<|.str [63,58]]]]]]⟩
def aA:FR:=⟨48,2,1100,q "scan_to_next_token",q "Scanner.scan_to_next_token",.none,jB,(dw 49 45),qs ["self","found"],iB [iF (bO .And [cE (fF 9)<|.int 0,cE (sM 55 [])<|.str [65279]]) [.bot] [],.asg 1<|.bool false,wH (.not<|.loc 1) [wH (cE (sM 55 [])<|.str [32]) [xM 75 []],iF (cE (sM 55 [])<|.str [35]) [wH (.cmp .NotIn (sM 55 [])<|.str [0,13,10,133,8232,8233]) [xM 75 []]] [],iF (sM 82 []) [iF (.not<|fF 13) [sS 18<|.bool true] []] [.asg 1<|.bool true]]]⟩
def aR:FR:=⟨49,2,1107,q "scan_directive",q "Scanner.scan_directive",.none,jB,(dw 49 46),qs ["self","start_mark","name","value","end_mark"],iB [.asg 1<|sM 72 [],xM 75 [],.asg 2<|sM 83 [.loc 1],.asg 3 .none,iF (cE (.loc 2)<|.str [89,65,77,76]) [.asg 3<|sM 84 [.loc 1],.asg 4<|sM 72 []] [iF (cE (.loc 2)<|.str [84,65,71]) [.asg 3<|sM 85 [.loc 1],.asg 4<|sM 72 []] [.asg 4<|sM 72 [],wH (.cmp .NotIn (sM 55 [])<|.str [0,13,10,133,8232,8233]) [xM 75 []]]],xM 86 [.loc 1],.ret<|mK 135 [.loc 2,.loc 3,.loc 1,.loc 4]]⟩
def cH:FR:=⟨50,3,1114,q "scan_directive_name",q "Scanner.scan_directive_name",.none,jB,(dw 49 47),qs ["self","start_mark","length","ch","value"],iB [.asg 2<|.int 0,.asg 3<|sM 55 [.loc 2],wH (bO .Or [.chain .LtE .LtE (.str [48]) (.loc 3)<|.str [57],.chain .LtE .LtE (.str [65]) (.loc 3)<|.str [90],.chain .LtE .LtE (.str [97]) (.loc 3)<|.str [122],cI (.loc 3)<|.str [45,95]]) [.rz 2 .Add<|.int 1,.asg 3<|sM 55 [.loc 2]],iF (.not<|.loc 2) [.bot] [],.asg 4<|sM 81 [.loc 2],xM 75 [.loc 2],.asg 3<|sM 55 [],iF (.cmp .NotIn (.loc 3)<|.str [0,32,13,10,133,8232,8233]) [.bot] [],.ret<|.loc 4]⟩
def bI:FR:=⟨51,3,1121,q "scan_yaml_directive_value",q "Scanner.scan_yaml_directive_value",.none,jB,(dw 49 48),qs ["self","start_mark","major","minor"],iB [wH (cE (sM 55 [])<|.str [32]) [xM 75 []],.asg 2<|sM 87 [.loc 1],iF (.cmp .NotEq (sM 55 [])<|.str [46]) [.bot] [],xM 75 [],.asg 3<|sM 87 [.loc 1],iF (.cmp .NotIn (sM 55 [])<|.str [0,32,13,10,133,8232,8233]) [.bot] [],.ret<|tU [.loc 2,.loc 3]]⟩
def bD:FR:=⟨52,3,1128,q "scan_yaml_directive_number",q "Scanner.scan_yaml_directive_number",.none,jB,(dw 49 49),qs ["self","start_mark","ch","length","value"],iB [.asg 2<|sM 55 [],iF (.not<|.chain .LtE .LtE (.str [48]) (.loc 2)<|.str [57]) [.bot] [],.asg 3<|.int 0,wH (.chain .LtE .LtE (.str [48]) (sM 55 [.loc 3])<|.str [57]) [.rz 3 .Add<|.int 1],.asg 4<|bC .int [sM 81 [.loc 3]],xM 75 [.loc 3],.ret<|.loc 4]⟩
def bU:FR:=⟨53,3,1135,q "scan_tag_directive_value",q "Scanner.scan_tag_directive_value",.none,jB,(dw 49 50),qs ["self","start_mark","handle","prefix"],iB [wH (cE (sM 55 [])<|.str [32]) [xM 75 []],.asg 2<|sM 88 [.loc 1],wH (cE (sM 55 [])<|.str [32]) [xM 75 []],.asg 3<|sM 89 [.loc 1],.ret<|tU [.loc 2,.loc 3]]⟩
def bJ:FR:=⟨54,3,1142,q "scan_tag_directive_handle",q "Scanner.scan_tag_directive_handle",.none,jB,(dw 49 51),qs ["self","start_mark","value","ch"],iB [.asg 2<|sM 90 [.str [100,105,114,101,99,116,105,118,101],.loc 1],.asg 3<|sM 55 [],iF (.cmp .NotEq (.loc 3)<|.str [32]) [.bot] [],.ret<|.loc 2]⟩
def bK:FR:=⟨55,3,1149,q "scan_tag_directive_prefix",q "Scanner.scan_tag_directive_prefix",.none,jB,(dw 49 52),qs ["self","start_mark","value","ch"],iB [.asg 2<|sM 91 [.str [100,105,114,101,99,116,105,118,101],.loc 1],.asg 3<|sM 55 [],iF (.cmp .NotIn (.loc 3)<|.str [0,32,13,10,133,8232,8233]) [.bot] [],.ret<|.loc 2]⟩
def aJ:FR:=⟨56,3,1156,q "scan_directive_ignored_line",q "Scanner.scan_directive_ignored_line",.none,jB,(dw 49 53),qs ["self","start_mark","ch"],iB [wH (cE (sM 55 [])<|.str [32]) [xM 75 []],iF (cE (sM 55 [])<|.str [35]) [wH (.cmp .NotIn (sM 55 [])<|.str [0,13,10,133,8232,8233]) [xM 75 []]] [],.asg 2<|sM 55 [],iF (.cmp .NotIn (.loc 2)<|.str [0,13,10,133,8232,8233]) [.bot] [],xM 82 []]⟩
def fN:FR:=⟨57,3,1163,q "scan_anchor",q "Scanner.scan_anchor",.none,jB,(dw 49 54),qs ["self","TokenClass","start_mark","indicator","length","ch","value","end_mark","name"],iB [.asg 2<|sM 72 [],.asg 3<|sM 55 [],iF (cE (.loc 3)<|.str [42]) [.asg 8<|.str [97,108,105,97,115]] [.bot],xM 75 [],.asg 4<|.int 0,.asg 5<|sM 55 [.loc 4],wH (bO .Or [.chain .LtE .LtE (.str [48]) (.loc 5)<|.str [57],.chain .LtE .LtE (.str [65]) (.loc 5)<|.str [90],.chain .LtE .LtE (.str [97]) (.loc 5)<|.str [122],cI (.loc 5)<|.str [45,95]]) [.rz 4 .Add<|.int 1,.asg 5<|sM 55 [.loc 4]],iF (.not<|.loc 4) [.bot] [],.asg 6<|sM 81 [.loc 4],xM 75 [.loc 4],.asg 5<|sM 55 [],iF (.cmp .NotIn (.loc 5)<|.str [0,32,9,13,10,133,8232,8233,63,58,44,93,125,37,64,96]) [.bot] [],.asg 7<|sM 72 [],.ret<|.yH 1<|iL [.loc 6,.loc 2,.loc 7]]⟩
def aV:FR:=⟨58,3,1212,q "scan_flow_scalar",q "Scanner.scan_flow_scalar",.none,jB,(dw 49 61),qs ["self","style","chunks","start_mark","quote","end_mark","double"],iB [iF (cE (.loc 1)<|.str [34]) [.asg 6<|.bool true] [.asg 6<|.bool false],.asg 2<|.list .nil,.asg 3<|sM 72 [],.asg 4<|sM 55 [],xM 75 [],.expr<|kC .extend (.loc 2) [sM 92 [.loc 6,.loc 3]],wH (.cmp .NotEq (sM 55 [])<|.loc 4) [.bot,.bot],xM 75 [],.asg 5<|sM 72 [],.ret<|mK 400 [kC .join (.str []) [.loc 2],.bool false,.loc 3,.loc 5,.loc 1]]⟩
def bz:FR:=⟨59,4,1222,q "scan_flow_scalar_non_spaces",q "Scanner.scan_flow_scalar_non_spaces",.none,jB,(dw 49 64),qs ["self","double","start_mark","chunks","length","ch","k","code"],iB [.asg 3<|.list .nil,wH (.bool true) [.asg 4<|.int 0,wH (.cmp .NotIn (sM 55 [.loc 4])<|.str [39,34,92,0,32,9,13,10,133,8232,8233]) [.rz 4 .Add<|.int 1],iF (.loc 4) [.expr<|kC .append (.loc 3) [sM 81 [.loc 4]],xM 75 [.loc 4]] [],.asg 5<|sM 55 [],iF (bO .And [.not<|.loc 1,cE (.loc 5)<|.str [39],cE (sM 55 [.int 1])<|.str [39]]) [.bot,.bot] [iF (bO .Or [bO .And [.loc 1,cE (.loc 5)<|.str [39]],bO .And [.not<|.loc 1,cI (.loc 5)<|.str [34,92]]]) [.bot,.bot] [iF (bO .And [.loc 1,cE (.loc 5)<|.str [92]]) [.bot,.bot,.bot] [.ret<|.loc 3]]]]]⟩
def aX:FR:=⟨60,2,1243,q "scan_plain",q "Scanner.scan_plain",.none,jB,(dw 49 67),qs ["self","chunks","start_mark","end_mark","indent","spaces","length","ch"],iB [.asg 1<|.list .nil,.asg 2<|sM 72 [],.asg 3<|.loc 2,.asg 4<|.bin .Add (fF 16)<|.int 1,.asg 5<|.list .nil,wH (.bool true) [.asg 6<|.int 0,iF (cE (sM 55 [])<|.str [35]) [.bot] [],wH (.bool true) [.asg 7<|sM 55 [.loc 6],iF (bO .Or [cI (.loc 7)<|.str [0,32,9,13,10,133,8232,8233],bO .And [cE (.loc 7)<|.str [58],cI (sM 55 [.bin .Add (.loc 6)<|.int 1])<|.bin .Add (.str [0,32,9,13,10,133,8232,8233])<|.TR (fF 13) (.str [44,91,93,123,125])<|.str []],bO .And [fF 13,cI (.loc 7)<|.str [44,63,91,93,123,125]]]) [.brk] [],.rz 6 .Add<|.int 1],iF (cE (.loc 6)<|.int 0) [.brk] [],sS 18<|.bool false,.expr<|kC .extend (.loc 1) [.loc 5],.expr<|kC .append (.loc 1) [sM 81 [.loc 6]],xM 75 [.loc 6],.asg 3<|sM 72 [],.asg 5<|sM 93 [.loc 4,.loc 2],iF (bO .Or [.not<|.loc 5,cE (sM 55 [])<|.str [35],bO .And [.not<|fF 13,.cmp .Lt (fF 11)<|.loc 4]]) [.brk] []],.ret<|mK 400 [kC .join (.str []) [.loc 1],.bool true,.loc 2,.loc 3]]⟩
def aj:FR:=⟨61,4,1250,q "scan_plain_spaces",q "Scanner.scan_plain_spaces",.none,jB,(dw 49 68),qs ["self","indent","start_mark","chunks","length","whitespaces","ch","line_break","prefix","breaks"],iB [.asg 3<|.list .nil,.asg 4<|.int 0,wH (cI (sM 55 [.loc 4])<|.str [32]) [.rz 4 .Add<|.int 1],.asg 5<|sM 81 [.loc 4],xM 75 [.loc 4],.asg 6<|sM 55 [],iF (cI (.loc 6)<|.str [13,10,133,8232,8233]) [.asg 7<|sM 82 [],sS 18<|.bool true,.asg 8<|sM 81 [.int 3],iF (bO .And [bO .Or [cE (.loc 8)<|.str [45,45,45],cE (.loc 8)<|.str [46,46,46]],cI (sM 55 [.int 3])<|.str [0,32,9,13,10,133,8232,8233]]) [.Qj] [],.asg 9<|.list .nil,wH (cI (sM 55 [])<|.str [32,13,10,133,8232,8233]) [iF (cE (sM 55 [])<|.str [32]) [xM 75 []] [.expr<|kC .append (.loc 9) [sM 82 []],.asg 8<|sM 81 [.int 3],iF (bO .And [bO .Or [cE (.loc 8)<|.str [45,45,45],cE (.loc 8)<|.str [46,46,46]],cI (sM 55 [.int 3])<|.str [0,32,9,13,10,133,8232,8233]]) [.Qj] []]],iF (.cmp .NotEq (.loc 7)<|.str [10]) [.expr<|kC .append (.loc 3) [.loc 7]] [iF (.not<|.loc 9) [.expr<|kC .append (.loc 3) [.str [32]]] []],.expr<|kC .extend (.loc 3) [.loc 9]] [iF (.loc 5) [.expr<|kC .append (.loc 3) [.loc 5]] []],.ret<|.loc 3]⟩
def cy:FR:=⟨62,4,1257,q "scan_tag_handle",q "Scanner.scan_tag_handle",.none,jB,(dw 49 69),qs ["self","name","start_mark","ch","length","value"],iB [.asg 3<|sM 55 [],iF (.cmp .NotEq (.loc 3)<|.str [33]) [.bot] [],.asg 4<|.int 1,.asg 3<|sM 55 [.loc 4],iF (.cmp .NotEq (.loc 3)<|.str [32]) [wH (bO .Or [.chain .LtE .LtE (.str [48]) (.loc 3)<|.str [57],.chain .LtE .LtE (.str [65]) (.loc 3)<|.str [90],.chain .LtE .LtE (.str [97]) (.loc 3)<|.str [122],cI (.loc 3)<|.str [45,95]]) [.rz 4 .Add<|.int 1,.asg 3<|sM 55 [.loc 4]],iF (.cmp .NotEq (.loc 3)<|.str [33]) [.bot,.bot] [],.rz 4 .Add<|.int 1] [],.asg 5<|sM 81 [.loc 4],xM 75 [.loc 4],.ret<|.loc 5]⟩
def fz:FR:=⟨63,4,1264,q "scan_tag_uri",q "Scanner.scan_tag_uri",.none,jB,(dw 49 70),qs ["self","name","start_mark","chunks","length","ch"],iB [.asg 3<|.list .nil,.asg 4<|.int 0,.asg 5<|sM 55 [.loc 4],wH (bO .Or [.chain .LtE .LtE (.str [48]) (.loc 5)<|.str [57],.chain .LtE .LtE (.str [65]) (.loc 5)<|.str [90],.chain .LtE .LtE (.str [97]) (.loc 5)<|.str [122],cI (.loc 5)<|.str [45,59,47,63,58,64,38,61,43,36,44,95,46,33,126,42,39,40,41,91,93,37]]) [iF (cE (.loc 5)<|.str [37]) [.bot,.bot,.bot,.bot] [.rz 4 .Add<|.int 1],.asg 5<|sM 55 [.loc 4]],iF (.loc 4) [.expr<|kC .append (.loc 3) [sM 81 [.loc 4]],xM 75 [.loc 4],.asg 4<|.int 0] [],iF (.not<|.loc 3) [.bot] [],.ret<|kC .join (.str []) [.loc 3]]⟩
def dK:FR:=⟨64,2,1278,q "scan_line_break",q "Scanner.scan_line_break",.none,jB,(dw 49 72),qs ["self","ch"],iB [.asg 1<|sM 55 [],iF (cI (.loc 1)<|.str [13,10,133]) [iF (cE (sM 81 [.int 2])<|.str [13,10]) [xM 75 [.int 2]] [xM 75 []],.ret<|.str [10]] [iF (cI (.loc 1)<|.str [8232,8233]) [xM 75 [],.ret<|.loc 1] []],.ret<|.str []]⟩
def fc:FR:=⟨65,2,1333,q "get_event",q "Parser.get_event",.none,Fy,(dw 52 4),qs ["self","value"],iB [iF (.cmp .Is (fF 20) .none) [iF (fF 25) [sS 20<|.yG (.loc 0) 25] []] [],.asg 1<|fF 20,sS 20 .none,.ret<|.loc 1]⟩
def c8:FR:=⟨66,2,1340,q "parse_stream_start",q "Parser.parse_stream_start",.none,Fy,(dw 52 5),qs ["self","token","event"],iB [.asg 1<|sM 95 [],.asg 2<|.make 501 (iL [.attr (.loc 1) 31,.attr (.loc 1) 32]) [q "encoding"]<|iL [.attr (.loc 1) 8],sS 25<|.qn (.loc 0) 96,.ret<|.loc 2]⟩
def aQ:FR:=⟨67,2,1347,q "parse_implicit_document_start",q "Parser.parse_implicit_document_start",.none,Fy,(dw 52 6),qs ["self","token","start_mark","end_mark","event"],iB [iF (.not<|sM 97 [tU [.attr (.iV 135) 50,.attr (.iV 147) 50,.attr (.iV 191) 50]]) [sS 22<|fF 98,.asg 1<|sM 99 [],.Kd 2 3<|.attr (.loc 1) 31,.asg 4<|.make 533 (iL [.loc 2,.loc 3]) [q "explicit"]<|iL [.bool false],.expr<|kC .append (fF 23) [.qn (.loc 0) 100],sS 25<|.qn (.loc 0) 101,.ret<|.loc 4] [.ret<|sM 102 []]]⟩
def ay:FR:=⟨68,2,1354,q "parse_document_start",q "Parser.parse_document_start",.none,Fy,(dw 52 7),qs ["self","token","start_mark","end_mark","event","version","tags"],iB [wH (sM 97 [tU [.attr (.iV 159) 50]]) [xM 95 []],iF (.not<|sM 97 [tU [.attr (.iV 191) 50]]) [.asg 1<|sM 99 [],.asg 2<|.attr (.loc 1) 31,.Ah [5,6]<|sM 103 [],iF (.not<|sM 97 [tU [.attr (.iV 147) 50]]) [.spec 2 .nil] [],.asg 1<|sM 95 [],.asg 3<|.attr (.loc 1) 32,.asg 4<|.make 533 (iL [.loc 2,.loc 3]) [q "explicit",q "version",q "tags"]<|iL [.bool true,.loc 5,.loc 6],.expr<|kC .append (fF 23) [.qn (.loc 0) 100],sS 25<|.qn (.loc 0) 104] [.asg 1<|sM 95 [],.asg 4<|mK 513 [.attr (.loc 1) 31,.attr (.loc 1) 32],.Qk<|.not<|fF 23,.Qk<|.not<|fF 24,sS 25 .none],.ret<|.loc 4]⟩
def c9:FR:=⟨69,2,1361,q "parse_document_end",q "Parser.parse_document_end",.none,Fy,(dw 52 8),qs ["self","token","start_mark","end_mark","explicit","event"],iB [.asg 1<|sM 99 [],.Kd 2 3<|.attr (.loc 1) 31,.asg 4<|.bool false,iF (sM 97 [tU [.attr (.iV 159) 50]]) [.asg 1<|sM 95 [],.asg 3<|.attr (.loc 1) 32,.asg 4<|.bool true] [],.asg 5<|.make 553 (iL [.loc 2,.loc 3]) [q "explicit"]<|iL [.loc 4],sS 25<|.qn (.loc 0) 102,.ret<|.loc 5]⟩
def cz:FR:=⟨70,2,1368,q "parse_document_content",q "Parser.parse_document_content",.none,Fy,(dw 52 9),qs ["self","event"],iB [iF (sM 97 [tU [.attr (.iV 135) 50,.attr (.iV 147) 50,.attr (.iV 159) 50,.attr (.iV 191) 50]]) [.asg 1<|sM 105 [.attr (sM 99 []) 31],sS 25<|kC .pop (fF 23) [],.ret<|.loc 1] [.ret<|sM 101 []]]⟩
def aD:FR:=⟨71,2,1375,q "process_directives",q "Parser.process_directives",.none,Fy,(dw 52 10),qs ["self","key","token","value","major","minor","handle","prefix"],iB [sS 21 .none,sS 22 .WN,wH (sM 97 [tU [.attr (.iV 135) 50]]) [.asg 2<|sM 95 [],iF (cE (.attr (.loc 2) 0)<|.str [89,65,77,76]) [iF (.cmp .IsNot (fF 21) .none) [.spec 3 .nil] [],.Ah [4,5]<|.attr (.loc 2) 33,iF (.cmp .NotEq (.loc 4)<|.int 1) [.spec 4 .nil] [],sS 21<|.attr (.loc 2) 33] [iF (cE (.attr (.loc 2) 0)<|.str [84,65,71]) [.Ah [6,7]<|.attr (.loc 2) 33,iF (cI (.loc 6)<|fF 22) [.spec 5 .nil] [],.sets (fF 22) (.loc 6)<|.loc 7] []]],iF (fF 22) [.spec 6 .nil] [.asg 3<|tU [fF 21,.none]],.spec 7<|iB [.bot],.ret<|.loc 3]⟩
def dM:FR:=⟨72,2,1382,q "parse_block_node",q "Parser.parse_block_node",.none,Fy,(dw 52 11),qs ["self"],iB [.ret<|.gJ (.loc 0) 106 .nil [q "block"]<|iL [.bool true]]⟩
def bX:FR:=⟨73,0,1404,q "parse_node",q "Parser.parse_node",(.ref 1397),Fy,(dw 52 14),qs ["self","block","indentless_sequence","token","event","anchor","tag","start_mark","end_mark","tag_mark","implicit","handle","suffix","node"],iB [iF (sM 97 [tU [.attr (.iV 342) 50]]) [.asg 3<|sM 95 [],.asg 4<|mK 565 [.attr (.loc 3) 33,.attr (.loc 3) 31,.attr (.loc 3) 32],sS 25<|kC .pop (fF 23) []] [.asg 5 .none,.asg 6 .none,.TU 7 8 9 .none,iF (sM 97 [tU [.attr (.iV 361) 50]]) [.bot,.bot,.bot,.bot,.bot] [iF (sM 97 [tU [.attr (.iV 380) 50]]) [.bot,.bot,.bot,.bot,.bot] []],iF (.cmp .IsNot (.loc 6) .none) [.bot,.bot] [],iF (.cmp .Is (.loc 7) .none) [.Kd 7 8<|.attr (sM 99 []) 31] [],.asg 4 .none,.asg 10<|bO .Or [.cmp .Is (.loc 6) .none,cE (.loc 6)<|.str [33]],iF (bO .And [.loc 2,sM 97 [tU [.attr (.iV 311) 50]]]) [.bot,.bot,.bot] [iF (sM 97 [tU [.attr (.iV 400) 50]]) [.asg 3<|sM 95 [],.asg 8<|.attr (.loc 3) 32,iF (bO .Or [bO .And [.attr (.loc 3) 34,.cmp .Is (.loc 6) .none],cE (.loc 6)<|.str [33]]) [.asg 10<|tU [.bool true,.bool false]] [iF (.cmp .Is (.loc 6) .none) [.asg 10<|tU [.bool false,.bool true]] [.bot]],.asg 4<|.make 585 (iL [.loc 5,.loc 6,.loc 10,.attr (.loc 3) 33,.loc 7,.loc 8]) [q "style"]<|iL [.attr (.loc 3) 35],sS 25<|kC .pop (fF 23) []] [.bot]]],.ret<|.loc 4]⟩
def cJ:FR:=⟨74,3,1518,q "process_empty_scalar",q "Parser.process_empty_scalar",.none,Fy,(dw 52 30),qs ["self","mark"],iB [.ret<|mK 585 [.none,.none,tU [.bool true,.bool false],.str [],.loc 1,.loc 1]]⟩
def nB:FR:=⟨75,1,1530,q "_law_ENDS",q "_law_ENDS",.none,Fz,(qo 54),qs [],iB [.ret<|.list<|iL [.str [10],.str [13,10],.str [8232],.str [13],.str [133],.str [8233]]]⟩
def nC:FR:=⟨76,1,1537,q "_law_ROWS",q "_law_ROWS",.none,Fz,(qo 55),qs [],iB [.ret<|.list<|iL [tU [.str [119],.str [112,108,97,105,110],.int 0,.str [119],.bool false],tU [.str [45,45,45],.str [109,97,114,107,101,114],.int 3,.str [],.bool false],tU [.str [32,32,118,32,117],.str [112,108,97,105,110],.int 2,.str [118,32,117],.bool false],tU [.str [37,89,65,77,76,32,49,46,49],.str [100,105,114,101,99,116,105,118,101],.int 0,.str [37,89,65,77,76,32,49,46,49],.bool false],tU [.str [46,46,46],.str [115,116,111,112],.int 0,.str [],.bool false],tU [.str [],.str [98,108,97,110,107],.int 0,.str [],.bool false],tU [.str [45,45,45,32,119],.str [109,97,114,107,101,114],.int 4,.str [119],.bool false],tU [.str [39,113,39],.str [113,117,111,116,101,100],.int 0,.str [39,113,39],.bool false],tU [.str [35,32,114],.str [114,101,109,97,114,107],.int 0,.str [],.bool true],tU [.str [37,84,65,71,32,33,101,33,32,120],.str [100,105,114,101,99,116,105,118,101],.int 0,.str [37,84,65,71,32,33,101,33,32,120],.bool false],tU [.str [45,45,45,120],.str [112,108,97,105,110],.int 0,.str [45,45,45,120],.bool false],tU [.str [46,46,46,46],.str [112,108,97,105,110],.int 0,.str [46,46,46,46],.bool false],tU [.str [32,45,45,45],.str [112,108,97,105,110],.int 1,.str [45,45,45],.bool false],tU [.str [45,45,45,32,39,112,39,32,35,32,114],.str [109,97,114,107,101,114],.int 4,.str [39,112,39],.bool true],tU [.str [32,42,120],.str [97,108,105,97,115],.int 1,.str [42,120],.bool false],tU [.str [46,46,46,32,35,32,114],.str [115,116,111,112],.int 0,.str [],.bool true],tU [.str [32,32],.str [98,108,97,110,107],.int 0,.str [],.bool false],tU [.str [37,122,32,45,45,45],.str [100,105,114,101,99,116,105,118,101],.int 0,.str [37,122,32,45,45,45],.bool false],tU [.str [119,32,35,32,114],.str [112,108,97,105,110],.int 0,.str [119],.bool true],tU [.str [45,45,45,32,35,32,114],.str [109,97,114,107,101,114],.int 4,.str [],.bool true],tU [.str [32,46,46,46],.str [112,108,97,105,110],.int 1,.str [46,46,46],.bool false],tU [.str [45,45,45,32,32,45,45,45],.str [109,97,114,107,101,114],.int 5,.str [45,45,45],.bool false],tU [.str [34,112,34,32,35,32,114],.str [113,117,111,116,101,100],.int 0,.str [34,112,34],.bool true],tU [.str [37,89,65,77,76,32,49,46,51,32,35,32,114],.str [100,105,114,101,99,116,105,118,101],.int 0,.str [37,89,65,77,76,32,49,46,51],.bool true],tU [.str [32,35,45,45,45],.str [114,101,109,97,114,107],.int 0,.str [],.bool true],tU [.str [45,45],.str [112,108,97,105,110],.int 0,.str [45,45],.bool false],tU [.str [37,84,65,71,32,33,32,121],.str [100,105,114,101,99,116,105,118,101],.int 0,.str [37,84,65,71,32,33,32,121],.bool false],tU [.str [45,45,45,32,46,46,46],.str [109,97,114,107,101,114],.int 4,.str [46,46,46],.bool false],tU [.str [45,45,45,35,120],.str [112,108,97,105,110],.int 0,.str [45,45,45,35,120],.bool false],tU [.str [37,89,65,77,76,32,50,46,48],.str [100,105,114,101,99,116,105,118,101],.int 0,.str [37,89,65,77,76,32,50,46,48],.bool false]]]⟩
def iy:FR:=⟨77,1,1544,q "_law_DIRECTIVES",q "_law_DIRECTIVES",.none,Fz,(qo 56),qs [],iB [.spec 8 .nil]⟩
def nD:FR:=⟨78,2,1551,q "_law_flag",q "_law_flag",.none,Fz,(qo 57),qs ["told"],iB [iF (.cmp .Is (.loc 0)<|.bool true) [.ret<|.str [121,101,115]] [],iF (.cmp .Is (.loc 0)<|.bool false) [.ret<|.str [110,111]] [],.bot]⟩
def cW:FR:=⟨79,2,1558,q "_law_mark",q "_law_mark",.none,Fz,(qo 58),qs ["mark"],iB [.ret<|tU [fF 9,fF 10,fF 11]]⟩
def nG:FR:=⟨80,2,1565,q "_law_told",q "_law_told",.none,Fz,(qo 59),qs ["event","start","stop","pair"],iB [.asg 1<|gC 1558 [fF 31],.asg 2<|gC 1558 [fF 32],iF (bC .isinstance [.loc 0,.iV 585]) [.asg 3<|tU [gC 1551 [.sub (fF 41)<|.int 0],gC 1551 [.sub (fF 41)<|.int 1]],.ret<|tU [.str [118,97,108,117,101],fF 36,fF 40,.loc 3,fF 33,fF 35,.loc 1,.loc 2]] [],iF (bC .isinstance [.loc 0,.iV 565]) [.ret<|tU [.str [97,108,105,97,115],fF 36,.loc 1,.loc 2]] [],iF (bC .isinstance [.loc 0,.iV 533]) [.ret<|tU [.str [100,111,99,117,109,101,110,116],gC 1551 [fF 37],fF 38,fF 39,.loc 1,.loc 2]] [],iF (bC .isinstance [.loc 0,.iV 553]) [.ret<|tU [.str [100,111,99,117,109,101,110,116,32,101,110,100],gC 1551 [fF 37],.loc 1,.loc 2]] [],iF (bC .isinstance [.loc 0,.iV 501]) [.ret<|tU [.str [115,116,114,101,97,109],.loc 1,.loc 2]] [],iF (bC .isinstance [.loc 0,.iV 513]) [.ret<|tU [.str [115,116,114,101,97,109,32,101,110,100],.loc 1,.loc 2]] [],.bot]⟩
def j4:FR:=⟨81,3,1572,q "_law_behind",q "_law_behind",.none,Fz,(qo 60),qs ["mark","count"],iB [.ret<|tU [.bin .Add (.sub (.loc 0)<|.int 0)<|.loc 1,.sub (.loc 0)<|.int 1,.bin .Add (.sub (.loc 0)<|.int 2)<|.loc 1]]⟩
def j5:FR:=⟨82,3,1579,q "_law_closed",q "_law_closed",.none,Fz,(qo 61),qs ["body","start","stop"],iB [.asg 2<|gC 1572 [.loc 1,bC .len [.loc 0]],iF (cE (.sub (.loc 0)<|.int 0)<|.str [42]) [.ret<|tU [.str [97,108,105,97,115],.slc (.loc 0) (.yes<|.int 1) .no,.loc 1,.loc 2]] [],.ret<|tU [.str [118,97,108,117,101],.none,.none,tU [.str [110,111],.str [121,101,115]],.slc (.loc 0) (.yes<|.int 1)<|.yes<|.bin .Sub (bC .len [.loc 0])<|.int 1,.sub (.loc 0)<|.int 0,.loc 1,.loc 2]]⟩
def lO:FR:=⟨83,4,1586,q "_law_plain",q "_law_plain",.none,Fz,(qo 62),qs ["value","start","stop"],iB [.ret<|tU [.str [118,97,108,117,101],.none,.none,tU [.str [121,101,115],.str [110,111]],.loc 0,.none,.loc 1,.loc 2]]⟩
def nH:FR:=⟨84,2,1593,q "_law_fold",q "_law_fold",.none,Fz,(qo 63),qs ["gaps"],iB [iF (.cmp .NotEq (.sub (.loc 0)<|.int 0)<|.str [10]) [.ret<|kC .join (.str []) [.loc 0]] [],iF (cE (bC .len [.loc 0])<|.int 1) [.ret<|.str [32]] [],.ret<|kC .join (.str []) [.slc (.loc 0) (.yes<|.int 1) .no]]⟩
def nJ:FR:=⟨85,3,1600,q "_law_fits",q "_law_fits",.none,Fz,(qo 64),qs ["state","sort"],iB [iF (cI (.loc 1)<|tU [.str [98,108,97,110,107],.str [114,101,109,97,114,107],.str [109,97,114,107,101,114],.str [100,105,114,101,99,116,105,118,101]]) [.ret<|.bool true] [],iF (cE (.loc 1)<|.str [115,116,111,112]) [.ret<|.cmp .NotIn (.loc 0)<|tU [.str [115,116,97,114,116],.str [97,104,101,97,100]]] [],.ret<|cI (.loc 0)<|tU [.str [115,116,97,114,116],.str [111,112,101,110],.str [112,108,97,105,110]]]⟩
def eO:FR:=⟨999,0,1605,q "law",q "law",.none,Fz,(qo 65),qs ["script","text","due","state","refused","version","tags","opened","value","start","stop","gaps","line","finish","n","parser","got","fault","end","spot","here","event","row","sort","place","body","shut","told","given"],iB [.asg 1<|.str [],.asg 2<|.list<|iL [tU [.str [115,116,114,101,97,109],tU [.int 0,.int 0,.int 0],tU [.int 0,.int 0,.int 0]]],.asg 3<|.str [115,116,97,114,116],.asg 4 .none,.asg 5 .none,.asg 6 .WN,.asg 7<|tU [.int 0,.int 0,.int 0],.asg 8<|.str [],.asg 9<|tU [.int 0,.int 0,.int 0],.asg 10<|tU [.int 0,.int 0,.int 0],.asg 11<|.list .nil,.asg 12<|.int 0,.asg 13<|tU [.int 0,.int 0,.int 0],.spec 9<|iB [.Ah [22,23,24,25,26]<|.sub (gC 1537 [])<|.bin .Mod (.loc 14)<|.int 30,iF (bO .And [.not<|gC 1600 [.loc 3,.loc 23],bO .Or [.cmp .Gt (.bin .Mod (.loc 14)<|.int 7)<|.int 0,cE (.loc 3)<|.str [115,116,97,114,116]]]) [.Ah [22,23,24,25,26]<|.sub (gC 1537 [])<|.int 1] [],.asg 18<|.sub (gC 1530 [])<|.bin .Mod (.bin .Add (.bin .FloorDiv (.loc 14)<|.int 30)<|.loc 12)<|.int 6,iF (bO .And [cE (.loc 18)<|.str [10],cE (.loc 22)<|.str [],cE (.slc (.loc 1) (.yes<|.neg<|.int 1) .no)<|.str [13]]) [.asg 18<|.str [133]] [],.asg 19<|tU [bC .len [.loc 1],.loc 12,.int 0],.asg 20<|gC 1572 [.loc 19,.loc 24],.asg 1<|.bin .Add (.bin .Add (.loc 1)<|.loc 22)<|.loc 18,.asg 12<|.bin .Add (.loc 12)<|.int 1,iF (bO .And [cE (.loc 23)<|.str [100,105,114,101,99,116,105,118,101],cE (.loc 3)<|.str [112,108,97,105,110]]) [.asg 23<|.str [112,108,97,105,110]] [],iF (bO .And [cE (.loc 23)<|.str [114,101,109,97,114,107],cE (.loc 3)<|.str [112,108,97,105,110]]) [.expr<|kC .append (.loc 2) [gC 1586 [.loc 8,.loc 9,.loc 10]],.asg 3<|.str [100,111,110,101]] [],iF (cI (.loc 23)<|tU [.str [109,97,114,107,101,114],.str [115,116,111,112],.str [100,105,114,101,99,116,105,118,101]]) [iF (cE (.loc 3)<|.str [112,108,97,105,110]) [.expr<|kC .append (.loc 2) [gC 1586 [.loc 8,.loc 9,.loc 10]],.asg 3<|.str [100,111,110,101]] [],iF (cE (.loc 3)<|.str [111,112,101,110]) [.expr<|kC .append (.loc 2) [gC 1586 [.str [],.loc 19,.loc 19]],.asg 3<|.str [100,111,110,101]] [],iF (cE (.loc 23)<|.str [115,116,111,112]) [iF (cE (.loc 3)<|.str [97,104,101,97,100]) [.asg 4<|.loc 19] [iF (cE (.loc 3)<|.str [100,111,110,101]) [.expr<|kC .append (.loc 2) [tU [.str [100,111,99,117,109,101,110,116,32,101,110,100],.str [121,101,115],.loc 19,gC 1572 [.loc 19,.int 3]]],.asg 3<|.str [101,110,100,101,100]] []]] [iF (cE (.loc 3)<|.str [100,111,110,101]) [.expr<|kC .append (.loc 2) [tU [.str [100,111,99,117,109,101,110,116,32,101,110,100],.str [110,111],.loc 19,.loc 19]]] [],iF (.cmp .NotEq (.loc 3)<|.str [97,104,101,97,100]) [.asg 5 .none,.asg 6 .WN,.asg 7<|.loc 19,.asg 3<|.str [97,104,101,97,100]] []],iF (cE (.loc 23)<|.str [100,105,114,101,99,116,105,118,101]) [.Ah [27,28]<|.sub (gC 1544 [])<|.loc 25,iF (bO .Or [cE (.loc 27)<|.str [102,111,114,101,105,103,110],bO .And [cE (.loc 27)<|.str [118,101,114,115,105,111,110],.cmp .IsNot (.loc 5) .none],cI (.loc 27)<|.loc 6]) [.asg 4<|.loc 19] [iF (cE (.loc 27)<|.str [118,101,114,115,105,111,110]) [.asg 5<|.loc 28] [iF (.cmp .NotEq (.loc 27)<|.str [111,116,104,101,114]) [.sets (.loc 6) (.loc 27)<|.loc 28] []]]] [],iF (cE (.loc 23)<|.str [109,97,114,107,101,114]) [.expr<|kC .append (.loc 2) [tU [.str [100,111,99,117,109,101,110,116],.str [121,101,115],.loc 5,.TR (.loc 6) (.loc 6) .none,.loc 7,gC 1572 [.loc 19,.int 3]]],.asg 3<|.str [111,112,101,110]] []] [],iF (bO .Or [cI (.loc 23)<|tU [.str [112,108,97,105,110],.str [113,117,111,116,101,100],.str [97,108,105,97,115]],bO .And [cE (.loc 23)<|.str [109,97,114,107,101,114],.loc 25]]) [.asg 10<|gC 1572 [.loc 20,bC .len [.loc 25]],iF (cE (.loc 3)<|.str [112,108,97,105,110]) [.asg 8<|.bin .Add (.bin .Add (.loc 8)<|gC 1593 [.loc 11])<|.loc 25] [iF (cI (.loc 3)<|tU [.str [115,116,97,114,116],.str [111,112,101,110]]) [iF (cE (.loc 3)<|.str [115,116,97,114,116]) [.expr<|kC .append (.loc 2) [tU [.str [100,111,99,117,109,101,110,116],.str [110,111],.none,.none,.loc 20,.loc 20]]] [],.asg 8<|.loc 25,.asg 9<|.loc 20,iF (cI (.sub (.loc 25)<|.int 0)<|.str [39,34,42]) [.expr<|kC .append (.loc 2) [gC 1579 [.loc 25,.loc 20]],.asg 3<|.str [100,111,110,101]] [.asg 3<|.str [112,108,97,105,110]]] [iF (cE (.loc 3)<|.str [100,111,110,101]) [.expr<|kC .append (.loc 2) [tU [.str [100,111,99,117,109,101,110,116,32,101,110,100],.str [110,111],.loc 20,.loc 20]]] [],.asg 4<|.loc 20]],.asg 11<|.list .nil,iF (bO .And [cE (.loc 3)<|.str [112,108,97,105,110],.loc 26]) [.expr<|kC .append (.loc 2) [gC 1586 [.loc 8,.loc 9,.loc 10]],.asg 3<|.str [100,111,110,101]] []] [],iF (.cmp .IsNot (.loc 4) .none) [.brk] [],.expr<|kC .append (.loc 11) [.TR (cI (.loc 18)<|tU [.str [8232],.str [8233]]) (.loc 18)<|.str [10]],.asg 13<|tU [bC .len [.loc 1],.loc 12,.int 0]],iF (bO .And [.cmp .Is (.loc 4) .none,cE (.bin .Mod (bC .len [.loc 0])<|.int 2)<|.int 1,.cmp .Gt (.loc 12)<|.int 0]) [.asg 1<|.slc (.loc 1) .no<|.yes<|.bin .Sub (bC .len [.loc 1])<|bC .len [.loc 18],.asg 13<|gC 1572 [.loc 19,bC .len [.loc 22]]] [],iF (.cmp .Is (.loc 4) .none) [iF (cE (.loc 3)<|.str [112,108,97,105,110]) [.expr<|kC .append (.loc 2) [gC 1586 [.loc 8,.loc 9,.loc 10]]] [],iF (cE (.loc 3)<|.str [111,112,101,110]) [.expr<|kC .append (.loc 2) [gC 1586 [.str [],.loc 13,.loc 13]]] [],iF (cI (.loc 3)<|tU [.str [112,108,97,105,110],.str [111,112,101,110],.str [100,111,110,101]]) [.expr<|kC .append (.loc 2) [tU [.str [100,111,99,117,109,101,110,116,32,101,110,100],.str [110,111],.loc 13,.loc 13]]] [],iF (cE (.loc 3)<|.str [97,104,101,97,100]) [.asg 4<|.loc 13] [.expr<|kC .append (.loc 2) [tU [.str [115,116,114,101,97,109,32,101,110,100],.loc 13,.loc 13]]]] [],iF (.cmp .IsNot (.loc 4) .none) [.expr<|kC .append (.loc 2) [tU [.str [114,101,102,117,115,101,100],.loc 4]]] [],.asg 15<|mK 1521 [.loc 1],.asg 16<|.list .nil,.spec 10<|iB [.asg 21<|.gJ (.loc 15) 107 .nil [] .nil,wH (.cmp .IsNot (.loc 21) .none) [.expr<|kC .append (.loc 16) [gC 1565 [.loc 21]],.asg 21<|.gJ (.loc 15) 107 .nil [] .nil]],.spec 11 .nil]⟩
def fV:List Str:=qs ["self","stream"]
def mJ:IS:=iB [.spec 1 .nil,sS 12<|.bool false,sS 13<|.int 0,sS 14<|.list .nil,xM 47 [],sS 15<|.int 0,sS 16<|.neg<|.int 1,sS 17<|.list .nil,sS 18<|.bool true,sS 19 .Zg]
def gi:List Str:=qs ["self","stream"]
def nK:IS:=iB [.spec 0 .nil,sS 20 .none,sS 21 .none,sS 22 .WN,sS 23<|.list .nil,sS 24<|.list .nil,sS 25<|.qn (.loc 0) 94]
noncomputable def en(P:Params)(x:Str)(t:Tok)(v:Value):DictEntry:=⟨PyData.keyHash P x,.str x t,v⟩
abbrev KE:=List<|String×Nat×Value
abbrev KR:=List<|Nat×Obj
noncomputable def kE(k:String)(t:Nat)(v:Value)(r:KE):KE:=(k,t,v)::r
def kF(k:String)(t a:Nat)(r:KE):KE:=kE k t (.ref a) r
def kZ(t a:Nat)(r:KE):KE:=kF "__static_attributes__" t a r
noncomputable def jM(t:Nat):KE:=[("__doc__",t,.none)]
noncomputable def oO(a:Nat)(o:Obj)(r:KR):KR:=(a,o)::r
def dO(P:Params)(a n:Nat)(es:KE):KR->KR:=oO a ⟨.type "dict",none,.dict (es.map λe=>en P (q e.1) e.2.1 e.2.2).toArray n,#[]⟩
def fO(f:FR)(t A B C D l d:Nat)(r:KR):KR:=
 oO f.fa ⟨.type "function",none,.func f.fd,#[]⟩<|
 oO f.cd ⟨.type "code",none,.fields #[.str f.nm t,.str f.ql<|t+1,kS "/claim/cut.py"<|t+2,.int A 0,.int B 0,.int 0 0,.int 0 0,.int C 0,.ref<|f.fa-6,.bool true,.int D 0,.ref<|f.fa-5,.none,.ref<|f.fa-4,.ref<|f.fa-3,.ref<|f.fa-2,.int l 0,.int A 0,kS "/claim/cut.py" d],#[]⟩ r
noncomputable def lI:Value:=.builtin "object.__new__"
noncomputable def T8:Value:=.builtin "Exception.__new__"
def cO(P:Params)(a:Nat)(n:String)(mro subs:List Value)(ann:Option Value)(t:Nat)(new:Value)(m:Value)(l k:Nat)(es:KE)(r:KR):KR:=
 oO a ⟨.type "type",none,.cls ⟨q n,mro.take 1,.ref a::mro,a-1,q n,true,[],subs,false,none,false⟩,#[ann,none,some<|kS n t,some<|kS n<|t+8,some new,some<|.bool true]⟩<|
 dO P (a-1) k (("__module__",t+7,m)::("__firstlineno__",t+11,.int l<|t+10)::es) r
set_option maxHeartbeats 4000000 in
def K(P:Params):Frag:=cO P 1521 "Parser" [(.ref 1281),(.ref 730),(.type "object")] [] (some<|.ref 1296) 2116 lI Fy 1148 3 (kF "DEFAULT_TAGS" 2134 1304<|kF "__init__" 2143 1312<|kF "dispose" 2150 1319<|kF "peek_event" 2157 1326<|kF "get_event" 2165 1333<|kF "parse_stream_start" 2174 1340<|kF "parse_implicit_document_start" 2185 1347<|kF "parse_document_start" 2198 1354<|kF "parse_document_end" 2210 1361<|kF "parse_document_content" 2218 1368<|kF "process_directives" 2232 1375<|kF "parse_block_node" 2239 1382<|kF "parse_flow_node" 2246 1389<|kF "parse_block_node_or_indentless_sequence" 2253 1396<|kF "parse_node" 2273 1404<|kF "parse_block_sequence_first_entry" 2281 1411<|kF "parse_block_sequence_entry" 2290 1418<|kF "parse_indentless_sequence_entry" 2299 1425<|kF "parse_block_mapping_first_key" 2307 1432<|kF "parse_block_mapping_key" 2316 1439<|kF "parse_block_mapping_value" 2324 1446<|kF "parse_flow_sequence_first_entry" 2332 1453<|kF "parse_flow_sequence_entry" 2342 1461<|kF "parse_flow_sequence_entry_mapping_key" 2350 1468<|kF "parse_flow_sequence_entry_mapping_value" 2358 1475<|kF "parse_flow_sequence_entry_mapping_end" 2366 1482<|kF "parse_flow_mapping_first_key" 2374 1489<|kF "parse_flow_mapping_key" 2384 1497<|kF "parse_flow_mapping_value" 2392 1504<|kF "parse_flow_mapping_empty_value" 2399 1511<|kF "process_empty_scalar" 2407 1518<|kZ 2414 1519<|jM 2416)<|
 cO P 1293 "ParserError" [(.ref 95),(.ref 67),(.type "Exception"),(.type "BaseException"),(.type "object")] [] (some<|.ref 1284) 2100 T8 Fy 1146 2 (kZ 2112 1291<|jM 2113)<|
 cO P 1281 "Scanner" [(.ref 730),(.type "object")] [(.ref 1521)] (some<|.ref 768) 1342 lI jB 304 3 (kF "__init__" 1362 783<|kF "check_token" 1370 792<|kF "peek_token" 1377 799<|kF "get_token" 1384 806<|kF "need_more_tokens" 1391 813<|kF "fetch_more_tokens" 1399 820<|kF "next_possible_simple_key" 1409 827<|kF "stale_possible_simple_keys" 1418 834<|kF "save_possible_simple_key" 1428 841<|kF "remove_possible_simple_key" 1436 848<|kF "unwind_indent" 1445 855<|kF "add_indent" 1453 862<|kF "fetch_stream_start" 1461 869<|kF "fetch_stream_end" 1469 876<|kF "fetch_directive" 1476 883<|kF "fetch_document_start" 1483 890<|kF "fetch_document_end" 1490 897<|kF "fetch_document_indicator" 1500 904<|kF "fetch_flow_sequence_start" 1507 911<|kF "fetch_flow_mapping_start" 1514 918<|kF "fetch_flow_collection_start" 1524 925<|kF "fetch_flow_sequence_end" 1531 932<|kF "fetch_flow_mapping_end" 1538 939<|kF "fetch_flow_collection_end" 1548 946<|kF "fetch_flow_entry" 1557 953<|kF "fetch_block_entry" 1567 960<|kF "fetch_key" 1577 967<|kF "fetch_value" 1588 974<|kF "fetch_alias" 1595 981<|kF "fetch_anchor" 1602 988<|kF "fetch_tag" 1609 995<|kF "fetch_literal" 1616 1002<|kF "fetch_folded" 1623 1009<|kF "fetch_block_scalar" 1631 1016<|kF "fetch_single" 1638 1023<|kF "fetch_double" 1645 1030<|kF "fetch_flow_scalar" 1653 1037<|kF "fetch_plain" 1660 1044<|kF "check_directive" 1667 1051<|kF "check_document_start" 1674 1058<|kF "check_document_end" 1681 1065<|kF "check_block_entry" 1688 1072<|kF "check_key" 1695 1079<|kF "check_value" 1702 1086<|kF "check_plain" 1710 1093<|kF "scan_to_next_token" 1718 1100<|kF "scan_directive" 1729 1107<|kF "scan_directive_name" 1740 1114<|kF "scan_yaml_directive_value" 1750 1121<|kF "scan_yaml_directive_number" 1761 1128<|kF "scan_tag_directive_value" 1771 1135<|kF "scan_tag_directive_handle" 1781 1142<|kF "scan_tag_directive_prefix" 1791 1149<|kF "scan_directive_ignored_line" 1800 1156<|kF "scan_anchor" 1815 1163<|kF "scan_tag" 1830 1170<|kF "scan_block_scalar" 1851 1177<|kF "scan_block_scalar_indicators" 1862 1184<|kF "scan_block_scalar_ignored_line" 1871 1191<|kF "scan_block_scalar_indentation" 1881 1198<|kF "scan_block_scalar_breaks" 1891 1205<|kF "scan_flow_scalar" 1904 1212<|kF "ESCAPE_REPLACEMENTS" 1959 1213<|kF "ESCAPE_CODES" 1969 1215<|kF "scan_flow_scalar_non_spaces" 1983 1222<|kF "scan_flow_scalar_spaces" 1998 1229<|kF "scan_flow_scalar_breaks" 2009 1236<|kF "scan_plain" 2023 1243<|kF "scan_plain_spaces" 2039 1250<|kF "scan_tag_handle" 2051 1257<|kF "scan_tag_uri" 2063 1264<|kF "scan_uri_escapes" 2076 1271<|kF "scan_line_break" 2084 1278<|kZ 2093 1279<|jM 2095)<|
 cO P 763 "SimpleKey" [(.type "object")] [] none 1303 lI jB 295 4 (kF "__init__" 1327 760<|kZ 1334 761<|kF "__dict__" 1336 764<|kF "__weakref__" 1338 765<|jM 1339)<|
 cO P 744 "ScannerError" [(.ref 95),(.ref 67),(.type "Exception"),(.type "BaseException"),(.type "object")] [] (some<|.ref 735) 1287 T8 jB 293 2 (kZ 1299 742<|jM 1300)<|
 cO P 730 "Reader" [(.type "object")] [(.ref 1281)] (some<|.ref 669) 1191 lI J1 231 4 (kF "__init__" 1210 682<|kF "peek" 1219 690<|kF "prefix" 1228 698<|kF "forward" 1238 706<|kF "get_mark" 1245 713<|kF "check_printable" 1256 720<|kF "update" 1264 727<|kZ 1277 728<|kF "__dict__" 1279 731<|kF "__weakref__" 1281 732<|jM 1282)<|
 cO P 659 "ReaderError" [(.ref 67),(.type "Exception"),(.type "BaseException"),(.type "object")] [] (some<|.ref 636) 1144 T8 J1 215 2 (kF "__init__" 1167 649<|kF "__str__" 1174 656<|kZ 1180 657<|jM 1181)<|
 cO P 633 "MappingEndEvent" [(.ref 481),(.ref 427),(.type "object")] [] (some<|.ref 624) 1126 lI wh 212 2 (kZ 1138 631<|jM 1139)<|
 cO P 621 "MappingStartEvent" [(.ref 469),(.ref 449),(.ref 427),(.type "object")] [] (some<|.ref 612) 1110 lI wh 210 2 (kZ 1122 619<|jM 1123)<|
 cO P 609 "SequenceEndEvent" [(.ref 481),(.ref 427),(.type "object")] [] (some<|.ref 600) 1094 lI wh 208 2 (kZ 1106 607<|jM 1107)<|
 cO P 597 "SequenceStartEvent" [(.ref 469),(.ref 449),(.ref 427),(.type "object")] [] (some<|.ref 588) 1078 lI wh 206 2 (kZ 1090 595<|jM 1091)<|
 cO P 585 "ScalarEvent" [(.ref 449),(.ref 427),(.type "object")] [] (some<|.ref 568) 1041 lI wh 196 2 (kF "__init__" 1066 582<|kZ 1074 583<|jM 1075)<|
 cO P 565 "AliasEvent" [(.ref 449),(.ref 427),(.type "object")] [] (some<|.ref 556) 1025 lI wh 194 2 (kZ 1037 563<|jM 1038)<|
 cO P 553 "DocumentEndEvent" [(.ref 427),(.type "object")] [] (some<|.ref 536) 996 lI wh 188 2 (kF "__init__" 1017 550<|kZ 1021 551<|jM 1022)<|
 cO P 533 "DocumentStartEvent" [(.ref 427),(.type "object")] [] (some<|.ref 516) 963 lI wh 180 2 (kF "__init__" 986 530<|kZ 992 531<|jM 993)<|
 cO P 513 "StreamEndEvent" [(.ref 427),(.type "object")] [] (some<|.ref 504) 947 lI wh 178 2 (kZ 959 511<|jM 960)<|
 cO P 501 "StreamStartEvent" [(.ref 427),(.type "object")] [] (some<|.ref 484) 918 lI wh 172 2 (kF "__init__" 939 498<|kZ 943 499<|jM 944)<|
 cO P 481 "CollectionEndEvent" [(.ref 427),(.type "object")] [(.ref 609),(.ref 633)] (some<|.ref 472) 902 lI wh 170 2 (kZ 914 479<|jM 915)<|
 cO P 469 "CollectionStartEvent" [(.ref 449),(.ref 427),(.type "object")] [(.ref 597),(.ref 621)] (some<|.ref 452) 867 lI wh 161 2 (kF "__init__" 891 466<|kZ 898 467<|jM 899)<|
 cO P 449 "NodeEvent" [(.ref 427),(.type "object")] [(.ref 469),(.ref 565),(.ref 585)] (some<|.ref 432) 838 lI wh 155 2 (kF "__init__" 859 446<|kZ 863 447<|jM 864)<|
 cO P 427 "Event" [(.type "object")] [(.ref 449),(.ref 481),(.ref 501),(.ref 513),(.ref 533),(.ref 553)] (some<|.ref 403) 800 lI wh 147 4 (kF "__init__" 820 417<|kF "__repr__" 827 424<|kZ 830 425<|kF "__dict__" 832 428<|kF "__weakref__" 834 429<|jM 835)<|
 cO P 400 "ScalarToken" [(.ref 114),(.type "object")] [] (some<|.ref 383) 763 lI sy 137 2 (kE "id" 776 (kS "<scalar>" 775)<|kF "__init__" 788 397<|kZ 794 398<|jM 795)<|
 cO P 380 "TagToken" [(.ref 114),(.type "object")] [] (some<|.ref 364) 732 lI sy 130 2 (kE "id" 745 (kS "<tag>" 744)<|kF "__init__" 755 377<|kZ 759 378<|jM 760)<|
 cO P 361 "AnchorToken" [(.ref 114),(.type "object")] [] (some<|.ref 345) 701 lI sy 123 2 (kE "id" 714 (kS "<anchor>" 713)<|kF "__init__" 724 358<|kZ 728 359<|jM 729)<|
 cO P 342 "AliasToken" [(.ref 114),(.type "object")] [] (some<|.ref 326) 670 lI sy 116 2 (kE "id" 683 (kS "<alias>" 682)<|kF "__init__" 693 339<|kZ 697 340<|jM 698)<|
 cO P 323 "FlowEntryToken" [(.ref 114),(.type "object")] [] (some<|.ref 314) 652 lI sy 114 2 (kE "id" 665 (kS "," 664)<|kZ 666 321<|jM 667)<|
 cO P 311 "BlockEntryToken" [(.ref 114),(.type "object")] [] (some<|.ref 302) 634 lI sy 112 2 (kE "id" 647 (kS "-" 646)<|kZ 648 309<|jM 649)<|
 cO P 299 "ValueToken" [(.ref 114),(.type "object")] [] (some<|.ref 290) 616 lI sy 110 2 (kE "id" 629 (kS ":" 628)<|kZ 630 297<|jM 631)<|
 cO P 287 "KeyToken" [(.ref 114),(.type "object")] [] (some<|.ref 278) 598 lI sy 108 2 (kE "id" 611 (kS "?" 610)<|kZ 612 285<|jM 613)<|
 cO P 275 "FlowMappingEndToken" [(.ref 114),(.type "object")] [] (some<|.ref 266) 580 lI sy 106 2 (kE "id" 593 (kS "}" 592)<|kZ 594 273<|jM 595)<|
 cO P 263 "FlowSequenceEndToken" [(.ref 114),(.type "object")] [] (some<|.ref 254) 562 lI sy 104 2 (kE "id" 575 (kS "]" 574)<|kZ 576 261<|jM 577)<|
 cO P 251 "FlowMappingStartToken" [(.ref 114),(.type "object")] [] (some<|.ref 242) 544 lI sy 102 2 (kE "id" 557 (kS "{" 556)<|kZ 558 249<|jM 559)<|
 cO P 239 "FlowSequenceStartToken" [(.ref 114),(.type "object")] [] (some<|.ref 230) 526 lI sy 100 2 (kE "id" 539 (kS "[" 538)<|kZ 540 237<|jM 541)<|
 cO P 227 "BlockEndToken" [(.ref 114),(.type "object")] [] (some<|.ref 218) 508 lI sy 98 2 (kE "id" 521 (kS "<block end>" 520)<|kZ 522 225<|jM 523)<|
 cO P 215 "BlockMappingStartToken" [(.ref 114),(.type "object")] [] (some<|.ref 206) 490 lI sy 96 2 (kE "id" 503 (kS "<block mapping start>" 502)<|kZ 504 213<|jM 505)<|
 cO P 203 "BlockSequenceStartToken" [(.ref 114),(.type "object")] [] (some<|.ref 194) 472 lI sy 94 2 (kE "id" 485 (kS "<block sequence start>" 484)<|kZ 486 201<|jM 487)<|
 cO P 191 "StreamEndToken" [(.ref 114),(.type "object")] [] (some<|.ref 182) 454 lI sy 92 2 (kE "id" 467 (kS "<stream end>" 466)<|kZ 468 189<|jM 469)<|
 cO P 179 "StreamStartToken" [(.ref 114),(.type "object")] [] (some<|.ref 162) 423 lI sy 85 2 (kE "id" 436 (kS "<stream start>" 435)<|kF "__init__" 446 176<|kZ 450 177<|jM 451)<|
 cO P 159 "DocumentEndToken" [(.ref 114),(.type "object")] [] (some<|.ref 150) 405 lI sy 83 2 (kE "id" 418 (kS "<document end>" 417)<|kZ 419 157<|jM 420)<|
 cO P 147 "DocumentStartToken" [(.ref 114),(.type "object")] [] (some<|.ref 138) 387 lI sy 81 2 (kE "id" 400 (kS "<document start>" 399)<|kZ 401 145<|jM 402)<|
 cO P 135 "DirectiveToken" [(.ref 114),(.type "object")] [] (some<|.ref 119) 354 lI sy 73 2 (kE "id" 367 (kS "<directive>" 366)<|kF "__init__" 378 132<|kZ 383 133<|jM 384)<|
 cO P 114 "Token" [(.type "object")] [(.ref 135),(.ref 147),(.ref 159),(.ref 179),(.ref 191),(.ref 203),(.ref 215),(.ref 227),(.ref 239),(.ref 251),(.ref 263),(.ref 275),(.ref 287),(.ref 299),(.ref 311),(.ref 323),(.ref 342),(.ref 361),(.ref 380),(.ref 400)] (some<|.ref 98) 323 lI sy 68 4 (kF "__init__" 343 111<|kZ 346 112<|kF "__dict__" 348 115<|kF "__weakref__" 350 116<|jM 351)<|
 cO P 95 "MarkedYAMLError" [(.ref 67),(.type "Exception"),(.type "BaseException"),(.type "object")] [(.ref 744),(.ref 1293)] (some<|.ref 71) 280 T8 T7 45 2 (kF "__init__" 303 85<|kF "__str__" 311 92<|kZ 317 93<|jM 318)<|
 cO P 67 "YAMLError" [(.type "Exception"),(.type "BaseException"),(.type "object")] [(.ref 95),(.ref 659)] (some<|.ref 58) 260 T8 T7 43 3 (kZ 272 65<|kF "__weakref__" 274 68<|jM 275)<|
 cO P 53 "Mark" [(.type "object")] [] none 196 lI T7 5 4 (kF "__init__" 220 35<|kF "get_snippet" 236 43<|kF "__str__" 245 50<|kZ 252 51<|kF "__dict__" 254 54<|kF "__weakref__" 256 55<|jM 257)<|
 fO lK 208 7 7 3 181 218 219<|
 fO g6 292 47 6 3 181 301 302<|
 fO gK 335 70 3 3 181 341 342<|
 fO fH 368 76 5 3 181 376 377<|
 fO bN 437 88 4 3 181 444 445<|
 fO gY 684 119 4 3 181 691 692<|
 fO bq 777 140 6 3 181 786 787<|
 fO gM 812 149 3 3 181 818 819<|
 fO dZ 850 157 4 3 181 857 858<|
 fO bP 930 174 4 3 181 937 938<|
 fO aI 975 182 6 3 181 984 985<|
 fO bQ 1008 190 4 3 181 1015 1016<|
 fO bu 1053 198 8 3 181 1064 1065<|
 fO jj 1184 229 1 3 181 1188 1189<|
 fO jC 1203 233 2 3 181 1208 1209<|
 fO cN 1212 251 2 3 181 1217 1218<|
 fO fk 1221 258 2 3 181 1226 1227<|
 fO aG 1230 263 2 3 181 1236 1237<|
 fO fJ 1239 277 1 3 181 1243 1244<|
 fO bG 1246 283 2 3 181 1254 1255<|
 fO iW 1257 289 2 3 181 1262 1263<|
 fO iw 1315 297 7 3 181 1325 1326<|
 fO cu 1363 318 2 3 181 1368 1369<|
 fO f6 1371 328 1 3 181 1375 1376<|
 fO gh 1378 336 1 3 181 1382 1383<|
 fO dz 1385 343 1 3 181 1389 1390<|
 fO aT 1392 352 1 3 181 1397 1398<|
 fO bR 1400 399 1 3 181 1407 1408<|
 fO bA 1410 407 1 3 181 1416 1417<|
 fO bS 1419 415 1 3 181 1426 1427<|
 fO bB 1429 423 1 3 181 1434 1435<|
 fO eH 1437 430 2 3 181 1443 1444<|
 fO cQ 1454 445 1 3 181 1459 1460<|
 fO dB 1462 449 1 3 181 1467 1468<|
 fO dI 1470 458 1 3 181 1474 1475<|
 fO cC 1477 464 1 3 181 1481 1482<|
 fO cR 1484 467 1 3 181 1488 1489<|
 fO bT 1491 470 2 3 181 1498 1499<|
 fO fK 1589 571 1 3 181 1593 1594<|
 fO fq 1632 597 1 3 181 1636 1637<|
 fO fy 1639 600 1 3 181 1643 1644<|
 fO bg 1646 603 2 3 181 1651 1652<|
 fO fL 1654 608 1 3 181 1658 1659<|
 fO dJ 1661 613 1 3 181 1665 1666<|
 fO cG 1668 617 1 3 181 1672 1673<|
 fO cU 1675 622 1 3 181 1679 1680<|
 fO c7 1682 627 1 3 181 1686 1687<|
 fO fM 1703 642 1 3 181 1708 1709<|
 fO aA 1711 646 1 3 181 1716 1717<|
 fO aR 1719 662 1 3 181 1727 1728<|
 fO cH 1730 680 2 3 181 1738 1739<|
 fO bI 1741 695 2 3 181 1748 1749<|
 fO bD 1751 707 2 3 181 1759 1760<|
 fO bU 1762 718 2 3 181 1769 1770<|
 fO bJ 1772 727 2 3 181 1779 1780<|
 fO bK 1782 734 2 3 181 1789 1790<|
 fO aJ 1792 741 2 3 181 1798 1799<|
 fO fN 1801 752 2 3 181 1813 1814<|
 fO aV 1892 926 2 3 181 1902 1903<|
 fO bz 1970 945 3 3 181 1981 1982<|
 fO aX 2010 1019 1 3 181 2021 2022<|
 fO aj 2024 1046 3 3 181 2037 2038<|
 fO cy 2040 1078 3 3 181 2049 2050<|
 fO fz 2052 1096 3 3 181 2061 2062<|
 fO dK 2077 1133 1 3 181 2082 2083<|
 fO fc 2158 1166 1 3 181 2163 2164<|
 fO c8 2166 1174 1 3 181 2172 2173<|
 fO aQ 2175 1180 1 3 181 2183 2184<|
 fO ay 2186 1192 1 3 181 2196 2197<|
 fO c9 2199 1214 1 3 181 2208 2209<|
 fO cz 2211 1226 1 3 181 2216 2217<|
 fO aD 2219 1234 1 3 181 2230 2231<|
 fO dM 2233 1260 1 3 181 2237 2238<|
 fO bX 2254 1269 3 3 181 2271 2272<|
 fO cJ 2400 1529 2 3 181 2405 2406<|
 fO nB 2421 1532 0 3 181 2424 2425<|
 fO nC 2427 1534 0 3 181 2430 2431<|
 fO iy 2433 1536 0 3 181 2436 2437<|
 fO nD 2439 1538 1 3 181 2443 2444<|
 fO cW 2446 1544 1 3 181 2450 2451<|
 fO nG 2453 1546 1 3 181 2460 2461<|
 fO j4 2463 1563 2 3 181 2468 2469<|
 fO j5 2471 1565 2 3 181 2477 2478<|
 fO lO 2480 1570 3 3 181 2486 2487<|
 fO nH 2489 1572 1 3 181 2493 2494<|
 fO nJ 2496 1578 2 3 181 2501 2502<|
 dO P 3 68 (kE "__name__" 165 (kS "law_te0012_01" 2419)<|kE "__doc__" 166 .none<|kE "__package__" 167 .none<|kE "__loader__" 168 (.builtin "__main__.__loader__#opaque")<|kE "__spec__" 169 .none<|kF "__annotations__" 170 6<|kF "__builtins__" 171 4<|kE "__file__" 173 (kS "/claim/cut.py" 172)<|kE "__cached__" 174 .none<|kF "_wall" 193 21<|kF "Mark" 259 53<|kF "YAMLError" 279 67<|kF "MarkedYAMLError" 320 95<|kF "Token" 353 114<|kF "DirectiveToken" 386 135<|kF "DocumentStartToken" 404 147<|kF "DocumentEndToken" 422 159<|kF "StreamStartToken" 453 179<|kF "StreamEndToken" 471 191<|kF "BlockSequenceStartToken" 489 203<|kF "BlockMappingStartToken" 507 215<|kF "BlockEndToken" 525 227<|kF "FlowSequenceStartToken" 543 239<|kF "FlowMappingStartToken" 561 251<|kF "FlowSequenceEndToken" 579 263<|kF "FlowMappingEndToken" 597 275<|kF "KeyToken" 615 287<|kF "ValueToken" 633 299<|kF "BlockEntryToken" 651 311<|kF "FlowEntryToken" 669 323<|kF "AliasToken" 700 342<|kF "AnchorToken" 731 361<|kF "TagToken" 762 380<|kF "ScalarToken" 797 400<|kF "Event" 837 427<|kF "NodeEvent" 866 449<|kF "CollectionStartEvent" 901 469<|kF "CollectionEndEvent" 917 481<|kF "StreamStartEvent" 946 501<|kF "StreamEndEvent" 962 513<|kF "DocumentStartEvent" 995 533<|kF "DocumentEndEvent" 1024 553<|kF "AliasEvent" 1040 565<|kF "ScalarEvent" 1077 585<|kF "SequenceStartEvent" 1093 597<|kF "SequenceEndEvent" 1109 609<|kF "MappingStartEvent" 1125 621<|kF "MappingEndEvent" 1141 633<|kF "ReaderError" 1183 659<|kF "_is_printable" 1190 668<|kF "Reader" 1284 730<|kF "ScannerError" 1302 744<|kF "SimpleKey" 1341 763<|kF "Scanner" 2097 1281<|kF "ParserError" 2115 1293<|kF "Parser" 2418 1521<|kF "_law_ENDS" 2426 1530<|kF "_law_ROWS" 2432 1537<|kF "_law_DIRECTIVES" 2438 1544<|kF "_law_flag" 2445 1551<|kF "_law_mark" 2452 1558<|kF "_law_told" 2462 1565<|kF "_law_behind" 2470 1572<|kF "_law_closed" 2479 1579<|kF "_law_plain" 2488 1586<|kF "_law_fold" 2495 1593<|kF "_law_fits" 2503 1600<|kF "law" 2509 1605 [])<|
 oO 2 ⟨.none,none,(.dict #[en P (q "type.__subclasses__.Exception.0") 276<|.int 67 0,en P (q "type.__subclasses__.Exception.n") 277<|.int 1 0] 2),#[]⟩<|
 oO 78 ⟨(.type "tuple"),none,(.seq #[.none,.none,.none,.none,.none] 0),#[]⟩<|
 oO 169 ⟨(.type "tuple"),none,(.seq #[.none,.none,.none] 0),#[]⟩<|
 oO 390 ⟨(.type "tuple"),none,(.seq #[.none] 0),#[]⟩<|
 oO 410 ⟨(.type "tuple"),none,(.seq #[.none,.none] 0),#[]⟩<|
 oO 439 ⟨(.type "tuple"),none,(.seq #[.none,.none] 0),#[]⟩<|
 oO 491 ⟨(.type "tuple"),none,(.seq #[.none,.none,.none] 0),#[]⟩<|
 oO 523 ⟨(.type "tuple"),none,(.seq #[.none,.none,.none,.none,.none] 0),#[]⟩<|
 oO 543 ⟨(.type "tuple"),none,(.seq #[.none,.none,.none] 0),#[]⟩<|
 oO 575 ⟨(.type "tuple"),none,(.seq #[.none,.none,.none] 0),#[]⟩<|
 oO 683 ⟨(.type "tuple"),none,(.seq #[(.int 0 1211)] 0),#[]⟩<|
 oO 691 ⟨(.type "tuple"),none,(.seq #[(.int 1 1220)] 0),#[]⟩<|
 oO 699 ⟨(.type "tuple"),none,(.seq #[(.int 1 1229)] 0),#[]⟩<|
 oO 783 ⟨(.type "function"),none,(.func<|fnX (q "__init__") (q "Scanner.__init__") (s8<|dw 49 0) (gV<|dw 49 0) (dS<|dw 49 0) [((q "__class__"),771)] .none .none .none (.str (q "yaml.scanner") 1285) none (.ref 782)<|.ref 776),#[]⟩<|
 oO 782 ⟨(.type "code"),none,(.fields #[(.str (q "__init__") 1354),(.str (q "Scanner.__init__") 1355),(.str (q "/claim/cut.py") 1356),(.int 306 0),(.int 2 0),(.int 0 0),(.int 0 0),(.int 3 0),(.ref 777),(.bool true),(.int 181 0),(.ref 778),.none,(.ref 779),(.ref 780),(.ref 781),(.int 1360 0),(.int 306 0),(.str (q "/claim/cut.py") 1361)]),#[]⟩<|
 oO 771 ⟨(.type "cell"),none,(.cell<|some<|.ref 1281),#[]⟩<|
 oO 785 ⟨(.type "tuple"),none,(.seq #[(.ref 784)] 0),#[]⟩<|
 oO 1312 ⟨(.type "function"),none,(.func<|fnX (q "__init__") (q "Parser.__init__") (s8<|dw 52 1) (gV<|dw 52 1) (dS<|dw 52 1) [((q "__class__"),1299)] .none .none .none (.str (q "yaml.parser") 2098) none (.ref 1311)<|.ref 1305),#[]⟩<|
 oO 1311 ⟨(.type "code"),none,(.fields #[(.str (q "__init__") 2135),(.str (q "Parser.__init__") 2136),(.str (q "/claim/cut.py") 2137),(.int 1151 0),(.int 2 0),(.int 0 0),(.int 0 0),(.int 3 0),(.ref 1306),(.bool true),(.int 181 0),(.ref 1307),.none,(.ref 1308),(.ref 1309),(.ref 1310),(.int 2141 0),(.int 1151 0),(.str (q "/claim/cut.py") 2142)]),#[]⟩<|
 oO 1299 ⟨(.type "cell"),none,(.cell<|some<|.ref 1521),#[]⟩<|
 oO 1397 ⟨(.type "tuple"),none,(.seq #[(.bool false),(.bool false)] 0),#[]⟩<|
 oO 1605 ⟨(.type "function"),none,(.func<|fnX (q "law") (q "law") (s8<|qo 65) (gV<|qo 65) (dS<|qo 65) [] .none .none .none (.str (q "law_te0012_01") 2419) none (.ref 1604) .none),#[]⟩<|
 oO 1604 ⟨(.type "code"),none,(.fields #[(.str (q "law") 2504),(.str (q "law") 2505),(.str (q "/claim/cut.py") 2506),(.int 1584 0),(.int 1 0),(.int 0 0),(.int 0 0),(.int 3 0),(.ref 1601),(.bool true),(.int 181 0),(.ref 1602),.none,.none,.none,(.ref 1603),(.int 2507 0),(.int 1584 0),(.str (q "/claim/cut.py") 2508)]),#[]⟩<|
 dO P 1213 18 (kE "0" 1905 (kS "\u0000" 1906)<|kE "a" 1908 (kS "\u0007" 1909)<|kE "b" 1911 (kS "\u0008" 1912)<|kE "t" 1914 (kS "\t" 1915)<|kE "\t" 1917 (kS "\t" 1918)<|kE "n" 1920 (kS "\n" 1921)<|kE "v" 1923 (kS "\u000b" 1924)<|kE "f" 1926 (kS "\u000c" 1927)<|kE "r" 1929 (kS "\r" 1930)<|kE "e" 1932 (kS "\u001b" 1933)<|kE " " 1935 (kS " " 1936)<|kE "\"" 1938 (kS "\"" 1939)<|kE "\\" 1941 (kS "\\" 1942)<|kE "/" 1944 (kS "/" 1945)<|kE "N" 1947 (kS "\u0085" 1948)<|kE "_" 1950 (kS "\u00a0" 1951)<|kE "L" 1953 (kS "\u2028" 1954)<|kE "P" 1956 (kS "\u2029" 1957) [])<|
 dO P 1215 3 (kE "x" 1960 (.int 2 1961)<|kE "u" 1962 (.int 4 1963)<|kE "U" 1964 (.int 8 1965) [])<|
 dO P 1304 2 (kE "!" 2128 (kS "!" 2129)<|kE "!!" 2130 (kS "tag:yaml.org,2002:" 2131) []) []
def loose:List Str:=[q "_wall",q "Mark",q "YAMLError",q "MarkedYAMLError",q "Token",q "DirectiveToken",q "DocumentStartToken",q "DocumentEndToken",q "StreamStartToken",q "StreamEndToken",q "BlockSequenceStartToken",q "BlockMappingStartToken",q "BlockEndToken",q "FlowSequenceStartToken",q "FlowMappingStartToken",q "FlowSequenceEndToken",q "FlowMappingEndToken",q "KeyToken",q "ValueToken",q "BlockEntryToken",q "FlowEntryToken",q "AliasToken",q "AnchorToken",q "TagToken",q "ScalarToken",q "Event",q "NodeEvent",q "CollectionStartEvent",q "CollectionEndEvent",q "StreamStartEvent",q "StreamEndEvent",q "DocumentStartEvent",q "DocumentEndEvent",q "AliasEvent",q "ScalarEvent",q "SequenceStartEvent",q "SequenceEndEvent",q "MappingStartEvent",q "MappingEndEvent",q "ReaderError",q "_is_printable",q "Reader",q "ScannerError",q "SimpleKey",q "Scanner",q "ParserError",q "Parser",q "_law_ENDS",q "_law_ROWS",q "_law_DIRECTIVES",q "_law_flag",q "_law_mark",q "_law_told",q "_law_behind",q "_law_closed",q "_law_plain",q "_law_fold",q "_law_fits"]
def qv:Program:={pw with main:={pw.main with body:=[qo 65]}}
noncomputable abbrev FA:OpenLaw:=PySem.Challenge.rw_te0012_01
def Ql:DefRec:=⟨q "law",s8<|qo 65,gV<|qo 65,dS<|qo 65,(qo 65).pos⟩
abbrev XT:(Str->Option Value)->Heap->Prop:=λ_ _=>True
noncomputable def qp(den:Code->Sem Fin)(stp:(Code->Sem Fin)->Program->World->SharedT->Thread->Option (SharedT×Thread))(Zi:Nat->Option Value->Thread->Bool)(p:Program)(w:World)(n₀:Nat)(ann:Option Value):Nat->SharedT->Thread->Option SharedT
 |0,_,_=>none
 |n+1,s,t=>match through t with
  |true=>some s
  |false=>match Zi n₀ ann t with
   |false=>none
   |true=>match stp den p w s t with
    |some (s',t')=>qp den stp Zi p w n₀ ann n s' t'
    |none=>none
def Ai{tb:String->Option Builtin}{p:Program}{w:World}{n₀:Nat}{ann:Option Value}{s':SharedT}(n:Nat):∀{s:SharedT} {t:Thread},
  qp (denote tb) stepT stepOk p w n₀ ann n s t=some s'->topRun tb p w n₀ ann n s.abs t=some s'.abs:=by
 induction n with
 |zero=>exact λh=>nomatch h
 |succ n ih=>
  intro s t
  show(match through t with
   |true=>some s
   |false=>match stepOk n₀ ann t with
    |false=>none
    |true=>match stepT (denote tb) p w s t with
     |some (s',t')=>qp (denote tb) stepT stepOk p w n₀ ann n s' t'
     |none=>none)=some s'->_
  unfold topRun
  cases through t with
  |true=>exact λh=>aac _<|aac _<|aaf h
  |false=>
   dsimp only
   cases stepOk n₀ ann t with
   |false=>exact λh=>nomatch h
   |true=>
    dsimp only
    cases hs:stepT (denote tb) p w s t with
    |none=>exact λh=>nomatch h
    |some x=>
     rw[stepT_spec hs]
     exact ih
noncomputable def ofList(l:List Obj):BT:=(l.foldl (λ(a:BT×Nat) o=>(a.1.ins a.2 o,a.2+1)) (BT.nil,0)).1
noncomputable def yJ(P:Params):BT:=ofList (boot_heap P).objs.toList
def boot_abs(P:Params):absHeap (yJ P) 11 {}=boot_heap P:=by kernel_rfl
noncomputable def Ke:Code->Sem Fin:=PySem.W.Fast.tw11892475500146522536 PySem.W.Fast.tw14364793385576792824
def Kf:denote treeTable=Ke:=by
 unfold Ke
 rw[PySem.W.Fast.te11892475500146522536,PySem.W.Fast.te14364793385576792824]
def FU{o:Obj}(h:o.isFreed=false):alive o=some o:=by
 obtain⟨c,d,dt,sl⟩:=o
 cases dt<;>first|rfl|cases h
theorem bndOf {p q : Program} {l m : List Str} {X : Shared → Bool} {s : Shared} (k : (openSeen q l m X true s).2.2.1 = true) (c : (looseW q l ++ ((recsOf q).map (·.name) ++ ((litsOf q).map (·.1) ++ (clssOf q (looseW q l)).map (·.name)))).all p.boundNames.contains = true) : namesBound p s.heap = true := by
  have a {a b : Bool} (h : (a && b) = true) := Bool.and_eq_true_iff.mp h
  have o {a b : Bool} (h : (a || b) = true) := Bool.or_eq_true_iff.mp h
  have k := a (a (a (a (a k).1).1).1).1
  refine Bool.and_eq_true_iff.mpr ⟨k.2, List.all_eq_true.mpr fun x h => Bool.or_eq_true_iff.mpr ?_⟩
  have c := fun z => Or.inr (a := startupNames.contains x = true) (List.all_eq_true.mp c x z)
  have m {l : List Str} (h : l.contains x = true) := List.contains_iff_mem.mp h
  exact (o (List.all_eq_true.mp (a k.1).1 x h)).elim (fun z => (o z).elim (fun z => (o z).elim (fun z => (o z).elim .inl fun z => c (List.mem_append_left _ (m z))) fun z => c (List.mem_append_right _ (List.mem_append_left _ (m z)))) fun z => c (List.mem_append_right _ (List.mem_append_right _ (List.mem_append_left _ (m z))))) fun z => c (List.mem_append_right _ (List.mem_append_right _ (List.mem_append_right _ (m z))))
theorem keptOf {t : BT} {n : Nat} {life : Life} {k : Frag} (h : (k.map (·.1)).map t.get = k.map fun p => some p.2) (a : k.all (fun p => p.1 < n && !p.2.isFreed) = true) : (k.map (·.1)).map (absHeap t n life).get? = k.map fun p => some p.2 := by
  rw [List.map_map] at h ⊢
  refine List.map_congr_left fun p hp => ?_
  have e := Bool.and_eq_true_iff.mp (List.all_eq_true.mp a p hp)
  show (absHeap t n life).get? p.1 = some p.2
  rw [abs_get (of_decide_eq_true e.1) (List.map_inj_left.mp h p hp)]
  exact FU (Bool.not_eq_true' _ ▸ e.2)
theorem opnOf {o : Option Shared} {h g d k} (e : o.map (fun s => (s.heap, s.gens, s.drawn, s.toks)) = some (h, g, d, k)) : ∃ z, o = some ⟨h, g, d, k, z⟩ := (Option.map_eq_some_iff.mp e).elim fun s z => ⟨s.os, z.1.trans (congrArg (fun t => some (Shared.mk t.1 t.2.1 t.2.2.1 t.2.2.2 s.os)) z.2)⟩
theorem Kg {p q : Program} {loose : List Str} {Xt : Shared → Bool} {as : List Addr} {KK : Params → Frag} {n₁ N : Nat} {ann : Option Value}
    (open_ : ∀ w : World, (fencedOpening treeTable p w N).map (fun s => (s.heap, s.gens, s.drawn, s.toks)) = some (boot_heap w.params, Array.mk [], boot_drawn, boot_toks))
    (size : ∀ w : World, ((boot_heap w.params).isNs mainGlobals, (boot_heap w.params).objs.size, (boot_heap w.params).nsMap mainGlobals "__annotations__") = (true, 11, ann))
    (chk : ∀ (w : World) (os : OsState), (qp Ke PySem.W.Fast.tw10156331382660048174 PySem.W.Fast.tw6613529449190102663 p w 11 ann N ⟨yJ w.params, 11, {}, Array.mk [], boot_drawn, boot_toks, os⟩ (topStub p)).map (fun s =>
        ((staticsOk (importedModules p.main.body) (boot_heap w.params) s.abs.heap && (gensDone s.abs && laidKept (boot_heap w.params) s.abs.heap)),
          PySem.W.Fast.tw4187177175401517315 q loose (importedModules p.main.body) Xt true s.abs, s.n, as.map s.tree.get)) = some (true, openGood q loose, n₁, (KK w.params).map fun p => some p.2))
    (hb : (looseW q loose ++ ((recsOf q).map (·.name) ++ ((litsOf q).map (·.1) ++ (clssOf q (looseW q loose)).map (·.name)))).all p.boundNames.contains = true) (okK : ∀ P, (KK P).all (fun p => p.1 < n₁ && !p.2.isFreed) = true) (okA : ∀ P, as = (KK P).map (·.1)) :
    LeftO p q loose Xt (fun s => as.map s.heap.get?) (fun w => (KK w.params).map fun p => some p.2) N := fun w => by
  obtain ⟨os, e⟩ := opnOf (open_ w)
  obtain ⟨sT, r, l⟩ := Option.map_eq_some_iff.mp (chk w os)
  have m := Bool.and_eq_true_iff.mp (congrArg (·.1) l)
  have n := Bool.and_eq_true_iff.mp m.2
  have l2 : PySem.W.Fast.tw4187177175401517315 q loose (importedModules p.main.body) Xt true sT.abs = openGood q loose := congrArg (·.2.1) l
  have l3 : sT.n = n₁ := congrArg (·.2.2.1) l
  rw [← PySem.W.Fast.te4187177175401517315] at l2
  rw [← Kf, ← PySem.W.Fast.te10156331382660048174, ← PySem.W.Fast.te6613529449190102663] at r
  have r := Ai _ r
  have a : (⟨yJ w.params, 11, {}, Array.mk [], boot_drawn, boot_toks, os⟩ : SharedT).abs = ⟨boot_heap w.params, Array.mk [], boot_drawn, boot_toks, os⟩ := by
    show Shared.mk (absHeap (yJ w.params) 11 {}) _ _ _ _ = _
    rw [boot_abs]
  rw [a] at r
  have t : topFrom treeTable p w N ⟨boot_heap w.params, Array.mk [], boot_drawn, boot_toks, os⟩ = some sT.abs := by
    have z := Prod.mk.inj (size w)
    have y := Prod.mk.inj z.2
    unfold topFrom
    dsimp only
    rw [z.1, y.1, y.2, r]
    show (match staticsOk (importedModules p.main.body) (boot_heap w.params) sT.abs.heap && namesBound p sT.abs.heap && gensDone sT.abs && laidKept (boot_heap w.params) sT.abs.heap with | true => _ | false => _) = _
    rw [m.1, bndOf (congrArg (·.2.2.1) l2) hb, n.1, n.2]
    rfl
  unfold openEnds
  rw [e]
  show (topFrom treeTable p w N _).map _ = _
  rw [t, okA w.params]
  exact congrArg some (Prod.ext l2 (keptOf (okA w.params ▸ congrArg (·.2.2.2) l) (l3 ▸ okK w.params)))
noncomputable def WO:List Addr:=[1521,1520,1293,1292,1281,1280,763,762,744,743,730,729,659,658,633,632,621,620,609,608,597,596,585,584,565,564,553,552,533,532,513,512,501,500,481,480,469,468,449,448,427,426,400,399,380,379,361,360,342,341,323,322,311,310,299,298,287,286,275,274,263,262,251,250,239,238,227,226,215,214,203,202,191,190,179,178,159,158,147,146,135,134,114,113,95,94,67,66,53,52,35,34,85,84,111,110,132,131,176,175,339,338,397,396,417,416,446,445,498,497,530,529,550,549,582,581,668,667,682,681,690,689,698,697,706,705,713,712,720,719,727,726,760,759,792,791,799,798,806,805,813,812,820,819,827,826,834,833,841,840,848,847,855,854,869,868,876,875,883,882,890,889,897,896,904,903,981,980,1023,1022,1030,1029,1037,1036,1044,1043,1051,1050,1058,1057,1065,1064,1072,1071,1093,1092,1100,1099,1107,1106,1114,1113,1121,1120,1128,1127,1135,1134,1142,1141,1149,1148,1156,1155,1163,1162,1212,1211,1222,1221,1243,1242,1250,1249,1257,1256,1264,1263,1278,1277,1333,1332,1340,1339,1347,1346,1354,1353,1361,1360,1368,1367,1375,1374,1382,1381,1404,1403,1518,1517,1530,1529,1537,1536,1544,1543,1551,1550,1558,1557,1565,1564,1572,1571,1579,1578,1586,1585,1593,1592,1600,1599,3,2,78,169,390,410,439,491,523,543,575,683,691,699,783,782,771,785,1312,1311,1299,1397,1605,1604,1213,1215,1304]
noncomputable def Yf(s:Shared):List (Option Obj):=WO.map s.heap.get?
noncomputable def Ya(w:World):List (Option Obj):=(K w.params).map λp=>some p.2
noncomputable def look(w:World)(s:SharedT):=
 ((staticsOk (importedModules pw.main.body) (boot_heap w.params) s.abs.heap&&(gensDone s.abs&&laidKept (boot_heap w.params) s.abs.heap)),
     PySem.W.Fast.tw4187177175401517315 qv loose (importedModules pw.main.body) (λ_=>true) true s.abs,s.n,WO.map s.tree.get)
noncomputable def Qm(w:World)(os:OsState):Option SharedT:=
 qp Ke PySem.W.Fast.tw10156331382660048174 PySem.W.Fast.tw6613529449190102663 pw w 11 (some<|.ref 6) 20000 ⟨yJ w.params,11,{},Array.mk [],boot_drawn,boot_toks,os⟩ (topStub pw)
theorem bndAll : (looseW qv loose ++ ((recsOf qv).map (·.name) ++ ((litsOf qv).map (·.1) ++ (clssOf qv (looseW qv loose)).map (·.name)))).all pw.boundNames.contains = true := by kernel_rfl
def T9(w:World):(λos=>(Qm (w.withFollow "special-get-raises" false) os).map<|look w)=λ_=>some (true,openGood qv loose,1606,Ya w):=by kernel_rfl
def Ua(w:World):(λos=>(Qm (w.withFollow "special-get-raises" true) os).map<|look w)=λ_=>some (true,openGood qv loose,1606,Ya w):=by kernel_rfl
def left:LeftO pw qv loose (λ_=>true) Yf Ya 20000:=by
 refine Kg (as:=WO) (KK:=K) (n₁:=1606) (ann:=some<|.ref 6) (boot_open (by kernel_rfl) (by kernel_rfl) λs=>by kernel_rfl) (λw=>by kernel_rfl) (λw os=>?_) bndAll (λP=>by kernel_rfl) λP=>by kernel_rfl
 exact byRow2 "special-get-raises" (P:=λw=>(Qm w os).map (look w)=some (true,openGood qv loose,1606,Ya w)) (λw=>congrFun (T9 w) os) (λw=>congrFun (Ua w) os) w
def Ub(a b:Bool)(x:a=true)(y:b=true):(a&&b)=true:=by rw[x,y];rfl
def Qn:namesResolve pw=true:=by rw[PySem.W.Fast.te8377067652309620493];kernel_rfl
def Kh(b:List Str)(hb:b=[])(s:Bool)(hs:s=false):noRoadLSs {strict:=s,foot:=none,bare:=b} pw.main.body=true:=by
 subst hb hs;rw[PySem.W.Fast.te8326940854005059898];kernel_rfl
def Kl:(namesMeet pw pw.main.body λ_ n=>attrL n)=true:=by rw[PySem.W.Fast.te17119622794617984870,PySem.W.Fast.te17868728402115742887];kernel_rfl
def Km:(["vars","dir","locals"]:List Str).filter (readsOut pw pw.main.body)=[]:=by rw[PySem.W.Fast.te13343964577679436407];kernel_rfl
def Ed:(!(importedModules pw.main.body).all cThrough.contains)=false:=by kernel_rfl
def Qo:sreFenced pw.main=true:=by rw[PySem.W.Fast.te11788848310118352699];kernel_rfl
def Kn:((moduleNames pw.main.body).isEmpty||lookedIntoSs (moduleNames pw.main.body) pw.main.body)=true:=by kernel_rfl
def Qp:(pw.boundNames.all λn=>!worldNames.contains n)=true:=by rw[PySem.W.Fast.te18344453789297297638,PySem.W.Fast.te14412699480532031325];kernel_rfl
def lo:looksOpen pw=true:=by
 unfold looksOpen
 rw[Ed,Km]
 exact Ub _ _ (Ub _ _ (Ub _ _ (Ub _ _ (Ub _ _ Qo Kn) Qn) Qp)<|Kh _ rfl _ rfl) Kl
def FY:OpenRow.partSaid FA.row=true:=by
 unfold OpenRow.partSaid
 have h:looksOpen FA.row.prog=true:=lo
 rw[h]
 simp only[Bool.true_and]
 rw[PySem.W.Fast.te13582783067957832011]
 kernel_rfl
def row_said:OpenRow.wellSaid FA.row=true:=by
 unfold OpenRow.wellSaid
 rw[FY]
 simp only[Bool.true_and]
 rw[PySem.W.Fast.te18344453789297297638,PySem.W.Fast.te12749700546528644094]
 kernel_rfl
def said:FA.wellSaid=true:=by
 unfold OpenLaw.wellSaid
 rw[row_said]
 simp only[Bool.true_and]
 simp only[PySem.W.Fast.te8326940854005059898,PySem.W.Fast.te17119622794617984870,PySem.W.Fast.te18344453789297297638,PySem.W.Fast.te9558739934217749035,PySem.W.Fast.te10501279942588096481,PySem.W.Fast.te8179353310426384613,PySem.W.Fast.te16286561074155671207,PySem.W.Fast.te6984425678791042302,PySem.W.Fast.te10792542408131684335,PySem.W.Fast.te797321630700447069]
 kernel_rfl
abbrev Walk:Prop:=WalkX qv loose XT Yf Ya FA.row.toRowW Ql [] λf vs=>PySem.call f vs
def head(call:Walk):FA.Holds:=by
 refine holds_law said λ_=>?_
 refine holds_openX (r:=FA.row) (q:=qv) (loose:=loose) (Xt:=λ_=>true) (XP:=XT) (Yf:=Yf) (Ya:=Ya) (d:=Ql) (kwd:=[]) (N:=20000)
  left (λ_ _=>trivial) (λ_ _ _ _ _=>trivial) ?_ ?_ ?_ (λs _=>recFacts_nil rfl) (by kernel_rfl) row_said ?_ ?_ ?_ call
 ·kernel_rfl
 ·kernel_rfl
 ·kernel_rfl
 ·kernel_rfl
 ·exact⟨rfl,rfl,rfl,rfl,rfl,by decide+kernel⟩
 ·exact⟨[.list [.int 3,.int 1]],by decide+kernel,by decide+kernel⟩
inductive MO where
 |inst (c:Nat) (fs:List<|Nat×MV)
 |list (xs:List MV)
 |exc (c:Nat) (x:MV)
 |aF (es:List<|List Nat×MV)
 |cA (es:List<|Int×MV)
 |pG (es:List<|Int×MV)
 |s9 (xs:List MV)
structure MH where
 n:Nat
 at_:Nat->Option MO
abbrev aS:=List<|Addr×Obj
structure dD where
 adr:Nat->Option (Addr×Addr)
 news:aS
 pins:aS
 fix:aS
 its:aS
noncomputable abbrev eT(vs:List Value):Obj:={cls:=.type "tuple",data:=.seq vs.toArray}
section
variable(φ:dD)
mutual
def VR:MV->Value->Prop
 |.none,w=>w=.none
 |.bool b,w=>w=.bool b
 |.int i,w=>∃t,w=.int i t
 |.str s,w=>∃t,w=.str ⟨s.toArray⟩ t
 |.ref i,w=>∃p,φ.adr i=some p/\w=.ref p.1
 |.tup l,w=>∃a vs,w=.ref a/\(a,eT vs)∈φ.news/\cK l vs
 |.fj f i,w=>∃a p,w=.ref a/\φ.adr i=some p/\(a,methodObj (.ref f)<|.ref p.1)∈φ.news
 |.cls c,w=>w=.ref c
 |.ty n,w=>w=.type n
def cK:List MV->List Value->Prop
 |[],ws=>ws=[]
 |v::vs,ws=>∃w BQ,ws=w::BQ/\VR v w/\cK vs BQ
end
end
structure jc(φ φ':dD):Prop where
 adr:∀i p,φ.adr i=some p->φ'.adr i=some p
 tup:∀a vs,(a,eT vs)∈φ.news->(a,eT vs)∈φ'.news
 fj:∀a f x,(a,methodObj f x)∈φ.news->(a,methodObj f x)∈φ'.news
 fix:φ'.fix=φ.fix
structure Ext(φ φ':dD):Prop extends jc φ φ' where
 pins:φ'.pins=φ.pins
 its:φ'.its=φ.its
def Ext.refl{φ:dD}:Ext φ φ:=⟨⟨λ_ _ h=>h,λ_ _ h=>h,λ_ _ _ h=>h,rfl⟩,rfl,rfl⟩
def jc.trans{φ φ' φ'':dD}(a:jc φ φ')(b:jc φ' φ''):jc φ φ'':=⟨λi p h=>b.adr i p<|a.adr i p h,λx vs h=>b.tup x vs<|a.tup x vs h,λx f y h=>b.fj x f y<|a.fj x f y h,b.fix.trans a.fix⟩
def Ext.trans{φ φ' φ'':dD}(a:Ext φ φ')(b:Ext φ' φ''):Ext φ φ'':=⟨a.tojc.trans b.tojc,b.pins.trans a.pins,b.its.trans a.its⟩
section
variable{φ φ':dD}{P:Prop}
def kQ{i:Nat}{w:Value}(h:VR φ (.ref i) w)(k:∀p,φ.adr i=some p->w=.ref p.1->P):P:=h.elim λp h=>k p h.1 h.2
def sA{l:List MV}{w:Value}(h:VR φ (.tup l) w)(k:∀a vs,w=.ref a->(a,eT vs)∈φ.news->cK φ l vs->P):P:=h.elim λa h=>h.elim λvs h=>k a vs h.1 h.2.1 h.2.2
def rA{f i:Nat}{w:Value}(h:VR φ (.fj f i) w)(k:∀a p,w=.ref a->φ.adr i=some p->(a,methodObj (.ref f)<|.ref p.1)∈φ.news->P):P:=h.elim λa h=>h.elim λp h=>k a p h.1 h.2.1 h.2.2
def dG{v:MV}{vs:List MV}{ws:List Value}(h:cK φ (v::vs) ws)(k:∀w r,ws=w::r->VR φ v w->cK φ vs r->P):P:=h.elim λw h=>h.elim λr h=>k w r h.1 h.2.1 h.2.2
def iX{v:MV}{vs:List MV}{w:Value}{r:List Value}(h:VR φ v w)(t:cK φ vs r):cK φ (v::vs) (w::r):=⟨w,r,rfl,h,t⟩
def yK(x:jc φ φ'):(∀v w,VR φ v w->VR φ' v w)/\∀l ws,cK φ l ws->cK φ' l ws:=
 have A:=λi w (h:VR φ (.ref i) w)=>kQ h λp h e=>(⟨p,x.adr i p h,e⟩:VR φ' (.ref i) w)
 have B:=λ(l:List MV) (ih:∀ws,cK φ l ws->cK φ' l ws) w (h:VR φ (.tup l) w)=>sA h λa vs e m r=>(⟨a,vs,e,x.tup _ _ m,ih _ r⟩:VR φ' (.tup l) w)
 have C:=λf i w (h:VR φ (.fj f i) w)=>rA h λa p e h m=>(⟨a,p,e,x.adr i p h,x.fj _ _ _ m⟩:VR φ' (.fj f i) w)
 have D:=λ(v:MV) (l:List MV) (i1:∀w,VR φ v w->VR φ' v w) (i2:∀ws,cK φ l ws->cK φ' l ws) ws (h:cK φ (v::l) ws)=>dG h λw r e a b=>(⟨w,r,e,i1 w a,i2 r b⟩:cK φ' (v::l) ws)
 ⟨λv=>MV.rec (motive_1:=λv=>∀w,VR φ v w->VR φ' v w) (motive_2:=λl=>∀ws,cK φ l ws->cK φ' l ws) (λ_ h=>h) (λ_ _ h=>h) (λ_ _ h=>h) (λ_ _ h=>h) A B C (λ_ _ h=>h) (λ_ _ h=>h) (λ_ h=>h) D v,
  λl=>MV.rec_1 (motive_1:=λv=>∀w,VR φ v w->VR φ' v w) (motive_2:=λl=>∀ws,cK φ l ws->cK φ' l ws) (λ_ h=>h) (λ_ _ h=>h) (λ_ _ h=>h) (λ_ _ h=>h) A B C (λ_ _ h=>h) (λ_ _ h=>h) (λ_ h=>h) D l⟩
def VR.iO(x:jc φ φ'){v:MV}{w:Value}(h:VR φ v w):VR φ' v w:=(yK x).1 v w h
def cK.iO(x:jc φ φ'){l:List MV}{ws:List Value}(h:cK φ l ws):cK φ' l ws:=(yK x).2 l ws h
def VR.ext(x:Ext φ φ'){v:MV}{w:Value}(h:VR φ v w):VR φ' v w:=h.iO x.tojc
def cK.ext(x:Ext φ φ'){l:List MV}{ws:List Value}(h:cK φ l ws):cK φ' l ws:=h.iO x.tojc
def cK.length{l:List MV}:∀{ws:List Value},cK φ l ws->ws.length=l.length:=
 l.rec (motive:=λl=>∀{ws:List Value},cK φ l ws->ws.length=l.length) (λh=>aac List.length h) λ_ _ ih _ h=>dG h λ_ _ e _ h=>(aac List.length e).trans (aac (·+1)<|ih h)
def cK.get{l:List MV}:∀{ws:List Value} {i:Nat} {v:MV},cK φ l ws->l[i]?=some v->(∀w,ws[i]?=some w->VR φ v w->P)->P:=
 l.rec (motive:=λl=>∀{ws:List Value} {i:Nat} {v:MV},cK φ l ws->l[i]?=some v->(∀w,ws[i]?=some w->VR φ v w->P)->P) (λ_ e _=>by cases e)
  λ_ l ih ws i _ h=>dG h λw r e a b=>i.casesOn (λq k=>k w (aac (·[0]?) e)<|aaf q▸a) λi q k=>ih (i:=i) b q λw c d=>k w ((aac (·[i+1]?) e).trans c) d
def cK.append{l:List MV}:∀{l':List MV} {ws BQ:List Value},cK φ l ws->cK φ l' BQ->cK φ (l++l') (ws++BQ):=
 l.rec (motive:=λl=>∀{l':List MV} {ws BQ:List Value},cK φ l ws->cK φ l' BQ->cK φ (l++l') (ws++BQ)) (λh h'=>h▸h') λ_ _ ih _ _ BQ h h'=>dG h λw r e a b=>⟨w,r++BQ,aac (·++BQ) e,a,ih b h'⟩
def cK.Aj{l l':List MV}:∀{ws:List Value},cK φ (l++l') ws->(∀a b,ws=a++b->cK φ l a->cK φ l' b->P)->P:=
 l.rec (motive:=λl=>∀{ws:List Value},cK φ (l++l') ws->(∀a b,ws=a++b->cK φ l a->cK φ l' b->P)->P) (λh k=>k [] _ rfl rfl h) λ_ _ ih _ h k=>dG h λw r e x y=>ih y λa b e' ha hb=>k (w::a) b (e.trans<|aac _ e') (iX x ha) hb
def VR.handed{v:MV}{w:Value}(h:VR φ v w):handedIn w=true:=by
 have k:∀{u:Value},w=u->handedIn u=true->handedIn w=true:=λe h=>e▸h
 cases v with
 |none=>exact k h rfl
 |bool=>exact k h rfl
 |int=>exact h.elim λ_ e=>k e rfl
 |str=>exact h.elim λ_ e=>k e rfl
 |ref=>exact kQ h λ_ _ e=>k e rfl
 |tup=>exact sA h λ_ _ e _ _=>k e rfl
 |«fj»=>exact rA h λ_ _ e _ _=>k e rfl
 |cls=>exact k h rfl
 |ty=>exact k h rfl
def cK.one{v:MV}{x:Value}(h:VR φ v x):cK φ [v] [x]:=iX h rfl
def cK.two{v u:MV}{x y:Value}(h:VR φ v x)(k:VR φ u y):cK φ [v,u] [x,y]:=iX h<|.one k
def cK.e1{P:List Value->Prop}{v:MV}{ws:List Value}(h:cK φ [v] ws)(k:∀x,VR φ v x->P [x]):P ws:=dG h λx r e a (b:r=[])=>by subst e b;exact k x a
def cK.e2{P:List Value->Prop}{v u:MV}{ws:List Value}(h:cK φ [v,u] ws)(k:∀x y,VR φ v x->VR φ u y->P [x,y]):P ws:=dG h λx r e a b=>by subst e;exact b.e1 (P:=λl=>P<|x::l) λy c=>k x y a c
end
def jN(k:Nat)(v:MV)(fs:List<|Nat×MV):List (Nat×MV):=fs.rec [(k,v)] λp r ih=>if p.1=k then(k,v)::r else p::ih
def yL{i:Nat}{u:MV}{r:List (Nat×MV)}:((i,u)::r).lookup i=some u:=by rw[List.lookup_cons,beq_self_eq_true]
def ur{i j:Nat}{u:MV}{r:List (Nat×MV)}(h:j≠i):((i,u)::r).lookup j=r.lookup j:=by rw[List.lookup_cons,beq_false_of_ne h]
def nL{k:Nat}{v:MV}{P:List (Nat×MV)->List (Nat×MV)->Prop}(nil:P [] [(k,v)])(hit:∀u r,P ((k,u)::r)<|(k,v)::r)(miss:∀i u r,i≠k->P r (jN k v r)->P ((i,u)::r) ((i,u)::jN k v r))(fs:List<|Nat×MV):P fs (jN k v fs):=by
 induction fs with
 |nil=>exact nil
 |cons p r ih=>
  obtain⟨i,u⟩:=p
  by_cases h:i=k
  ·rw[show jN k v ((i,u)::r)=(k,v)::r from aam h,h];exact hit u r
  ·rw[show jN k v ((i,u)::r)=(i,u)::jN k v r from aal h];exact miss i u r h ih
def rB(k:Nat)(v:MV):∀fs:List<|Nat×MV,(jN k v fs).lookup k=some v:=nL (P:=λ_ l=>l.lookup k=some v) yL (λ_ _=>yL) λ_ _ _ h ih=>(ur<|Ne.symm h).trans ih
def lP{k j:Nat}(v:MV)(n:j≠k):∀fs:List<|Nat×MV,(jN k v fs).lookup j=fs.lookup j:=
 nL (P:=λa b=>b.lookup j=a.lookup j) (ur n) (λ_ _=>(ur n).trans (ur n).symm) λi _ _ h ih=>by
  by_cases q:j=i
  ·rw[q,yL,yL]
  ·rw[ur q,ur q,ih]
def Ko(k:Nat)(v:MV):∀fs:List<|Nat×MV,(jN k v fs).length<=fs.length+1:=nL (P:=λa b=>b.length<=a.length+1) (aaj _) (λ_ _=>Nat.le_succ _) λ_ _ _ _ ih=>aau ih
def Kp(k:Nat)(v:MV):∀fs:List<|Nat×MV,fs.length<=(jN k v fs).length:=nL (P:=λa b=>a.length<=b.length) (Nat.zero_le _) (λ_ _=>aaj _) λ_ _ _ _ ih=>aau ih
def Ef{k:Nat}{v:MV}:∀fs:List<|Nat×MV,fs.lookup k=none->(jN k v fs).length=fs.length+1:=
 nL (P:=λa b=>a.lookup k=none->b.length=a.length+1) (λ_=>rfl) (λ_ _ e=>by rw[yL]at e;cases e) λ_ _ _ h ih e=>aac (·+1)<|ih<|(ur<|Ne.symm h).symm.trans e
noncomputable def MH.put(H:MH)(i:Nat)(o:MO):MH:=⟨H.n,λj=>if j=i then some o else H.at_ j⟩
noncomputable def MH.new(H:MH)(o:MO):MH:=⟨H.n+1,λj=>if j=H.n then some o else H.at_ j⟩
noncomputable def MH.del(H:MH)(i:Nat):MH:=⟨H.n,λj=>if j=i then none else H.at_ j⟩
abbrev Loc:=List<|Option MV
abbrev QV:=MV->MH->Prop
abbrev QX:=MV->Loc->MH->Prop
inductive MF where
 |next|brk|cont
 |ret (v:MV)
abbrev QF:=MF->Loc->MH->Prop
abbrev Oc:=Nat->Nat->List MV->List Str->List MV->MH->QV->(MV->MH->Prop)->Prop
structure aP where
 prog:Program
 K:Params->Frag
 p:Program
 loose:List Str
 nm:List Str
 tab:Nat->Nat->Bool
 mt:Nat->Nat->Option Nat
 quiet:Bool
 Uc:Nat->Nat->Option Bool
 ca:Nat->Nat->Option MV
 cv:Nat->Nat->Option MV
 sd:Nat->Option (List<|List Nat×MV)
 ini:Nat->Option Nat
 gl:List (Str×Value)
 xs:Nat->Fm->Stmt->Bool
 xw:Nat->Nat->Loc->MH->(Bool->Oc)->(Loc->MH->QF->QX->Prop)->QF->QX->Prop
 xc:Addr
 top:Addr
noncomputable def jO:Nat:=900
structure lQ(nm:List Str)(φ:dD)(fs:List<|Nat×MV)(es:List DictEntry):Prop where
 yes:∀k x v,nm[k]?=some x->fs.lookup k=some v->∃w,getL x es=some (some w)/\VR φ v w
 no:∀k x,nm[k]?=some x->fs.lookup k=none->getL x es=some none
noncomputable abbrev aW(l:List Nat):Str:=⟨l.toArray⟩
noncomputable abbrev xA(i:Int):Int:=i
inductive ny{κ K:Type}(dec:κ->K)(φ:dD):List (κ×MV)->List (K×Value)->Prop
 |nil:ny dec φ [] []
 |cons {k:κ} {v:MV} {x:Value} {es:List (κ×MV)} {kvs:List (K×Value)}:VR φ v x->ny dec φ es kvs->ny dec φ ((k,v)::es) ((dec k,x)::kvs)
def vN(φ:dD)(i:Nat)(a:Addr):Prop:=∃p,φ.adr i=some p/\(a=p.1∨a=p.2)
inductive nM(S:aP)(φ:dD)(i c:Nat)(fs:List<|Nat×MV):Prop
 |mk (p:Addr×Addr) (es:List DictEntry) (n:Nat):φ.adr i=some p->(p.1,instObj c p.2)∈φ.news->(p.2,dictOf es n)∈φ.news->lQ S.nm φ fs es->es.length<=fs.length->fs.length<=jO->(∀k v,fs.lookup k=some v->S.tab c k=true)->nM S φ i c fs
inductive d8(φ:dD)(i:Nat)(l:aS)(xs:List MV):Prop
 |mk (a:Addr) (vs:List Value) (n:Nat):φ.adr i=some (a,a)->(a,listOf vs.toArray n)∈l->cK φ xs vs->xs.length<=1000000->d8 φ i l xs
inductive Eg(φ:dD)(i c:Nat)(x:MV):Prop
 |mk (p:Addr×Addr) (ox:Obj) (es:List DictEntry) (n:Nat) (wv:Value) (vs:Array Value):φ.adr i=some p->(p.1,ox)∈φ.news->ox.cls=.ref c->ox.dict=some p.2->ox.data=.fields vs->(p.2,dictOf es n)∈φ.news->getL "problem_mark" es=some (some wv)->VR φ x wv->Eg φ i c x
inductive gj{prog:Program}{w:World}{κ K:Type}[DecidableEq K](dec:κ->K)(knd:KeyKind prog w K)(φ:dD)(i:Nat)(l:aS)(es:List<|κ×MV):Prop
 |mk (a:Addr) (o:Obj) (kvs:List<|K×Value):φ.adr i=some (a,a)->(a,o)∈l->o.IsDictOf knd kvs->ny dec φ es kvs->es.length<=jO->(a==sysModules)=false->gj dec knd φ i l es
section
variable(S:aP)(w:World)
def tu(φ:dD)(i:Nat)(o:MO):Prop:=o.rec (λc fs=>nM S φ i c fs) (λxs=>d8 φ i φ.news xs) (λc x=>Eg φ i c x) (λes=>gj aW (strKind S.prog w) φ i φ.news es) (λes=>gj xA (intKind S.prog w) φ i φ.news es) (λes=>gj xA (intKind S.prog w) φ i φ.pins es) λxs=>d8 φ i φ.fix xs
def MO.off(o:MO):Bool:=o.rec (λ_ _=>false) (λ_=>false) (λ_ _=>false) (λ_=>false) (λ_=>false) (λ_=>true) λ_=>true
def dD.held(φ:dD)(p:Addr×Obj):Prop:=p∈φ.pins∨p∈φ.fix∨p∈φ.its
structure fB(φ:dD)(H:MH):Prop where
 nodup:(φ.news.map (·.1)).Nodup
 lt:∀i p,φ.adr i=some p->i<H.n
 dom:∀i o,H.at_ i=some o->i<H.n
 yE:∀i a,vN φ i a->∃o,(a,o)∈φ.news
 inj:∀i j a,vN φ i a->vN φ j a->i=j
 obj:∀i o,H.at_ i=some o->tu S w φ i o
 pin:∀p,φ.held p->p∈φ.news
 qu:∀p∈φ.its,∀i,¬vN φ i p.1
 nN:∀p,φ.held p->∀i o,H.at_ i=some o->o.off=false->¬vN φ i p.1
structure Step(φ φ':dD)(H':MH):Prop where
 x:Ext φ φ'
 R:fB S w φ' H'
structure uu(φ φ':dD)(H':MH):Prop where
 x:jc φ φ'
 R:fB S w φ' H'
end
def nO{news:aS}(h:(news.map (·.1)).Nodup){a:Addr}{o o':Obj}(x:(a,o)∈news)(y:(a,o')∈news):o=o':=by
 induction news with
 |nil=>cases x
 |cons p r ih=>
  have h':=List.nodup_cons.mp h
  rcases aab.mp x with x|x<;>rcases aab.mp y with y|y
  ·exact(Prod.mk.inj<|x.trans y.symm).2
  ·exact aan (List.mem_map_of_mem (f:=(·.1)) y)<|by rw[<-x]at h';exact h'.1
  ·exact aan (List.mem_map_of_mem (f:=(·.1)) x)<|by rw[<-y]at h';exact h'.1
  ·exact ih h'.2 x y
def lR(d:Addr)(o':Obj)(l:aS):aS:=l.rec [] λp r ih=>if p.1=d then(d,o')::r else p::ih
def xB{d:Addr}{o':Obj}{p:Addr×Obj}{r:aS}(h:p.1=d):lR d o' (p::r)=(d,o')::r:=aam h
def xC{d:Addr}{o':Obj}{p:Addr×Obj}{r:aS}(h:p.1≠d):lR d o' (p::r)=p::lR d o' r:=aal h
def yM(d:Addr)(o':Obj)(l:aS):(lR d o' l).map (·.1)=l.map (·.1):=by
 induction l with
 |nil=>rfl
 |cons p r ih=>
  by_cases h:p.1=d
  ·rw[xB h,List.map_cons,List.map_cons,h]
  ·rw[xC h,List.map_cons,List.map_cons,ih]
def nP{d:Addr}{o o':Obj}{l:aS}(x:(d,o)∈l):(d,o')∈lR d o' l:=by
 induction l with
 |nil=>cases x
 |cons p r ih=>
  by_cases h:p.1=d
  ·rw[xB h];exact .head _
  ·rw[xC h]
   rcases aab.mp x with e|x
   ·exact aan (aac Prod.fst e).symm h
   ·exact .tail _<|ih x
def qw{a d:Addr}{o' ob:Obj}{l:aS}(n:a≠d)(x:(a,ob)∈l):(a,ob)∈lR d o' l:=by
 induction l with
 |nil=>cases x
 |cons p r ih=>
  by_cases h:p.1=d
  ·rw[xB h]
   rcases aab.mp x with e|x
   ·exact aan ((aac Prod.fst e).trans h) n
   ·exact .tail _ x
  ·rw[xC h]
   rcases aab.mp x with e|x
   ·exact e▸.head _
   ·exact .tail _<|ih x
def lS{news:aS}(h:(news.map (·.1)).Nodup){d:Addr}{o:Obj}(x:(d,o)∈news):UpdF d o news λo'=>lR d o' news:=by
 induction news with
 |nil=>cases x
 |cons p r ih=>
  have h':=List.nodup_cons.mp h
  by_cases hd:p.1=d
  ·rw[show(λo'=>lR d o'<|p::r)=λo'=>(d,o')::r from funext λ_=>xB hd]
   rcases aab.mp x with e|x
   ·cases e
    exact .head λq hq e=>h'.1 (e▸List.mem_map_of_mem (f:=(·.1)) hq)
   ·exact aan (List.mem_map_of_mem (f:=(·.1)) x)<|hd▸h'.1
  ·rw[show(λo'=>lR d o'<|p::r)=λo'=>p::lR d o' r from funext λ_=>xC hd]
   rcases aab.mp x with e|x
   ·exact aan (aac Prod.fst e).symm hd
   ·exact .tail hd<|ih h'.2 x
def oZ{d:Addr}{o:Obj}{l:aS}{g:Obj->aS}(o':Obj)(h:UpdF d o l g):Upd d o o' l (g o'):=by
 induction h with
 |head h=>exact .head h
 |tail h _ ih=>exact .tail h ih
section
variable{S:aP}{w:World}{φ φ':dD}{H:MH}
def lQ.iO(x:jc φ φ'){nm:List Str}{fs:List (Nat×MV)}{es:List DictEntry}(h:lQ nm φ fs es):lQ nm φ' fs es:=
 ⟨λk y v a b=>(h.yes k y v a b).elim λu c=>⟨u,c.1,c.2.iO x⟩,h.no⟩
def ny.iO{κ K:Type}{dec:κ->K}(x:jc φ φ'){es:List (κ×MV)}{kvs:List (K×Value)}(h:ny dec φ es kvs):ny dec φ' es kvs:=h.rec .nil λa _ ih=>.cons (a.iO x) ih
def d8.move{i:Nat}{l l':aS}{xs:List MV}(h:d8 φ i l xs)(x:jc φ φ')(k:∀a ob,vN φ i a->(a,ob)∈l->(a,ob)∈l'):d8 φ' i l' xs:=by
 obtain⟨p,vs,n,h1,h2,h3,h4⟩:=h
 exact⟨p,vs,n,x.adr _ _ h1,k _ _ ⟨_,h1,.inl rfl⟩ h2,h3.iO x,h4⟩
def gj.move{prog:Program}{κ K:Type}[DecidableEq K]{dec:κ->K}{knd:KeyKind prog w K}{i:Nat}{l l':aS}{es:List (κ×MV)}(h:gj dec knd φ i l es)(x:jc φ φ')(k:∀a ob,vN φ i a->ob.cls=.type "dict"->(a,ob)∈l->(a,ob)∈l'):gj dec knd φ' i l' es:=by
 obtain⟨p,o,kvs,h1,h2,h3,h4,h5,h6⟩:=h
 exact⟨p,o,kvs,x.adr _ _ h1,k _ _ ⟨_,h1,.inl rfl⟩ (h3.elim λ_ h=>h.elim λ_ h=>h.1.1) h2,h3,h4.iO x,h5,h6⟩
def tu.move{i:Nat}{o:MO}(h:tu S w φ i o)(x:jc φ φ')(k:o.off=false->∀a ob,vN φ i a->(a,ob)∈φ.news->(a,ob)∈φ'.news)(kp:∀a ob,vN φ i a->ob.cls=.type "dict"->(a,ob)∈φ.pins->(a,ob)∈φ'.pins):tu S w φ' i o:=by
 cases o with
 |inst c fs=>
  obtain⟨p,es,n,h1,h2,h3,h4,h5,h6,h7⟩:=(h:nM S φ i c fs)
  exact nM.mk p es n (x.adr _ _ h1) (k rfl _ _ ⟨p,h1,.inl rfl⟩ h2) (k rfl _ _ ⟨p,h1,.inr rfl⟩ h3) (h4.iO x) h5 h6 h7
 |list xs=>exact d8.move h x<|k rfl
 |exc c v=>
  obtain⟨p,ox,es,n,wv,vs,h1,h2,h3,h4,h5,h6,h7,h8⟩:=(h:Eg φ i c v)
  exact Eg.mk p ox es n wv vs (x.adr _ _ h1) (k rfl _ _ ⟨p,h1,.inl rfl⟩ h2) h3 h4 h5 (k rfl _ _ ⟨p,h1,.inr rfl⟩ h6) h7<|h8.iO x
 |aF es=>exact gj.move h x λa ob m _=>k rfl a ob m
 |cA es=>exact gj.move h x λa ob m _=>k rfl a ob m
 |pG es=>exact gj.move h x kp
 |s9 xs=>exact d8.move h x λa ob _ m=>x.fix.symm▸m
def qx{i j:Nat}{o u:MO}{P:Prop}(h:(H.put i o).at_ j=some u)(y:j=i->u=o->P)(n:j≠i->H.at_ j=some u->P):P:=
 if e:j=i then y e (aaf<|(aam e:(if j=i then some o else H.at_ j)=_).symm.trans h).symm else n e<|(aal e:(if j=i then some o else H.at_ j)=_).symm.trans h
def FZ{j:Nat}{o u:MO}{P:Prop}(h:(H.new o).at_ j=some u)(y:j=H.n->u=o->P)(n:j≠H.n->H.at_ j=some u->P):P:=
 if e:j=H.n then y e (aaf<|(aam e:(if j=H.n then some o else H.at_ j)=_).symm.trans h).symm else n e<|(aal e:(if j=H.n then some o else H.at_ j)=_).symm.trans h
def F0{i j:Nat}{u:MO}{P:Prop}(h:(H.del i).at_ j=some u)(n:j≠i->H.at_ j=some u->P):P:=
 if e:j=i then aan ((aam e:(if j=i then none else H.at_ j)=_).symm.trans h) (by intro e;cases e)else n e<|(aal e:(if j=i then none else H.at_ j)=_).symm.trans h
def dD.upd(φ:dD)(d:Addr)(o':Obj):dD:=⟨φ.adr,lR d o' φ.news,φ.pins,φ.fix,φ.its⟩
def fB.upd{i:Nat}{o o':MO}{d:Addr}{ob xD:Obj}(R:fB S w φ H)(h:H.at_ i=some o)(ho:o.off=false)(own:vN φ i d)(hd:(d,ob)∈φ.news)(nt:ob.cls≠.type "tuple")(nm:ob.cls≠.type "method")(ho':o'.off=false)
  (obj:Ext φ (φ.upd d xD)->(d,xD)∈(φ.upd d xD).news->(∀a x,a≠d->(a,x)∈φ.news->(a,x)∈(φ.upd d xD).news)->tu S w (φ.upd d xD) i o'):Step S w φ (φ.upd d xD) (H.put i o'):=
 have kp:∀a x,a≠d->(a,x)∈φ.news->(a,x)∈(φ.upd d xD).news:=λa x n m=>qw n m
 have X:Ext φ (φ.upd d xD):=⟨⟨λ_ _ h=>h,λa vs m=>kp a _ (λe=>nt<|nO R.nodup hd (e▸m)▸rfl) m,λa f x m=>kp a _ (λe=>nm<|nO R.nodup hd (e▸m)▸rfl) m,rfl⟩,rfl,rfl⟩
 ⟨X,(yM d xD φ.news).symm▸R.nodup,R.lt,λj u hj=>qx hj (λe _=>by rw[e];exact R.dom i o h) λ_=>R.dom j u,λj a m=>(R.yE j a m).elim λx hx=>if e:a=d then⟨xD,by rw[e];exact nP hd⟩else⟨x,kp a x e hx⟩,R.inj,
  λj u hj=>qx hj (λe e'=>by rw[e,e'];exact obj X (nP hd) kp) λn q=>(R.obj j u q).move X.tojc (λ_ a x m=>kp a x λe=>n<|R.inj j i a m<|e▸own) λ_ _ _ _ m=>m,
  λp hp=>kp p.1 p.2 (λe=>R.nN p hp i o h ho<|e▸own)<|R.pin p hp,R.qu,λp hp j u hj=>qx hj (λe _ _=>by rw[e];exact R.nN p hp i o h ho) λ_ q=>R.nN p hp j u q⟩
noncomputable def dD.new(φ:dD)(n:Nat)(a d:Addr)(more:aS):dD:=⟨λj=>if j=n then some (a,d)else φ.adr j,more++φ.news,φ.pins,φ.fix,φ.its⟩
def dD.o8{n:Nat}{a d:Addr}{more:aS}:(φ.new n a d more).adr n=some (a,d):=aam rfl
def dD.j7{n:Nat}{a d:Addr}{more:aS}:VR (φ.new n a d more) (.ref n) (.ref a):=⟨(a,d),dD.o8,rfl⟩
structure Kq(φ:dD)(more:aS)(b:Addr):Prop where
 yE:∃x,(b,x)∈more++φ.news
 off:∀i,¬vN φ i b
 held:∀p,φ.held p->p.1≠b
def fB.free{more:aS}{b:Addr}(R:fB S w φ H)(fresh:∀p∈more,∀p'∈φ.news,p'.1≠p.1)(h:∃x,(b,x)∈more):Kq φ more b:=h.elim λx m=>
 ⟨⟨x,List.mem_append_left _ m⟩,λi a=>(R.yE i b a).elim λy n=>fresh _ m _ n rfl,λp hp=>fresh _ m _<|R.pin p hp⟩
def fB.place{o:MO}{a d:Addr}{more:aS}(R:fB S w φ H)(nd:(more.map (·.1)).Nodup)(fresh:∀p∈more,∀p'∈φ.news,p'.1≠p.1)(ha:Kq φ more a)(hd:Kq φ more d)(obj:Ext φ (φ.new H.n a d more)->tu S w (φ.new H.n a d more) H.n o):Step S w φ (φ.new H.n a d more) (H.new o):=
 have old:∀j p,φ.adr j=some p->j≠H.n:=λj p h e=>Nat.lt_irrefl _<|e▸R.lt j p h
 have X:Ext φ (φ.new H.n a d more):=⟨⟨λi p h=>(aal<|old i p h).trans h,λ_ _ m=>List.mem_append_right _ m,λ_ _ _ m=>List.mem_append_right _ m,rfl⟩,rfl,rfl⟩
 have at_:∀{P:Prop} j b,vN (φ.new H.n a d more) j b->(j=H.n->Kq φ more b->P)->(vN φ j b->P)->P:=λj b h y n=>h.elim λp h=>if e:j=H.n then
   (have q:(a,d)=p:=aaf ((aam e).symm.trans h.1)
    y e (h.2.elim (λz=>z▸q▸ha) λz=>z▸q▸hd))else n ⟨p,(aal e).symm.trans h.1,h.2⟩
 ⟨X,by
  refine(show((more++φ.news).map (·.1)).Nodup from ?_)
  rw[List.map_append]
  exact List.nodup_append.mpr ⟨nd,R.nodup,λx hx y hy e=>(List.mem_map.mp hx).elim λp hp=>(List.mem_map.mp hy).elim λp' qy=>fresh p hp.1 p' qy.1<|qy.2.trans<|e.symm.trans hp.2.symm⟩,
  λj p h=>if e:j=H.n then(by rw[e];exact Nat.lt_succ_self _)else aaw<|R.lt j p<|(aal e).symm.trans h,
  λj u h=>FZ h (λe _=>by rw[e];exact Nat.lt_succ_self _) λ_ q=>aaw<|R.dom j u q,
  λj b m=>at_ j b m (λ_ h=>h.yE) λm=>(R.yE j b m).elim λx h=>⟨x,List.mem_append_right _ h⟩,
  λi j b mi mj=>at_ i b mi (λei hi=>at_ j b mj (λej _=>ei.trans ej.symm) λmj=>(hi.off j mj).elim) λmi=>at_ j b mj (λ_ hj=>(hj.off i mi).elim) λmj=>R.inj i j b mi mj,
  λj u h=>FZ h (λe e'=>by rw[e,e'];exact obj X) λ_ q=>(R.obj j u q).move X.tojc (λ_ _ _ _ m=>List.mem_append_right _ m) λ_ _ _ _ m=>m,
  λp hp=>List.mem_append_right _<|R.pin p hp,
  λp hp j m=>at_ j p.1 m (λ_ q=>q.held p (.inr<|.inr hp) rfl)<|R.qu p hp j,
  λp hp j u h ho m=>at_ j p.1 m (λ_ q=>q.held p hp rfl) λm=>FZ h (λe _=>m.elim λ_ z=>old _ _ z.1 e) λ_ q=>R.nN p hp j u q ho m⟩
def fB.alloc{o:MO}{a d:Addr}{more:aS}(R:fB S w φ H)(nd:(more.map (·.1)).Nodup)(fresh:∀p∈more,∀p'∈φ.news,p'.1≠p.1)(ha:∃x,(a,x)∈more)(hd:∃x,(d,x)∈more)(no:o.off=false)(obj:Ext φ (φ.new H.n a d more)->tu S w (φ.new H.n a d more) H.n o):Step S w φ (φ.new H.n a d more) (H.new o):=
 R.place nd fresh (R.free fresh ha) (R.free fresh hd) obj
def fB.more{more:aS}(R:fB S w φ H)(nd:((more++φ.news).map (·.1)).Nodup):Step S w φ ⟨φ.adr,more++φ.news,φ.pins,φ.fix,φ.its⟩ H:=
 have X:Ext φ ⟨φ.adr,more++φ.news,φ.pins,φ.fix,φ.its⟩:=⟨⟨λ_ _ h=>h,λ_ _ m=>List.mem_append_right _ m,λ_ _ _ m=>List.mem_append_right _ m,rfl⟩,rfl,rfl⟩
 ⟨X,nd,R.lt,R.dom,λi a m=>(R.yE i a m).elim λx h=>⟨x,List.mem_append_right _ h⟩,R.inj,λj u h=>(R.obj j u h).move X.tojc (λ_ _ _ _ m=>List.mem_append_right _ m) λ_ _ _ _ m=>m,λp hp=>List.mem_append_right _<|R.pin p hp,R.qu,R.nN⟩
def fB.BR{more:aS}(R:fB S w φ H)(nd:((more++φ.news).map (·.1)).Nodup):uu S w φ ⟨φ.adr,more++φ.news,φ.pins,φ.fix,more++φ.its⟩ H:=
 have Z:=R.more nd
 have off:∀p∈more,∀i,¬vN φ i p.1:=λp hp i m=>(R.yE i p.1 m).elim λx h=>by
  rw[List.map_append]at nd
  exact(List.nodup_append.mp nd).2.2 p.1 (List.mem_map_of_mem (f:=(·.1)) hp) p.1 (List.mem_map_of_mem (f:=(·.1)) h) rfl
 have X:jc φ ⟨φ.adr,more++φ.news,φ.pins,φ.fix,more++φ.its⟩:=⟨λ_ _ h=>h,λ_ _ m=>List.mem_append_right _ m,λ_ _ _ m=>List.mem_append_right _ m,rfl⟩
 ⟨X,nd,R.lt,R.dom,Z.R.yE,R.inj,λj u h=>(R.obj j u h).move X (λ_ _ _ _ m=>List.mem_append_right _ m) λ_ _ _ _ m=>m,
  λp hp=>hp.elim (λh=>Z.R.pin p<|.inl h) λh=>h.elim (λh=>Z.R.pin p<|.inr<|.inl h) λh=>(List.mem_append.mp h).elim (List.mem_append_left _) λh=>Z.R.pin p<|.inr<|.inr h,
  λp hp=>(List.mem_append.mp hp).elim (off p)<|R.qu p,
  λp hp=>hp.elim (λh=>R.nN p<|.inl h) λh=>h.elim (λh=>R.nN p<|.inr<|.inl h) λh=>(List.mem_append.mp h).elim (λh i _ _ _=>off p h i) λh=>R.nN p<|.inr<|.inr h⟩
def rC(o:Obj):Prop:=o.cls≠.type "tuple"/\o.cls≠.type "method"
noncomputable def wj(wr:List Addr)(news:aS):aS:=news.filter λp=>!(wr.contains p.1)
def iY{wr:List Addr}{news:aS}{p:Addr×Obj}:p∈wj wr news↔p∈news/\p.1∉wr:=by
 unfold wj
 simp[List.mem_filter]
def fB.Kr{own its:aS}{wr:List Addr}(R:fB S w φ H)(hp:φ.its=own++its)(hw:∀b∈wr,∃o,(b,o)∈own)(hv:∀p∈own,p.1∈wr/\rC p.2)(hps:∀p,dD.held ⟨φ.adr,φ.news,φ.pins,φ.fix,its⟩ p->p.1∉wr):
  uu S w φ ⟨φ.adr,wj wr φ.news,φ.pins,φ.fix,its⟩ H:=
 have oi:∀p∈own,p∈φ.its:=λp h=>hp▸List.mem_append_left _ h
 have si:∀p∈its,p∈φ.its:=λp h=>hp▸List.mem_append_right _ h
 have hd:∀p,dD.held ⟨φ.adr,φ.news,φ.pins,φ.fix,its⟩ p->φ.held p:=λp h=>h.imp id<|.imp id<|si p
 have nv:∀a x,(a,x)∈φ.news->a∈wr->rC x:=λa x m h=>(hw a h).elim λo h'=>nO R.nodup (R.pin _<|.inr<|.inr<|oi _ h') m▸(hv _ h').2
 have na:∀i a,vN φ i a->a∉wr:=λi a m h=>(hw a h).elim λo h'=>R.qu _ (oi _ h') i m
 have X:jc φ ⟨φ.adr,wj wr φ.news,φ.pins,φ.fix,its⟩:=⟨λ_ _ h=>h,λa vs m=>iY.mpr ⟨m,λh=>(nv a _ m h).1 rfl⟩,λa f x m=>iY.mpr ⟨m,λh=>(nv a _ m h).2 rfl⟩,rfl⟩
 ⟨X,R.nodup.sublist<|List.Sublist.map _ List.filter_sublist,R.lt,R.dom,λi a m=>(R.yE i a m).elim λx h=>⟨x,iY.mpr ⟨h,na i a m⟩⟩,R.inj,
  λj u h=>(R.obj j u h).move X (λ_ a _ m h=>iY.mpr ⟨h,na j a m⟩) λ_ _ _ _ m=>m,
  λp h=>iY.mpr ⟨R.pin p<|hd p h,hps p h⟩,λp h=>R.qu p<|si p h,λp h=>R.nN p<|hd p h⟩
def fB.Ud{i:Nat}{es:List (Int×MV)}{a:Addr}{o:Obj}{kvs:List (Int×Value)}(R:fB S w φ H)(hi:H.at_ i=some (.cA es))(ha:φ.adr i=some (a,a))(hm:(a,o)∈φ.news)(hd:o.IsDictOf (intKind S.prog w) kvs)(hr:ny xA φ es kvs)(hl:es.length<=jO)(lo:(a==sysModules)=false):
  uu S w φ ⟨φ.adr,φ.news,(a,o)::φ.pins,φ.fix,φ.its⟩ (H.put i<|.pG es):=
 have X:jc φ ⟨φ.adr,φ.news,(a,o)::φ.pins,φ.fix,φ.its⟩:=⟨λ_ _ h=>h,λ_ _ m=>m,λ_ _ _ m=>m,rfl⟩
 have low:∀p,dD.held ⟨φ.adr,φ.news,(a,o)::φ.pins,φ.fix,φ.its⟩ p->p=(a,o)∨φ.held p:=λp h=>h.elim (λh=>(aab.mp h).imp id .inl) λh=>.inr (.inr h)
 ⟨X,R.nodup,R.lt,λj u h=>qx h (λe _=>by rw[e];exact R.dom i _ hi) λ_=>R.dom j u,R.yE,R.inj,
  λj u h=>qx h (λe e'=>by rw[e,e'];exact gj.mk a o kvs ha (.head _) hd (hr.iO X) hl lo) λ_ q=>(R.obj j u q).move X (λ_ _ _ _ m=>m) λ_ _ _ _ m=>.tail _ m,
  λp h=>(low p h).elim (λe=>e▸hm)<|R.pin p,R.qu,
  λp h j u hj ho=>qx hj (λ_ e=>by rw[e]at ho;cases ho) λn q=>(low p h).elim (λe m=>n<|R.inj j i a (by rw[e]at m;exact m) ⟨_,ha,.inl rfl⟩) λh=>R.nN p h j u q ho⟩
def fB.Ue{i:Nat}{es:List (Int×MV)}{a:Addr}{o:Obj}{ps:aS}(R:fB S w φ H)(hp:φ.pins=(a,o)::ps)(hi:H.at_ i=some (.pG es))(ha:φ.adr i=some (a,a))(nd:∀p,dD.held ⟨φ.adr,φ.news,ps,φ.fix,φ.its⟩ p->p.1≠a):
  uu S w φ ⟨φ.adr,φ.news,ps,φ.fix,φ.its⟩ (H.put i<|.cA es):=
 have X:jc φ ⟨φ.adr,φ.news,ps,φ.fix,φ.its⟩:=⟨λ_ _ h=>h,λ_ _ m=>m,λ_ _ _ m=>m,rfl⟩
 have hd:∀p,dD.held ⟨φ.adr,φ.news,ps,φ.fix,φ.its⟩ p->φ.held p:=λp h=>h.imp (λh=>hp▸.tail _ h) id
 have Z:gj xA (intKind S.prog w) φ i φ.pins es:=R.obj i _ hi
 ⟨X,R.nodup,R.lt,λj u h=>qx h (λe _=>by rw[e];exact R.dom i _ hi) λ_=>R.dom j u,R.yE,R.inj,
  λj u h=>qx h (λe e'=>by rw[e,e'];exact Z.move X λ_ _ _ _ m=>R.pin _<|.inl m) λn q=>(R.obj j u q).move X (λ_ _ _ _ m=>m) λb x m _ q=>(aab.mp (hp▸q:(b,x)∈(a,o)::ps)).elim (λe=>aan (R.inj j i b m ⟨_,ha,.inl<|aac Prod.fst e⟩) n) id,
  λp h=>R.pin p<|hd p h,R.qu,
  λp h j u hj ho=>qx hj (λe _ m=>by rw[e]at m;exact m.elim λq z=>nd p h (by have:=aaf<|ha.symm.trans z.1;rw[<-this]at z;exact z.2.elim id id)) λ_ q=>R.nN p (hd p h) j u q ho⟩
def fB.Qq{i:Nat}{xs:List MV}{a:Addr}{o:Obj}(R:fB S w φ H)(hi:H.at_ i=some (.list xs))(ha:vN φ i a)(hm:(a,o)∈φ.news):uu S w φ ⟨φ.adr,φ.news,(a,o)::φ.pins,φ.fix,φ.its⟩ (H.del i):=
 have X:jc φ ⟨φ.adr,φ.news,(a,o)::φ.pins,φ.fix,φ.its⟩:=⟨λ_ _ h=>h,λ_ _ m=>m,λ_ _ _ m=>m,rfl⟩
 have low:∀p,dD.held ⟨φ.adr,φ.news,(a,o)::φ.pins,φ.fix,φ.its⟩ p->p=(a,o)∨φ.held p:=λp h=>h.elim (λh=>(aab.mp h).imp id .inl) λh=>.inr (.inr h)
 ⟨X,R.nodup,R.lt,λj u h=>F0 h λ_=>R.dom j u,R.yE,R.inj,λj u h=>F0 h λ_ q=>(R.obj j u q).move X (λ_ _ _ _ m=>m) λ_ _ _ _ m=>.tail _ m,
  λp h=>(low p h).elim (λe=>e▸hm)<|R.pin p,R.qu,
  λp h j u hj ho=>F0 hj λn q=>(low p h).elim (λe m=>n<|R.inj j i a (by rw[e]at m;exact m) ha) λh=>R.nN p h j u q ho⟩
def fB.Qs{a:Addr}{o:Obj}{ps:aS}(R:fB S w φ H)(hp:φ.pins=(a,o)::ps)(ho:o.cls≠.type "dict"):uu S w φ ⟨φ.adr,φ.news,ps,φ.fix,φ.its⟩ H:=
 have X:jc φ ⟨φ.adr,φ.news,ps,φ.fix,φ.its⟩:=⟨λ_ _ h=>h,λ_ _ m=>m,λ_ _ _ m=>m,rfl⟩
 have hd:∀p,dD.held ⟨φ.adr,φ.news,ps,φ.fix,φ.its⟩ p->φ.held p:=λp h=>h.imp (λh=>hp▸.tail _ h) id
 ⟨X,R.nodup,R.lt,R.dom,R.yE,R.inj,λj u q=>(R.obj j u q).move X (λ_ _ _ _ m=>m) λb x _ c q=>(aab.mp (hp▸q:(b,x)∈(a,o)::ps)).elim (λe=>aan ((aac (λp:Addr×Obj=>p.2.cls) e).symm.trans c) ho) id,
  λp h=>R.pin p<|hd p h,R.qu,λp h=>R.nN p<|hd p h⟩
end
def uv(o:Obj)(f:Array Value->Array Value):(o.mapFields f).dict=o.dict:=by
 obtain⟨a,b,c,d⟩:=o
 cases c<;>rfl
structure Xd(h base:Heap)(e:Addr)(cls:Value)(d:Option Addr)(fl:Value):Prop where
 ex:∃oe vs T oT ts,h.get? e=some oe/\oe.cls=cls/\oe.dict=d/\oe.data=.fields vs/\vs[1]?=some (.ref T)/\base.get? T=none/\T≠e/\h.get? T=some oT/\oT.data=.fields ts/\ts[3]?=some fl
structure mW(base:Heap)(l:List Env)(e:Addr)(cls:Value)(d:Option Addr)(fl:Value)(h:Heap):Prop where
 stays:base.StaysIn h
 new:base.get? e=none
 frames:h.FunFrames base l
 tr:Xd h base e cls d fl
section
variable{M:Model}{A:Around}{E:Value->Shared->Prop}{s:Shared}
def gk{h:Heap}{a b:Addr}{oa o:Obj}{vs:Array Value}(ha:h.get? a=some oa)(hd:oa.data=.fields vs)(hb:h.get? b=some o)(n:∀ws,o.data≠.fields ws):b≠a:=λq=>by
 rw[q,ha]at hb;cases hb;exact n vs hd
def qA{base:Heap}{a b:Addr}{o:Obj}(hn:base.get? a=none)(hb:base.get? b=some o):b≠a:=λq=>by
 rw[q,hn]at hb;cases hb
def F5{base:Heap}{env:Env}{outer:List Env}{L e:Addr}{oe:Obj}{vs:Array Value}{head:Value}{hadNext:Bool}{Q:Unit->Shared->Prop}
  (hfr:A.frames=some (env::outer))(hl:s.heap.FunFrames base<|env::outer)(hf:env.frame=some L)
  (he:s.heap.get? e=some oe)(hkb:base.StaysIn s.heap)(hen:base.get? e=none)(hd:oe.data=.fields vs)(hsz:1<vs.size)
  (h:∀h',mW base (env::outer) e oe.cls oe.dict (rawInt L) h'->s.heap.UpToSlots h'->Q () {s with heap:=h'}):
  wpAny M A (do let a<-frameOf env;let pl<-entryPlaceOf L hadNext;let b<-EntryCells.newEntry head a .none (rawInt L) .none pl;setField (.ref e) 1 b) Q E s:=by
 have off:e∉(env::outer).filterMap (·.frame):=λm=>by
  obtain⟨-,o,ho,n⟩:=hl.mem m
  rw[he]at ho;cases ho
  exact n vs hd
 refine gf<|wpAny_frameOf_fun hfr hl hf λh1 so=>?_
 have e1:h1.get? e=some oe:=(so.2.1 e off).trans he
 have s1:base.StaysIn h1:=λb o hb=>by
  refine(so.2.1 b λm=>?_).trans (hkb b o hb)
  rw[(hl.mem m).1]at hb;cases hb
 refine gf<|wpAny_entryPlaceOf λpl hpl=>?_
 unfold EntryCells.newEntry newFields
 refine gf<|wpAny_newObj_type ?_<|hpl.sizeOk5 _ _ _ _ _
 generalize hT:({cls:=.type "traceback",dict:=none,data:=.fields ([head,.ref L,.none,rawInt L,.none]++(if pl.isEmpty then List.replicate 6 Value.none else pl)).toArray}:Obj)=oT
 have dT:oT.data=.fields ([head,.ref L,.none,rawInt L,.none]++(if pl.isEmpty then List.replicate 6 Value.none else pl)).toArray:=by rw[<-hT]
 have fT:oT.isFreed=false:=Obj.isFreed_of_fields dT
 have e2:(h1.push oT).get? e=some oe:=Heap.get?_push_of_some oT e1
 refine wpAny_setField e2 hd hsz ?_
 have ne:h1.objs.size≠e:=aav<|Heap.lt_size e1
 have up:∀b o,b≠e->h1.get? b=some o->((h1.push oT).update e (Obj.mapFields (·.setIfInBounds 1 (Value.ref h1.objs.size)))).get? b=some o:=λb o n hb=>by
  rw[Heap.get?_update_other _ _<|Ne.symm n]
  exact Heap.get?_push_of_some oT hb
 have dd:=Obj.data_mapFields hd (·.setIfInBounds 1 (Value.ref h1.objs.size))
 refine h _ ⟨λb o hb=>up b o (qA hen hb)<|s1 b o hb,hen,?_,⟨_,_,h1.objs.size,oT,_,Heap.get?_update_self _ e2<|Obj.isFreed_of_fields dd,Obj.cls_mapFields _ _,uv _ _,dd,?_,s1.fresh,ne,?_,dT,?_⟩⟩ ?_
 ·refine hl.of_keeps λb o hb n=>?_
  obtain⟨sl,hs⟩:=so.2.2 b o hb
  exact⟨_,up b _ (gk he hd hb n) hs,rfl⟩
 ·simp[hsz]
 ·rw[Heap.get?_update_other _ _<|Ne.symm ne]
  exact Heap.get?_push_size h1 fT
 ·simp
 ·intro b o hb n
  obtain⟨sl,hs⟩:=so.2.2 b o hb
  exact⟨sl,up b _ (gk he hd hb n) hs⟩
def F6{base:Heap}{env:Env}{outer:List Env}{L e:Addr}{oe:Obj}{vs:Array Value}{Q:Unit->Shared->Prop}
  (hfr:A.frames=some (env::outer))(hl:s.heap.FunFrames base<|env::outer)(hf:env.frame=some L)
  (he:s.heap.get? e=some oe)(hkb:base.StaysIn s.heap)(hen:base.get? e=none)(hd:oe.data=.fields vs)(h1:vs[1]?=some .none)
  (h:∀h',mW base (env::outer) e oe.cls oe.dict (rawInt L) h'->s.heap.UpToSlots h'->Q () {s with heap:=h'}):wpAny M A (noteFrame (.ref e) env) Q E s:=by
 unfold noteFrame
 simp only[hf]
 refine gf<|wpAny_field he hd h1 ?_
 rw[aal<|by decide]
 exact F5 hfr hl hf he hkb hen hd (Array.getElem?_eq_some_iff.mp h1).1 h
def Od{base:Heap}{env:Env}{outer:List Env}{L e:Addr}{cls:Value}{d:Option Addr}{Q:Unit->Shared->Prop}
  (hfr:A.frames=some (env::outer))(hf:env.frame=some L)(F:mW base (env::outer) e cls d .none s.heap)
  (h:∀h',mW base (env::outer) e cls d (rawInt L) h'->s.heap.UpToSlots h'->Q () {s with heap:=h'}):wpAny M A (noteFrame (.ref e) env) Q E s:=by
 obtain⟨f1,f2,f3,⟨oe,vs,T,oT,ts,he,hc,hdi,hd,h1,hnT,hTe,hT,hdT,h3⟩⟩:=F
 subst hc hdi
 unfold noteFrame
 simp only[hf]
 refine gf<|wpAny_field he hd h1 ?_
 rw[aam<|show(Value.ref T !=Value.none)=true from by simp]
 refine gf<|wpAny_field hT hdT h3 ?_
 rw[aal<|show¬((Value.none==rawInt L)=true)from by simp[rawInt]]
 refine gf<|wpAny_setField hT hdT (Array.getElem?_eq_some_iff.mp h3).1 ?_
 have BS:∀b,b≠T->(s.heap.update T (Obj.mapFields (·.setIfInBounds 3 Value.none))).get? b=s.heap.get? b:=λb n=>Heap.get?_update_other _ _<|Ne.symm n
 refine F5 hfr (f3.of_keeps λb o hb n=>⟨o,(BS b<|gk hT hdT hb n).trans hb,rfl⟩) hf ((BS e<|Ne.symm hTe).trans he) (λb o hb=>(BS b<|qA hnT hb).trans<|f1 b o hb) f2 hd (Array.getElem?_eq_some_iff.mp h1).1
  λh' F' U=>h h' F' λb o hb n=>U b o ((BS b<|gk hT hdT hb n).trans hb) n
def uw{base:Heap}{env:Env}{l:List Env}{L e:Addr}{cls:Value}{d:Option Addr}{Q:Unit->Shared->Prop}(hf:env.frame=some L)(F:mW base l e cls d (rawInt L) s.heap)(h:Q () s):wpAny M A (noteFrame (.ref e) env) Q E s:=by
 obtain⟨f1,f2,f3,⟨oe,vs,T,oT,ts,he,hc,hdi,hd,h1,hnT,hTe,hT,hdT,h3⟩⟩:=F
 unfold noteFrame
 simp only[hf]
 refine gf<|wpAny_field he hd h1 ?_
 rw[aam<|show(Value.ref T !=Value.none)=true from by simp]
 refine gf<|wpAny_field hT hdT h3 ?_
 rw[aam<|show(rawInt L==rawInt L)=true from by simp]
 exact aao h
def BU{base:Heap}{l:List Env}{e:Addr}{cls fl:Value}{d:Option Addr}{Q:Unit->Shared->Prop}(F:mW base l e cls d fl s.heap)
  (h:∀h',mW base l e cls d .none h'->s.heap.UpToSlots h'->Q () {s with heap:=h'}):wpAny M A (setFlight (.ref e) none) Q E s:=by
 obtain⟨f1,f2,f3,⟨oe,vs,T,oT,ts,he,hc,hdi,hd,h1,hnT,hTe,hT,hdT,h3⟩⟩:=F
 have sz:3<ts.size:=(Array.getElem?_eq_some_iff.mp h3).1
 have BS:∀b,b≠T->(s.heap.update T (Obj.mapFields (·.setIfInBounds 3 ((none:Option Addr).elim Value.none λf=>rawInt f)))).get? b=s.heap.get? b:=λb n=>Heap.get?_update_other _ _<|Ne.symm n
 have dT:=Obj.data_mapFields hdT (·.setIfInBounds 3 ((none:Option Addr).elim Value.none λf=>rawInt f))
 unfold setFlight
 refine gf<|wpAny_field he hd h1 ?_
 rw[aam<|show(Value.ref T !=Value.none)=true from by simp]
 refine wpAny_setField hT hdT sz (h _ ⟨λb o hb=>(BS b<|qA hnT hb).trans<|f1 b o hb,f2,f3.of_keeps λb o hb n=>⟨o,(BS b<|gk hT hdT hb n).trans hb,rfl⟩,
  ⟨oe,vs,T,_,_,(BS e<|Ne.symm hTe).trans he,hc,hdi,hd,h1,hnT,hTe,Heap.get?_update_self _ hT<|Obj.isFreed_of_fields dT,dT,by simp[sz]⟩⟩ λb o hb n=>⟨o.slots,(BS b<|gk hT hdT hb n).trans hb⟩)
def F7{base:Heap}{env:Env}{outer:List Env}{L e:Addr}{cls fl:Value}{d:Option Addr}{Q:Unit->Shared->Prop}(hfl:fl=.none∨fl=rawInt L)
  (hfr:A.frames=some (env::outer))(hf:env.frame=some L)(F:mW base (env::outer) e cls d fl s.heap)
  (h:∀h',mW base outer e cls d .none h'->s.heap.UpToSlots h'->Q () {s with heap:=h'}):wpAny M A (leaving env<|.ref e) Q E s:=by
 unfold leaving
 have out:∀{s':Shared},mW base (env::outer) e cls d (rawInt L) s'.heap->s.heap.UpToSlots s'.heap->s'={s with heap:=s'.heap}->wpAny M A (setFlight (.ref e) none) Q E s':=λ{s'} F' U es=>
  BU F' λh' F2 U2=>by
   have z:=h h' ⟨F2.stays,F2.new,F2.frames.2.2,F2.tr⟩<|U.trans U2
   rw[es];exact z
 rcases hfl with rfl|rfl
 ·exact gf<|Od hfr hf F λh1 F1 U1=>out (s':={s with heap:=h1}) F1 U1 rfl
 ·exact gf<|uw hf F<|out F (.refl _) rfl
def Ks{base:Heap}{env:Env}{outer:List Env}{L e:Addr}{oe:Obj}{vs:Array Value}{Q:Unit->Shared->Prop}
  (hfr:A.frames=some (env::outer))(hl:s.heap.FunFrames base<|env::outer)(hf:env.frame=some L)
  (he:s.heap.get? e=some oe)(hkb:base.StaysIn s.heap)(hen:base.get? e=none)(hd:oe.data=.fields vs)(h1:vs[1]?=some .none)
  (h:∀h',mW base outer e oe.cls oe.dict .none h'->s.heap.UpToSlots h'->Q () {s with heap:=h'}):wpAny M A (leaving env<|.ref e) Q E s:=by
 unfold leaving
 refine gf<|F6 hfr hl hf he hkb hen hd h1 λh1 F1 U1=>?_
 exact BU F1 λh' F2 U2=>h h' ⟨F2.stays,F2.new,F2.frames.2.2,F2.tr⟩<|U1.trans U2
end
structure Ku(base:Heap)(l:List Env)(L e:Addr)(cls:Value)(d:Option Addr)(h:Heap):Prop where
 stays:base.StaysIn h
 new:base.get? e=none
 frames:h.FunFrames base l
 tr:Xd h base e cls d .none∨Xd h base e cls d (rawInt L)∨∃oe vs,h.get? e=some oe/\oe.cls=cls/\oe.dict=d/\oe.data=.fields vs/\vs[1]?=some .none
def mW.Zm{base:Heap}{l:List Env}{L e:Addr}{cls fl:Value}{d:Option Addr}{h:Heap}(F:mW base l e cls d fl h)(hf:fl=.none∨fl=rawInt L):Ku base l L e cls d h:=
 ⟨F.stays,F.new,F.frames,by rcases hf with rfl|rfl;exact .inl F.tr;exact .inr (.inl F.tr)⟩
section
variable{M:Model}{A:Around}{E:Value->Shared->Prop}{s:Shared}
def Oe{base:Heap}{env:Env}{outer:List Env}{L e:Addr}{cls:Value}{d:Option Addr}{Q:Unit->Shared->Prop}
  (hfr:A.frames=some (env::outer))(hf:env.frame=some L)(F:Ku base (env::outer) L e cls d s.heap)
  (h:∀h',mW base (env::outer) e cls d (rawInt L) h'->s.heap.UpToSlots h'->Q () {s with heap:=h'}):wpAny M A (noteFrame (.ref e) env) Q E s:=by
 obtain⟨f1,f2,f3,t|t|⟨oe,vs,he,rfl,rfl,hd,h1⟩⟩:=F
 ·exact Od hfr hf ⟨f1,f2,f3,t⟩ h
 ·exact uw hf ⟨f1,f2,f3,t⟩<|h _ ⟨f1,f2,f3,t⟩<|.refl _
 ·exact F6 hfr f3 hf he f1 f2 hd h1 h
def Qt{base:Heap}{env:Env}{outer:List Env}{L e:Addr}{cls:Value}{d:Option Addr}{Q:Unit->Shared->Prop}
  (hfr:A.frames=some (env::outer))(hf:env.frame=some L)(F:Ku base (env::outer) L e cls d s.heap)
  (h:∀h',mW base outer e cls d .none h'->s.heap.UpToSlots h'->Q () {s with heap:=h'}):wpAny M A (leaving env<|.ref e) Q E s:=by
 obtain⟨f1,f2,f3,t|t|⟨oe,vs,he,rfl,rfl,hd,h1⟩⟩:=F
 ·exact F7 (.inl rfl) hfr hf ⟨f1,f2,f3,t⟩ h
 ·exact F7 (.inr rfl) hfr hf ⟨f1,f2,f3,t⟩ h
 ·exact Ks hfr f3 hf he f1 f2 hd h1 h
def Ug{base:Heap}{env:Env}{l:List Env}{L e:Addr}{cls:Value}{d:Option Addr}(hf:env.frame=some L)(F:mW base l e cls d (rawInt L) s.heap)
  (h:∀h',mW base l e cls d (rawInt L) h'->s.heap.UpToSlots h'->E (.ref e) {s with heap:=h'}):cameBackBy M A env E (.ref e) s:=by
 obtain⟨f1,f2,f3,⟨oe,vs,T,oT,ts,he,hc,hdi,hd,h1,hnT,hTe,hT,hdT,h3⟩⟩:=F
 unfold cameBackBy
 refine gf<|wpAny_field he hd h1 ?_
 rw[aal<|by simp]
 have sz:3<ts.size:=(Array.getElem?_eq_some_iff.mp h3).1
 have BS:∀b,b≠T->(s.heap.update T (Obj.mapFields (·.setIfInBounds 3 (env.frame.elim Value.none λf=>rawInt f)))).get? b=s.heap.get? b:=λb n=>Heap.get?_update_other _ _<|Ne.symm n
 have dT:=Obj.data_mapFields hdT (·.setIfInBounds 3 (env.frame.elim Value.none λf=>rawInt f))
 unfold setFlight
 refine gf<|wpAny_field he hd h1 ?_
 rw[aam<|show(Value.ref T !=Value.none)=true from by simp]
 refine wpAny_setField hT hdT sz (h _ ⟨λb o hb=>(BS b<|qA hnT hb).trans<|f1 b o hb,f2,f3.of_keeps λb o hb n=>⟨o,(BS b<|gk hT hdT hb n).trans hb,rfl⟩,
  ⟨oe,vs,T,_,_,(BS e<|Ne.symm hTe).trans he,hc,hdi,hd,h1,hnT,hTe,Heap.get?_update_self _ hT<|Obj.isFreed_of_fields dT,dT,by simp[sz,hf]⟩⟩ λb o hb n=>⟨o.slots,(BS b<|gk hT hdT hb n).trans hb⟩)
end
structure BV(K:Frag)(c:Addr)(x:Str):Prop where
 get:plainGet K c x=true
 dict:hasDictIn K c=true
 cls:∃a,findIn K (.ref c) x=some a/\noGet K a=true
 set:findIn K (.ref c) "__setattr__"=some (some<|.builtin "object.__setattr__")
 over:plainOver K c=true
 BW:takerIn K c x=some none
structure F8(K:Frag)(c:Addr)(x:Str)(f:Addr):Prop where
 get:plainGet K c x=true
 find:findIn K (.ref c) x=some (some<|.ref f)
 Of:isFn K (.ref f)=true
 fn:fnIn K f=true
 keep:keepIn K (.ref f)=true
 dict:hasDictIn K c=true
 Xe:specialIn K (.ref f) "__get__"=some (some<|.builtin "function.__get__")
 takes:takesIn K (.ref f)=some false
 Ak:copiedNames.contains x=false
structure F9(S:aP)(w:World):Prop where
 nodup:S.nm.Nodup
 tab:∀(c k:Nat) (x:Str),S.tab c k=true->S.nm[k]?=some x->BV (S.K w.params) c x
 mt:∀(c k:Nat) (x:Str) (f:Nat),S.mt c k=some f->S.nm[k]?=some x->F8 (S.K w.params) c x f
noncomputable abbrev Fm.env(f:Fm)(L:Addr):Env:=envX f.cn f.sc L f.fa f.ccd f.cl
structure Th where
 S:aP
 w:World
 f:Fm
structure Gm where
 A:Around
 A₀:Around
 base:Heap
 h₀:Heap
 outer:List Env
 L:Addr
structure Rh where
 φ:dD
 m:Str->Option Value
 s:Shared
structure yN(u:Nat)(A:Around):Prop where
 depth:A.depth+u<=900
 units:A.units+12*u<=9000
noncomputable abbrev Th.K(θ:Th):Frag:=θ.S.K θ.w.params
noncomputable abbrev Th.M(θ:Th):Model:=model θ.S.prog θ.w
structure Ctx(θ:Th)(Γ:Gm):Prop where
 B:Below Γ.A₀ Γ.base Γ.outer Γ.h₀
 fr:Γ.A.frames=some (θ.f.env Γ.L::Γ.outer)
 X:θ.K.In Γ.h₀
 T:∃mg mb,TopRead θ.S.p θ.S.loose mg mb Γ.h₀
 lT:θ.f.sc.kind=.function
 nodup:θ.f.ns.Nodup
 quiet:θ.S.quiet=true->Γ.A.handled=none
 top:θ.f.fa=θ.S.top->Γ.base=Γ.h₀
def xE(f:Fm)(φ:dD)(Lc:Loc)(m:Str->Option Value):Prop:=∀(k:Nat) (x:Str) (v:MV),f.ns[k]?=some x->Lc[k]?=some (some v)->∃wv,m x=some wv/\VR φ v wv
structure St(θ:Th)(Γ:Gm)(r:Rh)(Lc:Loc)(H:MH):Prop where
 F:Fr Γ.h₀ Γ.L r.s.heap r.m
 N:News Γ.h₀ Γ.L r.s.heap r.φ.news
 R:fB θ.S θ.w r.φ H
 loc:xE θ.f r.φ Lc r.m
inductive jd(θ:Th)(Γ:Gm)(r:Rh)(Lc:Loc)(H:MH)(x:MV)(e:Value):Prop
 |mk (B h1:Heap) (ea d:Addr) (es:List DictEntry) (n:Nat) (wv:Value):e=.ref ea->Fr Γ.h₀ Γ.L h1 r.m->h1.UpToSlots r.s.heap->Γ.base.StaysIn B->(∀q∈r.φ.news,B.get? q.1=some q.2/\Γ.base.get? q.1=none)->
  Ku B (θ.f.env Γ.L::Γ.outer) Γ.L ea (.ref θ.S.xc) (some d) r.s.heap->(d,dictOf es n)∈r.φ.news->getL "problem_mark" es=some (some wv)->VR r.φ x wv->(∀i,¬vN r.φ i d)->(∀p,r.φ.held p->p.1≠d)->
  fB θ.S θ.w r.φ H->xE θ.f r.φ Lc r.m->jd θ Γ r Lc H x e
structure Le(r r':Rh):Prop where
 x:Ext r.φ r'.φ
 g:r'.s.gens=r.s.gens
 o:r'.s.os=r.s.os
def Le.refl{r:Rh}:Le r r:=⟨.refl,rfl,rfl⟩
def Le.trans{r r' r'':Rh}(a:Le r r')(b:Le r' r''):Le r r'':=⟨a.x.trans b.x,b.g.trans a.g,b.o.trans a.o⟩
def Qu(θ:Th)(Γ:Gm)(r:Rh)(X:QX)(E:Value->Shared->Prop):Prop:=∀r' Lc H x e,Le r r'->jd θ Γ r' Lc H x e->X x Lc H->E e r'.s
structure At(θ:Th)(u:Nat)(Γ:Gm)(E:Value->Shared->Prop)(r:Rh)(Lc:Loc)(H:MH)(X:QX):Prop where
 C:Ctx θ Γ
 rm:yN u Γ.A
 T:St θ Γ r Lc H
 EX:Qu θ Γ r X E
def eX{α:Type}(r:Rh)(P:α->Rh->Prop)(v:α)(s:Shared):Prop:=∃r',r'.s=s/\Le r r'/\P v r'
inductive pM{α β:Type}(θ:Th)(Γ:Gm)(Lc:Loc)(J:dD->β->α->Prop)(Q:β->MH->Prop)(v:α)(r:Rh):Prop
 |mk (H:MH) (b:β):St θ Γ r Lc H->J r.φ b v->Q b H->pM θ Γ Lc J Q v r
abbrev Xf{α:Type}(_:dD)(a b:α):Prop:=a=b
abbrev Al(_:dD)(_ _:Unit):Prop:=True
def Go{α:Type}(θ:Th)(Γ:Gm)(E:Value->Shared->Prop)(r:Rh)(t:Sem α)(P:α->Rh->Prop):Prop:=wpAny θ.M Γ.A t (eX r P) E r.s
def Ev{α β:Type}(θ:Th)(u:Nat)(Lc:Loc)(H:MH)(X:QX)(t:Gm->Sem α)(J:dD->β->α->Prop)(Q:β->MH->Prop):Prop:=∀Γ E r,At θ u Γ E r Lc H X->Go θ Γ E r (t Γ) (pM θ Γ Lc J Q)
def dc{α β:Type}(θ:Th)(u:Nat)(Lc:Loc)(H:MH)(X:QX)(az:List MV)(t:List Value->Sem α)(J:dD->β->α->Prop)(Q:β->MH->Prop):Prop:=
 ∀Γ E r ws,At θ u Γ E r Lc H X->cK r.φ az ws->Go θ Γ E r (t ws) (pM θ Γ Lc J Q)
def aB(θ:Th)(u:Nat)(e:Expr)(Lc:Loc)(H:MH)(Q:QV)(X:QX):Prop:=Ev θ u Lc H X (λΓ=>eval e<|θ.f.env Γ.L) VR Q
def lU(θ:Th)(u:Nat)(e:Expr)(Lc:Loc)(H:MH)(Q:Bool->MH->Prop)(X:QX):Prop:=Ev θ u Lc H X (λΓ=>isTrue e (θ.f.env Γ.L)<|eval e<|θ.f.env Γ.L) Xf Q
def Uh(θ:Th)(u:Nat)(v:MV)(Lc:Loc)(H:MH)(Q:Bool->MH->Prop)(X:QX):Prop:=∀Γ E r x,At θ u Γ E r Lc H X->VR r.φ v x->Go θ Γ E r (truthy x) (pM θ Γ Lc Xf Q)
section
variable{θ:Th}{u:Nat}{Γ:Gm}{E:Value->Shared->Prop}{r r':Rh}{Lc:Loc}{H H':MH}{Q Q':QV}{X:QX}{α β:Type}{t:Sem α}{P:α->Rh->Prop}{J:dD->β->α->Prop}{QJ Zn:β->MH->Prop}{v:α}
def Qu.le{r':Rh}(h:Qu θ Γ r X E)(l:Le r r'):Qu θ Γ r' X E:=λr2 Lc H x e l2=>h r2 Lc H x e<|l.trans l2
def At.at_{pN:Loc}(a:At θ u Γ E r Lc H X)(l:Le r r')(T:St θ Γ r' pN H'):At θ u Γ E r' pN H' X:=⟨a.C,a.rm,T,a.EX.le l⟩
def Go.then{R:α->Shared->Prop}(h:Go θ Γ E r t P)(k:∀v r',Le r r'->P v r'->R v r'.s):wpAny θ.M Γ.A t R E r.s:=wpAny_mono h (λv _ z=>z.elim λr' z=>z.1▸k v r' z.2.1 z.2.2) λ_ _ z=>z
def Go.from(h:Go θ Γ E r' t P)(l:Le r r'):wpAny θ.M Γ.A t (eX r P) E r'.s:=h.then λ_ r2 l2 p=>⟨r2,rfl,l.trans l2,p⟩
def At.go{pN:Loc}{R:α->Shared->Prop}(a:At θ u Γ E r Lc H X)(h:Go θ Γ E r t<|pM θ Γ pN J QJ)(k:∀v r' b H',Le r r'->At θ u Γ E r' pN H' X->J r'.φ b v->QJ b H'->R v r'.s):wpAny θ.M Γ.A t R E r.s:=
 h.then λv r' l p=>by cases p with|mk H' b T j q=>exact k v r' b H' l (a.at_ l T) j q
def At.fin{b:β}(a:At θ u Γ E r' Lc H X)(l:Le r r')(j:J r'.φ b v)(q:QJ b H):eX r (pM θ Γ Lc J QJ) v r'.s:=⟨r',rfl,l,H,b,a.T,j,q⟩
def Ev.mono{t:Gm->Sem α}(h:Ev θ u Lc H X t J QJ)(k:∀b H',QJ b H'->Zn b H'):Ev θ u Lc H X t J Zn:=λ_ _ _ a=>a.go (h _ _ _ a) λ_ _ b _ l a' j q=>a'.fin l j<|k b _ q
noncomputable def Rh.tk(r:Rh)(n:Nat):Rh:=⟨r.φ,r.m,{r.s with toks:=n}⟩
def Le.tk{n:Nat}:Le r (r.tk n):=⟨.refl,rfl,rfl⟩
def At.tk(n:Nat)(a:At θ u Γ E r Lc H X):At θ u Γ E (r.tk n) Lc H X:=a.at_ .tk ⟨a.T.F,a.T.N,a.T.R,a.T.loc⟩
def aB.sC{e:Expr}{mv:MV}(hq:Q mv H)(h:∀Γ E r (R:Value->Shared->Prop),At θ u Γ E r Lc H X->(∀v tk,VR r.φ mv v->R v {r.s with toks:=tk})->wpAny θ.M Γ.A (eval e<|θ.f.env Γ.L) R E r.s):aB θ u e Lc H Q X:=
 λΓ E r a=>h Γ E r _ a λ_ tk j=>(a.tk tk).fin .tk j hq
def aB.const_none{k pos}(hq:Q .none H):aB θ u (.Constant .none k pos) Lc H Q X:=aB.sC hq λ_ _ r _ _ k=>Constant_none<|k _ r.s.toks rfl
def aB.Am{b k pos}(hq:Q (.bool b) H):aB θ u (.Constant (.bool b) k pos) Lc H Q X:=aB.sC hq λ_ _ r _ _ k=>Constant_bool<|k _ r.s.toks rfl
def aB.const_int{i k pos}(hq:Q (.int i) H):aB θ u (.Constant (.int i) k pos) Lc H Q X:=aB.sC hq λ_ _ _ _ _ k=>wpAny_Constant_int<|k _ _ ⟨_,rfl⟩
def aB.o9{l:List Nat}{k pos}(hq:Q (.str l) H):aB θ u (.Constant (.str ⟨l.toArray⟩) k pos) Lc H Q X:=aB.sC hq λ_ _ _ _ _ k=>wpAny_mkText<|k _ _ ⟨_,rfl⟩
def aB.Kv{x:Str}{pos:Pos}{k:Nat}{v:MV}(hx:θ.f.ns[k]?=some x)(hv:Lc[k]?=some (some v))(hk:θ.f.sc.names.lookup x=some .local)(hd:(x==("__debug__":Str))=false)(hq:Q v H):aB θ u (.Name x pos) Lc H Q X:=
 λ_ _ _ a=>(a.T.loc k x v hx hv).elim λ_ z=>nameX_L a.T.F z.1 (a.fin .refl z.2 hq) a.C.lT hk hd
def St.inst{i c:Nat}{fs:List (Nat×MV)}{P:Prop}(T:St θ Γ r Lc H)(h:H.at_ i=some (.inst c fs))(k:∀p es n,r.φ.adr i=some p->(p.2,dictOf es n)∈r.φ.news->lQ θ.S.nm r.φ fs es->es.length<=fs.length->(∀k v,fs.lookup k=some v->θ.S.tab c k=true)->InstAt r.s.heap p.1 (instObj c p.2) c (some<|dictOf es n)->P):P:=by
 obtain⟨p,es,n,h1,h2,h3,h4,h5,h6,h7⟩:=(T.R.obj i _ h:nM _ _ _ _ _)
 exact k p es n h1 h3 h4 h5 h7<|InstAt.of_news T.N h2 h3
def j8{i c k:Nat}{p:Addr×Addr}{fs:List (Nat×MV)}{x:Str}{v:MV}{ex:Bool}{R:Value->Shared->Prop}(O:F9 θ.S θ.w)(a:At θ u Γ E r Lc H X)(h:H.at_ i=some (.inst c fs))(hl:fs.lookup k=some v)(hk:θ.S.nm[k]?=some x)(hp:r.φ.adr i=some p)
  (hq:∀wv tk,VR r.φ v wv->R wv {r.s with toks:=tk}):wpAny θ.M Γ.A (getAttr (.ref p.1) x ex) R E r.s:=
 a.T.inst h λq es n qy m2 fr _ ow I=>by
  cases aaf (hp.symm.trans qy)
  have F:=O.tab c k x (ow k v hl) hk
  exact(fr.yes k x v hk hl).elim λwv g=>F.cls.elim λb B=>get_own a.T.F a.C.X I F.get F.dict B.1 B.2 g.1 g.2.handed<|hq wv _ g.2
end
noncomputable def dg:Nat:=1000000
section
variable{α:Type}{P:Prop}
def bM(o:Option α)(k:α->Prop):Prop:=o.casesOn False k
def iZ(v:MV)(K:Nat->Prop):Prop:=v.casesOn False (λ_=>False) (λ_=>False) (λ_=>False) K (λ_=>False) (λ_ _=>False) (λ_=>False) λ_=>False
def j9(v:MV)(K:Int->Prop):Prop:=v.casesOn False (λ_=>False) K (λ_=>False) (λ_=>False) (λ_=>False) (λ_ _=>False) (λ_=>False) λ_=>False
def qB(v:MV)(K:List Nat->Prop):Prop:=v.casesOn False (λ_=>False) (λ_=>False) K (λ_=>False) (λ_=>False) (λ_ _=>False) (λ_=>False) λ_=>False
def An(v:MV)(K:List MV->Prop):Prop:=v.casesOn False (λ_=>False) (λ_=>False) (λ_=>False) (λ_=>False) K (λ_ _=>False) (λ_=>False) λ_=>False
def yO(v:MV)(K:Nat->Prop):Prop:=v.casesOn False (λ_=>False) (λ_=>False) (λ_=>False) (λ_=>False) (λ_=>False) (λ_ _=>False) K λ_=>False
def Xg(v:MV)(K:String->Prop):Prop:=v.casesOn False (λ_=>False) (λ_=>False) (λ_=>False) (λ_=>False) (λ_=>False) (λ_ _=>False) (λ_=>False) K
def Kw(v:MV)(K:Nat->Nat->Prop):Prop:=v.casesOn False (λ_=>False) (λ_=>False) (λ_=>False) (λ_=>False) (λ_=>False) K (λ_=>False) λ_=>False
def rD(o:Option<|Option MV)(K:MV->Prop):Prop:=bM o λo=>bM o K
def sD(o:Option MV)(K:Nat->Nat->Prop):Prop:=bM o λv=>Kw v K
def iP(o:Option MO)(kI:Nat->List (Nat×MV)->Prop)(kL kF:List MV->Prop)(kS:List (List Nat×MV)->Prop)(kD kP:List (Int×MV)->Prop):Prop:=bM o λm=>m.casesOn kI kL (λ_ _=>False) kS kD kP kF
def noI:Nat->List (Nat×MV)->Prop:=λ_ _=>False
def lJ:α->Prop:=λ_=>False
def iR(o:Option MO)(K:Nat->List (Nat×MV)->Prop):Prop:=iP o K lJ lJ lJ lJ lJ
def gm(o:Option MO)(K:List MV->Prop):Prop:=iP o noI K lJ lJ lJ lJ
def rE(o:Option MO)(K:List (Int×MV)->Prop):Prop:=iP o noI lJ lJ lJ K lJ
def xG(o:Option MO)(K:List (List Nat×MV)->Prop):Prop:=iP o noI lJ lJ K lJ lJ
def cX{o:Option α}{K:α->Prop}(h:bM o K)(c:∀a,o=some a->K a->P):P:=by cases o with|none=>exact h.elim|some a=>exact c a rfl h
def Eh{v:MV}{K:Nat->Prop}(h:iZ v K)(c:∀a,v=.ref a->K a->P):P:=by cases v<;>first|exact h.elim|exact c _ rfl h
def Ky{v:MV}{K:Int->Prop}(h:j9 v K)(c:∀a,v=.int a->K a->P):P:=by cases v<;>first|exact h.elim|exact c _ rfl h
def Ga{v:MV}{K:List Nat->Prop}(h:qB v K)(c:∀a,v=.str a->K a->P):P:=by cases v<;>first|exact h.elim|exact c _ rfl h
def Qv{v:MV}{K:List MV->Prop}(h:An v K)(c:∀a,v=.tup a->K a->P):P:=by cases v<;>first|exact h.elim|exact c _ rfl h
def Xh{v:MV}{K:Nat->Prop}(h:yO v K)(c:∀a,v=.cls a->K a->P):P:=by cases v<;>first|exact h.elim|exact c _ rfl h
def tyE{v:MV}{K:String->Prop}(h:Xg v K)(c:∀a,v=.ty a->K a->P):P:=by cases v<;>first|exact h.elim|exact c _ rfl h
def Ui{v:MV}{K:Nat->Nat->Prop}(h:Kw v K)(c:∀a i,v=.fj a i->K a i->P):P:=by cases v<;>first|exact h.elim|exact c _ _ rfl h
def rF{P:MV->Prop}{v:MV}{K:Nat->Prop}(h:iZ v K)(c:∀a,K a->P (.ref a)):P v:=by cases v<;>first|exact h.elim|exact c _ h
def yP{P:MV->Prop}{v:MV}{K:Int->Prop}(h:j9 v K)(c:∀a,K a->P (.int a)):P v:=by cases v<;>first|exact h.elim|exact c _ h
def Ei{P:MV->Prop}{v:MV}{K:List Nat->Prop}(h:qB v K)(c:∀a,K a->P (.str a)):P v:=by cases v<;>first|exact h.elim|exact c _ h
def Uj{P:MV->Prop}{v:MV}{K:Nat->Prop}(h:yO v K)(c:∀a,K a->P (.cls a)):P v:=by cases v<;>first|exact h.elim|exact c _ h
def tyX{P:MV->Prop}{v:MV}{K:String->Prop}(h:Xg v K)(c:∀a,K a->P (.ty a)):P v:=by cases v<;>first|exact h.elim|exact c _ h
def Ao(k:Int)(K:Nat->Prop):Prop:=Int.casesOn k K λ_=>False
def Kz{P:Int->Prop}{k:Int}{K:Nat->Prop}(h:Ao k K)(c:∀n:Nat,K n->P n):P k:=by cases k with|ofNat n=>exact c n h|negSucc=>exact h.elim
def KA{o:Option (Option MV)}{K:MV->Prop}(h:rD o K)(c:∀v,o=some (some v)->K v->P):P:=cX h λ_ e h=>cX h λv e' h=>c v (e.trans<|aac some e') h
def Og{o:Option MV}{K:Nat->Nat->Prop}(h:sD o K)(c:∀a i,o=some (.fj a i)->K a i->P):P:=cX h λ_ e h=>Ui h λa i e' h=>c a i (e.trans<|aac some e') h
def objE{o:Option MO}{kI kL kF kS kD kP}(h:iP o kI kL kF kS kD kP)(cI:∀c fs,o=some (.inst c fs)->kI c fs->P)(cL:∀xs,o=some (.list xs)->kL xs->P)(cF:∀xs,o=some (.s9 xs)->kF xs->P)
  (cS:∀es,o=some (.aF es)->kS es->P)(cD:∀es,o=some (.cA es)->kD es->P)(cP:∀es,o=some (.pG es)->kP es->P):P:=cX h λm e h=>by
 cases m with
 |inst c fs=>exact cI c fs e h
 |list xs=>exact cL xs e h
 |exc=>exact h.elim
 |aF es=>exact cS es e h
 |cA es=>exact cD es e h
 |pG es=>exact cP es e h
 |s9 xs=>exact cF xs e h
def J2{c:Nat}{fs:List (Nat×MV)}(h:noI c fs):P:=h.elim
def nQ{a:α}(h:lJ a):P:=h.elim
def wm{o:Option MO}{K:Nat->List (Nat×MV)->Prop}(h:iR o K)(c:∀a i,o=some (.inst a i)->K a i->P):P:=objE h c (λ_ _=>nQ) (λ_ _=>nQ) (λ_ _=>nQ) (λ_ _=>nQ) λ_ _=>nQ
def listE{o:Option MO}{K:List MV->Prop}(h:gm o K)(c:∀a,o=some (.list a)->K a->P):P:=objE h (λ_ _ _=>J2) c (λ_ _=>nQ) (λ_ _=>nQ) (λ_ _=>nQ) λ_ _=>nQ
def Gb{o:Option MO}{K:List (Int×MV)->Prop}(h:rE o K)(c:∀a,o=some (.cA a)->K a->P):P:=objE h (λ_ _ _=>J2) (λ_ _=>nQ) (λ_ _=>nQ) (λ_ _=>nQ) c λ_ _=>nQ
def Qw{o:Option MO}{K:List (List Nat×MV)->Prop}(h:xG o K)(c:∀a,o=some (.aF a)->K a->P):P:=objE h (λ_ _ _=>J2) (λ_ _=>nQ) (λ_ _=>nQ) c (λ_ _=>nQ) λ_ _=>nQ
end
def FE(S:aP)(v:MV)(k:Nat)(H:MH)(Q:QV):Prop:=v.casesOn False (λ_=>False) (λ_=>False) (λ_=>False) (λi=>iR (H.at_ i) λc fs=>(fs.lookup k).casesOn (bM (S.ca c k) λu=>Q u H) λu=>Q u H) (λ_=>False) (λ_ _=>False) (λc=>bM (S.cv c k) λu=>Q u H) λ_=>False
def dX(v:MV)(k:Nat)(H:MH)(K:Nat->Nat->List (Nat×MV)->Prop):Prop:=iZ v λi=>iR (H.at_ i)<|K i
def onE{P:Prop}{v:MV}{k:Nat}{H:MH}{K:Nat->Nat->List (Nat×MV)->Prop}(h:dX v k H K)(c:∀i a fs,v=.ref i->H.at_ i=some (.inst a fs)->K i a fs->P):P:=Eh h λi e h=>wm h λa fs e' h=>c i a fs e e' h
def Uk{P:MV->Prop}{v:MV}{k:Nat}{H:MH}{K:Nat->Nat->List (Nat×MV)->Prop}(h:dX v k H K)(c:∀i a fs,H.at_ i=some (.inst a fs)->K i a fs->P (.ref i)):P v:=rF h λi h=>wm h λa fs e' h=>c i a fs e' h
inductive Kind where|str|list|dict|tup
def sE(v:MV)(H:MH)(k:Kind):Prop:=k.casesOn (qB v λ_=>True) (iZ v λi=>iP (H.at_ i) noI (λ_=>True) lJ lJ lJ lJ) (iZ v λi=>iP (H.at_ i) noI lJ lJ (λ_=>True) (λ_=>True) λ_=>True)<|An v λ_=>True
def kc(v:MV)(H:MH)(Q:Bool->MH->Prop):Prop:=v.casesOn (Q false H) (λb=>Q b H) (λi=>Q (i !=0) H) (λl=>l.length<dg/\Q (!l.isEmpty) H) (λi=>iP (H.at_ i) noI (λxs=>Q (!xs.isEmpty) H) lJ (λxs=>Q (!xs.isEmpty) H) (λxs=>Q (!xs.isEmpty) H) lJ)
 (λl=>l.length<dg/\Q (!l.isEmpty) H) (λ_ _=>Q true H) (λ_=>False) λ_=>False
def addW(a b:MV)(H:MH)(Q:QV):Prop:=a.casesOn False (λ_=>False) (λx=>j9 b λy=>Q (.int<|x+y) H) (λx=>qB b λy=>x.length+y.length<dg/\Q (.str<|x++y) H) (λ_=>False) (λ_=>False) (λ_ _=>False) (λ_=>False) λ_=>False
def BX(a b:MV)(K:Int->Int->Prop):Prop:=j9 a λx=>j9 b<|K x
def tw(op:Operator)(a b:MV)(H:MH)(Q:QV):Prop:=op.casesOn (addW a b H Q) (BX a b λx y=>Q (.int<|x-y) H) False False False (BX a b λx y=>y≠0/\Q (.int<|x.fmod y) H) False False False False False False<|BX a b λx y=>(0<=x/\x<1000000/\0<y/\y<1000000)/\Q (.int<|x.fdiv y) H
def wo{P:Prop}{a b:MV}{K:Int->Int->Prop}(h:BX a b K)(c:∀x y,a=.int x->b=.int y->K x y->P):P:=Ky h λx e h=>Ky h λy e' h=>c x y e e' h
def iz(l:List MV):Option (List<|List Nat):=l.rec (some []) λv _ ih=>v.casesOn none (λ_=>none) (λ_=>none) (λs=>ih.map (s::·)) (λ_=>none) (λ_=>none) (λ_ _=>none) (λ_=>none) λ_=>none
noncomputable def isNone(v:MV):Bool:=v.casesOn true (λ_=>false) (λ_=>false) (λ_=>false) (λ_=>false) (λ_=>false) (λ_ _=>false) (λ_=>false) λ_=>false
noncomputable def isBool(y:Bool)(v:MV):Bool:=v.casesOn false (λx=>x==y) (λ_=>false) (λ_=>false) (λ_=>false) (λ_=>false) (λ_ _=>false) (λ_=>false) λ_=>false
def Ul(a b:MV):Option Bool:=b.casesOn (some<|isNone a) (λy=>some<|isBool y a) (λ_=>none) (λ_=>none) (λ_=>none) (λ_=>none) (λ_ _=>none) (λ_=>none) λ_=>none
noncomputable def vI{α:Type}(v:MV)(n:Option α)(i:Int->Option α)(s:List Nat->Option α):Option α:=v.casesOn n (λ_=>none) i s (λ_=>none) (λ_=>none) (λ_ _=>none) (λ_=>none) λ_=>none
def Zo(a b:MV):Option Bool:=vI a (vI b (some true) (λ_=>some false) λ_=>some false) (λx=>vI b (some false) (λy=>some<|x==y) λ_=>none) λx=>vI b (some false) (λ_=>none) λy=>some<|x==y
def Zp(a b:MV):Option Bool:=vI a none (λx=>vI b none (λy=>some<|x !=y) λ_=>none) λx=>vI b none (λ_=>none) λy=>some<|x !=y
def KD(f:Int->Int->Bool)(a b:MV):Option Bool:=vI a none (λx=>vI b none (λy=>some<|f x y) λ_=>none) λ_=>none
noncomputable def KG(l:List Nat):Option Nat:=l.casesOn none λc r=>r.casesOn (some c) λ_ _=>none
def Zq(a b:MV):Option Bool:=vI a none (λx=>vI b none (λy=>some<|decide<|x<=y) λ_=>none) λx=>vI b none (λ_=>none) λy=>(KG x).bind λc=>(KG y).map λd=>decide<|c<=d
noncomputable def nR{κ:Type}[DecidableEq κ](k:κ)(v:MV)(es:List<|κ×MV):List (κ×MV):=
 if es.any (λe=>decide<|e.1=k)then es.map (λe=>if e.1=k then(e.1,v)else e)else es++[(k,v)]
noncomputable def Ej{κ:Type}[DecidableEq κ](k:κ)(es:List<|κ×MV):List (κ×MV):=es.filter λe=>decide<|e.1≠k
noncomputable def d9{κ:Type}[DecidableEq κ](k:κ)(es:List<|κ×MV):Option MV:=(es.find? λe=>decide<|e.1=k).map (·.2)
inductive Aq(φ:dD):Option MV->Option Value->Prop
 |no:Aq φ none none
 |ok {v:MV} {x:Value}:VR φ v x->Aq φ (some v) (some x)
section
variable{κ K:Type}[DecidableEq κ][DecidableEq K]{dec:κ->K}{φ:dD}{P:Prop}{k:κ}{v:MV}{x:Value}{es es':List (κ×MV)}{kvs kvs':List (K×Value)}
def ny.len(h:ny dec φ es kvs):kvs.length=es.length:=h.rec rfl λ_ _ ih=>aac (·+1) ih
def ny.keys(h:ny dec φ es kvs):kvs.map (·.1)=es.map λe=>dec e.1:=h.rec rfl λ_ _ ih=>aac (_::·) ih
def ny.get(inj:∀a b,dec a=dec b->a=b)(h:ny dec φ es kvs):Aq φ (d9 k es) (valueAt kvs<|dec k):=by
 unfold d9 valueAt
 induction h with
 |nil=>exact .no
 |@cons j u y es kvs a _ ih=>
  rw[List.find?_cons,List.find?_cons]
  by_cases q:j=k
  ·rw[aag q,aag<|aac dec q];exact .ok a
  ·rw[aad q,aad λe=>q<|inj _ _ e];exact ih
def Aq.yes{o:Option MV}{o':Option Value}(h:Aq φ o o')(e:o=some v)(c:∀x,o'=some x->VR φ v x->P):P:=by
 cases h with
 |no=>cases e
 |ok a=>cases e;exact c _ rfl a
def Aq.same{o:Option MV}{o':Option Value}(h:Aq φ o o'):o'.isSome=o.isSome:=h.rec rfl λ_=>rfl
def ny.append(h:ny dec φ es kvs)(h':ny dec φ es' kvs'):ny dec φ (es++es') (kvs++kvs'):=h.rec h' λa _ ih=>.cons a ih
def ny.any(inj:∀a b,dec a=dec b->a=b)(h:ny dec φ es kvs):(kvs.any λkv=>decide<|kv.1=dec k)=es.any λe=>decide (e.1=k):=
 h.rec (motive:=λes kvs _=>(kvs.any λkv=>decide<|kv.1=dec k)=es.any λe=>decide<|e.1=k) rfl λ{j _ _ _ _} _ _ ih=>congr (aac or<|decide_eq_decide.mpr ⟨inj j k,λe=>aac dec e⟩) ih
def ny.map(inj:∀a b,dec a=dec b->a=b)(r:VR φ v x)(h:ny dec φ es kvs):ny dec φ (es.map λe=>if e.1=k then(e.1,v)else e) (kvs.map λkv=>if kv.1=dec k then(kv.1,x)else kv):=by
 induction h with
 |nil=>exact .nil
 |@cons j u y es kvs a _ ih=>
  rw[List.map_cons,List.map_cons]
  by_cases q:j=k
  ·rw[aam q,aam<|aac dec q];exact .cons r ih
  ·rw[aal q,aal λe=>q<|inj _ _ e];exact .cons a ih
def ny.store(inj:∀a b,dec a=dec b->a=b)(r:VR φ v x)(h:ny dec φ es kvs):ny dec φ (nR k v es) (stored kvs (dec k) x):=by
 unfold nR stored
 rw[h.any inj]
 split
 ·exact h.map inj r
 ·exact h.append<|.cons r .nil
def ny.erase(inj:∀a b,dec a=dec b->a=b)(h:ny dec φ es kvs):ny dec φ (Ej k es) (without kvs<|dec k):=by
 unfold Ej without
 induction h with
 |nil=>exact .nil
 |@cons j u y es kvs a _ ih=>
  by_cases q:j=k
  ·rw[List.filter_cons_of_neg (p:=λe:κ×MV=>decide<|e.1≠k) (a:=(j,u)) λe=>(aaq e:¬j=k) q,List.filter_cons_of_neg (p:=λe:K×Value=>decide<|e.1≠dec k) (a:=(dec j,y)) λe=>(aaq e:¬dec j=dec k)<|aac dec q];exact ih
  ·rw[List.filter_cons_of_pos (p:=λe:κ×MV=>decide<|e.1≠k) (a:=(j,u))<|aag q,List.filter_cons_of_pos (p:=λe:K×Value=>decide<|e.1≠dec k) (a:=(dec j,y))<|aag λe=>q<|inj _ _ e];exact .cons a ih
def Ge:(nR k v es).length<=es.length+1:=by
 unfold nR
 split<;>simp
def Gf:(Ej k es).length<=es.length:=List.length_filter_le ..
end
def qC(a b:List Nat)(h:aW a=aW b):a=b:=aac (λs:Str=>s.cps.toList) h
def yQ(a b:Int)(h:xA a=xA b):a=b:=h
def iD(l:List Nat):(Str.mk l.toArray).length=l.length:=by simp[Str.length]
def qD{k n:Nat}(h:k<n):seqIndex? (k:Int) n=some k:=by
 unfold seqIndex?
 have a:¬((k:Int)<0):=by omega
 simp only[a,if_false]
 have b:(decide (0<=(k:Int))&&decide ((k:Int)<(n:Int)))=true:=by simp;omega
 rw[aam b];simp
def gw{n:Nat}(h:n<=1000000):n<=sizeLine:=by rw[sizeLine_eq];omega
def J3{n:Nat}(h:n<=1000000):((n:Nat):Int)<2^63:=by omega
noncomputable abbrev bin(op:Operator)(ws:List Value):Sem Value:=binaryOp op (ws.getD 0 .none)<|ws.getD 1 .none
noncomputable abbrev Qx(op:Operator)(ws:List Value):Sem Value:=inplaceOp op (ws.getD 0 .none)<|ws.getD 1 .none
noncomputable abbrev dN(op:CmpOp)(ws:List Value):Sem Value:=compareOp op (ws.getD 0 .none)<|ws.getD 1 .none
noncomputable abbrev qE(ws:List Value):Sem Value:=getItem (ws.getD 0 .none)<|ws.getD 1 .none
noncomputable abbrev KH(ws:List Value):Sem Unit:=setItem (ws.getD 0 .none) (ws.getD 1 .none)<|ws.getD 2 .none
noncomputable abbrev Gg(ws:List Value):Sem Unit:=delItem (ws.getD 0 .none)<|ws.getD 1 .none
noncomputable abbrev aU(fv:Value)(ws:List Value):Sem Value:=call fv ws []
section
variable{φ:dD}{P:Value->Prop}{w:Value}
def nS{i:Int}(h:VR φ (.int i) w)(k:∀t,P<|.int i t):P w:=h.elim λt e=>e▸k t
def je{l:List Nat}(h:VR φ (.str l) w)(k:∀t,P<|.str ⟨l.toArray⟩ t):P w:=h.elim λt e=>e▸k t
def eY{i:Nat}(h:VR φ (.ref i) w)(k:∀p,φ.adr i=some p->P (.ref p.1)):P w:=kQ h λp a e=>e▸k p a
def yR{l:List MV}(h:VR φ (.tup l) w)(k:∀a vs,(a,eT vs)∈φ.news->cK φ l vs->P (.ref a)):P w:=sA h λa vs e m r=>e▸k a vs m r
end
section
variable{θ:Th}{u:Nat}{Γ:Gm}{E:Value->Shared->Prop}{r r':Rh}{Lc:Loc}{H H':MH}{Q:QV}{QB:Bool->MH->Prop}{X:QX}
abbrev Still(θ:Th)(Γ:Gm)(E:Value->Shared->Prop)(r:Rh)(t:Sem Value)(mv:MV):Prop:=∀R:Value->Shared->Prop,(∀v tk,VR r.φ mv v->R v {r.s with toks:=tk})->wpAny θ.M Γ.A t R E r.s
def dc.sC{az:List MV}{t:List Value->Sem Value}{mv:MV}(hq:Q mv H)(h:∀Γ E r ws,At θ u Γ E r Lc H X->cK r.φ az ws->Still θ Γ E r (t ws) mv):dc θ u Lc H X az t VR Q:=
 λΓ E r ws a y=>h Γ E r ws a y _ λ_ tk j=>(a.tk tk).fin .tk j hq
def dc.Gh{a:MV}{t:List Value->Sem Value}{mv:MV}(hq:Q mv H)(h:∀Γ E r x,At θ u Γ E r Lc H X->VR r.φ a x->Still θ Γ E r (t [x]) mv):dc θ u Lc H X [a] t VR Q:=
 .sC hq λΓ E r ws z y=>y.e1 (P:=λws=>Still θ Γ E r (t ws) mv) λx h1=>h Γ E r x z h1
def dc.g8{a b:MV}{t:List Value->Sem Value}{mv:MV}(hq:Q mv H)(h:∀Γ E r x y,At θ u Γ E r Lc H X->VR r.φ a x->VR r.φ b y->Still θ Γ E r (t [x,y]) mv):dc θ u Lc H X [a,b] t VR Q:=
 .sC hq λΓ E r ws z y=>y.e2 (P:=λws=>Still θ Γ E r (t ws) mv) λx y h1 h2=>h Γ E r x y z h1 h2
def dc.ints{x y:Int}{t:List Value->Sem Value}{mv:MV}(hq:Q mv H)(h:∀Γ E r tx ty,Still θ Γ E r (t [.int x tx,.int y ty]) mv):dc θ u Lc H X [.int x,.int y] t VR Q:=
 .g8 hq λΓ E r a b _ h1 h2=>nS (P:=λa=>Still θ Γ E r (t [a,b]) mv) h1 λtx=>nS (P:=λb=>Still θ Γ E r (t [_,b]) mv) h2 λty=>h Γ E r tx ty
def dc.strs{x y:List Nat}{t:List Value->Sem Value}{mv:MV}(hq:Q mv H)(h:∀Γ E r tx ty,Still θ Γ E r (t [.str ⟨x.toArray⟩ tx,.str ⟨y.toArray⟩ ty]) mv):dc θ u Lc H X [.str x,.str y] t VR Q:=
 .g8 hq λΓ E r a b _ h1 h2=>je (P:=λa=>Still θ Γ E r (t [a,b]) mv) h1 λtx=>je (P:=λb=>Still θ Γ E r (t [_,b]) mv) h2 λty=>h Γ E r tx ty
def Qy(a b:List Nat):((⟨a.toArray⟩:Str)++(⟨b.toArray⟩:Str))=⟨(a++b).toArray⟩:=by
 show Str.append _ _=_
 simp[Str.append]
def KJ{x y:List Nat}(hl:x.length+y.length<dg)(hq:Q (.str<|x++y) H):dc θ u Lc H X [.str x,.str y] (bin .Add) VR Q:=
 .strs hq λΓ E r tx ty R k=>by
  refine PySem.P.add_str (x:=⟨x.toArray⟩) (y:=⟨y.toArray⟩) ?_
  rw[iD,iD,Qy]
  cases x with
  |nil=>exact k _ r.s.toks ⟨_,rfl⟩
  |cons c x=>
   cases y with
   |nil=>rw[List.append_nil]at k;exact k _ r.s.toks ⟨_,rfl⟩
   |cons d y=>exact⟨by rw[iD,List.length_append];exact gw<|Nat.le_of_lt hl,k _ _ ⟨_,rfl⟩⟩
def KL{op:Operator}{a b:MV}(h:tw op a b H Q):dc θ u Lc H X [a,b] (bin op) VR Q:=by
 cases op with
 |Add=>
  cases a with
  |int x=>exact Ky h λy e h=>by subst e;exact .ints h λ_ _ _ _ _ R k=>wpAny_add_int<|k _ _ ⟨_,rfl⟩
  |str x=>exact Ga h λy e h=>by subst e;exact KJ h.1 h.2
  |_=>exact h.elim
 |Sub=>exact wo h λx y e e' h=>by subst e e';exact .ints h λ_ _ _ _ _ R k=>PySem.P.sub_int<|k _ _ ⟨_,rfl⟩
 |Mod=>exact wo h λx y e e' h=>by subst e e';exact .ints h.2 λ_ _ _ _ _ R k=>mod_int' h.1<|k _ _ ⟨_,rfl⟩
 |FloorDiv=>exact wo h λx y e e' h=>by subst e e';exact .ints h.2 λ_ _ _ _ _ R k=>floordiv_int (Int.ne_of_gt h.1.2.2.1) (k _ _ ⟨_,rfl⟩)<|.inl<|PyProof.noPylong_small (by obtain⟨⟨z1,z2,z3,z4⟩,_⟩:=h;omega)
 |_=>exact h.elim
def wz{op:Operator}{a b:MV}(h:tw op a b H Q):dc θ u Lc H X [a,b] (Qx op) VR Q:=by
 cases op with
 |Add=>
  cases a with
  |int x=>exact Ky h λy e h=>by subst e;exact .ints h λ_ _ _ _ _ R k=>PyProof.Rows.iadd_int<|k _ _ ⟨_,rfl⟩
  |str x=>exact Ga h λy e h=>by subst e;exact .strs h.2 λ_ _ _ _ _ R k=>PyProof.Rows.iadd_str (λt' tk=>by rw[Qy];exact k _ _ ⟨_,rfl⟩)<|by rw[iD,iD];exact gw<|Nat.le_of_lt h.1
  |_=>exact h.elim
 |Sub=>exact wo h λx y e e' h=>by subst e e';exact .ints h λ_ _ _ _ _ R k=>PySem.P.isub_int<|k _ _ ⟨_,rfl⟩
 |Mod=>exact wo h λx y e e' h=>by subst e e';exact .ints h.2 λ_ _ _ _ _ R k=>imod_int h.1<|k _ _ ⟨_,rfl⟩
 |FloorDiv=>exact wo h λx y e e' h=>by subst e e';exact .ints h.2 λ_ _ _ _ _ R k=>ifloordiv_int (Int.ne_of_gt h.1.2.2.1) (k _ _ ⟨_,rfl⟩)<|.inl<|PyProof.noPylong_small (by obtain⟨⟨z1,z2,z3,z4⟩,_⟩:=h;omega)
 |_=>exact h.elim
end
def Zr(o:Option MO)(k:List Nat):Option Bool:=o.casesOn none λm=>m.casesOn (λ_ _=>none) (λ_=>none) (λ_ _=>none) (λes=>some (d9 k es).isSome) (λ_=>none) (λ_=>none) λ_=>none
def Xi(o:Option MO)(k:Int):Option Bool:=o.casesOn none λm=>m.casesOn (λ_ _=>none) (λ_=>none) (λ_ _=>none) (λ_=>none) (λes=>some (d9 k es).isSome) (λ_=>none) λ_=>none
def WQ(a b:MV)(H:MH):Option Bool:=vI a none (λk=>b.casesOn none (λ_=>none) (λ_=>none) (λ_=>none) (λi=>Xi (H.at_ i) k) (λ_=>none) (λ_ _=>none) (λ_=>none) λ_=>none)
 λk=>b.casesOn none (λ_=>none) (λ_=>none) (λl=>(KG k).map λc=>decide<|c∈l) (λi=>Zr (H.at_ i) k) (λl=>(iz l).map λys=>ys.any (·==k)) (λ_ _=>none) (λ_=>none) λ_=>none
def gx(op:CmpOp)(a b:MV)(H:MH):Option Bool:=op.casesOn (Zo a b) (Zp a b) (KD (λx y=>decide<|x<y) a b) (Zq a b) (KD (λx y=>decide<|x>y) a b) (KD (λx y=>decide<|x≥y) a b) (Ul a b) ((Ul a b).map (!·)) (WQ a b H) (vI a none (λ_=>none) λ_=>(WQ a b H).map (!·))
def qF(v i:MV)(H:MH)(Q:QV):Prop:=v.casesOn False (λ_=>False) (λ_=>False) (λl=>j9 i λk=>l.length<dg/\Ao k λn=>bM l[n]? λc=>Q (.str [c]) H)
 (λj=>vI (α:=Prop) i none (λk=>some<|iP (H.at_ j) noI (λxs=>Ao k λn=>bM xs[n]? λc=>Q c H) lJ lJ (λes=>bM (d9 k es) λc=>Q c H) λes=>bM (d9 k es) λc=>Q c H) (λk=>some<|xG (H.at_ j) λes=>bM (d9 k es) λc=>Q c H)|>.casesOn False id)
 (λl=>j9 i λk=>l.length<dg/\Ao k λn=>bM l[n]? λc=>Q c H) (λ_ _=>False) (λ_=>False) λ_=>False
section
variable{P:Prop}{α:Type}{x:α}
def vO{P:MV->Prop}{v:MV}{n:Option α}{i:Int->Option α}{s:List Nat->Option α}(h:vI v n i s=some x)(cn:n=some x->P .none)(ci:∀k,i k=some x->P (.int k))(cs:∀k,s k=some x->P (.str k)):P v:=by
 cases v with
 |none=>exact cn h
 |int k=>exact ci k h
 |str k=>exact cs k h
 |_=>cases h
def nn{o:Option α}(e:o=none)(h:o=some x):P:=by rw[e]at h;cases h
def Ar{P:List Nat->Prop}{l:List Nat}{c:Nat}(h:KG l=some c)(k:P [c]):P l:=by
 cases l with
 |nil=>cases h
 |cons d r=>
  cases r with
  |nil=>exact aaf h▸k
  |cons=>cases h
def Um{o:Option MO}{kI:Nat->List (Nat×MV)->Option α}{kL kE kS kD kP kF}(h:(o.casesOn none λm=>m.casesOn kI kL kE kS kD kP kF:Option α)=some x)(k:∀m,o=some m->(m.casesOn kI kL kE kS kD kP kF:Option α)=some x->P):P:=by
 cases o with
 |none=>cases h
 |some m=>exact k m rfl h
def Un{o:Option MO}{k:List Nat}{b:Bool}(h:Zr o k=some b)(c:∀es,o=some (.aF es)->b=(d9 k es).isSome->P):P:=Um h λm e h=>by cases m<;>first|exact c _ e (aaf h).symm|exact nn rfl h
def Uo{o:Option MO}{k:Int}{b:Bool}(h:Xi o k=some b)(c:∀es,o=some (.cA es)->b=(d9 k es).isSome->P):P:=Um h λm e h=>by cases m<;>first|exact c _ e (aaf h).symm|exact nn rfl h
end
structure KC(θ:Th){κ K:Type}[DecidableEq κ][DecidableEq K](dec:κ->K)(knd:KeyKind θ.S.prog θ.w K)(mk:List (κ×MV)->MO)(kv:κ->MV):Prop where
 inj:∀a b,dec a=dec b->a=b
 is:∀φ k w,VR φ (kv k) w->knd.is (dec k) w=true
 obj:∀φ i es,tu θ.S θ.w φ i (mk es)->gj dec knd φ i φ.news es
 Zs:∀φ i es,gj dec knd φ i φ.news es->tu θ.S θ.w φ i (mk es)
 off:∀es,(mk es).off=false
def Oh(θ:Th):KC θ aW (strKind θ.S.prog θ.w) .aF .str:=⟨qC,λ_ _ _ h=>h.elim λt e=>e▸strKind_is _ _ _ t,λ_ _ _ h=>h,λ_ _ _ h=>h,λ_=>rfl⟩
def Oi(θ:Th):KC θ xA (intKind θ.S.prog θ.w) .cA .int:=⟨yQ,λ_ _ _ h=>h.elim λt e=>e▸intKind_is _ _ _ t,λ_ _ _ h=>h,λ_ _ _ h=>h,λ_=>rfl⟩
section
variable{θ:Th}{u:Nat}{Γ:Gm}{E:Value->Shared->Prop}{r r':Rh}{Lc:Loc}{H H':MH}{Q:QV}{QB:Bool->MH->Prop}{X:QX}{P:Prop}
def fB.pe{φ:dD}{S:aP}{w:World}(R:fB S w φ H):(∀p∈φ.pins,p∈φ.news)/\(∀p∈φ.fix,p∈φ.news):=⟨λp h=>R.pin p<|.inl h,λp h=>R.pin p<|.inr<|.inl h⟩
def d8.sG{i:Nat}{l:aS}{xs:List MV}(h:d8 r.φ i l xs)(a:At θ u Γ E r Lc H X)(hl:∀p∈l,p∈r.φ.news){p:Addr×Addr}(hp:r.φ.adr i=some p)(k:∀vs n,(p.1,listOf vs.toArray n)∈l->r.s.heap.IsList p.1 vs.toArray->cK r.φ xs vs->xs.length<=1000000->vs.length=xs.length->P):P:=by
 obtain⟨a',vs,n,h1,h2,h3,h4⟩:=h
 cases aaf (h1.symm.trans hp)
 exact k vs n h2 ⟨_,(a.T.N _<|hl _ h2).1,rfl,n,rfl⟩ h3 h4 h3.length
structure Oj(θ:Th)(u:Nat)(Γ:Gm)(E:Value->Shared->Prop)(r:Rh)(Lc:Loc)(X:QX)(r':Rh)(H':MH):Prop where
 l:Le r r'
 a:At θ u Γ E r' Lc H' X
def At.upd{i:Nat}{o o':MO}{d:Addr}{ob xD:Obj}{h':Heap}{tk:Nat}(a:At θ u Γ E r Lc H X)(h:H.at_ i=some o)(ho:o.off=false)(own:vN r.φ i d)(hd:(d,ob)∈r.φ.news)(nt:ob.cls≠.type "tuple")(nm:ob.cls≠.type "method")(ho':o'.off=false)
  (F:Fr Γ.h₀ Γ.L h' r.m)(N:News Γ.h₀ Γ.L h'<|lR d xD r.φ.news)(obj:Ext r.φ (r.φ.upd d xD)->(d,xD)∈(r.φ.upd d xD).news->(∀a x,a≠d->(a,x)∈r.φ.news->(a,x)∈(r.φ.upd d xD).news)->tu θ.S θ.w (r.φ.upd d xD) i o'):
  Oj θ u Γ E r Lc X ⟨r.φ.upd d xD,r.m,{r.s with heap:=h',toks:=tk}⟩ (H.put i o'):=
 have Z:=a.T.R.upd h ho own hd nt nm ho' obj
 have l:Le r ⟨r.φ.upd d xD,r.m,{r.s with heap:=h',toks:=tk}⟩:=⟨Z.x,rfl,rfl⟩
 ⟨l,a.at_ l ⟨F,N,Z.R,λk x v hx hv=>(a.T.loc k x v hx hv).elim λw h=>⟨w,h.1,h.2.ext Z.x⟩⟩⟩
def At.Gi{i:Nat}{xs xs':List MV}{vs vs':List Value}{n n':Nat}{p:Addr×Addr}{h':Heap}{tk:Nat}(a:At θ u Γ E r Lc H X)(hi:H.at_ i=some (.list xs))(hp:r.φ.adr i=some p)(m:(p.1,listOf vs.toArray n)∈r.φ.news)
  (F:Fr Γ.h₀ Γ.L h' r.m)(N:News Γ.h₀ Γ.L h'<|lR p.1 (listOf vs'.toArray n') r.φ.news)(hr:cK r.φ xs' vs')(hl:xs'.length<=1000000):Oj θ u Γ E r Lc X ⟨r.φ.upd p.1<|listOf vs'.toArray n',r.m,{r.s with heap:=h',toks:=tk}⟩ (H.put i<|.list xs'):=
 a.upd hi rfl ⟨p,hp,.inl rfl⟩ m (λe=>aan (Value.type.inj e)<|by decide) (λe=>aan (Value.type.inj e)<|by decide) rfl F N λX m' _=>by
  obtain⟨a',_,_,q,_⟩:=(a.T.R.obj i _ hi:d8 _ _ _ _)
  cases aaf (q.symm.trans hp)
  exact d8.mk a' vs' n' q m' (hr.ext X) hl
def At.new{o:MO}{d e:Addr}{more:aS}{h':Heap}{tk:Nat}(a:At θ u Γ E r Lc H X)(nd:(more.map (·.1)).Nodup)(fresh:∀p∈more,∀p'∈r.φ.news,p'.1≠p.1)(hd:∃x,(d,x)∈more)(he:∃x,(e,x)∈more)(no:o.off=false)
  (F:Fr Γ.h₀ Γ.L h' r.m)(N:News Γ.h₀ Γ.L h'<|more++r.φ.news)(obj:Ext r.φ (r.φ.new H.n d e more)->tu θ.S θ.w (r.φ.new H.n d e more) H.n o):Oj θ u Γ E r Lc X ⟨r.φ.new H.n d e more,r.m,{r.s with heap:=h',toks:=tk}⟩ (H.new o):=
 have Z:=a.T.R.alloc nd fresh hd he no obj
 have l:Le r ⟨r.φ.new H.n d e more,r.m,{r.s with heap:=h',toks:=tk}⟩:=⟨Z.x,rfl,rfl⟩
 ⟨l,a.at_ l ⟨F,N,Z.R,λk x v hx hv=>(a.T.loc k x v hx hv).elim λw h=>⟨w,h.1,h.2.ext Z.x⟩⟩⟩
def At.new1{o:MO}{d:Addr}{ob:Obj}{h':Heap}{tk:Nat}(a:At θ u Γ E r Lc H X)(fresh:∀p'∈r.φ.news,p'.1<d)(no:o.off=false)(F:Fr Γ.h₀ Γ.L h' r.m)(N:News Γ.h₀ Γ.L h'<|(d,ob)::r.φ.news)
  (obj:∀φ',Ext r.φ φ'->φ'.adr H.n=some (d,d)->(d,ob)∈φ'.news->tu θ.S θ.w φ' H.n o):Oj θ u Γ E r Lc X ⟨r.φ.new H.n d d [(d,ob)],r.m,{r.s with heap:=h',toks:=tk}⟩ (H.new o):=
 a.new (List.nodup_cons.mpr ⟨(by intro h;cases h),List.Pairwise.nil⟩) (λp hp p' qy=>by cases aaa.mp hp;exact aae<|fresh p' qy) ⟨ob,.head _⟩ ⟨ob,.head _⟩ no F N λX=>obj _ X dD.o8<|.head _
def At.newL{xs:List MV}{vs:List Value}{n:Nat}{d:Addr}{h':Heap}{tk:Nat}(a:At θ u Γ E r Lc H X)(fresh:∀p'∈r.φ.news,p'.1<d)(F:Fr Γ.h₀ Γ.L h' r.m)(N:News Γ.h₀ Γ.L h'<|(d,listOf vs.toArray n)::r.φ.news)(hr:cK r.φ xs vs)(hl:xs.length<=1000000):
  Oj θ u Γ E r Lc X ⟨r.φ.new H.n d d [(d,listOf vs.toArray n)],r.m,{r.s with heap:=h',toks:=tk}⟩ (H.new<|.list xs):=a.new1 fresh rfl F N λφ' X q m=>d8.mk d vs n q m (hr.ext X) hl
def At.more{d:Addr}{ob:Obj}{h':Heap}{tk:Nat}(a:At θ u Γ E r Lc H X)(fresh:∀p'∈r.φ.news,p'.1<d)(F:Fr Γ.h₀ Γ.L h' r.m)(N:News Γ.h₀ Γ.L h'<|(d,ob)::r.φ.news):Oj θ u Γ E r Lc X ⟨⟨r.φ.adr,(d,ob)::r.φ.news,r.φ.pins,r.φ.fix,r.φ.its⟩,r.m,{r.s with heap:=h',toks:=tk}⟩ H:=
 have Z:=a.T.R.more (more:=[(d,ob)])<|List.nodup_cons.mpr ⟨λh=>(List.mem_map.mp h).elim λp hp=>aae (fresh p hp.1) hp.2,a.T.R.nodup⟩
 have l:Le r ⟨⟨r.φ.adr,(d,ob)::r.φ.news,r.φ.pins,r.φ.fix,r.φ.its⟩,r.m,{r.s with heap:=h',toks:=tk}⟩:=⟨Z.x,rfl,rfl⟩
 ⟨l,a.at_ l ⟨F,N,Z.R,λk x v hx hv=>(a.T.loc k x v hx hv).elim λw h=>⟨w,h.1,h.2.ext Z.x⟩⟩⟩
section
variable{κ K:Type}[DecidableEq κ][DecidableEq K]{dec:κ->K}{knd:KeyKind θ.S.prog θ.w K}{mk:List (κ×MV)->MO}{kv:κ->MV}
def gj.sG{i:Nat}{l:aS}{es:List (κ×MV)}(h:gj dec knd r.φ i l es)(a:At θ u Γ E r Lc H X)(hl:∀p∈l,p∈r.φ.news){p:Addr×Addr}(hp:r.φ.adr i=some p)(k:∀o kvs,(p.1,o)∈l->o.IsDictOf knd kvs->Heap.DictOf knd r.s.heap p.1 kvs->ny dec r.φ es kvs->es.length<=jO->(p.1==sysModules)=false->P):P:=by
 obtain⟨a',o,kvs,h1,h2,h3,h4,h5,h6⟩:=h
 cases aaf (h1.symm.trans hp)
 exact k o kvs h2 h3 (kda_dict a.T.N (hl _ h2) h3) h4 h5 h6
def KC.sG(c:KC θ dec knd mk kv){i:Nat}{es:List (κ×MV)}(a:At θ u Γ E r Lc H X)(hi:H.at_ i=some (mk es)){p:Addr×Addr}(hp:r.φ.adr i=some p)(k:∀o kvs,(p.1,o)∈r.φ.news->o.IsDictOf knd kvs->Heap.DictOf knd r.s.heap p.1 kvs->ny dec r.φ es kvs->es.length<=jO->(p.1==sysModules)=false->P):P:=
 (c.obj _ _ _<|a.T.R.obj i _ hi).sG a (λ_ h=>h) hp k
def yS{i:Nat}{l:Rh->aS}{es:List (κ×MV)}{k:κ}{v:MV}(inj:∀a b,dec a=dec b->a=b)(is:∀φ k w,VR φ (kv k) w->knd.is (dec k) w=true)(hi:∀{Γ E r},At θ u Γ E r Lc H X->gj dec knd r.φ i (l r) es/\∀p∈l r,p∈r.φ.news)(hk:d9 k es=some v)(hq:Q v H):dc θ u Lc H X [.ref i,kv k] qE VR Q:=
 .g8 hq λΓ E r x z a h1 hz R kk=>kQ h1 λp hp e=>by
  subst e
  exact(hi a).1.sG a (hi a).2 hp λo kvs _ _ hD hr _ _=>(hr.get inj (k:=k)).yes hk λy g j=>wpAny_getItem_of (knd:=knd) (is _ _ _ hz) hD.mapOf g<|kk y _ j
def KC.item(c:KC θ dec knd mk kv){i:Nat}{es:List (κ×MV)}{k:κ}{v:MV}(hi:H.at_ i=some (mk es))(hk:d9 k es=some v)(hq:Q v H):dc θ u Lc H X [.ref i,kv k] qE VR Q:=
 yS (l:=λr=>r.φ.news) c.inj c.is (λa=>⟨c.obj _ _ _<|a.T.R.obj i _ hi,λ_ h=>h⟩) hk hq
def KC.Tw(c:KC θ dec knd mk kv){i:Nat}{es:List (κ×MV)}{k:κ}(hi:H.at_ i=some (mk es))(hq:Q (.bool (d9 k es).isSome) H):dc θ u Lc H X [kv k,.ref i] (dN .In) VR Q:=
 .g8 hq λΓ E r z x a hz h1 R kk=>kQ h1 λp hp e=>by
  subst e
  exact c.sG a hi hp λo kvs _ _ hD hr _ lo=>wpAny_in_of (knd:=knd) (c.is _ _ _ hz) lo hD.mapOf<|kk _ _<|aac Value.bool (hr.get c.inj).same
def KC.Ol(c:KC θ dec knd mk kv){i:Nat}{es:List (κ×MV)}{k:κ}(hi:H.at_ i=some (mk es))(hq:Q (.bool<|!(d9 k es).isSome) H):dc θ u Lc H X [kv k,.ref i] (dN .NotIn) VR Q:=
 .g8 hq λΓ E r z x a hz h1 R kk=>kQ h1 λp hp e=>by
  subst e
  exact c.sG a hi hp λo kvs _ _ hD hr _ lo=>wpAny_notIn_of (knd:=knd) (c.is _ _ _ hz) lo hD.mapOf<|kk _ _<|aac (λb=>Value.bool<|!b) (hr.get c.inj).same
def empty_eq{α β:Type}{a:List α}{b:List β}(h:a.length=b.length):(!a.isEmpty)=!b.isEmpty:=by cases a<;>cases b<;>first|rfl|cases h
def Gj{α β:Type}{a:List α}{b:List β}(h:a.length=b.length):(!b.isEmpty)=!a.toArray.isEmpty:=by cases a<;>cases b<;>first|rfl|cases h
def KC.Zt(c:KC θ dec knd mk kv){i:Nat}{es:List (κ×MV)}(hi:H.at_ i=some (mk es))(hq:QB (!es.isEmpty) H):Uh θ u (.ref i) Lc H QB X:=λΓ E r x a h=>eY (P:=λx=>Go θ Γ E r (truthy x) _) h λp hp=>
 c.sG a hi hp λo kvs _ _ hD hr hl lo=>wpAny_truthy_dict lo hD (J3<|by rw[hr.len];exact av hl<|by decide)<|(a.tk _).fin .tk (empty_eq hr.len).symm hq
def KC.upd(c:KC θ dec knd mk kv){i:Nat}{es es':List (κ×MV)}{o o':Obj}{kvs kvs':List (K×Value)}{p:Addr×Addr}{h':Heap}(a:At θ u Γ E r Lc H X)(hi:H.at_ i=some (mk es))(hp:r.φ.adr i=some p)(m:(p.1,o)∈r.φ.news)(d:o.IsDictOf knd kvs)
  (F:Fr Γ.h₀ Γ.L h' r.m)(N:News Γ.h₀ Γ.L h'<|lR p.1 o' r.φ.news)(d':o'.IsDictOf knd kvs')(hr:ny dec r.φ es' kvs')(hl:es'.length<=jO)(lo:(p.1==sysModules)=false){tk:Nat}:Oj θ u Γ E r Lc X ⟨r.φ.upd p.1 o',r.m,{r.s with heap:=h',toks:=tk}⟩ (H.put i<|mk es'):=
 have cls:o.cls=.type "dict":=d.elim λ_ h=>h.elim λ_ h=>h.1.1
 a.upd hi (c.off es) ⟨p,hp,.inl rfl⟩ m (λe=>aan (Value.type.inj<|cls.symm.trans e)<|by decide) (λe=>aan (Value.type.inj<|cls.symm.trans e)<|by decide) (c.off es') F N λX m' _=>by
  obtain⟨a',_,_,q,_⟩:=c.obj _ _ _<|a.T.R.obj i _ hi
  cases aaf (q.symm.trans hp)
  exact c.Zs _ _ _ ⟨a',o',kvs',q,m',d',hr.iO X.tojc,hl,lo⟩
def KC.set(c:KC θ dec knd mk kv){i:Nat}{es:List (κ×MV)}{k:κ}{v:MV}{K':MH->Prop}(hi:H.at_ i=some (mk es))(hl:es.length<jO)(hq:K'<|H.put i<|mk<|nR k v es):dc θ u Lc H X [.ref i,kv k,v] KH Al (λ_ H'=>K' H'):=
 λΓ E r ws a y0=>dG y0 λx _ e h1 y=>by
  subst e;clear y0
  exact kQ h1 λp hp e=>by
   subst e
   exact y.e2 (P:=λl=>Go θ Γ E r (KH<|.ref p.1::l) _) λz y hz hy=>c.sG a hi hp λo kvs m d hD hr _ lo=>
    kda_set (knd:=knd) (k:=dec k) a.T.F a.T.N (lS a.T.R.nodup m) d (c.is _ _ _ hz) (gw<|by rw[hr.len];exact av (Nat.le_of_lt hl)<|by decide) λh' o' F' N' d'=>
     have Z:=c.upd a hi hp m d F' N' d' (hr.store c.inj hy) (av Ge hl) lo
     Z.a.fin (b:=()) Z.l trivial hq
def KC.del(c:KC θ dec knd mk kv){i:Nat}{es:List (κ×MV)}{k:κ}{K':MH->Prop}(hi:H.at_ i=some (mk es))(hk:(d9 k es).isSome=true)(hq:K'<|H.put i<|mk<|Ej k es):dc θ u Lc H X [.ref i,kv k] Gg Al (λ_ H'=>K' H'):=
 λΓ E r ws a y=>y.e2 (P:=λws=>Go θ Γ E r (Gg ws) _) λx z h1 hz=>kQ h1 λp hp e=>by
  subst e
  exact c.sG a hi hp λo kvs m d hD hr hl lo=>kob_del (knd:=knd) (k:=dec k) a.T.F a.T.N (lS a.T.R.nodup m) d (c.is _ _ _ hz) ((hr.get c.inj).same.trans hk) (gw<|by rw[hr.len];exact av hl<|by decide) λh' o' F' N' d'=>
   have Z:=c.upd a hi hp m d F' N' d' (hr.erase c.inj) (av Gf hl) lo
   Z.a.fin (b:=()) Z.l trivial hq
end
end
section
variable{θ:Th}{u:Nat}{Γ:Gm}{E:Value->Shared->Prop}{r r':Rh}{Lc:Loc}{H H':MH}{Q:QV}{QB:Bool->MH->Prop}{X:QX}{P:Prop}
def As{φ:dD}{v:MV}{x:Value}(h:VR φ v x):plainIs x .none=true/\(x==Value.none)=isNone v:=by
 have k:∀{y:Value} {b:Bool},x=y->plainIs y .none=true/\(y==Value.none)=b->plainIs x .none=true/\(x==Value.none)=b:=λe h=>e▸h
 cases v with
 |none=>exact k h ⟨rfl,rfl⟩
 |bool b=>exact k h ⟨rfl,rfl⟩
 |int=>exact h.elim λ_ e=>k e ⟨rfl,rfl⟩
 |str=>exact h.elim λ_ e=>k e ⟨rfl,rfl⟩
 |ref=>exact kQ h λ_ _ e=>k e ⟨rfl,rfl⟩
 |tup=>exact sA h λ_ _ e _ _=>k e ⟨rfl,rfl⟩
 |«fj»=>exact rA h λ_ _ e _ _=>k e ⟨rfl,rfl⟩
 |cls=>exact k h ⟨rfl,rfl⟩
 |ty=>exact k h ⟨rfl,rfl⟩
def Au{φ:dD}{v:MV}{x:Value}{y:Bool}(h:VR φ v x):plainIs x (.bool y)=true/\(x==Value.bool y)=isBool y v:=by
 have k:∀{z:Value} {b:Bool},x=z->plainIs z (.bool y)=true/\(z==Value.bool y)=b->plainIs x (.bool y)=true/\(x==Value.bool y)=b:=λe h=>e▸h
 cases v with
 |none=>exact k h ⟨rfl,rfl⟩
 |bool b=>exact k h<|by cases b<;>cases y<;>exact⟨rfl,rfl⟩
 |int=>exact h.elim λ_ e=>k e ⟨rfl,rfl⟩
 |str=>exact h.elim λ_ e=>k e ⟨rfl,rfl⟩
 |ref=>exact kQ h λ_ _ e=>k e ⟨rfl,rfl⟩
 |tup=>exact sA h λ_ _ e _ _=>k e ⟨rfl,rfl⟩
 |«fj»=>exact rA h λ_ _ e _ _=>k e ⟨rfl,rfl⟩
 |cls=>exact k h ⟨rfl,rfl⟩
 |ty=>exact k h ⟨rfl,rfl⟩
def Gk{φ:dD}{v b:MV}{x y:Value}{t:Bool}(hr:Ul v b=some t)(h1:VR φ v x)(h2:VR φ b y):plainIs x y=true/\(x==y)=t:=by
 cases b with
 |none=>cases h2;exact aaf hr▸As h1
 |bool y=>cases h2;exact aaf hr▸Au h1
 |_=>exact nn rfl hr
def Uq{a b:MV}{t:Bool}(hr:Ul a b=some t)(hq:Q (.bool t) H):dc θ u Lc H X [a,b] (dN .Is) VR Q:=
 .g8 hq λΓ E r x y _ h1 h2 R k=>have z:=Gk hr h1 h2;wpAny_is_plain (a:=x) (b:=y) z.1<|z.2▸k _ r.s.toks rfl
def Gl{a b:MV}{t:Bool}(hr:Ul a b=some t)(hq:Q (.bool<|!t) H):dc θ u Lc H X [a,b] (dN .IsNot) VR Q:=
 .g8 hq λΓ E r x y _ h1 h2 R k=>have z:=Gk hr h1 h2;wpAny_isNot_plain (a:=x) (b:=y) z.1<|z.2▸k _ r.s.toks rfl
def Ur{a b:MV}{t:Bool}(hr:Zo a b=some t)(hq:Q (.bool t) H):dc θ u Lc H X [a,b] (dN .Eq) VR Q:=
 vO (P:=λa=>dc θ u Lc H X [a,b] (dN .Eq) VR Q) hr
 (λhr=>vO (P:=λb=>dc θ u Lc H X [_,b] (dN .Eq) VR Q) hr (λhr=>by cases hr;exact .g8 hq λΓ E r x y _ h1 h2 R k=>by cases h1;cases h2;exact PySem.EqNone.eq_none_none<|k _ r.s.toks rfl)
  (λy hr=>by cases hr;exact .g8 hq λΓ E r x y _ h1 h2 R k=>by cases h1;exact nS (P:=λy=>wpAny _ _ (dN .Eq [_,y]) _ _ _) h2 λt=>PySem.EqNone.eq_none_int<|k _ r.s.toks rfl)
  λy hr=>by cases hr;exact .g8 hq λΓ E r x y _ h1 h2 R k=>by cases h1;exact je (P:=λy=>wpAny _ _ (dN .Eq [_,y]) _ _ _) h2 λt=>PySem.EqNone.eq_none_str<|k _ r.s.toks rfl)
 (λx hr=>vO (P:=λb=>dc θ u Lc H X [_,b] (dN .Eq) VR Q) hr (λhr=>by cases hr;exact .g8 hq λΓ E r x y _ h1 h2 R k=>by cases h2;exact nS (P:=λx=>wpAny _ _ (dN .Eq [x,_]) _ _ _) h1 λt=>PySem.EqNone.eq_int_none<|k _ r.s.toks rfl)
  (λy hr=>by cases hr;exact .ints hq λΓ E r _ _ R k=>PySem.P.eq_int<|k _ r.s.toks rfl) λy hr=>nn rfl hr)
 λx hr=>vO (P:=λb=>dc θ u Lc H X [_,b] (dN .Eq) VR Q) hr (λhr=>by cases hr;exact .g8 hq λΓ E r x y _ h1 h2 R k=>by cases h2;exact je (P:=λx=>wpAny _ _ (dN .Eq [x,_]) _ _ _) h1 λt=>PySem.EqNone.eq_str_none<|k _ r.s.toks rfl)
  (λy hr=>nn rfl hr) λy hr=>by cases hr;exact .strs hq λΓ E r _ _ R k=>PySem.P.eq_str<|k _ r.s.toks rfl
def Gn{op:CmpOp}{fI:Int->Int->Option Bool}{fS:List Nat->List Nat->Option Bool}{a b:MV}{t:Bool}(hr:vI a none (λx=>vI b none (fI x) λ_=>none) (λx=>vI b none (λ_=>none)<|fS x)=some t)(hI:∀x y,fI x y=some t->dc θ u Lc H X [.int x,.int y] (dN op) VR Q)
  (hS:∀x y,fS x y=some t->dc θ u Lc H X [.str x,.str y] (dN op) VR Q):dc θ u Lc H X [a,b] (dN op) VR Q:=
 vO (P:=λa=>dc θ u Lc H X [a,b] (dN op) VR Q) hr (λhr=>nn rfl hr) (λx hr=>vO (P:=λb=>dc θ u Lc H X [_,b] (dN op) VR Q) hr (λhr=>nn rfl hr) (hI x) λ_ hr=>nn rfl hr)
  λx hr=>vO (P:=λb=>dc θ u Lc H X [_,b] (dN op) VR Q) hr (λhr=>nn rfl hr) (λ_ hr=>nn rfl hr)<|hS x
def Us{a b:MV}{t:Bool}(hr:Zp a b=some t)(hq:Q (.bool t) H):dc θ u Lc H X [a,b] (dN .NotEq) VR Q:=
 Gn hr (λx y hr=>by cases hr;exact .ints hq λΓ E r _ _ R k=>PySem.P.ne_int<|k _ r.s.toks rfl) λx y hr=>by cases hr;exact .strs hq λΓ E r _ _ R k=>PySem.P.ne_str<|k _ r.s.toks rfl
def Av{op:CmpOp}{f:Int->Int->Bool}(rule:∀Γ E r x y tx ty,Still θ Γ E r (dN op [.int x tx,.int y ty])<|.bool<|f x y){a b:MV}{t:Bool}(hr:KD f a b=some t)(hq:Q (.bool t) H):dc θ u Lc H X [a,b] (dN op) VR Q:=
 vO (P:=λa=>dc θ u Lc H X [a,b] (dN op) VR Q) hr (λhr=>nn rfl hr) (λx hr=>vO (P:=λb=>dc θ u Lc H X [_,b] (dN op) VR Q) hr (λhr=>nn rfl hr) (λy hr=>by cases hr;exact .ints hq λΓ E r tx ty=>rule Γ E r x y tx ty) λ_ hr=>nn rfl hr) λx hr=>nn rfl hr
def le_str{c d tx ty}{R:Value->Shared->Prop}(k:∀v tk,VR r.φ (.bool<|decide<|c<=d) v->R v {r.s with toks:=tk}):wpAny θ.M Γ.A (dN .LtE [.str ⟨[c].toArray⟩ tx,.str ⟨[d].toArray⟩ ty]) R E r.s:=
 PySem.P.le_str (k (.bool _) r.s.toks (aac Value.bool (by
   have z:([d]<[c])=(d<c):=by rw[List.cons_lt_cons_iff];simp
   rw[List.toList_toArray,List.toList_toArray,<-decide_not]
   exact decide_eq_decide.mpr<|by rw[z];exact Nat.not_lt)))
def Ut{a b:MV}{t:Bool}(hr:Zq a b=some t)(hq:Q (.bool t) H):dc θ u Lc H X [a,b] (dN .LtE) VR Q:=
 Gn hr (λx y hr=>by cases hr;exact .ints hq λΓ E r tx ty R k=>PySem.P.le_int<|k _ r.s.toks rfl) λx y hr=>
  (Option.bind_eq_some_iff.mp hr).elim λc z=>(Option.map_eq_some_iff.mp z.2).elim λd z'=>Ar (P:=λx=>dc θ u Lc H X [.str x,.str y] (dN .LtE) VR Q) z.1<|Ar (P:=λy=>dc θ u Lc H X [_,.str y] (dN .LtE) VR Q) z'.1<|.strs (z'.2.symm▸hq) λΓ E r tx ty R k=>le_str k
def ux{φ:dD}{l:List MV}:∀{ys:List (List Nat)} {ws:List Value},iz l=some ys->cK φ l ws->StrsAre ws (ys.map aW):=
 l.rec (motive:=λl=>∀{ys:List (List Nat)} {ws:List Value},iz l=some ys->cK φ l ws->StrsAre ws (ys.map aW)) (λh e=>by cases h;cases e;exact .nil) λv l ih ys ws h e=>dG e λx r e a b=>by
  subst e
  cases v with
  |str s=>exact(Option.map_eq_some_iff.mp h).elim λzs z=>by obtain⟨z,rfl⟩:=z;exact je (P:=λx=>StrsAre (x::r) _) a λt=>.cons _ t<|ih z b
  |_=>exact nn rfl h
def yT{k:List Nat}(ys:List<|List Nat):(ys.map aW).any (·==aW k)=ys.any (·==k):=
 ys.rec rfl λy ys ih=>congr (aac or (by
  show(aW y==aW k)=(y==k)
  by_cases q:y=k
  ·rw[q,beq_self_eq_true,beq_self_eq_true]
  ·rw[beq_false_of_ne q,beq_false_of_ne λe=>q<|qC _ _ e])) ih
def KN{c:Nat}{l:List Nat}(hq:Q (.bool<|decide<|c∈l) H):dc θ u Lc H X [.str [c],.str l] (dN .In) VR Q:=
 .strs hq λΓ E r _ _ R k=>by
  refine PySem.P.in_str (x:=⟨l.toArray⟩) (y:=⟨[c].toArray⟩) ?_
  rw[show(⟨[c].toArray⟩:Str)=⟨#[c]⟩from rfl,PyProof.Rows.empty_one]
  simp only[Bool.not_not,List.toList_toArray]
  exact k _ r.s.toks rfl
def Aw{c:Nat}{l:List Nat}(hq:Q (.bool<|!decide (c∈l)) H):dc θ u Lc H X [.str [c],.str l] (dN .NotIn) VR Q:=
 .strs hq λΓ E r _ _ R k=>by
  refine PySem.P.notIn_str (x:=⟨l.toArray⟩) (y:=⟨[c].toArray⟩) ?_
  rw[show(⟨[c].toArray⟩:Str)=⟨#[c]⟩from rfl,PyProof.Rows.empty_one]
  simp only[Bool.not_not,List.toList_toArray]
  exact k _ r.s.toks rfl
def Qz{k:List Nat}{l:List MV}{ys:List (List Nat)}(hy:iz l=some ys)(hq:Q (.bool (ys.any (·==k))) H):dc θ u Lc H X [.str k,.tup l] (dN .In) VR Q:=
 .g8 hq λΓ E r x y a h1 h2 R kk=>je (P:=λx=>wpAny _ _ (dN .In [x,y]) _ _ _) h1 λt=>yR (P:=λy=>wpAny _ _ (dN .In [_,y]) _ _ _) h2 λb vs m v=>
  in_tuple_strs (items:=vs.toArray) ⟨_,(a.T.N _ m).1,rfl,_,rfl⟩ (by rw[List.toList_toArray];exact ux hy v) (yT (k:=k) ys▸kk _ r.s.toks rfl)
def Ek{k:List Nat}{l:List MV}{ys:List (List Nat)}(hy:iz l=some ys)(hq:Q (.bool (!ys.any (·==k))) H):dc θ u Lc H X [.str k,.tup l] (dN .NotIn) VR Q:=
 .g8 hq λΓ E r x y a h1 h2 R kk=>je (P:=λx=>wpAny _ _ (dN .NotIn [x,y]) _ _ _) h1 λt=>yR (P:=λy=>wpAny _ _ (dN .NotIn [_,y]) _ _ _) h2 λb vs m v=>
  notin_tuple_strs (items:=vs.toArray) ⟨_,(a.T.N _ m).1,rfl,_,rfl⟩ (by rw[List.toList_toArray];exact ux hy v) (yT (k:=k) ys▸kk _ r.s.toks rfl)
def BY{P:List Nat->MV->Bool->Prop}{k:List Nat}{b:MV}{t:Bool}(hr:WQ (.str k) b H=some t)(c1:∀c l,P [c] (.str l)<|decide<|c∈l)(c2:∀l ys,iz l=some ys->P k (.tup l) (ys.any (·==k)))(c3:∀i es,H.at_ i=some (.aF es)->P k (.ref i) (d9 k es).isSome):P k b t:=by
 cases b with
 |str l=>exact(Option.map_eq_some_iff.mp hr).elim λc z=>Ar (P:=λk=>P k _ t) z.1<|z.2▸c1 c l
 |tup l=>exact(Option.map_eq_some_iff.mp hr).elim λys z=>z.2▸c2 l ys z.1
 |ref i=>exact Un hr λes e z=>z▸c3 i es e
 |_=>exact nn rfl hr
def Uu{a b:MV}{t:Bool}(hr:WQ a b H=some t)(hq:Q (.bool t) H):dc θ u Lc H X [a,b] (dN .In) VR Q:=
 vO (P:=λa=>dc θ u Lc H X [a,b] (dN .In) VR Q) (show vI a none _ _=some t from hr) (λhr=>nn rfl hr)
 (λk hr=>by
  cases b with
  |ref i=>exact Uo hr λes e z=>(Oi θ).Tw e<|z▸hq
  |_=>exact nn rfl hr)
 λk hr=>BY (P:=λk b t=>Q (.bool t) H->dc θ u Lc H X [.str k,b] (dN .In) VR Q) hr (λc l hq=>KN hq) (λl ys hy hq=>Qz hy hq) (λi es hh hq=>(Oh θ).Tw hh hq) hq
def Gp{a b:MV}{t:Bool}(hr:gx .NotIn a b H=some t)(hq:Q (.bool t) H):dc θ u Lc H X [a,b] (dN .NotIn) VR Q:=by
 cases a with
 |str k=>exact(Option.map_eq_some_iff.mp hr).elim λt' z=>BY (P:=λk b t=>Q (.bool<|!t) H->dc θ u Lc H X [.str k,b] (dN .NotIn) VR Q) z.1 (λc l hq=>Aw hq) (λl ys hy hq=>Ek hy hq) (λi es hh hq=>(Oh θ).Ol hh hq)<|z.2.symm▸hq
 |_=>exact nn rfl hr
def KO{op:CmpOp}{a b:MV}{t:Bool}(hr:gx op a b H=some t)(hq:Q (.bool t) H):dc θ u Lc H X [a,b] (dN op) VR Q:=by
 cases op with
 |Eq=>exact Ur hr hq
 |NotEq=>exact Us hr hq
 |Lt=>exact Av (λΓ E r _ _ _ _ R k=>PySem.P.lt_int<|k _ r.s.toks rfl) hr hq
 |LtE=>exact Ut hr hq
 |Gt=>exact Av (λΓ E r _ _ _ _ R k=>PySem.P.gt_int<|k _ r.s.toks rfl) hr hq
 |GtE=>exact Av (λΓ E r _ _ _ _ R k=>PySem.P.ge_int<|k _ r.s.toks rfl) hr hq
 |Is=>exact Uq hr hq
 |IsNot=>exact(Option.map_eq_some_iff.mp hr).elim λx z=>Gl z.1<|z.2.symm▸hq
 |In=>exact Uu hr hq
 |NotIn=>exact Gp hr hq
end
noncomputable def BF.nm(b:BF):Str:=b.casesOn "len" "int" "isinstance" "list"
noncomputable def BF.fv(b:BF):Value:=b.casesOn (.builtin "len") (.type "int") (.builtin "isinstance")<|.type "list"
noncomputable def KM.nm(m:KM):Str:=m.casesOn "append" "pop" "extend" "join"
noncomputable def KM.kind(m:KM):Kind:=m.casesOn .list .list .list .str
noncomputable def KM.id(m:KM):String:=m.casesOn "list.append" "list.pop" "list.extend" "str.join"
def arg1(vs:List MV)(K:MV->Prop):Prop:=vs.casesOn False λv r=>r.casesOn (K v) λ_ _=>False
def arg2(vs:List MV)(K:MV->MV->Prop):Prop:=vs.casesOn False λv r=>arg1 r<|K v
def QA(v:MV)(H:MH)(Q:QV):Prop:=v.casesOn False (λ_=>False) (λ_=>False) (λl=>l.length<dg/\Q (.int l.length) H) (λi=>iP (H.at_ i) noI (λxs=>Q (.int xs.length) H) (λxs=>Q (.int xs.length) H) lJ lJ lJ) (λ_=>False) (λ_ _=>False) (λ_=>False) λ_=>False
def QC(S:aP)(v d:MV)(H:MH)(Q:QV):Prop:=v.casesOn False (λ_=>False) (λ_=>False) (λ_=>Xg d λn=>n="str"/\Q (.bool true) H) (λi=>yO d λd=>iR (H.at_ i) λc _=>bM (S.Uc c d) λb=>Q (.bool b) H) (λ_=>False) (λ_ _=>False) (λ_=>False) λ_=>False
def Om(S:aP)(b:BF)(vs:List MV)(H:MH)(Q:QV):Prop:=b.casesOn (arg1 vs λv=>QA v H Q) (arg1 vs λv=>qB v λl=>l.length<=600/\bM (PySem.intText?<|aW l) λn=>Q (.int n) H) (arg2 vs λv d=>QC S v d H Q)
 (arg1 vs λv=>iZ v λi=>rE (H.at_ i) λes=>S.quiet=true/\Q (.ref H.n) (H.new<|.list<|es.map λe=>.int e.1))
def Uv(i:Nat)(vs:List MV)(H:MH)(Q:QV):Prop:=gm (H.at_ i) λxs=>vs.casesOn (∃ys u,xs=ys++[u]/\Q u (H.put i<|.list ys)) λv r=>r.casesOn (j9 v λk=>k=0/\∃u ys,xs=u::ys/\Q u (H.put i<|.list ys)) λ_ _=>False
def Ad(m:KM)(v:MV)(vs:List MV)(H:MH)(Q:QV):Prop:=m.casesOn (iZ v λi=>arg1 vs λu=>gm (H.at_ i) λxs=>xs.length<dg/\Q .none (H.put i<|.list<|xs++[u])) (iZ v λi=>Uv i vs H Q)
 (iZ v λi=>arg1 vs λu=>iZ u λj=>gm (H.at_ i) λxs=>gm (H.at_ j) λys=>xs.length+ys.length<=dg/\Q .none (H.put i<|.list<|xs++ys))
 (qB v λs=>s=[]/\arg1 vs λu=>iZ u λi=>gm (H.at_ i) λxs=>bM (iz xs) λys=>(ys.map List.length).sum+ys.length<=dg/\Q (.str ys.flatten) H)
def vP(o i v:MV)(H:MH)(K:MH->Prop):Prop:=iZ o λj=>i.casesOn False (λ_=>False) (λk=>rE (H.at_ j) λes=>es.length<jO/\K (H.put j<|.cA<|nR k v es)) (λk=>xG (H.at_ j) λes=>es.length<jO/\K (H.put j<|.aF<|nR k v es)) (λ_=>False) (λ_=>False) (λ_ _=>False) (λ_=>False) λ_=>False
def Ax(o i:MV)(H:MH)(K:MH->Prop):Prop:=iZ o λj=>j9 i λk=>rE (H.at_ j) λes=>(d9 k es).isSome=true/\K (H.put j<|.cA<|Ej k es)
def nU{P:List MV->Prop}{vs:List MV}{K:MV->Prop}(h:arg1 vs K)(k:∀v,K v->P [v]):P vs:=by
 cases vs with
 |nil=>exact h.elim
 |cons v r=>cases r with|nil=>exact k v h|cons=>exact h.elim
def Gq{P:List MV->Prop}{vs:List MV}{K:MV->MV->Prop}(h:arg2 vs K)(k:∀v w,K v w->P [v,w]):P vs:=by
 cases vs with
 |nil=>exact h.elim
 |cons v r=>exact nU (P:=λr=>P<|v::r) h<|k v
structure Oo(K:Frag)(c d:Addr)(b:Bool):Prop where
 one:kitOne K (.ref c) (.ref d)=some b
 get:plainGet K c "__class__"=true
 dict:hasDictIn K c=true
 find:findIn K (.ref c) "__class__"=some (some<|.builtin "object.__class__")
 spec:specialIn K (.builtin "object.__class__") "__get__"=some (some<|.builtin "getset_descriptor.__get__")
 takes:takesIn K (.builtin "object.__class__")=some true
 mro:mroIn K c (.type "object")=some true
def yU:typeLookup (.type "method") "__bool__"=pure none:=by rw[typeLookup_type,builtinLookup_eq_fast];kernel_rfl
def Ay:typeLookup (.type "method") "__len__"=pure none:=by rw[typeLookup_type,builtinLookup_eq_fast];kernel_rfl
section
variable{θ:Th}{u:Nat}{Γ:Gm}{E:Value->Shared->Prop}{r r':Rh}{Lc:Loc}{H H':MH}{Q:QV}{QB:Bool->MH->Prop}{X:QX}{P:Prop}
def b6{n:Nat}(h:n<dg):n<=1000000:=Nat.le_of_lt h
def rG{α β:Type}{J:dD->β->α->Prop}{QJ:β->MH->Prop}{v:α}{b:β}(a:At θ u Γ E r Lc H X)(j:J r.φ b v)(q:QJ b H):eX r (pM θ Γ Lc J QJ) v r.s:=a.fin .refl j q
def QD{α β:Type}{J:dD->β->α->Prop}{QJ:β->MH->Prop}{v:α}{b:β}{n:Nat}(a:At θ u Γ E r Lc H X)(j:J r.φ b v)(q:QJ b H):eX r (pM θ Γ Lc J QJ) v {r.s with toks:=n}:=(a.tk n).fin .tk j q
theorem xH{v:MV}(h:kc v H QB):Uh θ u v Lc H QB X:=by
 cases v with
 |none=>exact λΓ E r x a e=>by cases e;exact truthy_none<|rG a rfl h
 |bool b=>exact λΓ E r x a e=>by cases e;exact wpAny_truthy_bool<|rG a rfl h
 |int i=>exact λΓ E r x a e=>nS (P:=λx=>Go θ Γ E r (truthy x) _) e λt=>PyProof.Rows.truthy_int<|rG a rfl h
 |str l=>exact λΓ E r x a e=>je (P:=λx=>Go θ Γ E r (truthy x) _) e λt=>P.truthy_str (by rw[iD];exact Int.not_le.mpr<|J3<|b6 h.1)<|QD a (by rw[iD];cases l<;>rfl) h.2
 |ref i=>exact objE h (λ_ _ _=>J2) (λxs hi h Γ E r x a e=>eY (P:=λx=>Go θ Γ E r (truthy x) _) e λp hp=>d8.sG (a.T.R.obj i _ hi) a (λ_ h=>h) hp λvs n _ z _ l e=>PySem.wpAny_truthy_list z (J3<|by rw[List.size_toArray,e];exact l)<|QD a (Gj e) h) (λ_ _=>nQ) (λes hi h=>(Oh θ).Zt hi h) (λes hi h=>(Oi θ).Zt hi h) λ_ _=>nQ
 |tup l=>exact λΓ E r x a e=>yR (P:=λx=>Go θ Γ E r (truthy x) _) e λb vs m v=>PyProof.Rows.truthy_tuple (items:=vs.toArray) ⟨_,(a.T.N _ m).1,rfl,_,rfl⟩ (J3<|by rw[List.size_toArray,v.length];exact b6 h.1)<|QD a (Gj v.length) h.2
 |«fj» f i=>
  refine λΓ E r x a e=>rA e λb p e _ m=>?_
  subst e
  have ty:r.s.TypeIs (.ref b) "method":=⟨_,(a.T.N _ m).1,rfl⟩
  exact gf (m:=callSpecial? (.ref b)<|Str.ofString "__bool__")<|wpAny_callSpecial?_none (name:=Str.ofString "__bool__") ty yU<|gf<|wpAny_specialOf (name:=Str.ofString "__len__") ty Ay<|aao<|rG a rfl h
 |cls=>exact h.elim
 |ty=>exact h.elim
noncomputable def Kind.tn(k:Kind):String:=k.casesOn "str" "list" "dict" "tuple"
def KI(s:Shared)(k:Kind)(x:Value):Prop:=s.TypeIs x k.tn/\∀a,x=.ref a->∃o,s.heap.get? a=some o/\o.dict=none
def kh(H:MH)(v:MV)(k:Kind):Prop:=∀{θ u Γ E r Lc X x},At θ u Γ E r Lc H X->VR r.φ v x->KI r.s k x
def QG{s:Shared}{k:Kind}{a:Addr}{o:Obj}(h:s.heap.get? a=some o)(c:o.cls=.type k.tn)(d:o.dict=none):KI s k (.ref a):=⟨⟨o,h,c⟩,λ_ e=>by cases e;exact⟨o,h,d⟩⟩
def Gr{l:List Nat}:kh H (.str l) .str:=λ{_ _ _ _ r _ _ _} a e=>je (P:=KI r.s .str) e λt=>⟨rfl,λ_ e=>by cases e⟩
def Gs{l:List MV}:kh H (.tup l) .tup:=λ{_ _ _ _ r _ _ _} a e=>yR (P:=KI r.s .tup) e λb vs m v=>QG (a.T.N _ m).1 rfl rfl
def BZ{i:Nat}{xs:List MV}(hi:H.at_ i=some (.list xs)):kh H (.ref i) .list:=λ{_ _ _ _ r _ _ _} a e=>eY (P:=KI r.s .list) e λp hp=>d8.sG (a.T.R.obj i _ hi) a (λ_ h=>h) hp λvs n m _ _ _ _=>QG (a.T.N _ m).1 rfl rfl
def xJ{κ K:Type}[DecidableEq K]{dec:κ->K}{i:Nat}{es:List (κ×MV)}(knd:∀θ:Th,KeyKind θ.S.prog θ.w K)(hi:∀{θ u Γ E r Lc X},At θ u Γ E r Lc H X->∃l,gj dec (knd θ) r.φ i l es/\∀p∈l,p∈r.φ.news):kh H (.ref i) .dict:=λ{θ u Γ E r Lc X x} a e=>eY (P:=KI r.s .dict) e λp hp=>(hi a).elim λl z=>by
 obtain⟨a',o,kvs,h1,h2,h3,_⟩:=z.1
 cases aaf (h1.symm.trans hp)
 obtain⟨_,_,ex,_⟩:=h3
 exact QG (a.T.N _<|z.2 _ h2).1 ex.1 ex.2.1
def Oq{i:Nat}{es:List (List Nat×MV)}(hi:H.at_ i=some (.aF es)):kh H (.ref i) .dict:=xJ (dec:=aW) (λθ=>strKind θ.S.prog θ.w) λ{θ u Γ E r Lc X} a=>⟨r.φ.news,a.T.R.obj i _ hi,λ_ h=>h⟩
def Ot{i:Nat}{es:List (Int×MV)}(hi:H.at_ i=some (.cA es)):kh H (.ref i) .dict:=xJ (dec:=xA) (λθ=>intKind θ.S.prog θ.w) λ{θ u Γ E r Lc X} a=>⟨r.φ.news,a.T.R.obj i _ hi,λ_ h=>h⟩
def Ou{i:Nat}{es:List (Int×MV)}(hi:H.at_ i=some (.pG es)):kh H (.ref i) .dict:=xJ (dec:=xA) (λθ=>intKind θ.S.prog θ.w) λ{θ u Γ E r Lc X} a=>⟨r.φ.pins,a.T.R.obj i _ hi,a.T.R.pe.1⟩
def uy{v:MV}{k:Kind}(h:sE v H k):kh H v k:=by
 cases k with
 |str=>exact Ga h λl e _=>e▸Gr
 |tup=>exact Qv h λl e _=>e▸Gs
 |list=>exact Eh h λi e h=>objE h (λ_ _ _=>J2) (λxs hi _=>e▸BZ hi) (λ_ _=>nQ) (λ_ _=>nQ) (λ_ _=>nQ) λ_ _=>nQ
 |dict=>exact Eh h λi e h=>objE h (λ_ _ _=>J2) (λ_ _=>nQ) (λ_ _=>nQ) (λxs hi _=>e▸Oq hi) (λxs hi _=>e▸Ot hi) λxs hi _=>e▸Ou hi
def Kind.B0(k:Kind):∃id,typeLookup (.type k.tn) "__getitem__"=pure (some<|.builtin id):=by
 cases k with
 |str=>exact⟨_,PyProof.Rows.slot_str_getitem.lookup⟩
 |list=>exact⟨_,PySem.slot_list_getitem.lookup⟩
 |dict=>exact⟨_,PySem.slot_dict_getitem.lookup⟩
 |tup=>exact⟨_,PySem.F.slot_tuple_getitem.lookup⟩
def uz{α:Type}{l:List α}{k:Nat}{x:α}(h:l[k]?=some x):k<l.length:=(List.getElem?_eq_some_iff.mp h).1
def item_list{i k:Nat}{xs:List MV}{v:MV}(hi:H.at_ i=some (.list xs))(hk:xs[k]?=some v)(hq:Q v H):dc θ u Lc H X [.ref i,.int k] qE VR Q:=
 λΓ E r ws a y=>y.e2 (P:=λws=>Go θ Γ E r (qE ws) _) λx z h1 hz=>eY (P:=λx=>Go θ Γ E r (qE [x,z]) _) h1 λp hp=>nS (P:=λz=>Go θ Γ E r (qE [_,z]) _) hz λt=>d8.sG (a.T.R.obj i _ hi) a (λ_ h=>h) hp λvs n _ z w l e=>
  w.get hk λy hy j=>getItem_listL (l:=vs) z (Int.natCast_nonneg k) (J3<|av (Nat.le_of_lt<|uz hk) l) hy<|rG a j hq
def item_tup{k:Nat}{xs:List MV}{v:MV}(hk:xs[k]?=some v)(hl:xs.length<dg)(hq:Q v H):dc θ u Lc H X [.tup xs,.int k] qE VR Q:=
 λΓ E r ws a y=>y.e2 (P:=λws=>Go θ Γ E r (qE ws) _) λx z h1 hz=>yR (P:=λx=>Go θ Γ E r (qE [x,z]) _) h1 λb vs m w=>nS (P:=λz=>Go θ Γ E r (qE [_,z]) _) hz λt=>
  w.get hk λy hy j=>getItem_tuple (items:=vs.toArray) (j:=k) (x:=y) ⟨_,(a.T.N _ m).1,rfl,_,rfl⟩ (by have:=J3<|av (Nat.le_of_lt<|uz hk)<|b6 hl;omega) (by have:=J3<|av (Nat.le_of_lt<|uz hk)<|b6 hl;omega) (by rw[List.size_toArray];exact qD<|uz hy) (by simpa using hy)<|rG a j hq
def item_str{k:Nat}{l:List Nat}{c:Nat}(hk:l[k]?=some c)(hl:l.length<dg)(hq:Q (.str [c]) H):dc θ u Lc H X [.str l,.int k] qE VR Q:=
 .g8 hq λΓ E r x z a h1 hz R kk=>je (P:=λx=>wpAny _ _ (qE [x,z]) _ _ _) h1 λt=>nS (P:=λz=>wpAny _ _ (qE [_,z]) _ _ _) hz λt'=>by
  have kl:=uz hk
  have z:=J3<|av (Nat.le_of_lt kl)<|b6 hl
  exact PyProof.Rows.getItem_str (c:=c) (by simp;omega) (by rw[show(Str.mk l.toArray).length=l.length by simp[Str.length],qD kl];simpa using hk)<|kk _ _ ⟨_,rfl⟩
structure Item(θ:Th)(u:Nat)(Lc:Loc)(H:MH)(X:QX)(Q:QV)(v i:MV)(k:Kind):Prop where
 kind:kh H v k
 item:dc θ u Lc H X [v,i] qE VR Q
abbrev xK(θ:Th)(u:Nat)(Lc:Loc)(H:MH)(X:QX)(Q:QV)(v i:MV):Prop:=∃k,Item θ u Lc H X Q v i k
def Xj{l:List Nat}{i:MV}(h:qF (.str l) i H Q):xK θ u Lc H X Q (.str l) i:=yP (P:=xK θ u Lc H X Q<|.str l) h λk h=>Kz (P:=λk=>xK θ u Lc H X Q (.str l)<|.int k) h.2 λn h'=>cX h' λc e h'=>⟨.str,Gr,item_str e h.1 h'⟩
def Xk{l:List MV}{i:MV}(h:qF (.tup l) i H Q):xK θ u Lc H X Q (.tup l) i:=yP (P:=xK θ u Lc H X Q<|.tup l) h λk h=>Kz (P:=λk=>xK θ u Lc H X Q (.tup l)<|.int k) h.2 λn h'=>cX h' λc e h'=>⟨.tup,Gs,item_tup e h.1 h'⟩
def Xl{j:Nat}{i:MV}(h:qF (.ref j) i H Q):xK θ u Lc H X Q (.ref j) i:=by
 cases i with
 |int k=>exact objE h (λ_ _ _=>J2) (λxs hi h=>Kz (P:=λk=>xK θ u Lc H X Q (.ref j)<|.int k) h λn h=>cX h λc e h=>⟨.list,BZ hi,item_list hi e h⟩) (λ_ _=>nQ) (λ_ _=>nQ) (λes hi h=>cX h λc e h=>⟨.dict,Ot hi,(Oi θ).item hi e h⟩) λes hi h=>cX h λc e h=>⟨.dict,Ou hi,yS (kv:=.int) (l:=λr=>r.φ.pins) yQ (Oi θ).is (λa=>⟨a.T.R.obj j _ hi,a.T.R.pe.1⟩) e h⟩
 |str k=>exact Qw h λes hi h=>cX h λc e h=>⟨.dict,Oq hi,(Oh θ).item hi e h⟩
 |_=>exact h.elim
def KP{v i:MV}(h:qF v i H Q):xK θ u Lc H X Q v i:=by
 cases v with
 |str=>exact Xj h
 |tup=>exact Xk h
 |ref=>exact Xl h
 |_=>exact h.elim
end
def SR(v:MV)(a:Value):Prop:=v.casesOn False (λ_=>False) (λ_=>False) (λl=>∃t,a=.str (aW l) t) (λ_=>False) (λ_=>False) (λ_ _=>False) (λc=>a=.ref c) λ_=>False
def SR.vr{φ:dD}{v:MV}{a:Value}(h:SR v a):VR φ v a:=by cases v<;>first|exact h.elim|exact h
structure Uw(K:Frag)(c:Addr)(x:Str)(v:MV):Prop where
 get:plainGet K c x=true
 dict:hasDictIn K c=true
 Ak:copiedNames.contains x=false
 val:∃a,SR v a/\findIn K (.ref c) x=some (some a)/\specialIn K a "__get__"=some none
structure Ux(K:Frag)(c:Addr)(x:Str)(v:MV):Prop where
 val:∃mc a,SR v a/\typeIn K (.ref c)=some mc/\readsIn K c mc=true/\findCls K (.ref c) mc x=some (.val a)
structure xN(K:Frag)(c fI:Addr):Prop where
 makes:makesIn K c=true
 init:findIn K (.ref c) "__init__"=some (some<|.ref fI)
 Of:isFn K (.ref fI)=true
 keep:keepIn K (.ref c)=true
structure Xm(prog:Program)(w:World)(K:Frag)(a:Addr)(es:List<|List Nat×MV):Prop where
 val:∃o kvs,K.lookup a=some o/\o.IsDictOf (strKind prog w) kvs/\kvs.map (·.1)=es.map (λe=>aW e.1)/\(∀(i:Nat) (v:List Nat×MV) (x:Str×Value),es[i]?=some v->kvs[i]?=some x->SR v.2 x.2)
 lo:(a==sysModules)=false
 len:es.length<=jO
structure bL(S:aP)(w:World):Prop extends F9 S w where
 Uc:∀c d b,S.Uc c d=some b->Oo (S.K w.params) c d b
 ca:∀c k x v,S.ca c k=some v->S.nm[k]?=some x->Uw (S.K w.params) c x v
 cv:∀c k x v,S.cv c k=some v->S.nm[k]?=some x->Ux (S.K w.params) c x v
 sd:∀a es,S.sd a=some es->Xm S.prog w (S.K w.params) a es
 Zu:∀c k fa,S.mt c k=some fa->fnIn (S.K w.params) fa=true
 Zv:∀c k x,S.tab c k=true->S.nm[k]?=some x->findIn (S.K w.params) (.ref c) x=some none
 Zw:∀x a,S.gl.lookup x=some (.ref a)->keepIn (S.K w.params) (.ref a)=true
 ini:∀c fI,S.ini c=some fI->xN (S.K w.params) c fI
 gl:∀x v,S.gl.lookup x=some v->nsIn (S.K w.params) mainGlobals x=some (some v)∨(nsIn (S.K w.params) mainGlobals x=some none/\bootBuiltins x=some v/\x≠"__name__")
section
variable{θ:Th}{u:Nat}{Γ:Gm}{E:Value->Shared->Prop}{r r':Rh}{Lc:Loc}{H H':MH}{Q:QV}{QB:Bool->MH->Prop}{X:QX}{P:Prop}
def len_str{l:List Nat}(hl:l.length<dg)(hq:Q (.int l.length) H):dc θ u Lc H X [.str l] (aU<|.builtin "len") VR Q:=
 .Gh hq λΓ E r x a h R k=>je (P:=λx=>wpAny _ _ (aU _ [x]) _ _ _) h λt=>PyProof.Rows.len_str (by rw[iD];exact Int.not_le.mpr<|J3<|b6 hl)<|k _ _ ⟨_,by rw[iD]⟩
def B4{i:Nat}{xs:List MV}(l:Rh->aS)(hi:∀{Γ E r},At θ u Γ E r Lc H X->d8 r.φ i (l r) xs/\∀p∈l r,p∈r.φ.news)(hq:Q (.int xs.length) H):dc θ u Lc H X [.ref i] (aU<|.builtin "len") VR Q:=
 .Gh hq λΓ E r x a h R k=>eY (P:=λx=>wpAny _ _ (aU _ [x]) _ _ _) h λp hp=>(hi a).1.sG a (hi a).2 hp λvs n _ z _ hl e=>PyProof.Rows.len_list z (by rw[List.size_toArray,e];exact J3 hl)<|k _ _ ⟨_,by rw[List.size_toArray,e]⟩
def KQ{v:MV}(h:QA v H Q):dc θ u Lc H X [v] (aU<|.builtin "len") VR Q:=by
 cases v with
 |str l=>exact len_str h.1 h.2
 |ref i=>exact objE h (λ_ _ _=>J2) (λxs hi h=>B4 (λr=>r.φ.news) (λa=>⟨a.T.R.obj i _ hi,λ_ h=>h⟩) h) (λxs hi h=>B4 (λr=>r.φ.fix) (λa=>⟨a.T.R.obj i _ hi,a.T.R.pe.2⟩) h) (λ_ _=>nQ) (λ_ _=>nQ) λ_ _=>nQ
 |_=>exact h.elim
def KU(O:bL θ.S θ.w){v d:MV}(h:QC θ.S v d H Q):dc θ u Lc H X [v,d] (aU<|.builtin "isinstance") VR Q:=by
 cases v with
 |str l=>exact tyX (P:=λd=>dc θ u Lc H X [.str l,d] (aU<|.builtin "isinstance") VR Q) h λn h=>h.1▸.g8 h.2 λΓ E r x y a h1 h2 R k=>je (P:=λx=>wpAny _ _ (aU _ [x,y]) _ _ _) h1 λt=>by cases h2;exact kia_one (K:=θ.K) (b:=true) kitx_str (a.C.X.keeps a.T.F.keep) trivial rfl (by intro e;cases e) λtk=>k _ tk rfl
 |ref i=>
  refine Uj (P:=λd=>dc θ u Lc H X [.ref i,d] (aU<|.builtin "isinstance") VR Q) h λd h=>wm h λc fs hi h=>cX h λb hb h=>.g8 h λΓ E r x y a h1 h2 R k=>eY (P:=λx=>wpAny _ _ (aU _ [x,y]) _ _ _) h1 λp hp=>a.T.inst hi λq es n qy _ _ _ _ I=>?_
  cases aaf (hp.symm.trans qy)
  cases h2
  exact have o:=O.Uc c d b hb;kia_one (kitx_own o.get o.dict o.find o.spec o.takes o.mro) (a.C.X.keeps a.T.F.keep) I o.one (by intro e;cases e) λtk=>k _ tk rfl
 |_=>exact h.elim
def yV{prog:Program}{w:World}{a:Int}{v:Value}(h:(intKind prog w).is a v=true):∃t,v=.int a t:=by
 cases v<;>first|(simp[intKind,Value.isInt]at h;done)|skip
 rename_i b t
 have:b=a:=by simpa[intKind,Value.isInt]using h
 exact⟨t,by rw[this]⟩
def cK.of_get{φ:dD}{l:List MV}:∀{ws:List Value},ws.length=l.length->(∀(i:Nat) v w,l[i]?=some v->ws[i]?=some w->VR φ v w)->cK φ l ws:=
 l.rec (motive:=λl=>∀{ws:List Value},ws.length=l.length->(∀(i:Nat) v w,l[i]?=some v->ws[i]?=some w->VR φ v w)->cK φ l ws) (λh _=>List.eq_nil_of_length_eq_zero h) λv l ih ws hl h=>by
  cases ws with
  |nil=>cases hl
  |cons x ws=>exact iX (h 0 v x rfl rfl)<|ih (Nat.succ.inj hl) λi=>h<|i+1
def KV{i:Nat}{es:List (Int×MV)}(qt:θ.S.quiet=true)(hi:H.at_ i=some (.cA es))(hq:Q (.ref H.n)<|H.new<|.list<|es.map λe=>.int e.1):dc θ u Lc H X [.ref i] (aU<|.type "list") VR Q:=
 λΓ E r ws a y=>y.e1 (P:=λws=>Go θ Γ E r (aU _ ws) _) λx h=>eY (P:=λx=>Go θ Γ E r (aU _ [x]) _) h λp hp=>(Oi θ).sG a hi hp λo kvs m d _ hr hl lo=>by
  obtain⟨es',ep,dd⟩:=d
  have hD:r.s.heap.DictAt (intKind θ.S.prog θ.w) p.1 kvs ep:=⟨o,es',(a.T.N _ m).1,dd⟩
  have hl':es.length<=1000000:=av hl<|by decide
  refine kdl_N (kdl_dict (knd:=intKind θ.S.prog θ.w) (kvs:=kvs) (ep:=ep) lo) (a.C.quiet qt) a.T.F a.T.N hD (gw<|by rw[hr.len];exact hl') λB n h' tk vs F' N' fresh lv hv=>?_
  have rv:cK r.φ (es.map λe=>MV.int e.1) vs:=cK.of_get (by rw[lv,hr.len,List.length_map]) λj v x hj hx=>(hv j x hx).elim λk z=>z.elim λy z=>by
   rw[List.getElem?_map]at hj
   obtain⟨e,he,rfl⟩:=Option.map_eq_some_iff.mp hj
   have h1:(kvs.map (·.1))[j]?=some k:=by rw[List.getElem?_map,z.1];rfl
   rw[hr.keys,List.getElem?_map,he]at h1
   cases aaf h1
   exact yV z.2
  have Z:=a.newL (tk:=tk) fresh F' N' rv<|by rw[List.length_map];exact hl'
  exact Z.a.fin (b:=MV.ref H.n) Z.l dD.j7 hq
def QH(O:bL θ.S θ.w){b:BF}{vs:List MV}(h:Om θ.S b vs H Q):dc θ u Lc H X vs (aU b.fv) VR Q:=by
 cases b with
 |len=>exact nU (P:=λvs=>dc θ u Lc H X vs (aU<|.builtin "len") VR Q) h λv h=>KQ h
 |int=>exact nU (P:=λvs=>dc θ u Lc H X vs (aU<|.type "int") VR Q) h λv h=>Ei (P:=λv=>dc θ u Lc H X [v] (aU<|.type "int") VR Q) h λl h=>cX h.2 λn e q=>.Gh q λΓ E r x a h1 R k=>je (P:=λx=>wpAny _ _ (aU _ [x]) _ _ _) h1 λt=>PySem.W.KIN.call_text e (by have:=h.1;rw[iD];omega)<|k _ _ ⟨_,rfl⟩
 |isinstance=>exact Gq (P:=λvs=>dc θ u Lc H X vs (aU<|.builtin "isinstance") VR Q) h λv d h=>KU O h
 |list=>exact nU (P:=λvs=>dc θ u Lc H X vs (aU<|.type "list") VR Q) h λv h=>rF (P:=λv=>dc θ u Lc H X [v] (aU<|.type "list") VR Q) h λi h=>Gb h λes hi h=>KV h.1 hi h.2
def wA{i:Nat}{xs:List MV}{v:MV}(hi:H.at_ i=some (.list xs))(hl:xs.length<dg)(hq:Q .none<|H.put i<|.list<|xs++[v]):dc θ u Lc H X [.ref i,v] (aU<|.builtin "list.append") VR Q:=
 λΓ E r ws a y=>y.e2 (P:=λws=>Go θ Γ E r (aU _ ws) _) λx y h1 hy=>eY (P:=λx=>Go θ Γ E r (aU _ [x,y]) _) h1 λp hp=>d8.sG (a.T.R.obj i _ hi) a (λ_ h=>h) hp λvs n m _ w _ e=>
  have E1:vs.toArray.push y=(vs++[y]).toArray:=by simp
  append_K a.T.F a.T.N (E1▸oZ (listOf (vs.toArray.push y)<|n+1) (lS a.T.R.nodup m):Upd p.1 (listOf vs.toArray n) (listOf (vs.toArray.push y)<|n+1) r.φ.news _) (λh' F' N'=>
   have Z:=a.Gi (vs':=vs++[y]) (n':=n+1) (tk:=r.s.toks) hi hp m F' (E1▸N') (w.append<|.one hy) (by rw[List.length_append];exact hl)
   Z.a.fin (b:=MV.none) Z.l rfl hq) (gw<|by rw[List.size_toArray,e];exact b6 hl)
def Az(y:Value)(p:List Value):kl_last (p++[y])=some (p,y):=
 p.rec rfl λx p ih=>by
  show(match kl_last (p++[y])with|some (q,z)=>some (x::q,z)|none=>some ([],x))=some (x::p,y)
  rw[ih]
def QI{i:Nat}{xs:List MV}{v:MV}(hi:H.at_ i=some (.list<|xs++[v]))(hq:Q v<|H.put i<|.list xs):dc θ u Lc H X [.ref i] (aU<|.builtin "list.pop") VR Q:=
 λΓ E r ws a y=>y.e1 (P:=λws=>Go θ Γ E r (aU _ ws) _) λx h1=>eY (P:=λx=>Go θ Γ E r (aU _ [x]) _) h1 λp hp=>d8.sG (a.T.R.obj i _ hi) a (λ_ h=>h) hp λvs n m _ w l e=>w.Aj λc d ev wc wd=>by
  subst ev
  refine wd.e1 (P:=λd=>(p.1,listOf (c++d).toArray n)∈r.φ.news->(c++d).length=(xs++[v]).length->Go θ Γ E r (aU _ [.ref p.1]) _) (λy hy m e=>?_) m e
  rw[List.length_append]at l
  have lx:xs.length<=1000000:=Nat.le_of_succ_le l
  exact kl_pop (p:=c) (y:=y) a.T.F a.T.N (by rw[List.toList_toArray];exact Az y c) (oZ (listOf c.toArray<|n+1)<|lS a.T.R.nodup m) (by rw[List.toList_toArray,e,List.length_append];exact gw l) λh' F' N'=>
   have Z:=a.Gi (vs':=c) (n':=n+1) (tk:=r.s.toks) hi hp m F' N' wc lx
   Z.a.fin Z.l (hy.ext Z.l.x) hq
def KW{i:Nat}{xs:List MV}{v:MV}(hi:H.at_ i=some (.list<|v::xs))(hq:Q v<|H.put i<|.list xs):dc θ u Lc H X [.ref i,.int 0] (aU<|.builtin "list.pop") VR Q:=
 λΓ E r ws a y=>y.e2 (P:=λws=>Go θ Γ E r (aU _ ws) _) λx z h1 hz=>eY (P:=λx=>Go θ Γ E r (aU _ [x,z]) _) h1 λp hp=>nS (P:=λz=>Go θ Γ E r (aU _ [_,z]) _) hz λt=>d8.sG (a.T.R.obj i _ hi) a (λ_ h=>h) hp λvs n m _ w l e=>dG w λy c ev hy wc=>by
  subst ev
  exact kl_popAt (i:=0) (k:=0) (p:=[]) (q:=c) (y:=y) a.T.F a.T.N (by decide) (by simp[seqIndex?]) rfl (oZ (listOf c.toArray<|n+1)<|lS a.T.R.nodup m) (by rw[List.toList_toArray,e];exact gw l) λh' F' N'=>
   have Z:=a.Gi (vs':=c) (n':=n+1) (tk:=r.s.toks) hi hp m F' N' wc (Nat.le_of_succ_le l)
   Z.a.fin Z.l (hy.ext Z.l.x) hq
def El{i j:Nat}{xs ys:List MV}(hi:H.at_ i=some (.list xs))(hj:H.at_ j=some (.list ys))(hl:xs.length+ys.length<=dg)(hq:Q .none<|H.put i<|.list<|xs++ys):dc θ u Lc H X [.ref i,.ref j] (aU<|.builtin "list.extend") VR Q:=
 λΓ E r ws a y=>y.e2 (P:=λws=>Go θ Γ E r (aU _ ws) _) λx z h1 hz=>eY (P:=λx=>Go θ Γ E r (aU _ [x,z]) _) h1 λp hp=>eY (P:=λz=>Go θ Γ E r (aU _ [_,z]) _) hz λq hp2=>
  d8.sG (a.T.R.obj i _ hi) a (λ_ h=>h) hp λvs n m _ w _ e=>d8.sG (a.T.R.obj j _ hj) a (λ_ h=>h) hp2 λus n2 m2 _ w2 _ e2=>by
  have z2:vs.toArray.size+us.toArray.size<=sizeLine:=by rw[List.size_toArray,List.size_toArray,e,e2];exact gw hl
  have hd:¬(!vs.toArray.isEmpty&&Builtin.List.listTooLong (vs.toArray.size+us.toArray.size))=true:=by
   unfold Builtin.List.listTooLong
   rw[aad (Nat.not_lt.mpr<|by rw[sizeLine_eq]at z2;exact z2),Bool.and_false];exact aap
  have z1:vs.toArray.toList.length<=sizeLine:=av (aah _ _) z2
  cases us with
  |nil=>
   cases ys with
   |cons=>cases e2
   |nil=>
    rw[List.append_nil]at hq
    exact kxn_extend a.T.F a.T.N m2 rfl (oZ (listOf vs.toArray n)<|lS a.T.R.nodup m) hd z1 (Nat.le_succ_of_le z2) λh' F' N'=>
     have Z:=a.Gi (vs':=vs) (n':=n) (tk:=r.s.toks) hi hp m F' N' w (by have h:xs.length+0<=dg:=hl;exact h)
     Z.a.fin (b:=MV.none) Z.l rfl hq
  |cons c us=>
   exact kl_extend a.T.F a.T.N m2 (l:=vs++c::us) (by simp) (by simp) (oZ (listOf (vs++c::us).toArray<|n+1)<|lS a.T.R.nodup m) hd z1 (Nat.le_succ_of_le z2) λh' F' N'=>
    have Z:=a.Gi (vs':=vs++c::us) (n':=n+1) (tk:=r.s.toks) hi hp m F' N' (w.append w2) (by rw[List.length_append];exact hl)
    Z.a.fin (b:=MV.none) Z.l rfl hq
def Gu(ys:List<|List Nat):Str.join ⟨#[]⟩ (ys.map aW)=aW ys.flatten:=ys.rec rfl λy ys ih=>by rw[List.map_cons,join_nil_cons,ih];exact Qy y _
def KX{φ:dD}{l:List MV}:∀{ys:List (List Nat)} {ws:List Value},iz l=some ys->cK φ l ws->∃zs:List<|Str×Tok,ws=strValues zs/\zs.map (·.1)=ys.map aW:=
 l.rec (motive:=λl=>∀{ys:List (List Nat)} {ws:List Value},iz l=some ys->cK φ l ws->∃zs:List<|Str×Tok,ws=strValues zs/\zs.map (·.1)=ys.map aW) (λh e=>by cases h;cases e;exact⟨[],rfl,rfl⟩) λv l ih ys ws h e=>dG e λx r e a b=>by
  subst e
  cases v with
  |str s=>exact(Option.map_eq_some_iff.mp h).elim λzs z=>by obtain⟨z,rfl⟩:=z;exact(ih z b).elim λq e=>je (P:=λx=>∃z':List<|Str×Tok,x::r=strValues z'/\z'.map (·.1)=(s::zs).map aW) a λt=>⟨(aW s,t)::q,aac (Value.str (aW s) t::·) e.1,aac (aW s::·) e.2⟩
  |_=>exact nn rfl h
def KY{i:Nat}{xs:List MV}{ys:List (List Nat)}(hi:H.at_ i=some (.list xs))(hy:iz xs=some ys)(hl:(ys.map List.length).sum+ys.length<=dg)(hq:Q (.str ys.flatten) H):dc θ u Lc H X [.str [],.ref i] (aU<|.builtin "str.join") VR Q:=
 .g8 hq λΓ E r x y a h1 h2 R k=>je (P:=λx=>wpAny _ _ (aU _ [x,y]) _ _ _) h1 λt=>eY (P:=λy=>wpAny _ _ (aU _ [_,y]) _ _ _) h2 λp hp=>d8.sG (a.T.R.obj i _ hi) a (λ_ h=>h) hp λvs n _ z w _ _=>(KX hy w).elim λzs ez=>by
  obtain⟨rfl,ez⟩:=ez
  refine SC.join (x:=aW []) (texts:=ys.map aW) (l:=zs) z ez (joinOk_of_weight ?_<|by simp[Str.length]) λt' tk=>?_
  ·rw[List.map_map,show((·.length)∘aW:List Nat->Nat)=List.length from funext iD,List.length_map]
   exact av hl<|by decide
  ·rw[show Txt.join (aW []) (ys.map aW)=aW ys.flatten from(StrLaws.glued_eq_join _ _).trans (Gu ys)]
   exact k _ _ ⟨_,rfl⟩
def KZ{i:Nat}{vs:List MV}(h:Uv i vs H Q):dc θ u Lc H X (.ref i::vs) (aU<|.builtin "list.pop") VR Q:=listE h λxs hi h=>by
 cases vs with
 |nil=>exact h.elim λys h=>h.elim λu h=>QI (h.1▸hi) h.2
 |cons v rs=>
  cases rs with
  |nil=>exact yP (P:=λv=>dc θ u Lc H X [.ref i,v] (aU<|.builtin "list.pop") VR Q) h λk h=>h.1▸h.2.elim λu h=>h.elim λys h=>KW (h.1▸hi) h.2
  |cons=>exact h.elim
def QK{m:KM}{v:MV}{vs:List MV}(h:Ad m v vs H Q):dc θ u Lc H X (v::vs) (aU<|.builtin m.id) VR Q:=by
 cases m with
 |append=>exact rF (P:=λv=>dc θ u Lc H X (v::vs) (aU<|.builtin "list.append") VR Q) h λi h=>nU (P:=λvs=>dc θ u Lc H X (.ref i::vs) (aU<|.builtin "list.append") VR Q) h λw h=>listE h λxs hi h=>wA hi h.1 h.2
 |pop=>exact rF (P:=λv=>dc θ u Lc H X (v::vs) (aU<|.builtin "list.pop") VR Q) h λi h=>KZ h
 |extend=>exact rF (P:=λv=>dc θ u Lc H X (v::vs) (aU<|.builtin "list.extend") VR Q) h λi h=>nU (P:=λvs=>dc θ u Lc H X (.ref i::vs) (aU<|.builtin "list.extend") VR Q) h λw h=>rF (P:=λw=>dc θ u Lc H X [.ref i,w] (aU<|.builtin "list.extend") VR Q) h λj h=>listE h λxs hi h=>listE h λys hj h=>El hi hj h.1 h.2
 |join=>exact Ei (P:=λv=>dc θ u Lc H X (v::vs) (aU<|.builtin "str.join") VR Q) h λs h=>nU (P:=λvs=>dc θ u Lc H X (.str s::vs) (aU<|.builtin "str.join") VR Q) h.2 λw k=>rF (P:=λw=>dc θ u Lc H X [.str s,w] (aU<|.builtin "str.join") VR Q) k λi k=>listE k λxs hi k=>cX k λys e k=>h.1▸KY hi e k.1 k.2
def K0{o i v:MV}{K:MH->Prop}(h:vP o i v H K):dc θ u Lc H X [o,i,v] KH Al λ_ H'=>K H':=rF (P:=λo=>dc θ u Lc H X [o,i,v] KH Al λ_ H'=>K H') h λj h=>by
 cases i with
 |int k=>exact Gb h λes hi h=>(Oi θ).set hi h.1 h.2
 |str k=>exact Qw h λes hi h=>(Oh θ).set hi h.1 h.2
 |_=>exact h.elim
def K3{o i:MV}{K:MH->Prop}(h:Ax o i H K):dc θ u Lc H X [o,i] Gg Al λ_ H'=>K H':=rF (P:=λo=>dc θ u Lc H X [o,i] Gg Al λ_ H'=>K H') h λj h=>yP (P:=λi=>dc θ u Lc H X [.ref j,i] Gg Al λ_ H'=>K H') h λk h=>Gb h λes hi h=>(Oi θ).del hi h.1 h.2
end
def nI{P C:Prop}[Decidable P]{f:P->Bool}(q:¬P)(h:dite P f (λ_=>false)=true):C:=aan ((dif_neg q).symm.trans h) aap
noncomputable def tB(e:Expr)(k:Const->Bool):Bool:=if h:e.ctorIdx=19 then Expr.Constant.elim (motive_1:=λ_=>Bool) e h λc _ _=>k c else false
def gp{C:Prop}{e:Expr}{k:Const->Bool}(h:tB e k=true)(cc:∀c n p,e=.Constant c n p->k c=true->C):C:=
 if q:e.ctorIdx=19 then Expr.Constant.elim (motive_1:=λz=>tB z k=true->(∀c n p,z=.Constant c n p->k c=true->C)->C) e q (λc n p h cc=>cc c n p rfl h) h cc else nI q h
noncomputable def gr(e:Expr)(k:Str->Bool):Bool:=if h:e.ctorIdx=23 then Expr.Name.elim (motive_1:=λ_=>Bool) e h λx _=>k x else false
def bh{C:Prop}{e:Expr}{k:Str->Bool}(h:gr e k=true)(cc:∀x p,e=.Name x p->k x=true->C):C:=
 if q:e.ctorIdx=23 then Expr.Name.elim (motive_1:=λz=>gr z k=true->(∀x p,z=.Name x p->k x=true->C)->C) e q (λx p h cc=>cc x p rfl h) h cc else nI q h
noncomputable def nV(e:Expr)(k:Expr->Str->Pos->Bool):Bool:=if h:e.ctorIdx=20 then Expr.Attribute.elim (motive_1:=λ_=>Bool) e h λo x p=>k o x p else false
def f7{C:Prop}{e:Expr}{k:Expr->Str->Pos->Bool}(h:nV e k=true)(cc:∀o x p,e=.Attribute o x p->k o x p=true->C):C:=
 if q:e.ctorIdx=20 then Expr.Attribute.elim (motive_1:=λz=>nV z k=true->(∀o x p,z=.Attribute o x p->k o x p=true->C)->C) e q (λo x p h cc=>cc o x p rfl h) h cc else nI q h
noncomputable def mX(e:Expr)(k:Expr->List Expr->List Keyword->Pos->Bool):Bool:=if h:e.ctorIdx=16 then Expr.Call.elim (motive_1:=λ_=>Bool) e h λg es ks p=>k g es ks p else false
def dY{C:Prop}{e:Expr}{k:Expr->List Expr->List Keyword->Pos->Bool}(h:mX e k=true)(cc:∀g es ks p,e=.Call g es ks p->k g es ks p=true->C):C:=
 if q:e.ctorIdx=16 then Expr.Call.elim (motive_1:=λz=>mX z k=true->(∀g es ks p,z=.Call g es ks p->k g es ks p=true->C)->C) e q (λg es ks p h cc=>cc g es ks p rfl h) h cc else nI q h
noncomputable def Gx(e:Expr)(k:Expr->Operator->Expr->Bool):Bool:=if h:e.ctorIdx=2 then Expr.BinOp.elim (motive_1:=λ_=>Bool) e h λl o r _=>k l o r else false
def xO{C:Prop}{e:Expr}{k:Expr->Operator->Expr->Bool}(h:Gx e k=true)(cc:∀l o r p,e=.BinOp l o r p->k l o r=true->C):C:=
 if q:e.ctorIdx=2 then Expr.BinOp.elim (motive_1:=λz=>Gx z k=true->(∀l o r p,z=.BinOp l o r p->k l o r=true->C)->C) e q (λl o r p h cc=>cc l o r p rfl h) h cc else nI q h
noncomputable def Em(e:Expr)(k:Expr->List CmpOp->List Expr->Bool):Bool:=if h:e.ctorIdx=15 then Expr.Compare.elim (motive_1:=λ_=>Bool) e h λl os rs _=>k l os rs else false
def rH{C:Prop}{e:Expr}{k:Expr->List CmpOp->List Expr->Bool}(h:Em e k=true)(cc:∀l os rs p,e=.Compare l os rs p->k l os rs=true->C):C:=
 if q:e.ctorIdx=15 then Expr.Compare.elim (motive_1:=λz=>Em z k=true->(∀l os rs p,z=.Compare l os rs p->k l os rs=true->C)->C) e q (λl os rs p h cc=>cc l os rs p rfl h) h cc else nI q h
noncomputable def K4(e:Expr)(k:BoolOp->List Expr->Bool):Bool:=if h:e.ctorIdx=0 then Expr.BoolOp.elim (motive_1:=λ_=>Bool) e h λo es _=>k o es else false
def Gy{C:Prop}{e:Expr}{k:BoolOp->List Expr->Bool}(h:K4 e k=true)(cc:∀o es p,e=.BoolOp o es p->k o es=true->C):C:=
 if q:e.ctorIdx=0 then Expr.BoolOp.elim (motive_1:=λz=>K4 z k=true->(∀o es p,z=.BoolOp o es p->k o es=true->C)->C) e q (λo es p h cc=>cc o es p rfl h) h cc else nI q h
noncomputable def Uy(e:Expr)(k:UnaryOp->Expr->Bool):Bool:=if h:e.ctorIdx=3 then Expr.UnaryOp.elim (motive_1:=λ_=>Bool) e h λo a _=>k o a else false
def Gz{C:Prop}{e:Expr}{k:UnaryOp->Expr->Bool}(h:Uy e k=true)(cc:∀o a p,e=.UnaryOp o a p->k o a=true->C):C:=
 if q:e.ctorIdx=3 then Expr.UnaryOp.elim (motive_1:=λz=>Uy z k=true->(∀o a p,z=.UnaryOp o a p->k o a=true->C)->C) e q (λo a p h cc=>cc o a p rfl h) h cc else nI q h
noncomputable def Xn(e:Expr)(k:Expr->Expr->Expr->Bool):Bool:=if h:e.ctorIdx=5 then Expr.IfExp.elim (motive_1:=λ_=>Bool) e h λa b d _=>k a b d else false
def Uz{C:Prop}{e:Expr}{k:Expr->Expr->Expr->Bool}(h:Xn e k=true)(cc:∀a b d p,e=.IfExp a b d p->k a b d=true->C):C:=
 if q:e.ctorIdx=5 then Expr.IfExp.elim (motive_1:=λz=>Xn z k=true->(∀a b d p,z=.IfExp a b d p->k a b d=true->C)->C) e q (λa b d p h cc=>cc a b d p rfl h) h cc else nI q h
noncomputable def xP(e:Expr)(k:Expr->Expr->Bool):Bool:=if h:e.ctorIdx=21 then Expr.Subscript.elim (motive_1:=λ_=>Bool) e h λa b _=>k a b else false
def lW{C:Prop}{e:Expr}{k:Expr->Expr->Bool}(h:xP e k=true)(cc:∀a b p,e=.Subscript a b p->k a b=true->C):C:=
 if q:e.ctorIdx=21 then Expr.Subscript.elim (motive_1:=λz=>xP z k=true->(∀a b p,z=.Subscript a b p->k a b=true->C)->C) e q (λa b p h cc=>cc a b p rfl h) h cc else nI q h
noncomputable def K5(e:Expr)(k:Option Expr->Option Expr->Option Expr->Bool):Bool:=if h:e.ctorIdx=26 then Expr.Slice.elim (motive_1:=λ_=>Bool) e h λa b d _=>k a b d else false
def GA{C:Prop}{e:Expr}{k:Option Expr->Option Expr->Option Expr->Bool}(h:K5 e k=true)(cc:∀a b d p,e=.Slice a b d p->k a b d=true->C):C:=
 if q:e.ctorIdx=26 then Expr.Slice.elim (motive_1:=λz=>K5 z k=true->(∀a b d p,z=.Slice a b d p->k a b d=true->C)->C) e q (λa b d p h cc=>cc a b d p rfl h) h cc else nI q h
noncomputable def QM(e:Expr)(k:List Expr->Bool):Bool:=if h:e.ctorIdx=24 then Expr.List.elim (motive_1:=λ_=>Bool) e h λes _=>k es else false
def QN{C:Prop}{e:Expr}{k:List Expr->Bool}(h:QM e k=true)(cc:∀es p,e=.List es p->k es=true->C):C:=
 if q:e.ctorIdx=24 then Expr.List.elim (motive_1:=λz=>QM z k=true->(∀es p,z=.List es p->k es=true->C)->C) e q (λes p h cc=>cc es p rfl h) h cc else nI q h
noncomputable def AA(e:Expr)(k:List Expr->Bool):Bool:=if h:e.ctorIdx=25 then Expr.Tuple.elim (motive_1:=λ_=>Bool) e h λes _ _=>k es else false
def uA{C:Prop}{e:Expr}{k:List Expr->Bool}(h:AA e k=true)(cc:∀es n p,e=.Tuple es n p->k es=true->C):C:=
 if q:e.ctorIdx=25 then Expr.Tuple.elim (motive_1:=λz=>AA z k=true->(∀es n p,z=.Tuple es n p->k es=true->C)->C) e q (λes n p h cc=>cc es n p rfl h) h cc else nI q h
noncomputable def GB(e:Expr)(k:List (Option Expr)->List Expr->Bool):Bool:=if h:e.ctorIdx=6 then Expr.Dict.elim (motive_1:=λ_=>Bool) e h λks vs _=>k ks vs else false
def AB{C:Prop}{e:Expr}{k:List (Option Expr)->List Expr->Bool}(h:GB e k=true)(cc:∀ks vs p,e=.Dict ks vs p->k ks vs=true->C):C:=
 if q:e.ctorIdx=6 then Expr.Dict.elim (motive_1:=λz=>GB z k=true->(∀ks vs p,z=.Dict ks vs p->k ks vs=true->C)->C) e q (λks vs p h cc=>cc ks vs p rfl h) h cc else nI q h
noncomputable def QS(e:Expr)(k:Expr->List Comprehension->Scope->Bool):Bool:=if h:e.ctorIdx=8 then Expr.ListComp.elim (motive_1:=λ_=>Bool) e h λl cs s _=>k l cs s else false
def QW{C:Prop}{e:Expr}{k:Expr->List Comprehension->Scope->Bool}(h:QS e k=true)(cc:∀l cs s p,e=.ListComp l cs s p->k l cs s=true->C):C:=
 if q:e.ctorIdx=8 then Expr.ListComp.elim (motive_1:=λz=>QS z k=true->(∀l cs s p,z=.ListComp l cs s p->k l cs s=true->C)->C) e q (λl cs s p h cc=>cc l cs s p rfl h) h cc else nI q h
noncomputable def Eo(e:Stmt)(k:Option Expr->Bool):Bool:=if h:e.ctorIdx=3 then Stmt.Return.elim (motive_2:=λ_=>Bool) e h λv _=>k v else false
def xQ{C:Prop}{e:Stmt}{k:Option Expr->Bool}(h:Eo e k=true)(cc:∀v p,e=.Return v p->k v=true->C):C:=
 if q:e.ctorIdx=3 then Stmt.Return.elim (motive_2:=λz=>Eo z k=true->(∀v p,z=.Return v p->k v=true->C)->C) e q (λv p h cc=>cc v p rfl h) h cc else nI q h
noncomputable def GC(e:Stmt)(k:Expr->Bool):Bool:=if h:e.ctorIdx=24 then Stmt.Expr.elim (motive_2:=λ_=>Bool) e h λv _=>k v else false
def AD{C:Prop}{e:Stmt}{k:Expr->Bool}(h:GC e k=true)(cc:∀v p,e=.Expr v p->k v=true->C):C:=
 if q:e.ctorIdx=24 then Stmt.Expr.elim (motive_2:=λz=>GC z k=true->(∀v p,z=.Expr v p->k v=true->C)->C) e q (λv p h cc=>cc v p rfl h) h cc else nI q h
noncomputable def uB(e:Stmt)(k:List Expr->Expr->Bool):Bool:=if h:e.ctorIdx=5 then Stmt.Assign.elim (motive_2:=λ_=>Bool) e h λts v _=>k ts v else false
def lX{C:Prop}{e:Stmt}{k:List Expr->Expr->Bool}(h:uB e k=true)(cc:∀ts v p,e=.Assign ts v p->k ts v=true->C):C:=
 if q:e.ctorIdx=5 then Stmt.Assign.elim (motive_2:=λz=>uB z k=true->(∀ts v p,z=.Assign ts v p->k ts v=true->C)->C) e q (λts v p h cc=>cc ts v p rfl h) h cc else nI q h
noncomputable def K6(e:Stmt)(k:Expr->Operator->Expr->Bool):Bool:=if h:e.ctorIdx=7 then Stmt.AugAssign.elim (motive_2:=λ_=>Bool) e h λt o v _=>k t o v else false
def GD{C:Prop}{e:Stmt}{k:Expr->Operator->Expr->Bool}(h:K6 e k=true)(cc:∀t o v p,e=.AugAssign t o v p->k t o v=true->C):C:=
 if q:e.ctorIdx=7 then Stmt.AugAssign.elim (motive_2:=λz=>K6 z k=true->(∀t o v p,z=.AugAssign t o v p->k t o v=true->C)->C) e q (λt o v p h cc=>cc t o v p rfl h) h cc else nI q h
noncomputable def K7(e:Stmt)(k:Expr->List Stmt->List Stmt->Bool):Bool:=if h:e.ctorIdx=12 then Stmt.If.elim (motive_2:=λ_=>Bool) e h λt a b _=>k t a b else false
def GF{C:Prop}{e:Stmt}{k:Expr->List Stmt->List Stmt->Bool}(h:K7 e k=true)(cc:∀t a b p,e=.If t a b p->k t a b=true->C):C:=
 if q:e.ctorIdx=12 then Stmt.If.elim (motive_2:=λz=>K7 z k=true->(∀t a b p,z=.If t a b p->k t a b=true->C)->C) e q (λt a b p h cc=>cc t a b p rfl h) h cc else nI q h
noncomputable def QY(e:Stmt)(k:Expr->List Stmt->List Stmt->Bool):Bool:=if h:e.ctorIdx=11 then Stmt.While.elim (motive_2:=λ_=>Bool) e h λt a b _=>k t a b else false
def QZ{C:Prop}{e:Stmt}{k:Expr->List Stmt->List Stmt->Bool}(h:QY e k=true)(cc:∀t a b p,e=.While t a b p->k t a b=true->C):C:=
 if q:e.ctorIdx=11 then Stmt.While.elim (motive_2:=λz=>QY z k=true->(∀t a b p,z=.While t a b p->k t a b=true->C)->C) e q (λt a b p h cc=>cc t a b p rfl h) h cc else nI q h
noncomputable def AE(e:Stmt)(k:Expr->Expr->List Stmt->List Stmt->Bool):Bool:=if h:e.ctorIdx=9 then Stmt.For.elim (motive_2:=λ_=>Bool) e h λt i a b _=>k t i a b else false
def uC{C:Prop}{e:Stmt}{k:Expr->Expr->List Stmt->List Stmt->Bool}(h:AE e k=true)(cc:∀t i a b p,e=.For t i a b p->k t i a b=true->C):C:=
 if q:e.ctorIdx=9 then Stmt.For.elim (motive_2:=λz=>AE z k=true->(∀t i a b p,z=.For t i a b p->k t i a b=true->C)->C) e q (λt i a b p h cc=>cc t i a b p rfl h) h cc else nI q h
noncomputable def K8(e:Stmt)(k:List Stmt->List ExceptHandler->List Stmt->List Stmt->Bool):Bool:=if h:e.ctorIdx=17 then Stmt.Try.elim (motive_2:=λ_=>Bool) e h λa hs b fb _=>k a hs b fb else false
def GG{C:Prop}{e:Stmt}{k:List Stmt->List ExceptHandler->List Stmt->List Stmt->Bool}(h:K8 e k=true)(cc:∀a hs b fb p,e=.Try a hs b fb p->k a hs b fb=true->C):C:=
 if q:e.ctorIdx=17 then Stmt.Try.elim (motive_2:=λz=>K8 z k=true->(∀a hs b fb p,z=.Try a hs b fb p->k a hs b fb=true->C)->C) e q (λa hs b fb p h cc=>cc a hs b fb p rfl h) h cc else nI q h
noncomputable def Q0(e:Stmt)(k:List Expr->Bool):Bool:=if h:e.ctorIdx=4 then Stmt.Delete.elim (motive_2:=λ_=>Bool) e h λts _=>k ts else false
def Q3{C:Prop}{e:Stmt}{k:List Expr->Bool}(h:Q0 e k=true)(cc:∀ts p,e=.Delete ts p->k ts=true->C):C:=
 if q:e.ctorIdx=4 then Stmt.Delete.elim (motive_2:=λz=>Q0 z k=true->(∀ts p,z=.Delete ts p->k ts=true->C)->C) e q (λts p h cc=>cc ts p rfl h) h cc else nI q h
noncomputable def Q4(e:Stmt)(k:Expr->Bool):Bool:=if h:e.ctorIdx=19 then Stmt.Assert.elim (motive_2:=λ_=>Bool) e h λt _ _=>k t else false
def Q5{C:Prop}{e:Stmt}{k:Expr->Bool}(h:Q4 e k=true)(cc:∀t m p,e=.Assert t m p->k t=true->C):C:=
 if q:e.ctorIdx=19 then Stmt.Assert.elim (motive_2:=λz=>Q4 z k=true->(∀t m p,z=.Assert t m p->k t=true->C)->C) e q (λt m p h cc=>cc t m p rfl h) h cc else nI q h
noncomputable def Q6(e:Stmt)(k:Pos->Bool):Bool:=if h:e.ctorIdx=25 then Stmt.Pass.elim (motive_2:=λ_=>Bool) e h λp=>k p else false
def Q7{C:Prop}{e:Stmt}{k:Pos->Bool}(h:Q6 e k=true)(cc:∀p,e=.Pass p->k p=true->C):C:=
 if q:e.ctorIdx=25 then Stmt.Pass.elim (motive_2:=λz=>Q6 z k=true->(∀p,z=.Pass p->k p=true->C)->C) e q (λp h cc=>cc p rfl h) h cc else nI q h
noncomputable def Q8(e:Stmt)(k:Pos->Bool):Bool:=if h:e.ctorIdx=26 then Stmt.Break.elim (motive_2:=λ_=>Bool) e h λp=>k p else false
def Q9{C:Prop}{e:Stmt}{k:Pos->Bool}(h:Q8 e k=true)(cc:∀p,e=.Break p->k p=true->C):C:=
 if q:e.ctorIdx=26 then Stmt.Break.elim (motive_2:=λz=>Q8 z k=true->(∀p,z=.Break p->k p=true->C)->C) e q (λp h cc=>cc p rfl h) h cc else nI q h
noncomputable def Ra(e:Stmt)(k:Pos->Bool):Bool:=if h:e.ctorIdx=27 then Stmt.Continue.elim (motive_2:=λ_=>Bool) e h λp=>k p else false
def Rb{C:Prop}{e:Stmt}{k:Pos->Bool}(h:Ra e k=true)(cc:∀p,e=.Continue p->k p=true->C):C:=
 if q:e.ctorIdx=27 then Stmt.Continue.elim (motive_2:=λz=>Ra z k=true->(∀p,z=.Continue p->k p=true->C)->C) e q (λp h cc=>cc p rfl h) h cc else nI q h
noncomputable def Rc(e:Stmt)(k:Option Expr->Option Expr->Bool):Bool:=if h:e.ctorIdx=16 then Stmt.Raise.elim (motive_2:=λ_=>Bool) e h λa b _=>k a b else false
def Rf{C:Prop}{e:Stmt}{k:Option Expr->Option Expr->Bool}(h:Rc e k=true)(cc:∀a b p,e=.Raise a b p->k a b=true->C):C:=
 if q:e.ctorIdx=16 then Stmt.Raise.elim (motive_2:=λz=>Rc z k=true->(∀a b p,z=.Raise a b p->k a b=true->C)->C) e q (λa b p h cc=>cc a b p rfl h) h cc else nI q h
noncomputable def Xo(e:Const)(k:Str->Bool):Bool:=if h:e.ctorIdx=5 then Const.str.elim (motive:=λ_=>Bool) e h λx=>k x else false
def UA{C:Prop}{e:Const}{k:Str->Bool}(h:Xo e k=true)(cc:∀x,e=.str x->k x=true->C):C:=
 if q:e.ctorIdx=5 then Const.str.elim (motive:=λz=>Xo z k=true->(∀x,z=.str x->k x=true->C)->C) e q (λx h cc=>cc x rfl h) h cc else nI q h
noncomputable def Xp:ExceptHandler->Option Expr
 |.ExceptHandler t _ _ _=>t
noncomputable def Xq:ExceptHandler->Option Str
 |.ExceptHandler _ n _ _=>n
noncomputable def Xr:ExceptHandler->List Stmt
 |.ExceptHandler _ _ b _=>b
noncomputable def l1{α:Type}(l:List α)(k:α->Bool):Bool:=match l with
 |[a]=>k a
 |_=>false
def jk{α:Type}{C:Prop}{l:List α}{k:α->Bool}(h:l1 l k=true)(c:∀a,l=[a]->k a=true->C):C:=by
 rcases l with _|⟨a,_|⟨b,l⟩⟩<;>first|exact c _ rfl h|exact aan h aap
noncomputable def l2{α:Type}(l:List α)(k:α->α->Bool):Bool:=match l with
 |[a,b]=>k a b
 |_=>false
def AF{α:Type}{C:Prop}{l:List α}{k:α->α->Bool}(h:l2 l k=true)(c:∀a b,l=[a,b]->k a b=true->C):C:=by
 rcases l with _|⟨a,_|⟨b,_|⟨d,l⟩⟩⟩<;>first|exact c _ _ rfl h|exact aan h aap
noncomputable def l3{α:Type}(l:List α)(k:α->α->α->Bool):Bool:=match l with
 |[a,b,d]=>k a b d
 |_=>false
def Xs{α:Type}{C:Prop}{l:List α}{k:α->α->α->Bool}(h:l3 l k=true)(c:∀a b d,l=[a,b,d]->k a b d=true->C):C:=by
 rcases l with _|⟨a,_|⟨b,_|⟨d,_|⟨e,l⟩⟩⟩⟩<;>first|exact c _ _ _ rfl h|exact aan h aap
noncomputable def l4{α:Type}(l:List α)(k:α->α->α->α->Bool):Bool:=match l with
 |[a,b,d,e]=>k a b d e
 |_=>false
def Xu{α:Type}{C:Prop}{l:List α}{k:α->α->α->α->Bool}(h:l4 l k=true)(c:∀a b d e,l=[a,b,d,e]->k a b d e=true->C):C:=by
 rcases l with _|⟨a,_|⟨b,_|⟨d,_|⟨e,_|⟨g,l⟩⟩⟩⟩⟩<;>first|exact c _ _ _ _ rfl h|exact aan h aap
noncomputable def l0{α:Type}(l:List α)(k:Bool):Bool:=match l with
 |[]=>k
 |_=>false
def iE{α:Type}{C:Prop}{l:List α}{k:Bool}(h:l0 l k=true)(c:l=[]->k=true->C):C:=by
 cases l<;>first|exact c rfl h|exact aan h aap
noncomputable def o1{α:Type}(l:Option α)(k:α->Bool):Bool:=match l with
 |some a=>k a
 |none=>false
def xR{α:Type}{C:Prop}{l:Option α}{k:α->Bool}(h:o1 l k=true)(c:∀a,l=some a->k a=true->C):C:=by
 cases l<;>first|exact c _ rfl h|exact aan h aap
noncomputable def o0{α:Type}(l:Option α)(k:Bool):Bool:=match l with
 |none=>k
 |_=>false
def GH{α:Type}{C:Prop}{l:Option α}{k:Bool}(h:o0 l k=true)(c:l=none->k=true->C):C:=by
 cases l<;>first|exact c rfl h|exact aan h aap
def bl{a b:Bool}(h:(a&&b)=true):a=true:=(Bool.and_eq_true_iff.mp h).1
def br{a b:Bool}(h:(a&&b)=true):b=true:=(Bool.and_eq_true_iff.mp h).2
def bn{a:Bool}(h:(!a)=true):a=false:=by cases a with|true=>cases h|false=>rfl
def be{α:Type}[BEq α][LawfulBEq α]{a b:α}(h:(a==b)=true):a=b:=beq_iff_eq.mp h
def B5(θ:Th)(Γ:Gm)(E:Value->Shared->Prop)(r:Rh)(Lc:Loc)(Q:QV)(o:Result)(s:Shared):Prop:=o.casesOn (λe=>E e s) λf=>f.casesOn False False False λv=>eX r (pM θ Γ Lc VR Q) v s
def nW(S:aP)(w:World)(l:Nat)(fa:Nat)(az:List MV)(kn:List Str)(kv:List MV)(H:MH)(Q:QV)(X:MV->MH->Prop):Prop:=
 ∀(f:Fm) Lc Γ E r ws ks,At ⟨S,w,f⟩ (8*l+4) Γ E r Lc H (λx pN H'=>pN=Lc/\X x H')->cK r.φ az ws->cK r.φ kv ks->codeAny (model S.prog w) Γ.A (.call (.ref fa) ⟨ws,kn.zip ks⟩) (B5 ⟨S,w,f⟩ Γ E r Lc Q) r.s
def bH(S:aP)(w:World)(lv:Nat)(fa:Nat)(az:List MV)(kn:List Str)(kv:List MV)(H:MH)(Q:QV)(X:MV->MH->Prop):Prop:=∃l,l<lv/\nW S w l fa az kn kv H Q X
abbrev nX(θ:Th)(u:Nat)(fa:Nat)(az:List MV)(kn:List Str)(kv:List MV)(H:MH)(Q:QV)(X:MV->MH->Prop):Prop:=∃l,8*l+8<=u/\nW θ.S θ.w l fa az kn kv H Q X
structure kj(K:Frag)(f:Fm)(x:Str)(v:Value):Prop where
 here:nsIn K mainGlobals x=some (some v)∨(nsIn K mainGlobals x=some none/\bootBuiltins x=some v/\x≠"__name__")
 kind:f.sc.names.lookup x=some .globalImplicit
 nd:(x==("__debug__":Str))=false
noncomputable def bF(e:Expr):Bool:=!(e.ctorIdx==22)
noncomputable def nY(e:Expr):Bool:=!(e.ctorIdx==26)
noncomputable def AG(e:Expr):Bool:=!(e.ctorIdx==25)
def jD{e:Expr}{r:List Expr}{env:Env}(h:bF e=true):starEach (e::r) env=(false,eval e env)::starEach r env:=by
 cases e<;>first|rfl|exact(aap h).elim
def jR{e:Expr}{o i:Value}(h:nY e=true):subscripted e false o i=operate [o,i] (getItem o i):=by
 cases e<;>first|rfl|exact(aap h).elim
def dP(e:Expr):Bool:=!(e.ctorIdx==16)||(mX e λg es ks _=>!(g.ctorIdx==23)||!es.isEmpty||!ks.isEmpty)
def Ep{x:Str}{q:Pos}{es:List Expr}{ks:List Keyword}{p:Pos}{attr:Str}{env:Env}{t:Sem Value}(h:dP (.Call (.Name x q) es ks p)=true):attributeBase (.Call (.Name x q) es ks p) attr env t=t:=by
 cases es with
 |nil=>
  cases ks with
  |nil=>exact(aap h).elim
  |cons=>rfl
 |cons=>rfl
def Er{g:Expr}{es:List Expr}{ks:List Keyword}{p:Pos}{attr:Str}{env:Env}{t:Sem Value}(h:dP (.Call g es ks p)=true):attributeBase (.Call g es ks p) attr env t=t:=by
 cases g<;>first|rfl|exact Ep h
def ua{e:Expr}{attr:Str}{env:Env}{t:Sem Value}(h:dP e=true):attributeBase e attr env t=t:=by
 cases e<;>first|rfl|exact Er h
def mO(θ:Th)(u:Nat)(Lc:Loc)(X:QX)(es:List Expr):MH->(List MV->MH->Prop)->Prop:=es.rec (λH Q=>Q [] H) λe _ ih H Q=>aB θ u e Lc H (λv H1=>ih H1 λvs H2=>Q (v::vs) H2) X
noncomputable def Ov(kws:List Keyword):List Expr:=kws.map (·.value)
noncomputable def K9(kws:List Keyword):List Str:=kws.filterMap (·.arg)
noncomputable def kwOk(kws:List Keyword):Bool:=kws.all λk=>k.arg.isSome
section
variable{θ:Th}{u:Nat}{Γ:Gm}{E:Value->Shared->Prop}{r r':Rh}{Lc:Loc}{H H':MH}{Q:QV}{QB:Bool->MH->Prop}{QL Ow:List MV->MH->Prop}{X:QX}{P:Prop}
def Zx{α β:Type}{e f:Expr}{t:List Value->Sem α}{J:dD->β->α->Prop}{QJ:β->MH->Prop}(a:At θ u Γ E r Lc H X)(h:aB θ u e Lc H (λx H1=>aB θ u f Lc H1 (λy H2=>dc θ u Lc H2 X [x,y] t J QJ) X) X):
  wpAny θ.M Γ.A (eval e<|θ.f.env Γ.L) (λx s₁=>wpAny θ.M Γ.A (eval f<|θ.f.env Γ.L) (λy s₂=>wpAny θ.M Γ.A (t [x,y]) (eX r<|pM θ Γ Lc J QJ) E s₂) E s₁) E r.s:=
 a.go (h _ _ _ a) λx r1 _ _ l1 a1 v1 q=>a1.go (q _ _ _ a1) λy r2 _ _ l2 a2 v2 q=>(q _ _ _ [x,y] a2<|.two (v1.ext l2.x) v2).from (l1.trans l2)
def aB.binop{l r:Expr}{op:Operator}{pos:Pos}(h:aB θ u l Lc H (λa H1=>aB θ u r Lc H1 (λb H2=>dc θ u Lc H2 X [a,b] (bin op) VR Q) X) X):aB θ u (.BinOp l op r pos) Lc H Q X:=λ_ _ _ a=>wpAny_BinOp<|Zx a h
def aB.attr(O:bL θ.S θ.w){e:Expr}{x:Str}{pos:Pos}{k:Nat}(hn:dP e=true)(hk:θ.S.nm[k]?=some x)(h:aB θ u e Lc H (λv H1=>FE θ.S v k H1 Q) X):aB θ u (.Attribute e x pos) Lc H Q X:=λΓ E r a=>by
 refine(?_:wpAny θ.M Γ.A (eval (.Attribute e x pos)<|θ.f.env Γ.L) _ E r.s)
 rw[arm_eval_Attribute,ua hn]
 refine gf<|a.go (h _ _ _ a) λo r1 mv H1 l1 a1 v1 q=>?_
 have fin:∀{w tk} {mw:MV},VR r1.φ mw w->Q mw H1->wpAny θ.M Γ.A (letTemporaryGo e o w>>=λ_=>pure w) (eX r<|pM θ Γ Lc VR Q) E {r1.s with toks:=tk}:=λj q=>gf<|wpAny_letTemporaryGo<|aao<|(a1.tk _).fin (l1.trans .tk) j q
 cases mv with
 |ref i=>
  refine kQ v1 λp hp e=>wm q λc fs hi q=>?_
  subst e
  refine gf<|wpAny_standAt<|gf<|aax ?_
  cases hu:fs.lookup k with
  |some w=>
   rw[hu]at q
   exact j8 O.toF9 a1 hi hu hk hp λv tk j=>fin j q
  |none=>
   rw[hu]at q
   exact cX q λw hc q=>a1.T.inst hi λp' es n qy _ fr _ _ I=>by
    cases aaf (hp.symm.trans qy)
    have M:=O.ca c k x w hc hk
    exact M.val.elim λb z=>get_cls a1.T.F a1.C.X I M.get M.dict z.2.1 z.2.2 (z.1.vr (φ:=r1.φ)).handed M.Ak (fr.no k x hk hu)<|fin (z.1.vr (φ:=r1.φ)) q
 |cls c=>
  refine cX q λw hc q=>(O.cv c k x w hc hk).val.elim λmc z=>z.elim λb z=>?_
  cases v1
  exact gf<|wpAny_standAt<|gf<|aax<|cls_val a1.T.F a1.C.X z.2.1 z.2.2.1 z.2.2.2 (z.1.vr (φ:=r1.φ)).handed<|fin (z.1.vr (φ:=r1.φ)) q
 |_=>exact q.elim
def aB.bound(O:bL θ.S θ.w){e:Expr}{x:Str}{pos:Pos}{k:Nat}(hn:dP e=true)(hk:θ.S.nm[k]?=some x)(h:aB θ u e Lc H (λv H1=>dX v k H1 λi c fs=>fs.lookup k=none/\bM (θ.S.mt c k) λfa=>Q (.fj fa i) H1) X):aB θ u (.Attribute e x pos) Lc H Q X:=λΓ E r a=>by
 refine(?_:wpAny θ.M Γ.A (eval (.Attribute e x pos)<|θ.f.env Γ.L) _ E r.s)
 rw[arm_eval_Attribute,ua hn]
 refine gf<|a.go (h _ _ _ a) λo r1 mv H1 l1 a1 v1 q0=>onE q0 λi c fs e' hi q=>cX q.2 λfa hm q2=>?_
 subst e'
 refine eY (P:=λo=>wpAny θ.M Γ.A (standAt _>>=λ_=>holding [o] (getAttr o x true)>>=λw=>letTemporaryGo e o w>>=λ_=>pure w) (eX r<|pM θ Γ Lc VR Q) E r1.s) v1 λp hp=>a1.T.inst hi λp' es n qy _ fr _ _ I=>?_
 cases aaf (hp.symm.trans qy)
 have M:=O.mt c k x fa hm hk
 refine gf<|wpAny_standAt<|gf<|aax<|kbm_bound a1.T.F a1.C.X a1.T.N I M.get M.dict M.find M.Of M.Xe M.takes M.Ak (fr.no k x hk q.1) λd h' F' N' fresh=>?_
 have Z:=a1.more (tk:=r1.s.toks+1) fresh F' N'
 exact gf<|wpAny_letTemporaryGo<|aao<|Z.a.fin (J:=VR) (b:=.fj fa i) (v:=.ref d) (l1.trans Z.l) ⟨d,p,rfl,hp,.head _⟩ q2
def qG{env:Env}{pos:Pos}(es:List Expr):es.all bF=true->(backTo pos<|starEach es env).any (·.1)=false:=
 es.rec (λ_=>rfl) λe r ih h=>by
  have h:=Bool.and_eq_true_iff.mp h
  rw[jD h.1]
  exact ih h.2
def spliced_cons{A:Around}{s:Shared}{x:Sem Value}{rest:List (Bool×Sem Value)}{M:Model}{Q:List Value->Shared->Prop}(h:wpAny M A x (λv s₁=>wpAny M A (spliced rest) (λvs s₂=>Q (v::vs) s₂) E s₁) E s):wpAny M A (spliced<|(false,x)::rest) Q E s:=by
 rw[spliced]
 exact gf<|wpAny_mono h (λv s₁ z=>gf (m:=pure [v])<|aao<|gf<|aax<|wpAny_mono z (λvs s₂ z=>aao z) λ_ _ z=>z) λ_ _ z=>z
def pW{pos:Pos}(es:List Expr):∀QL H Γ E r,es.all bF=true->mO θ u Lc X es H QL->At θ u Γ E r Lc H X->Go θ Γ E r (spliced<|backTo pos<|starEach es<|θ.f.env Γ.L) (pM θ Γ Lc cK QL):=
 es.rec (λQL H Γ E r _ h a=>aao<|rG (b:=[]) a rfl h) λe es ih QL H Γ E r hn h a=>by
  have hn:=Bool.and_eq_true_iff.mp hn
  refine(?_:wpAny θ.M Γ.A (spliced<|backTo pos<|starEach (e::es)<|θ.f.env Γ.L) _ E r.s)
  rw[jD hn.1]
  exact spliced_cons (x:=eval e<|θ.f.env Γ.L) (rest:=backTo pos<|starEach es<|θ.f.env Γ.L)<|a.go (h _ _ _ a) λv r1 mv H1 l1 a1 v1 q=>a1.go (ih _ _ _ _ _ hn.2 q a1) λvs r2 yW H2 l2 a2 v2 q=>a2.fin (l1.trans l2) (iX (v1.ext l2.x) v2) q
def AH{pos:Pos}(kws:List Keyword):∀QL H Γ E r,mO θ u Lc X (Ov kws) H QL->At θ u Γ E r Lc H X->Go θ Γ E r (evalAll ((backToKw pos<|keywordEach kws<|θ.f.env Γ.L).map (·.2))) (pM θ Γ Lc cK QL):=
 kws.rec (λQL H Γ E r h a=>aao<|rG (b:=[]) a rfl h) λ⟨n,e,kp⟩ kws ih QL H Γ E r h a=>
  wpAny_evalAll_cons (x:=(do let v<-eval e<|θ.f.env Γ.L;standAt pos;pure v)) (gf<|a.go (h _ _ _ a) λv r1 mv H1 l1 a1 v1 q=>gf<|wpAny_standAt<|aao<|a1.go (ih _ _ _ _ _ q a1) λvs r2 yW H2 l2 a2 v2 q=>a2.fin (l1.trans l2) (iX (v1.ext l2.x) v2) q)
def uD{env:Env}{pos:Pos}(kws:List Keyword):kwOk kws=true->(backToKw pos<|keywordEach kws env).all (·.1.isSome)=true/\(backToKw pos<|keywordEach kws env).filterMap (·.1)=K9 kws:=
 kws.rec (λ_=>⟨rfl,rfl⟩) λk kws ih h=>by
  have h:=Bool.and_eq_true_iff.mp h
  obtain⟨_|n,e,kp⟩:=k
  ·exact(aap h.1).elim
  ·exact⟨(ih h.2).1,aac (n::·) (ih h.2).2⟩
def xS{A:Around}{s:Shared}{fv:Value}{es:List Expr}{kws:List Keyword}{pos:Pos}{M:Model}{env:Env}{Q:Args->Shared->Prop}(hn:es.all bF=true)(hk:kwOk kws=true)
  (h:wpAny M A (spliced<|backTo pos<|starEach es env) (λvs s₁=>wpAny M A (evalAll ((backToKw pos<|keywordEach kws env).map (·.2))) (λks s₂=>Q ⟨vs,(K9 kws).zip ks⟩ s₂) E s₁) E s):
  wpAny M A (evalArgs fv true (backTo pos<|starEach es env)<|backToKw pos<|keywordEach kws env) Q E s:=by
 have z:=uD (env:=env) (pos:=pos) kws hk
 rw[<-z.2]at h
 cases es with
 |nil=>exact evalArgs_kw_nil z.1 λΓ p hΓ=>h Γ p hΓ Γ p hΓ
 |cons e r=>
  rw[jD (Bool.and_eq_true_iff.mp hn).1]at h⊢
  exact evalArgs_kw z.1 h
def Ox{es:List Expr}{kws:List Keyword}{env:Env}{pos:Pos}(hn:es.all bF=true)(hk:kwOk kws=true)(hl:decide (es.length+kws.length+(if kws.isEmpty then 0 else 1)<30)=true):
  methodCallForm (es.length+kws.length) (backTo pos<|starEach es env) (backToKw pos<|keywordEach kws env)=true:=by
 have a:(backTo pos<|starEach es env).all (λx=>!x.1)=true:=by
  rw[List.all_eq_not_any_not]
  simp only[Bool.not_not]
  rw[qG es hn];rfl
 have c:(backToKw pos<|keywordEach kws env).isEmpty=kws.isEmpty:=by
  cases kws with
  |nil=>rfl
  |cons k r=>obtain⟨n,e,p⟩:=k;rfl
 unfold methodCallForm
 rw[a,(uD kws hk).1,c,hl];rfl
def Kept(θ:Th)(Γ:Gm)(fv:Value):Prop:=∃P:Heap->Prop,(∀h:Heap,P h->∃k,(k=Keeper.frame∨k=Keeper.machine∨k=Keeper.boundFrame)/\Looks θ.M h (keeperOf fv) k)/\∀r:Rh,Fr Γ.h₀ Γ.L r.s.heap r.m->P r.s.heap
def uE{fv:Value}(C:Ctx θ Γ)(h:keepIn θ.K fv=true):Kept θ Γ fv:=⟨λh=>θ.K.In h,λ_=>keeps_K h _,λr F=>C.X.keeps F.keep⟩
def GI{id:String}:Kept θ Γ (.builtin id):=⟨λ_=>True,λ_ _=>⟨.machine,.inr<|.inl rfl,Looks.of_pure rfl⟩,λ_ _=>trivial⟩
def GJ{id:String}:Kept θ Γ (.type id):=⟨λ_=>True,λ_ _=>⟨.machine,.inr<|.inl rfl,Looks.of_pure rfl⟩,λ_ _=>trivial⟩
def er{fv:Value}{first:List Value}{es:List Expr}{kws:List Keyword}{pos:Pos}{R:List MV->List MV->MH->Prop}{Q':Value->Shared->Prop}(hn:es.all bF=true)(hk:kwOk kws=true)(hkeep:Kept θ Γ fv)(a:At θ u Γ E r Lc H X)
  (h:mO θ u Lc X es H λvs H1=>mO θ u Lc X (Ov kws) H1 λks H2=>R vs ks H2)
  (hq:∀r' H' yW ws rI ks,Le r r'->At θ u Γ E r' Lc H' X->cK r'.φ yW ws->cK r'.φ rI ks->R yW rI H'->wpAny θ.M Γ.A (call fv (first++ws)<|(K9 kws).zip ks) Q' E r'.s):
  wpAny θ.M Γ.A (callWith pos fv first (backTo pos<|starEach es<|θ.f.env Γ.L)<|backToKw pos<|keywordEach kws<|θ.f.env Γ.L) Q' E r.s:=hkeep.elim λP K=>
 callWith_of (P:=P) (by
  rw[qG es hn,Bool.false_or]
  refine List.any_eq_false.mpr λx hx e=>?_
  have:=List.all_eq_true.mp (uD (env:=θ.f.env Γ.L) (pos:=pos) kws hk).1 x hx
  rw[Option.isNone_iff_eq_none.mp e]at this;cases this) K.1 (xS hn hk<|a.go (pW es _ _ _ _ _ hn h a) λws r1 yW H1 l1 a1 v1 q=>a1.go (AH kws _ _ _ _ _ q a1) λks r2 rI H2 l2 a2 v2 q=>⟨K.2 r2 a2.T.F,hq r2 H2 yW ws rI ks (l1.trans l2) a2 (v1.ext l2.x) v2 q⟩)
end
def qH{A:Around}(C:Addr)(az:List Value)(kw:List<|Str×Value):(A.under<|.builtin "type.__call__" ⟨.ref C::az,kw⟩).frames=A.frames:=by
 have e:(Code.builtin "type.__call__" ⟨.ref C::az,kw⟩).envs=[]:=by kernel_rfl
 unfold Around.under;simp only[e];cases A.frames<;>rfl
def sH{A:Around}(C:Addr)(az:List Value)(kw:List<|Str×Value):(A.under<|.builtin "type.__call__" ⟨.ref C::az,kw⟩).depth=A.depth+1:=by
 have e:(Code.builtin "type.__call__" ⟨.ref C::az,kw⟩).weight=1:=by kernel_rfl
 unfold Around.under;simp only[e]
def yX{A:Around}(C:Addr)(az:List Value)(kw:List<|Str×Value):(A.under<|.builtin "type.__call__" ⟨.ref C::az,kw⟩).units=A.units+1:=by
 have e:(Code.builtin "type.__call__" ⟨.ref C::az,kw⟩).cUnits=1:=by kernel_rfl
 unfold Around.under;simp only[e]
noncomputable def nZ(op:BoolOp)(b:Bool):Bool:=op.casesOn (!b) b
section
variable{θ:Th}{u u':Nat}{Γ:Gm}{E:Value->Shared->Prop}{r r':Rh}{Lc:Loc}{H H':MH}{Q:QV}{QB:Bool->MH->Prop}{QL Ow:List MV->MH->Prop}{X:QX}{P:Prop}
def At.call(a:At θ u Γ E r Lc H X)(h:u'<=u):At θ u' Γ E r Lc H λx pN H'=>pN=Lc/\X x Lc H':=
 ⟨a.C,⟨av (Nat.add_le_add_left h _) a.rm.depth,av (Nat.add_le_add_left (Nat.mul_le_mul_left 12 h) _) a.rm.units⟩,a.T,λr' Xv H1 x e l fl q=>a.EX r' Xv H1 x e l fl<|q.1.symm▸q.2⟩
def yY{fa:Nat}{az kv:List MV}{kn:List Str}{ws ks:List Value}(a:At θ u Γ E r Lc H X)(h:nX θ u fa az kn kv H Q λx H'=>X x Lc H')(v1:cK r.φ az ws)(v2:cK r.φ kv ks):Go θ Γ E r (call (.ref fa) ws<|kn.zip ks) (pM θ Γ Lc VR Q):=
 h.elim λl h=>wpAny_call (codeAny_mono (h.2 θ.f Lc Γ E r ws ks (a.call<|av (Nat.add_le_add_left (by decide) _) h.1) v1 v2) λo s' z=>by
  cases o with
  |error e=>exact z
  |ok f=>cases f<;>exact z)
def Es{o:Expr}{apos pos:Pos}{env:Env}(hline:(apos.endLine==pos.line)=true):methodCallPos true o env apos pos=pure pos:=by unfold methodCallPos;simp[hline]
def uF{o:Expr}{x:Str}{apos pos:Pos}{es:List Expr}{kws:List Keyword}{R:Value->Shared->Prop}{s:Shared}(hs:dP o=true)(hn:es.all bF=true)(hk:kwOk kws=true)(hl:decide (es.length+kws.length+(if kws.isEmpty then 0 else 1)<30)=true)(hline:(apos.endLine==pos.line)=true)
  (h:wpAny θ.M Γ.A (eval o<|θ.f.env Γ.L) (λov s₁=>∀pl,wpAny θ.M Γ.A (getMethod ov x pl) (λp s₂=>wpAny θ.M Γ.A (callWith pos p.1 p.2 (backTo pos<|starEach es<|θ.f.env Γ.L)<|backToKw pos<|keywordEach kws<|θ.f.env Γ.L) R E s₂) E s₁) E s):
  wpAny θ.M Γ.A (eval (.Call (.Attribute o x apos) es kws pos)<|θ.f.env Γ.L) R E s:=by
 rw[arm_eval_Call,ua hs]
 refine gf<|wpAny_mono h (λov s₁ z=>gf<|wpAny_standAt ?_) λ_ _ z=>z
 unfold methodCall
 rw[Ox hn hk hl]
 refine gf<|aax ?_
 unfold calleeOf
 rw[aam rfl]
 exact wpAny_mono (z _) (λp s₂ z=>gf<|wpAny_of_eq (Es hline) z) λ_ _ z=>z
def mO.UB(es:List Expr):∀H QL Ow,mO θ u Lc X es H QL->(∀v H',QL v H'->Ow v H')->mO θ u Lc X es H Ow:=
 es.rec (λ_ _ _ h k=>k _ _ h) λe es ih _ _ _ h k=>Ev.mono h λv H1 q=>ih _ _ _ q λvs H2 q=>k _ _ q
def mO.mono{es:List Expr}(h:mO θ u Lc X es H QL)(k:∀v H',QL v H'->Ow v H'):mO θ u Lc X es H Ow:=mO.UB es _ _ _ h k
def aB.gJ(O:bL θ.S θ.w){o:Expr}{x:Str}{apos pos:Pos}{es:List Expr}{kws:List Keyword}{k:Nat}(hs:dP o=true)(hk:θ.S.nm[k]?=some x)(hn:es.all bF=true)(hkw:kwOk kws=true)(hl:decide (es.length+kws.length+(if kws.isEmpty then 0 else 1)<30)=true)(hline:(apos.endLine==pos.line)=true)
  (h:aB θ u o Lc H (λv H1=>dX v k H1 λi c fs=>fs.lookup k=none/\bM (θ.S.mt c k) λfa=>mO θ u Lc X es H1 λvs H2=>mO θ u Lc X (Ov kws) H2 λks H3=>nX θ u fa (.ref i::vs) (K9 kws) ks H3 Q λx H'=>X x Lc H') X):aB θ u (.Call (.Attribute o x apos) es kws pos) Lc H Q X:=
 λΓ E r a=>uF hs hn hkw hl hline (a.go (h _ _ _ a) λov r1 mv H1 l1 a1 v1 q pl=>Uk (P:=λmv=>VR r1.φ mv ov->wpAny θ.M Γ.A (getMethod ov x pl) _ E r1.s) q (λi c fs hi q v1=>cX q.2 λfa hm q2=>eY (P:=λov=>wpAny θ.M Γ.A (getMethod ov x pl) _ E r1.s) v1 λp hp=>a1.T.inst hi λp' es' n qy _ fr _ _ I=>by
  cases aaf (hp.symm.trans qy)
  have M:=O.mt c k x fa hm hk
  exact method_inst a1.T.F a1.C.X I M.get M.find M.Of (fr.no k x hk q.1)<|er (first:=[.ref p.1]) hn hkw (uE a1.C M.keep) a1 q2 λr2 H2 yW ws rI ks l2 a2 v2 v3 q=>(yY a2 q (ws:=.ref p.1::ws) (iX (VR.ext l2.x (v:=.ref i) ⟨p,hp,rfl⟩) v2) v3).from (l1.trans l2)) v1)
def i0{x:Str}{v:Value}{pos:Pos}{R:Value->Shared->Prop}(G:kj θ.K θ.f x v)(a:At θ u Γ E r Lc H X)(h:R v r.s):wpAny θ.M Γ.A (eval (.Name x pos)<|θ.f.env Γ.L) R E r.s:=
 a.C.T.elim λmg T=>T.elim λmb TT=>G.here.elim (λe=>nameX_K a.T.F a.C.X TT e h a.C.lT G.kind G.nd) λe=>nameX_B a.T.F a.C.X TT e.1 e.2.1 e.2.2 h a.C.lT G.kind G.nd
def aB.glob{x:Str}{v:Value}{mv:MV}{pos:Pos}(G:kj θ.K θ.f x v)(hv:∀φ,VR φ mv v)(hq:Q mv H):aB θ u (.Name x pos) Lc H Q X:=aB.sC hq λ_ _ r _ a k=>i0 G a<|k _ r.s.toks<|hv _
def jy{x:Str}{p:Pos}{es:List Expr}{kws:List Keyword}{pos:Pos}{R:Value->Shared->Prop}{s:Shared}(h:wpAny θ.M Γ.A (eval (.Name x p)<|θ.f.env Γ.L) (λv s₁=>wpAny θ.M Γ.A (callWith pos v [] (backTo pos<|starEach es<|θ.f.env Γ.L)<|backToKw pos<|keywordEach kws<|θ.f.env Γ.L) R E s₁) E s):
  wpAny θ.M Γ.A (eval (.Call (.Name x p) es kws pos)<|θ.f.env Γ.L) R E s:=gf (m:=eval (.Name x p)<|θ.f.env Γ.L) (f:=λv=>callWith pos v [] (backTo pos<|starEach es<|θ.f.env Γ.L)<|backToKw pos<|keywordEach kws<|θ.f.env Γ.L) h
def aB.uq{x:Str}{p pos:Pos}{es:List Expr}{kws:List Keyword}{fa:Addr}(G:kj θ.K θ.f x<|.ref fa)(hkeep:keepIn θ.K (.ref fa)=true)(hn:es.all bF=true)(hkw:kwOk kws=true)
  (h:mO θ u Lc X es H λvs H2=>mO θ u Lc X (Ov kws) H2 λks H3=>nX θ u fa vs (K9 kws) ks H3 Q λx H'=>X x Lc H'):aB θ u (.Call (.Name x p) es kws pos) Lc H Q X:=
 λΓ E r a=>jy<|i0 G a<|er (first:=[]) hn hkw (uE a.C hkeep) a h λr2 H2 yW ws rI ks l2 a2 v2 v3 q=>(yY a2 q v2 v3).from l2
def St.GK{A:Around}(T:St θ {Γ with A:=A} r Lc H):St θ Γ r Lc H:=⟨T.F,T.N,T.R,T.loc⟩
def jd.GK{A:Around}{x:MV}{e:Value}(T:jd θ {Γ with A:=A} r Lc H x e):jd θ Γ r Lc H x e:=by
 obtain⟨B,h1,ea,d,es,n,wv,a,b,c,d',e,f,g,h,i,j,k,l,m⟩:=T
 exact⟨B,h1,ea,d,es,n,wv,a,b,c,d',e,f,g,h,i,j,k,l,m⟩
def lQ.none{nm:List Str}{φ:dD}:lQ nm φ [] []:=⟨λ_ _ _ _ h=>(by cases h),λ_ _ _ _=>rfl⟩
def yN.UC{A A':Around}{l:Nat}(h:yN (8*l+8) A)(d:A'.depth=A.depth+1)(e:A'.units=A.units+1):yN (8*l+4) A':=⟨d▸av (by omega) h.depth,e▸av (by omega) h.units⟩
def yZ{c fI:Addr}{az kv:List MV}{kn:List Str}{ws ks:List Value}(M:xN θ.K c fI)(a:At θ u Γ E r Lc H X)(h:nX θ u fI (.ref H.n::az) kn kv (H.new<|.inst c []) (λv H4=>v=.none/\Q (.ref H.n) H4) λx H'=>X x Lc H')(v1:cK r.φ az ws)(v2:cK r.φ kv ks):
  Go θ Γ E r (call (.ref c) ws<|kn.zip ks) (pM θ Γ Lc VR Q):=h.elim λl h=>call_cls a.T.F a.C.X a.T.N M.makes M.init M.Of λxa dx h' F' N' fresh lt=>by
 have Z:=a.new (o:=.inst c []) (d:=xa) (e:=dx) (more:=[(xa,instObj c dx),(dx,dictOf [] 0)]) (tk:=r.s.toks) (List.nodup_cons.mpr ⟨λh=>aav lt<|aaa.mp h,List.nodup_cons.mpr ⟨(by intro h;cases h),List.Pairwise.nil⟩⟩)
  (λp hp p' qy=>aae<|(aab.mp hp).elim (λe=>e▸aar (fresh p' qy) lt) λh=>aaa.mp h▸fresh p' qy) ⟨_,.head _⟩ ⟨_,.tail _<|.head _⟩ rfl F' N' λX=>nM.mk (xa,dx) [] 0 dD.o8 (.head _) (.tail _<|.head _) .none (aaj _) (by decide) λ_ _ h=>by cases h
 have b:=Z.a.call (u':=8*l+8) h.1
 have a':At θ (8*l+4) {Γ with A:=Γ.A.under (.builtin "type.__call__" ⟨.ref c::ws,kn.zip ks⟩)} E _ Lc (H.new<|.inst c []) _:=⟨⟨b.C.B,(qH ..).trans b.C.fr,b.C.X,b.C.T,b.C.lT,b.C.nodup,b.C.quiet,b.C.top⟩,b.rm.UC (sH ..)<|yX ..,⟨b.T.F,b.T.N,b.T.R,b.T.loc⟩,λr' Lc H x e l fl q=>b.EX r' Lc H x e l fl.GK q⟩
 refine codeAny_mono (h.2 θ.f Lc _ E _ (.ref xa::ws) ks a' (iX dD.j7<|v1.ext Z.l.x)<|v2.ext Z.l.x) λo s' z=>?_
 cases o with
 |error e=>exact z
 |ok f=>
  cases f with
  |ret v=>
   obtain⟨r4,rfl,l4,z⟩:=(z:eX _ _ v s')
   cases z with
   |mk H4 mv T4 j q=>exact⟨(q.1▸j:VR r4.φ .none v),r4,rfl,Z.l.trans l4,H4,.ref H.n,T4.GK,VR.ext l4.x (v:=.ref H.n) (w:=.ref xa) dD.j7,q.2⟩
  |_=>exact z
def aB.make{x:Str}{p pos:Pos}{es:List Expr}{kws:List Keyword}{c fI:Addr}(G:kj θ.K θ.f x<|.ref c)(M:xN θ.K c fI)(hn:es.all bF=true)(hkw:kwOk kws=true)
  (h:mO θ u Lc X es H λvs H2=>mO θ u Lc X (Ov kws) H2 λks H3=>nX θ u fI (.ref H3.n::vs) (K9 kws) ks (H3.new<|.inst c []) (λv H4=>v=.none/\Q (.ref H3.n) H4) λx H'=>X x Lc H'):aB θ u (.Call (.Name x p) es kws pos) Lc H Q X:=
 λΓ E r a=>jy<|i0 G a<|er (first:=[]) hn hkw (uE a.C M.keep) a h λr2 H2 yW ws rI ks l2 a2 v2 v3 q=>(yZ M a2 q v2 v3).from l2
def aB.yH{x:Str}{k:Nat}{p pos:Pos}{es:List Expr}{c fI:Addr}(hx:θ.f.ns[k]?=some x)(hv:Lc[k]?=some (some<|.cls c))(hkd:θ.f.sc.names.lookup x=some .local)(hd:(x==("__debug__":Str))=false)(M:xN θ.K c fI)(hn:es.all bF=true)
  (h:mO θ u Lc X es H λvs H3=>nX θ u fI (.ref H3.n::vs) [] [] (H3.new<|.inst c []) (λv H4=>v=.none/\Q (.ref H3.n) H4) λx H'=>X x Lc H'):aB θ u (.Call (.Name x p) es [] pos) Lc H Q X:=
 λΓ E r a=>jy ((a.T.loc k x _ hx hv).elim λwv z=>nameX_L a.T.F z.1 (by
  cases z.2
  exact er (first:=[]) (kws:=[]) (R:=λvs ks H3=>ks=[]/\nX θ u fI (.ref H3.n::vs) [] [] (H3.new<|.inst c []) (λv H4=>v=.none/\Q (.ref H3.n) H4) λx H'=>X x Lc H') hn rfl (uE a.C M.keep) a (mO.mono h λvs H3 q=>⟨rfl,q⟩) λr2 H2 yW ws rI ks l2 a2 v2 v3 q=>(yZ M a2 q.2 v2<|q.1▸v3).from l2) a.C.lT hkd hd)
def aB.yI{x:Str}{p pos:Pos}{es:List Expr}{fv:Value}(G:kj θ.K θ.f x fv)(hk:∀Γ,Kept θ Γ fv)(hn:es.all bF=true)(h:mO θ u Lc X es H λvs H2=>dc θ u Lc H2 X vs (aU fv) VR Q):aB θ u (.Call (.Name x p) es [] pos) Lc H Q X:=
 λΓ E r a=>jy<|i0 G a<|er (first:=[]) (kws:=[]) (R:=λvs ks H2=>ks=[]/\dc θ u Lc H2 X vs (aU fv) VR Q) hn rfl (hk Γ) a (mO.mono h λvs H3 q=>⟨rfl,q⟩) λr2 H2 yW ws rI ks l2 a2 v2 v3 q=>(q.2 _ _ _ ws a2 v2).from l2
def aB.su{o:Expr}{x:Str}{apos pos:Pos}{es:List Expr}{k:Kind}{id:String}(hs:dP o=true)(hn:es.all bF=true)(hl:decide (es.length<29)=true)(hline:(apos.endLine==pos.line)=true)(pa:PlainAttrs k.tn)(slot:Slot k.tn x id)(hty:typeOf (.builtin id)=pure (.type "method_descriptor"))
  (h:aB θ u o Lc H (λv H1=>kh H1 v k/\mO θ u Lc X es H1 λvs H2=>dc θ u Lc H2 X (v::vs) (aU<|.builtin id) VR Q) X):aB θ u (.Call (.Attribute o x apos) es [] pos) Lc H Q X:=
 λΓ E r a=>uF (kws:=[]) hs hn rfl (aag<|aaw<|aaq hl) hline (a.go (h _ _ _ a) λov r1 mv H1 l1 a1 v1 q pl=>have ki:=q.1 a1 v1
  getMethod_builtin ki.1 pa slot hty ki.2 (er (first:=[ov]) (kws:=[]) (R:=λvs ks H2=>ks=[]/\dc θ u Lc H2 X (mv::vs) (aU<|.builtin id) VR Q) hn rfl GI a1 (mO.mono q.2 λvs H3 q=>⟨rfl,q⟩) λr2 H2 yW ws rI ks l2 a2 v2 v3 q=>(q.2 _ _ _ (ov::ws) a2<|iX (v1.ext l2.x) v2).from (l1.trans l2)))
def aB.yG(O:bL θ.S θ.w){o:Expr}{x:Str}{apos pos:Pos}{k:Nat}(hs:dP o=true)(hk:θ.S.nm[k]?=some x)(hline:(apos.endLine==pos.line)=true)
  (h:aB θ u o Lc H (λv H1=>dX v k H1 λi c fs=>sD (fs.lookup k) λfa j=>(∃c' k',θ.S.mt c' k'=some fa)/\nX θ u fa [.ref j] [] [] H1 Q λx H'=>X x Lc H') X):aB θ u (.Call (.Attribute o x apos) [] [] pos) Lc H Q X:=
 λΓ E r a=>uF (es:=[]) (kws:=[]) hs rfl rfl rfl hline (a.go (h _ _ _ a) λov r1 mv H1 l1 a1 v1 q pl=>Uk (P:=λmv=>VR r1.φ mv ov->wpAny θ.M Γ.A (getMethod ov x pl) _ E r1.s) q (λi c fs hi q v1=>Og q λfa j hf q=>eY (P:=λov=>wpAny θ.M Γ.A (getMethod ov x pl) _ E r1.s) v1 λp hp=>a1.T.inst hi λp' es' n qy _ fr _ ow I=>by
  cases aaf (hp.symm.trans qy)
  have ht:=ow k _ hf
  have FO:=O.tab c k x ht hk
  refine method_usual (a1.C.X.keeps a1.T.F.keep) I (plainGet_of FO.get).1 (plainGet_of FO.get).2 (O.Zv c k x ht hk) rfl<|j8 O.toF9 a1 hi hf hk hp λv tk w=>rA w λd pj e hj hm=>?_
  subst e
  have a2:=a1.tk tk
  refine callWith_M0 (K:=θ.K) (g:=fa) (self:=.ref pj.1) ⟨(a2.T.N _ hm).1,a2.C.X.keeps a2.T.F.keep⟩ (q.1.elim λc' z=>z.elim λk' z=>O.Zu c' k' fa z)<|call_meth a2.T.N hm ?_
  refine q.2.elim λl h=>codeAny_mono (h.2 θ.f Lc Γ E _ [.ref pj.1] [] (a2.call<|av (Nat.add_le_add_left (by decide) _) h.1) (.one ⟨pj,hj,rfl⟩) rfl) λo s' z=>?_
  cases o with
  |error e=>exact z
  |ok f=>
   cases f with
   |ret v=>exact(z:eX _ _ v s').elim λr' z=>⟨r',z.1,(l1.trans .tk).trans z.2.1,z.2.2⟩
   |_=>exact z) v1)
end
noncomputable def uG(n:Nat)(i:Int):Nat:=(max 0<|min (if i<0 then i+n else i) n).toNat
def gE(n:Nat)(o:Option Int):Nat:=o.casesOn 0<|uG n
def lY(n:Nat)(o:Option Int):Nat:=o.casesOn n<|uG n
def qI{α:Type}(l:List α)(lo hi:Option Int):List α:=(l.drop<|gE l.length lo).take<|lY l.length hi-gE l.length lo
def GL(n:Nat)(i:Int):uG n i<=n:=Int.toNat_le.mpr<|Int.max_le.mpr ⟨Int.natCast_nonneg n,Int.min_le_right ..⟩
def wC(n:Nat)(i:Option Int):lY n i<=n:=by cases i with|none=>exact aaj _|some i=>exact GL n i
def y9{α:Type}(c:Nat):∀(l:List α) (a:Nat),a+c<=l.length->((List.range c).map λk=>a+k).filterMap (l[·]?)=(l.drop a).take c:=by
 induction c with
 |zero=>intro l a _;simp
 |succ c ih=>
  intro l a h
  have hl:a<l.length:=aas (Nat.lt_add_of_pos_right<|Nat.succ_pos c) h
  rw[List.range_succ_eq_map,List.map_cons,List.map_map,List.filterMap_cons]
  rw[show l[a+0]?=some l[a]from List.getElem?_eq_getElem hl]
  rw[show(λk=>a+k)∘Nat.succ=λk=>(a+1)+k from funext λk=>(Nat.succ_add_eq_add_succ a k).symm]
  show l[a]::_=_
  rw[ih l (a+1) (by rw[Nat.succ_add_eq_add_succ];exact h),List.drop_eq_getElem_cons hl,List.take_succ_cons]
def wD(lo hi:Option Int)(n:Nat):Builtin.Str.strSliceIndices lo hi 1 n=(List.range<|lY n hi-gE n lo).map (λk=>gE n lo+k):=by
 have h0:Builtin.Str.strSliceIndices lo hi 1 n=sliceRange (gE n lo:Nat) (lY n hi:Nat) 1:=by
  have c:∀i:Int,max 0 (min (if i<0 then i+n else i) n)=((uG n i:Nat):Int):=λi=>(Int.toNat_of_nonneg<|Int.le_max_left ..).symm
  cases lo<;>cases hi<;>(unfold gE lY;dsimp only;try rw[<-c];try rw[<-c])<;>rfl
 rw[h0]
 unfold sliceRange
 have e:∀a b:Nat,(if(1:Int)>0 then if(a:Int)<b then((b:Int)-a+1-1)/1 else 0 else if(a:Int)>b then((a:Int)-b-1-1)/ -1 else 0).toNat=b-a:=λa b=>by
  rw[aam<|by decide]
  by_cases h:(a:Int)<b
  ·rw[aam h,Int.add_sub_cancel,Int.ediv_one,Int.toNat_sub]
  ·rw[aal h];exact(Nat.sub_eq_zero_of_le<|Int.ofNat_le.mp<|Int.not_lt.mp h).symm
 dsimp only
 rw[e]
 exact List.map_congr_left λk _=>by rw[Int.one_mul];exact Int.toNat_natCast<|gE n lo+k
def wF{α:Type}(l:List α)(lo hi:Option Int):(Builtin.Str.strSliceIndices lo hi 1 l.length).filterMap (l[·]?)=qI l lo hi:=by
 rw[wD]
 by_cases q:gE l.length lo<=lY l.length hi
 ·exact y9 _ _ _<|by rw[Nat.add_sub_cancel' q];exact wC ..
 ·unfold qI
  rw[Nat.sub_eq_zero_of_le<|Nat.le_of_not_le q];rfl
def lo0{a b n:Nat}(h:b-a=n+1)(k:b<=n+1):a=0:=by omega
def xU(l:List Nat)(lo hi:Option Int):Txt.slice (aW l) lo hi=aW (qI l lo hi):=by
 have pick:(List.filterMap (λx=>(aW l).cps[x]?)<|Builtin.Str.strSliceIndices lo hi 1 (aW l).length)=qI l lo hi:=by
  rw[iD,<-wF];exact aac (List.filterMap · _)<|funext λx=>by simp
 unfold Txt.slice
 split
 ·rename_i c
  rw[Bool.and_eq_true]at c
  have c:(Builtin.Str.strSliceIndices lo hi 1 (aW l).length).length=(aW l).length:=by simpa using c.2
  rw[iD,wD,List.length_map,List.length_range]at c
  have hh:=wC l.length hi
  refine aac aW ?_
  unfold qI
  cases l with
  |nil=>simp
  |cons x l=>
   have h1:gE (x::l).length lo=0:=lo0 c hh
   rw[h1]at c⊢
   rw[c,List.drop_zero,List.take_length]
 ·rw[pick]
def La(vs:List Value)(lo hi:Option Int):slicePick vs.toArray lo hi none=(qI vs lo hi).toArray:=by
 rw[<-wF]
 unfold slicePick
 rw[show sliceRange (sliceBounds lo hi none vs.toArray.size).1 (sliceBounds lo hi none vs.toArray.size).2.1 (sliceBounds lo hi none vs.toArray.size).2.2=Builtin.Str.strSliceIndices lo hi 1 vs.length by rw[List.size_toArray];cases lo<;>cases hi<;>rfl]
 exact aac (λf=>(List.filterMap f _).toArray)<|funext λx=>by simp
def Lb{α:Type}(l:List α)(lo hi:Option Int):(qI l lo hi).length<=l.length:=by
 unfold qI
 rw[List.length_take,List.length_drop]
 exact av (Nat.min_le_right ..)<|Nat.sub_le ..
def AJ(v:MV)(a b:Option Int)(H:MH)(Q:QV):Prop:=v.casesOn False (λ_=>False) (λ_=>False) (λl=>l.length<dg/\Q (.str<|qI l a b) H) (λi=>iP (H.at_ i) noI (λxs=>Q (.ref H.n)<|H.new<|.list<|qI xs a b) (λxs=>Q (.ref H.n)<|H.new<|.list<|qI xs a b) lJ lJ lJ) (λ_=>False) (λ_ _=>False) (λ_=>False) λ_=>False
def Ld(θ:Th)(u:Nat)(Lc:Loc)(X:QX)(e:Option Expr)(H:MH)(Q:Option Int->MH->Prop):Prop:=e.casesOn (Q none H) λe=>aB θ u e Lc H (λv H1=>j9 v λi=>Q (some i) H1) X
section
variable{φ:dD}
def cK.drop(a:Nat):∀{xs:List MV} {vs:List Value},cK φ xs vs->cK φ (xs.drop a) (vs.drop a):=by
 induction a with
 |zero=>exact λh=>h
 |succ a ih=>
  intro xs vs h
  cases xs with
  |nil=>cases h;rfl
  |cons x xs=>exact dG h λy ys e _ t=>by subst e;exact ih t
def cK.take(c:Nat):∀{xs:List MV} {vs:List Value},cK φ xs vs->cK φ (xs.take c) (vs.take c):=by
 induction c with
 |zero=>exact λ_=>rfl
 |succ c ih=>
  intro xs vs h
  cases xs with
  |nil=>cases h;rfl
  |cons x xs=>exact dG h λy ys e a t=>by subst e;exact iX a<|ih t
def cK.sl{lo hi:Option Int}{xs:List MV}{vs:List Value}(h:cK φ xs vs):cK φ (qI xs lo hi) (qI vs lo hi):=by
 unfold qI
 rw[h.length]
 exact(h.drop _).take _
end
section
variable{θ:Th}{u u':Nat}{Γ:Gm}{E:Value->Shared->Prop}{r r':Rh}{Lc:Loc}{H H':MH}{Q:QV}{QB:Bool->MH->Prop}{QL Ow:List MV->MH->Prop}{X:QX}{P:Prop}
abbrev WR(_:dD)(p:Option<|Int×Tok)(v:Value):Prop:=v=partValue p
def part_of{e:Option Expr}{QO:Option Int->MH->Prop}(h:Ld θ u Lc X e H QO)(a:At θ u Γ E r Lc H X):Go θ Γ E r (valueOrNone<|evalOpt e<|θ.f.env Γ.L) (pM θ Γ Lc WR λp:Option (Int×Tok)=>QO<|p.map Prod.fst):=by
 cases e with
 |none=>exact aao<|rG (b:=none) a rfl h
 |some e=>exact a.go (h _ _ _ a) λv r1 mv H1 l1 a1 v1 q=>yP (P:=λmv=>VR r1.φ mv v->eX r (pM θ Γ Lc WR λp:Option (Int×Tok)=>QO<|p.map Prod.fst) v r1.s) q (λi q v1=>nS (P:=λv=>eX r (pM θ Γ Lc WR λp:Option (Int×Tok)=>QO<|p.map Prod.fst) v r1.s) v1 λt=>a1.fin (J:=WR) (QJ:=λp:Option (Int×Tok)=>QO<|p.map Prod.fst) (b:=some (i,t)) l1 rfl q) v1
def lZ{value slice:Expr}{o i:Value}{T id:String}{ops:List Value}{R:Value->Shared->Prop}{s:Shared}(hT:s.TypeIs o T)(hl:typeLookup (.type T) "__getitem__"=pure (some<|.builtin id))(h:wpAny θ.M Γ.A (getItem o i) R E s)(hs:subscripted slice false o i=operate ops (getItem o i)):
  wpAny θ.M Γ.A (subscriptTail value slice o i) R E s:=by
 unfold subscriptTail
 refine gf ?_
 rw[getitemInPython_of_ne hT.not_modules]
 refine gf<|wpAny_specialOf hT hl<|aao<|gf ?_
 rw[hs]
 exact wpAny_operating<|wpAny_mono h (λr s₃ h₃=>gf<|wpAny_letTemporaryGo<|aao h₃) λ_ _ x=>x
def aB.sub{value slice:Expr}{pos:Pos}(hn:nY slice=true)(h:aB θ u value Lc H (λv H1=>aB θ u slice Lc H1 (λi H2=>qF v i H2 Q) X) X):aB θ u (.Subscript value slice pos) Lc H Q X:=
 λΓ E r a=>Subscript_ (a.go (h _ _ _ a) λo r1 mv H1 l1 a1 v1 q=>a1.go (q _ _ _ a1) λi r2 mi H2 l2 a2 v2 q=>(KP (θ:=θ) (u:=u) (Lc:=Lc) (X:=X) q).elim λk I=>k.B0.elim λid hid=>
  have w:=v1.ext l2.x
  lZ (I.kind a2 w).1 hid ((I.item _ _ _ [o,i] a2<|.two w v2).from (l1.trans l2)) (jR hn))
def At.grow(a:At θ u Γ E r Lc H X)(ob:Obj):Oj θ u Γ E r Lc X ⟨r.φ,r.m,{r.s with heap:=r.s.heap.push ob}⟩ H:=
 ⟨⟨.refl,rfl,rfl⟩,a.at_ ⟨.refl,rfl,rfl⟩ ⟨a.T.F.push _,a.T.N.grown λ_ _ e=>Heap.get?_push_of_some _ e,a.T.R,a.T.loc⟩⟩
def B8(p:Option<|Int×Tok):IsPart (partValue p) (p.map (·.1)):=by cases p with|none=>exact .none|some p=>exact .int p.1 p.2
def slice_list{i:Nat}{l:Rh->aS}{xs:List MV}{pa pb:Option (Int×Tok)}{x:Value}{value:Expr}{lo hi:Option Expr}{p:Pos}(a:At θ u Γ E r Lc H X)(hi':d8 r.φ i (l r) xs)(hn:∀p∈l r,p∈r.φ.news)(v1:VR r.φ (.ref i) x)(q:Q (.ref H.n) (H.new (.list (qI xs (pa.map (·.1)) (pb.map (·.1)))))):
  wpAny θ.M Γ.A (subscriptTail value (.Slice lo hi none p) x<|.ref r.s.heap.objs.size) (eX r<|pM θ Γ Lc VR Q) E {r.s with heap:=r.s.heap.push {cls:=.type "slice",data:=.fields #[partValue pa,partValue pb,.none]}}:=
 eY (P:=λx=>wpAny θ.M Γ.A (subscriptTail value (.Slice lo hi none p) x _) _ _ _) v1 λp hp=>hi'.sG a hn hp λvs n m z w hl e=>by
  have g:=a.grow {cls:=.type "slice",data:=.fields #[partValue pa,partValue pb,.none]}
  refine lZ (T:="list") (z.push _).typeIs PySem.slot_list_getitem.lookup (wpAny_getItem_list_slice (z.push _) (Heap.IsSliceOf.new ..) (B8 pa) (B8 pb) .none (by simp) ?_<|gw<|by rw[List.size_toArray,e];exact hl) rfl
  rw[La]
  have Z:=g.a.newL (xs:=qI xs (pa.map (·.1)) (pb.map (·.1))) (n:=0) (tk:=r.s.toks) (λp' h=>Heap.lt_size (g.a.T.N p' h).1) (g.a.T.F.push _) (News.push g.a.T.F g.a.T.N _) w.sl<|av (Lb ..) hl
  exact Z.a.fin (b:=MV.ref H.n) (g.l.trans Z.l) dD.j7 q
def Et{s:List Nat}{pa pb:Option (Int×Tok)}{x:Value}{value:Expr}{lo hi:Option Expr}{p:Pos}(a:At θ u Γ E r Lc H X)(v1:VR r.φ (.str s) x)(hb:s.length<dg)(q:Q (.str (qI s (pa.map (·.1)) (pb.map (·.1)))) H):
  wpAny θ.M Γ.A (subscriptTail value (.Slice lo hi none p) x<|.ref r.s.heap.objs.size) (eX r<|pM θ Γ Lc VR Q) E {r.s with heap:=r.s.heap.push {cls:=.type "slice",data:=.fields #[partValue pa,partValue pb,.none]}}:=
 je (P:=λx=>wpAny θ.M Γ.A (subscriptTail value (.Slice lo hi none p) x _) _ _ _) v1 λt=>by
  have hz:(aW s).length<=sizeLine:=by rw[iD];exact gw<|b6 hb
  have fin:∀h' t' k,Fr Γ.h₀ Γ.L h' r.m/\News Γ.h₀ Γ.L h' r.φ.news->eX r (pM θ Γ Lc VR Q) (.str (Txt.slice (aW s) (pa.map (·.1)) (pb.map (·.1))) t') {r.s with heap:=h',toks:=k}:=λh' t' k z=>
   ⟨⟨r.φ,r.m,{r.s with heap:=h',toks:=k}⟩,rfl,⟨.refl,rfl,rfl⟩,H,.str (qI s (pa.map (·.1)) (pb.map (·.1))),⟨z.1,z.2,a.T.R,a.T.loc⟩,⟨t',by rw[xU]⟩,q⟩
  have item:ItemOn θ.M Γ.A E (.str (aW s) t) (.ref r.s.heap.objs.size) (eX r<|pM θ Γ Lc VR Q) {r.s with heap:=r.s.heap.push {cls:=.type "slice",data:=.fields #[partValue pa,partValue pb,.none]}}:=by
   cases pa with
   |none=>
    cases pb with
    |none=>exact SBH.sliceItem_nn keptFrN ⟨a.T.F,a.T.N⟩ fin hz
    |some b=>exact SBH.sliceItem_ns keptFrN ⟨a.T.F,a.T.N⟩ fin hz
   |some a1=>
    cases pb with
    |none=>exact SBH.sliceItem_sn keptFrN ⟨a.T.F,a.T.N⟩ fin hz
    |some b=>exact SBH.sliceItem_ss keptFrN ⟨a.T.F,a.T.N⟩ fin hz
  exact item.elim λT' z=>z.elim λid z=>lZ z.2.1 z.1 z.2.2 rfl
def Eu{mv:MV}{pa pb:Option (Int×Tok)}{x:Value}{value:Expr}{lo hi:Option Expr}{p:Pos}(a:At θ u Γ E r Lc H X)(v1:VR r.φ mv x)(q:AJ mv (pa.map (·.1)) (pb.map (·.1)) H Q):
  wpAny θ.M Γ.A (subscriptTail value (.Slice lo hi none p) x<|.ref r.s.heap.objs.size) (eX r<|pM θ Γ Lc VR Q) E {r.s with heap:=r.s.heap.push {cls:=.type "slice",data:=.fields #[partValue pa,partValue pb,.none]}}:=by
 cases mv with
 |str s=>exact Et a v1 q.1 q.2
 |ref i=>exact objE q (λ_ _ _=>J2) (λxs hi q=>slice_list (l:=λr=>r.φ.news) a (a.T.R.obj i _ hi) (λ_ h=>h) v1 q) (λxs hi q=>slice_list (l:=λr=>r.φ.fix) a (a.T.R.obj i _ hi) a.T.R.pe.2 v1 q) (λ_ _=>nQ) (λ_ _=>nQ) λ_ _=>nQ
 |_=>exact q.elim
def eX.from{α:Type}{P:α->Rh->Prop}{v:α}{s:Shared}(l:Le r r')(z:eX r' P v s):eX r P v s:=z.elim λr2 z=>⟨r2,z.1,l.trans z.2.1,z.2.2⟩
def aB.slice{value:Expr}{lo hi:Option Expr}{p pos:Pos}(h:aB θ u value Lc H (λv H1=>Ld θ u Lc X lo H1 λa H2=>Ld θ u Lc X hi H2 λb H3=>AJ v a b H3 Q) X):aB θ u (.Subscript value (.Slice lo hi none p) pos) Lc H Q X:=
 λΓ E r a=>Subscript_ (a.go (h _ _ _ a) λo r1 mv H1 l1 a1 v1 q=>gf (m:=valueOrNone<|evalOpt lo<|θ.f.env Γ.L) (f:=λl=>do
   let u<-holding [l] (valueOrNone<|evalOpt hi<|θ.f.env Γ.L)
   let s<-holding [l,u] (valueOrNone<|evalOpt none<|θ.f.env Γ.L)
   newFields "slice" [l,u,s]) (a1.go (part_of q a1) λx r2 pa H2 l2 a2 e2 q=>gf (aax (a2.go (part_of q a2) λy r3 pb H3 l3 a3 e3 q=>gf (aax (aao (wpAny_newObj_type (by
  subst e2 e3
  exact wpAny_mono (Eu a3 (v1.ext (l2.trans l3).x) q) (λv s z=>z.from (l1.trans<|l2.trans l3)) λ_ _ z=>z))))))))
end
section
variable{θ:Th}{u u':Nat}{Γ:Gm}{E:Value->Shared->Prop}{r r':Rh}{Lc:Loc}{H H':MH}{Q:QV}{QB:Bool->MH->Prop}{QL Ow:List MV->MH->Prop}{X:QX}{P:Prop}
def aB.list{es:List Expr}{pos:Pos}(hn:es.all bF=true)(h:mO θ u Lc X es H λvs H1=>vs.length<=dg/\Q (.ref H1.n) (H1.new<|.list vs)):aB θ u (.List es pos) Lc H Q X:=
 λΓ E r a=>List_ (a.go (pW es _ _ _ _ _ hn h a) λws r1 yW H1 l1 a1 v1 q=>newList_K a1.T.F a1.T.N (λl h' F' N' fresh=>
  have Z:=a1.newL (n:=0) (tk:=r1.s.toks) fresh F' N' v1 q.1
  Z.a.fin (b:=MV.ref H1.n) (l1.trans Z.l) dD.j7 q.2)<|gw<|by rw[v1.length];exact q.1)
def aB.tuple{es:List Expr}{k:Nat}{pos:Pos}(hn:es.all bF=true)(h:mO θ u Lc X es H λvs H1=>vs.length<=dg/\Q (.tup vs) H1):aB θ u (.Tuple es k pos) Lc H Q X:=
 λΓ E r a=>Tuple_ (a.go (pW es _ _ _ _ _ hn h a) λws r1 yW H1 l1 a1 v1 q=>newTuple_N a1.T.F a1.T.N (λh' F' N'=>
  have Z:=a1.more (tk:=r1.s.toks) (λp hp=>Heap.lt_size (a1.T.N p hp).1) F' N'
  Z.a.fin (J:=VR) (b:=.tup yW) (v:=.ref r1.s.heap.objs.size) (l1.trans Z.l) ⟨_,ws,rfl,.head _,v1.ext Z.l.x⟩ q.2)<|gw<|by rw[v1.length];exact q.1)
def aB.Oz{κ K:Type}[DecidableEq κ][DecidableEq K]{dec:κ->K}{knd:KeyKind θ.S.prog θ.w K}{mk:List (κ×MV)->MO}{kv:κ->MV}(c:KC θ dec knd mk kv){pos:Pos}(hd:∀o:Obj,o.IsDictOf (strKind θ.S.prog θ.w) []->o.IsDictOf (intKind θ.S.prog θ.w) []->o.IsDictOf knd [])(hq:Q (.ref H.n)<|H.new<|mk []):aB θ u (.Dict [] [] pos) Lc H Q X:=
 λΓ E r a=>a.C.T.elim λmg T=>T.elim λmb TT=>newDict_K a.T.F a.T.N TT.nolimit λd h' o F' N' fresh lo hs _ hi _=>
  have Z:=a.new1 (o:=mk []) (tk:=r.s.toks) fresh (c.off []) F' N' λφ' X q m=>c.Zs _ _ _ ⟨d,o,[],q,m,hd o hs hi,.nil,Nat.zero_le _,lo⟩
  Z.a.fin (b:=MV.ref H.n) Z.l dD.j7 hq
def aB.UD{c t e:Expr}{pos:Pos}(h:lU θ u c Lc H (λb H1=>if b then aB θ u t Lc H1 Q X else aB θ u e Lc H1 Q X) X):aB θ u (.IfExp c t e pos) Lc H Q X:=
 λΓ E r a=>wpAny_IfExp (a.go (h _ _ _ a) λb r1 b' H1 l1 a1 e q=>by
  subst e
  cases b' with
  |true=>exact(q _ _ _ a1).from l1
  |false=>exact(q _ _ _ a1).from l1)
def aB.not{e:Expr}{pos:Pos}(h:aB θ u e Lc H (λv H1=>kc v H1 λb H2=>Q (.bool<|!b) H2) X):aB θ u (.UnaryOp .Not e pos) Lc H Q X:=
 λΓ E r a=>wpAny_UnaryOp<|a.go (h _ _ _ a) λv r1 mv H1 l1 a1 v1 q=>not_of<|a1.go (xH q _ _ _ v a1 v1) λb r2 b' H2 l2 a2 e q=>a2.fin (b:=MV.bool<|!b') (l1.trans l2) (by rw[e];rfl) q
def aB.neg{e:Expr}{pos:Pos}(h:aB θ u e Lc H (λv H1=>j9 v λi=>Q (.int<|-i) H1) X):aB θ u (.UnaryOp .USub e pos) Lc H Q X:=
 λΓ E r a=>wpAny_UnaryOp<|a.go (h _ _ _ a) λv r1 mv H1 l1 a1 v1 q=>yP (P:=λmv=>VR r1.φ mv v->wpAny θ.M Γ.A (unaryOp .USub v) (eX r<|pM θ Γ Lc VR Q) E r1.s) q (λi q v1=>nS (P:=λv=>wpAny θ.M Γ.A (unaryOp .USub v) (eX r<|pM θ Γ Lc VR Q) E r1.s) v1 λt=>PyProof.Rows.neg_int<|(a1.tk _).fin (b:=MV.int<|-i) (l1.trans .tk) ⟨_,rfl⟩ q) v1
def Lf{op:BoolOp}{e':Expr}{es:List Expr}{pos:Pos}{v:Value}{mv:MV}{b:Bool}(a:At θ u Γ E r Lc H X)(v1:VR r.φ mv v)(q:if nZ op b then Q mv H else aB θ u (.BoolOp op (e'::es) pos) Lc H Q X):
  Go θ Γ E r (match op,b with|.And,false|.Or,true=>pure v|_,_=>boolOp pos op<|evalEach (e'::es)<|θ.f.env Γ.L) (pM θ Γ Lc VR Q):=by
 cases op<;>cases b
 ·exact aao<|rG a v1 q
 ·exact q _ _ _ a
 ·exact q _ _ _ a
 ·exact aao<|rG a v1 q
def aB.Ew{op:BoolOp}{e e':Expr}{es:List Expr}{pos:Pos}(h:aB θ u e Lc H (λv H1=>kc v H1 λb H2=>if nZ op b then Q v H2 else aB θ u (.BoolOp op (e'::es) pos) Lc H2 Q X) X):aB θ u (.BoolOp op (e::e'::es) pos) Lc H Q X:=
 λΓ E r a=>gf (m:=eval e<|θ.f.env Γ.L) (f:=λv=>do
  standAt pos
  let t<-holding [v] (truthy v)
  match op,t with
  |.And,false|.Or,true=>pure v
  |_,_=>boolOp pos op<|evalEach (e'::es)<|θ.f.env Γ.L) (a.go (h _ _ _ a) λv r1 mv H1 l1 a1 v1 q=>gf (wpAny_standAt (gf (aax (a1.go (xH q _ _ _ v a1 v1) λb r2 b' H2 l2 a2 e q=>by
   subst e
   exact(Lf a2 (v1.ext l2.x) q).from (l1.trans l2))))))
def At.cmp{op:CmpOp}{m n:MV}{x y:Value}{t:Bool}{R:Value->Shared->Prop}(a:At θ u Γ E r Lc H X)(e:gx op m n H=some t)(v1:VR r.φ m x)(v2:VR r.φ n y)(k:∀r',Le r r'->At θ u Γ E r' Lc H X->R (.bool t) r'.s):wpAny θ.M Γ.A (compareOp op x y) R E r.s:=
 a.go (KO (Q:=λv H'=>v=.bool t/\H'=H) e ⟨rfl,rfl⟩ _ _ _ [x,y] a<|.two v1 v2) λv r1 mv H1 l1 a1 j q=>by
  obtain⟨rfl,rfl⟩:=q
  cases j
  exact k r1 l1 a1
abbrev Ex(op:CmpOp)(a b:MV)(H:MH)(K:Bool->Prop):Prop:=bM (gx op a b H) K
def aB.cmp{l r:Expr}{op:CmpOp}{pos:Pos}(hm:behindInMarks op r=false)(h:aB θ u l Lc H (λa H1=>aB θ u r Lc H1 (λb H2=>Ex op a b H2 λt=>Q (.bool t) H2) X) X):aB θ u (.Compare l [op] [r] pos) Lc H Q X:=
 λΓ E r a=>wpAny_Compare1 (a.go (h _ _ _ a) λx r1 m H1 l1 a1 v1 q=>a1.go (q _ _ _ a1) λy r2 n H2 l2 a2 v2 q=>cX q λt e q=>a2.cmp e (v1.ext l2.x) v2 λr3 l3 a3=>a3.fin (b:=MV.bool t) (l1.trans<|l2.trans l3) rfl q) hm
def lU.cmp{l r:Expr}{op:CmpOp}{pos:Pos}(hm:behindInMarks op r=false)(h:aB θ u l Lc H (λa H1=>aB θ u r Lc H1 (λb H2=>Ex op a b H2 λt=>QB t H2) X) X):lU θ u (.Compare l [op] [r] pos) Lc H QB X:=
 λΓ E r a=>wpAny_isTrue_Compare1 (a.go (h _ _ _ a) λx r1 m H1 l1 a1 v1 q=>a1.go (q _ _ _ a1) λy r2 n H2 l2 a2 v2 q=>cX q λt e q=>a2.cmp e (v1.ext l2.x) v2 λr3 l3 a3=>wpAny_truthy_bool<|a3.fin (l1.trans<|l2.trans l3) rfl q) hm
def aB.chain{l r₁ r₂:Expr}{op₁ op₂:CmpOp}{pos:Pos}(hm:lastMarks [op₁,op₂] [r₁,r₂]=false)
  (h:aB θ u l Lc H (λa H1=>aB θ u r₁ Lc H1 (λb H2=>Ex op₁ a b H2 λt=>if t then aB θ u r₂ Lc H2 (λd H5=>Ex op₂ b d H5 λt=>Q (.bool t) H5) X else Q (.bool false) H2) X) X):aB θ u (.Compare l [op₁,op₂] [r₁,r₂] pos) Lc H Q X:=
 λΓ E r a=>Compare_chain (a.go (h _ _ _ a) λx r1 m H1 l1 a1 v1 q=>chain_link (a1.go (q _ _ _ a1) λy r2 n H2 l2 a2 v2 q=>cX q λt e q=>a2.cmp e (v1.ext l2.x) v2 λr3 l3 a3=>wpAny_truthy_bool (by
  have l:=l1.trans<|l2.trans l3
  cases t with
  |false=>exact a3.fin (b:=MV.bool false) l rfl q
  |true=>exact chain_last<|a3.go (q _ _ _ a3) λz r4 p H4 l4 a4 v4 q=>cX q λt e q=>a4.cmp e (v2.ext (l3.trans l4).x) v4 λr5 l5 a5=>a5.fin (b:=MV.bool t) (l.trans<|l4.trans l5) rfl q))) hm
def lU.chain{l r₁ r₂:Expr}{op₁ op₂:CmpOp}{pos:Pos}(hm:lastMarks [op₁,op₂] [r₁,r₂]=false)
  (h:aB θ u l Lc H (λa H1=>aB θ u r₁ Lc H1 (λb H2=>Ex op₁ a b H2 λt=>if t then aB θ u r₂ Lc H2 (λd H5=>Ex op₂ b d H5 λt=>QB t H5) X else QB false H2) X) X):lU θ u (.Compare l [op₁,op₂] [r₁,r₂] pos) Lc H QB X:=
 λΓ E r a=>isTrue_chain (a.go (h _ _ _ a) λx r1 m H1 l1 a1 v1 q=>test_link (a1.go (q _ _ _ a1) λy r2 n H2 l2 a2 v2 q=>cX q λt e q=>a2.cmp e (v1.ext l2.x) v2 λr3 l3 a3=>wpAny_truthy_bool (by
  have l:=l1.trans<|l2.trans l3
  cases t with
  |false=>exact a3.fin l rfl q
  |true=>exact test_last<|a3.go (q _ _ _ a3) λz r4 p H4 l4 a4 v4 q=>cX q λt e q=>a4.cmp e (v2.ext (l3.trans l4).x) v4 λr5 l5 a5=>wpAny_truthy_bool<|a5.fin (l.trans<|l4.trans l5) rfl q))) hm
def lU.not{e:Expr}{pos:Pos}(h:lU θ u e Lc H (λb H1=>QB (!b) H1) X):lU θ u (.UnaryOp .Not e pos) Lc H QB X:=λΓ E r a=>isTrue_not (a.go (h _ _ _ a) λb r1 b' H1 l1 a1 e q=>a1.fin l1 (aac (!·) e) q)
def lU.and_nil{pos:Pos}(hq:QB true H):lU θ u (.BoolOp .And [] pos) Lc H QB X:=λΓ E r a=>isTrue_and_nil<|rG a rfl hq
def lU.or_nil{pos:Pos}(hq:QB false H):lU θ u (.BoolOp .Or [] pos) Lc H QB X:=λΓ E r a=>isTrue_or_nil<|rG a rfl hq
def lU.and_cons{e:Expr}{es:List Expr}{pos:Pos}(h:lU θ u e Lc H (λb H1=>if b then lU θ u (.BoolOp .And es pos) Lc H1 QB X else QB false H1) X):lU θ u (.BoolOp .And (e::es) pos) Lc H QB X:=
 λΓ E r a=>isTrue_and (a.go (h _ _ _ a) λb r1 b' H1 l1 a1 e q=>by
  subst e
  cases b' with
  |true=>exact(q _ _ _ a1).from l1
  |false=>exact a1.fin l1 rfl q)
def lU.or_cons{e:Expr}{es:List Expr}{pos:Pos}(h:lU θ u e Lc H (λb H1=>if b then QB true H1 else lU θ u (.BoolOp .Or es pos) Lc H1 QB X) X):lU θ u (.BoolOp .Or (e::es) pos) Lc H QB X:=
 λΓ E r a=>isTrue_or (a.go (h _ _ _ a) λb r1 b' H1 l1 a1 e q=>by
  subst e
  cases b' with
  |true=>exact a1.fin l1 rfl q
  |false=>exact(q _ _ _ a1).from l1)
def Plain(e:Expr):Prop:=∀env t,isTrue e env t=(do let v<-t;standAt e.pos;holding [v]<|truthy v)
def lU.plain{e:Expr}(hp:Plain e)(h:aB θ u e Lc H (λv H1=>kc v H1 QB) X):lU θ u e Lc H QB X:=λΓ E r a=>by
 refine(?_:wpAny θ.M Γ.A (isTrue e (θ.f.env Γ.L)<|eval e<|θ.f.env Γ.L) _ E r.s)
 rw[hp]
 exact gf<|a.go (h _ _ _ a) λv r1 mv H1 l1 a1 v1 q=>gf<|wpAny_standAt<|aax<|(xH q _ _ _ v a1 v1).from l1
end
def sI(φ:dD)(mf:MF)(fl:Flow):Prop:=mf.casesOn (fl=.next) (fl=.brk) (fl=.cont) λv=>∃x,fl=.ret x/\VR φ v x
inductive DQ(θ:Th)(Γ:Gm)(Q:QF)(fl:Flow)(r:Rh):Prop
 |mk (Lc:Loc) (H:MH) (mf:MF):St θ Γ r Lc H->sI r.φ mf fl->Q mf Lc H->DQ θ Γ Q fl r
def AK(θ:Th)(u:Nat)(Lc:Loc)(H:MH)(X:QX)(t:Gm->Sem Flow)(Q:QF):Prop:=∀Γ E r,At θ u Γ E r Lc H X->Go θ Γ E r (t Γ) (DQ θ Γ Q)
def dU(θ:Th)(u:Nat)(st:Stmt)(Lc:Loc)(H:MH)(Q:QF)(X:QX):Prop:=AK θ u Lc H X (λΓ=>exec st<|θ.f.env Γ.L) Q
def ko(θ:Th)(u:Nat)(sts:List Stmt)(Lc:Loc)(H:MH)(Q:QF)(X:QX):Prop:=AK θ u Lc H X (λΓ=>execs sts<|θ.f.env Γ.L) Q
def qJ(K:Loc->MH->Prop)(Q:QF):QF:=λmf L H=>mf.casesOn (K L H) (Q .brk L H) (Q .cont L H) λv=>Q (.ret v) L H
structure jf(f:Fm)(k:Nat)(x:Str):Prop where
 ns:f.ns[k]?=some x
 kd:f.sc.names.lookup x=some .local
def n7(ks:List Nat):List MV->Loc->Loc:=ks.rec (λ_ L=>L) λk _ ih vs L=>vs.casesOn L λv vs=>ih vs<|L.set k<|some v
def gO(f:Fm)(es:List Expr):List Nat->Bool:=es.rec (λks=>ks.isEmpty) λe _ ih ks=>ks.casesOn false λk ks=>gr e λx=>(f.ns[k]?==some x)&&((f.sc.names.lookup x==some .local)&&ih ks)
noncomputable def gW(e:Expr):Bool:=!(e.ctorIdx==8||e.ctorIdx==9||e.ctorIdx==10)
def n8{v:Expr}{t:Option Expr}{l:Nat}{env:Env}(h:gW v=true):swapsWith v t l env=pure false:=by
 cases v<;>first|rfl|exact(aap h).elim
def B9{P:List Expr->List Nat->Prop}{f:Fm}(nil:P [] [])(cons:∀x p es k ks,jf f k x->gO f es ks=true->P es ks->P (.Name x p::es) (k::ks))(es:List Expr):∀ks,gO f es ks=true->P es ks:=by
 induction es with
 |nil=>
  intro ks h
  cases ks with
  |nil=>exact nil
  |cons=>exact(aap h).elim
 |cons e es ih=>
  intro ks h
  cases ks with
  |nil=>exact(aap h).elim
  |cons k ks=>exact bh h λx p e h=>e▸have h:=Bool.and_eq_true_iff.mp h;have h2:=Bool.and_eq_true_iff.mp h.2;cons x p es k ks ⟨eq_of_beq h.1,eq_of_beq h2.1⟩ h2.2<|ih ks h2.2
def sJ{f:Fm}{env:Env}:∀es ks,gO f es ks=true->(assignEach es env).findIdx? (·.1)=none/\(assignEach es env).length=ks.length:=
 B9 (P:=λes ks=>(assignEach es env).findIdx? (·.1)=none/\(assignEach es env).length=ks.length) ⟨rfl,rfl⟩ λx p es k ks _ _ z=>by
  rw[show assignEach (.Name x p::es) env=(false,assign (.Name x p) env)::assignEach es env from rfl]
  exact⟨by rw[List.findIdx?_cons,z.1];rfl,aac (·+1) z.2⟩
section
variable{θ:Th}{u u':Nat}{Γ:Gm}{E:Value->Shared->Prop}{r r':Rh}{Lc:Loc}{H H':MH}{Q Q':QF}{X:QX}{P:Prop}
def At.Rg{t:Sem Flow}{R:Flow->Shared->Prop}(a:At θ u Γ E r Lc H X)(h:Go θ Γ E r t<|DQ θ Γ Q)(k:∀fl r' mf pN H',Le r r'->At θ u Γ E r' pN H' X->sI r'.φ mf fl->Q mf pN H'->R fl r'.s):wpAny θ.M Γ.A t R E r.s:=
 h.then λv r' l p=>by cases p with|mk pN H' mf T j q=>exact k v r' mf pN H' l (a.at_ l T) j q
def At.jE{mf:MF}{fl:Flow}(a:At θ u Γ E r' Lc H X)(l:Le r r')(j:sI r'.φ mf fl)(q:Q mf Lc H):eX r (DQ θ Γ Q) fl r'.s:=⟨r',rfl,l,Lc,H,mf,a.T,j,q⟩
def AK.mono{t:Gm->Sem Flow}(h:AK θ u Lc H X t Q)(k:∀mf L H',Q mf L H'->Q' mf L H'):AK θ u Lc H X t Q':=λ_ _ _ a=>a.Rg (h _ _ _ a) λ_ _ mf _ _ l a' j q=>a'.jE l j<|k mf _ _ q
def At.seq{mf:MF}{fl:Flow}{K:Loc->MH->Prop}{R:Flow->Shared->Prop}(a:At θ u Γ E r Lc H X)(j:sI r.φ mf fl)(q:qJ K Q mf Lc H)(k:K Lc H->R .next r.s)(o:∀fl,fl≠.next->sI r.φ mf fl->Q mf Lc H->R fl r.s):R fl r.s:=by
 cases mf with
 |next=>cases j;exact k q
 |brk=>cases j;exact o _ (by intro e;cases e) rfl q
 |cont=>cases j;exact o _ (by intro e;cases e) rfl q
 |ret v=>exact j.elim λx z=>by obtain⟨rfl,z⟩:=z;exact o _ (by intro e;cases e) ⟨x,rfl,z⟩ q
def ko.nil(hq:Q .next Lc H):ko θ u [] Lc H Q X:=λΓ E r a=>wpAny_execs_nil<|a.jE (mf:=.next) .refl rfl hq
def ko.cons{st:Stmt}{rest:List Stmt}(h:dU θ u st Lc H (qJ (λL' H'=>ko θ u rest L' H' Q X) Q) X):ko θ u (st::rest) Lc H Q X:=
 λΓ E r a=>wpAny_execs_cons (a.Rg (h _ _ _ a) λfl r1 mf L1 H1 l1 a1 j q=>a1.seq (R:=λf s'=>match f with|.next=>wpAny θ.M Γ.A (execs rest<|θ.f.env Γ.L) (eX r<|DQ θ Γ Q) E s'|f=>eX r (DQ θ Γ Q) f s') j q (λq=>(q _ _ _ a1).from l1) λfl n j q=>by
  cases fl with
  |next=>exact aan rfl n
  |_=>exact a1.jE l1 j q)
def dU.pass{pos}(hq:Q .next Lc H):dU θ u (.Pass pos) Lc H Q X:=λΓ E r a=>wpAny_Pass<|a.jE (mf:=.next) .refl rfl hq
def dU.brk{pos}(hq:Q .brk Lc H):dU θ u (.Break pos) Lc H Q X:=λΓ E r a=>wpAny_Break<|a.jE (mf:=.brk) .refl rfl hq
def dU.UE{pos}(hq:Q .cont Lc H):dU θ u (.Continue pos) Lc H Q X:=λΓ E r a=>wpAny_Continue<|a.jE (mf:=.cont) .refl rfl hq
def dU.ret{e:Expr}{pos}(h:aB θ u e Lc H (λv H'=>Q (.ret v) Lc H') X):dU θ u (.Return (some e) pos) Lc H Q X:=λΓ E r a=>wpAny_Return_some<|a.go (h _ _ _ a) λv r1 mv H1 l1 a1 v1 q=>a1.jE (mf:=.ret mv) l1 ⟨v,rfl,v1⟩ q
def dU.GN{pos}(hq:Q (.ret .none) Lc H):dU θ u (.Return none pos) Lc H Q X:=λΓ E r a=>wpAny_Return_none<|a.jE (mf:=.ret .none) .refl ⟨_,rfl,rfl⟩ hq
def dU.ite{c:Expr}{t e:List Stmt}{pos}(h:lU θ u c Lc H (λb H'=>if b then ko θ u t Lc H' Q X else ko θ u e Lc H' Q X) X):dU θ u (.If c t e pos) Lc H Q X:=
 λΓ E r a=>wpAny_If (a.go (h _ _ _ a) λb r1 b' H1 l1 a1 e q=>by
  subst e
  cases b' with
  |true=>exact(q _ _ _ a1).from l1
  |false=>exact(q _ _ _ a1).from l1)
def pq{α:Type}{l:List α}(h:l.Nodup){i j:Nat}{x:α}(hi:l[i]?=some x)(hj:l[j]?=some x):i=j:=by
 obtain⟨a,ea⟩:=List.getElem?_eq_some_iff.mp hi
 obtain⟨b,eb⟩:=List.getElem?_eq_some_iff.mp hj
 have p:=List.pairwise_iff_getElem.mp h
 rcases Nat.lt_trichotomy i j with q|q|q
 ·exact aan (ea.trans eb.symm)<|p i j a b q
 ·exact q
 ·exact aan (eb.trans ea.symm)<|p j i b a q
def uH{v:Value}{a b:Str}(h:v.isStr a=true)(n:a≠b):v.isStr b=false:=by
 cases q:v.isStr b with
 |false=>rfl
 |true=>exact aan (Value.isStr_inj v a b h q) n
section
variable{nm:Str}{h:Int}{t:Tok}{v:Value}
def n9{P:List DictEntry->List DictEntry->Prop}(nil:P []<|putL nm h (.str nm t) v [])(hit:∀e r,e.key.isStr nm=true->P (e::r) ({e with val:=v}::r))(miss:∀e r,e.key.isStr nm=false->P r (putL nm h (.str nm t) v r)->P (e::r) (e::putL nm h (.str nm t) v r))(es:List DictEntry):P es (putL nm h (.str nm t) v es):=by
 induction es with
 |nil=>exact nil
 |cons e r ih=>
  unfold putL
  cases q:e.key.isStr nm with
  |true=>exact hit e r q
  |false=>exact miss e r q ih
def za:(Value.str nm t).isStr nm=true:=by simp[Value.isStr]
def xV{e:DictEntry}{r:List DictEntry}{x:Str}(q:e.key.isStr x=true):(e::r).find? (·.key.isStr x)=some e:=List.find?_cons_of_pos q
def pX{e:DictEntry}{r:List DictEntry}{x:Str}(q:e.key.isStr x=false):(e::r).find? (·.key.isStr x)=r.find? (·.key.isStr x):=List.find?_cons_of_neg<|by rw[q];exact aap
def Ey:∀es:List DictEntry,((putL nm h (.str nm t) v es).find? (·.key.isStr nm)).map (·.val)=some v:=
 n9 (P:=λ_ l=>(l.find? (·.key.isStr nm)).map (·.val)=some v) (by rw[show putL nm h (.str nm t) v []=[⟨h,.str nm t,v⟩]from rfl,xV za];rfl) (λe r q=>by rw[xV (e:={e with val:=v}) q];rfl) λe r q ih=>by rw[pX q];exact ih
def Ez{x:Str}(n:x≠nm):∀es:List DictEntry,((putL nm h (.str nm t) v es).find? (·.key.isStr x)).map (·.val)=(es.find? (·.key.isStr x)).map (·.val):=
 n9 (P:=λes l=>(l.find? (·.key.isStr x)).map (·.val)=(es.find? (·.key.isStr x)).map (·.val)) (by rw[show putL nm h (.str nm t) v []=[⟨h,.str nm t,v⟩]from rfl,pX<|uH za n.symm])
  (λe r q=>by rw[pX (e:={e with val:=v})<|uH q n.symm,pX<|uH q n.symm]) λe r q ih=>by
   cases w:e.key.isStr x with
   |true=>rw[xV w,xV w]
   |false=>rw[pX w,pX w];exact ih
def any_put:∀es:List DictEntry,(putL nm h (.str nm t) v es).any (·.refKey)=es.any (·.refKey):=n9 (P:=λes l=>l.any (·.refKey)=es.any (·.refKey)) rfl (λ_ _ _=>rfl) λe r _ ih=>aac (e.refKey||·) ih
def qK(x:Str)(es:List DictEntry):getL x es=((es.find? (·.key.isStr x)).map (·.val)).elim (if es.any (·.refKey)then none else some none) λv=>some (some v):=by
 unfold getL
 cases es.find? (·.key.isStr x)<;>rfl
def wG(es:List DictEntry):getL nm (putL nm h (.str nm t) v es)=some (some v):=by rw[qK,Ey];rfl
def rJ{x:Str}(n:x≠nm)(es:List DictEntry):getL x (putL nm h (.str nm t) v es)=getL x es:=by rw[qK,qK,Ez n,any_put]
def rK:∀es:List DictEntry,(putL nm h (.str nm t) v es).length<=es.length+1:=n9 (P:=λes l=>l.length<=es.length+1) (aaj _) (λ_ _ _=>Nat.le_succ _) λ_ _ _ ih=>aau ih
def EA:∀{es:List DictEntry} {w:Value},getL nm es=some (some w)->(putL nm h (.str nm t) v es).length=es.length:=λ{es w} e=>
 n9 (P:=λes l=>((es.find? (·.key.isStr nm)).map (·.val)).isSome=true->l.length=es.length) (λe=>by cases e) (λ_ _ _ _=>rfl) (λe r q ih z=>aac (·+1)<|ih<|by rw[pX q]at z;exact z) es (by
  rw[qK]at e
  cases q:(es.find? (·.key.isStr nm)).map (·.val)with
  |some _=>rfl
  |none=>rw[q]at e;dsimp only[Option.elim]at e;split at e<;>cases e)
end
def xE.set{f:Fm}{φ:dD}{m:Str->Option Value}{x:Str}{k:Nat}{v:MV}{wv:Value}(hL:xE f φ Lc m)(hn:f.ns.Nodup)(hk:f.ns[k]?=some x)(hv:VR φ v wv):xE f φ (Lc.set k<|some v) (λy=>if y=x then some wv else m y):=λj y w hj hu=>by
 by_cases q:j=k
 ·subst q
  cases hk.symm.trans hj
  rw[List.getElem?_set]at hu
  rw[aam rfl]at hu
  by_cases ho:j<Lc.length
  ·rw[aam ho]at hu;cases hu;exact⟨wv,aam rfl,hv⟩
  ·rw[aal ho]at hu;cases hu
 ·rw[List.getElem?_set_ne<|Ne.symm q]at hu
  exact(hL j y w hj hu).elim λz c=>⟨z,(aal λe:y=x=>q<|pq hn hj<|e▸hk).trans c.1,c.2⟩
def At.store{x:Str}{k:Nat}{v:MV}{wv:Value}{R:Unit->Shared->Prop}(a:At θ u Γ E r Lc H X)(n:jf θ.f k x)(v1:VR r.φ v wv)(hq:∀r',Le r r'->r'.φ=r.φ->At θ u Γ E r' (Lc.set k<|some v) H X->R () r'.s):wpAny θ.M Γ.A (storeName (θ.f.env Γ.L) x wv) R E r.s:=
 storeX_L a.T.F a.T.N (λh' F' N'=>have l:Le r ⟨r.φ,λy=>if y=x then some wv else r.m y,{r.s with heap:=h',toks:=r.s.toks+1}⟩:=⟨.refl,rfl,rfl⟩
  hq _ l rfl (a.at_ l ⟨F',N',a.T.R,a.T.loc.set a.C.nodup n.ns v1⟩)) a.C.lT n.kd
def At.l7{x:Str}{p:Pos}{k:Nat}{v:MV}{wv:Value}{R:Unit->Shared->Prop}(a:At θ u Γ E r Lc H X)(n:jf θ.f k x)(v1:VR r.φ v wv)(hq:∀r',Le r r'->r'.φ=r.φ->At θ u Γ E r' (Lc.set k<|some v) H X->R () r'.s):wpAny θ.M Γ.A (assign (.Name x p) (θ.f.env Γ.L) wv) R E r.s:=
 PyProof.Rows.assign_Name (a.store n v1 hq)
def dU.sL{x:Str}{k:Nat}{p pos:Pos}{e:Expr}(n:jf θ.f k x)(hn:gW e=true)(h:aB θ u e Lc H (λv H1=>Q .next (Lc.set k<|some v) H1) X):dU θ u (.Assign [.Name x p] e pos) Lc H Q X:=
 λΓ E r a=>wpAny_Assign_Name (a.go (h _ _ _ a) λv r1 mv H1 l1 a1 v1 q=>a1.store n v1 λr2 l2 _ a2=>a2.jE (mf:=.next) (l1.trans l2) rfl q)<|n8 hn
def pO{i c k:Nat}{p:Addr×Addr}{fs:List (Nat×MV)}{x:Str}{v:MV}{wv:Value}{R:Unit->Shared->Prop}(O:F9 θ.S θ.w)(a:At θ u Γ E r Lc H X)(h:H.at_ i=some (.inst c fs))(hp:r.φ.adr i=some p)(ht:θ.S.tab c k=true)(hk:θ.S.nm[k]?=some x)(hl:fs.length<jO)(hv:VR r.φ v wv)
  (hq:∀r',Le r r'->At θ u Γ E r' Lc (H.put i<|.inst c<|jN k v fs) X->R () r'.s):wpAny θ.M Γ.A (setAttr (.ref p.1) x wv) R E r.s:=by
 obtain⟨p',es,n,qy,h2,h3,fr,h5,h6,ow⟩:=(a.T.R.obj i _ h:nM _ _ _ _ _)
 cases aaf (hp.symm.trans qy)
 have F:=O.tab c k x ht hk
 have hs:(getL x es).isSome=true:=by
  cases q:fs.lookup k with
  |some w=>exact(fr.yes k x w hk q).elim λw z=>by rw[z.1];rfl
  |none=>rw[fr.no k x hk q];rfl
 have hlen:(putL x (PyData.keyHash θ.w.params x) (.str x<|r.s.toks+1) wv es).length<=(jN k v fs).length:=by
  cases q:fs.lookup k with
  |some w=>exact(fr.yes k x w hk q).elim λw z=>av (Nat.le_of_eq<|EA z.1)<|av h5<|Kp k v fs
  |none=>rw[Ef fs q];exact av (rK ..)<|aau h5
 have h9:(jN k v fs).length<=jO:=av (Ko k v fs) hl
 refine set_dict (es':=putL x (PyData.keyHash θ.w.params x) (.str x<|r.s.toks+1) wv es) (n':=putN x es n) a.T.F a.C.X a.T.N (InstAt.of_news a.T.N h2 h3) rfl F.set F.over F.BW F.dict hs rfl (oZ (dictOf (putL x (PyData.keyHash θ.w.params x) (.str x<|r.s.toks+1) wv es)<|putN x es n)<|lS a.T.R.nodup h3) (av hlen<|av h9<|by decide) λh' F' N'=>?_
 have Z:=a.upd (tk:=r.s.toks+2) h rfl ⟨p,hp,.inr rfl⟩ h3 (o':=.inst c<|jN k v fs) (λe=>aan (Value.type.inj e)<|by decide) (λe=>aan (Value.type.inj e)<|by decide) rfl F' N' λX m' kp=>nM.mk p _ _ hp (kp _ _ (λe=>by rw[e]at h2;cases nO a.T.R.nodup h2 h3) h2) m' ⟨λj y w hj hu=>by
   by_cases q:j=k
   ·subst q
    cases hk.symm.trans hj
    rw[rB]at hu;cases hu
    exact⟨wv,wG ..,hv.ext X⟩
   ·rw[lP v q]at hu
    exact(fr.yes j y w hj hu).elim λw z=>⟨w,(rJ (λe=>q<|pq O.nodup (e▸hj) hk) ..).trans z.1,z.2.ext X⟩,λj y hj hu=>by
   by_cases q:j=k
   ·subst q;rw[rB]at hu;cases hu
   ·rw[lP v q]at hu
    exact(rJ (λe=>q<|pq O.nodup (e▸hj) hk) ..).trans (fr.no j y hj hu)⟩ hlen h9 λj w hu=>by
   by_cases q:j=k
   ·exact q▸ht
   ·rw[lP v q]at hu;exact ow j w hu
 exact hq _ Z.l Z.a
end
def EB{es:List Expr}{k:Nat}{p:Pos}{v:Expr}{env:Env}(h:AG v=true):swappedStores [.Tuple es k p] v env=pure none:=by
 cases v<;>first|rfl|exact(aap h).elim
def mQ(K:Loc->MH->Prop)(Q:QF):QF:=λmf L H=>mf.casesOn (K L H) (Q .next L H) (K L H) λv=>Q (.ret v) L H
section
variable{θ:Th}{u u':Nat}{Γ:Gm}{E:Value->Shared->Prop}{r r':Rh}{Lc:Loc}{H H':MH}{Q Q':QF}{X:QX}{P:Prop}
def dU.zc(O:bL θ.S θ.w){x:Str}{k:Nat}{p pos:Pos}{o e:Expr}(hk:θ.S.nm[k]?=some x)(hn:gW e=true)
  (h:aB θ u e Lc H (λv H1=>aB θ u o Lc H1 (λov H2=>dX ov k H2 λi c fs=>θ.S.tab c k=true/\fs.length<jO/\Q .next Lc (H2.put i<|.inst c<|jN k v fs)) X) X):dU θ u (.Assign [.Attribute o x p] e pos) Lc H Q X:=
 λΓ E r a=>plainObj_wpAny_Assign_Attribute (a.go (h _ _ _ a) λv r1 mv H1 l1 a1 v1 q=>a1.go (q _ _ _ a1) λov r2 mo H2 l2 a2 v2 q=>Uk (P:=λmo=>VR r2.φ mo ov->wpAny θ.M Γ.A (setAttr ov x v) _ E r2.s) q (λi c fs hi q v2=>eY (P:=λov=>wpAny θ.M Γ.A (setAttr ov x v) _ E r2.s) v2 λp hp=>
  pO O.toF9 a2 hi hp q.1 hk q.2.1 (v1.ext l2.x) λr3 l3 a3=>a3.jE (mf:=.next) (l1.trans<|l2.trans l3) rfl q.2.2) v2)<|n8 hn
def dU.expr{e:Expr}{pos:Pos}(hn:gW e=true)(h:aB θ u e Lc H (λ_ H1=>Q .next Lc H1) X):dU θ u (.Expr e pos) Lc H Q X:=
 λΓ E r a=>wpAny_Expr_any (a.go (h _ _ _ a) λv r1 mv H1 l1 a1 v1 q=>a1.jE (mf:=.next) l1 rfl q) (by
  unfold interactive
  show((θ.f.sc.kind==.module)&&_)=false
  rw[a.C.lT];rfl)<|n8 hn
def dU.GO{x:Str}{k:Nat}{p pos:Pos}{op:Operator}{e:Expr}{w:MV}(n:jf θ.f k x)(hu:Lc[k]?=some (some w))(h:aB θ u e Lc H (λb H1=>dc θ u Lc H1 X [w,b] (Qx op) VR λv H2=>Q .next (Lc.set k<|some v) H2) X):dU θ u (.AugAssign (.Name x p) op e pos) Lc H Q X:=
 λΓ E r a=>(a.T.loc k x w n.ns hu).elim λwu z=>wpAny_AugAssign_Name<|wpAny_loadName_local a.C.lT n.kd a.T.F.ns z.1<|a.go (h _ _ _ a) λb r1 mb H1 l1 a1 v1 q=>a1.go (q _ _ _ [wu,b] a1<|.two (z.2.ext l1.x) v1) λv r2 mv H2 l2 a2 v2 q=>a2.store n v2 λr3 l3 _ a3=>a3.jE (mf:=.next) (l1.trans<|l2.trans l3) rfl q
def dU.GP(O:bL θ.S θ.w){x:Str}{k:Nat}{p pos:Pos}{op:Operator}{o e:Expr}(hk:θ.S.nm[k]?=some x)
  (h:aB θ u o Lc H (λov H1=>dX ov k H1 λi c fs=>bM (fs.lookup k) λw=>aB θ u e Lc H1 (λb H2=>dc θ u Lc H2 X [w,b] (Qx op) VR λv H3=>iR (H3.at_ i) λc' fs'=>c'=c/\θ.S.tab c k=true/\fs'.length<jO/\Q .next Lc (H3.put i<|.inst c<|jN k v fs')) X) X):dU θ u (.AugAssign (.Attribute o x p) op e pos) Lc H Q X:=
 λΓ E r a=>wpAny_AugAssign_AttributeAny (a.go (h _ _ _ a) λov r1 mo H1 l1 a1 v1 q=>Uk (P:=λmo=>VR r1.φ mo ov->wpAny θ.M Γ.A (getAttr ov x true) _ E r1.s) q (λi c fs hi q v1=>cX q λw hu q=>eY (P:=λov=>wpAny θ.M Γ.A (getAttr ov x true) (λold s₁=>wpAny θ.M Γ.A (eval e<|θ.f.env Γ.L) (λb s₂=>wpAny θ.M Γ.A (inplaceOp op old b) (λv s₃=>wpAny θ.M Γ.A (setAttr ov x v) (λ_ s₄=>eX r (DQ θ Γ Q) .next s₄) E s₃) E s₂) E s₁) E r1.s) v1 λp hp=>j8 O.toF9 a1 hi hu hk hp λold tk vo=>
  (a1.tk tk).go (q _ _ _<|a1.tk tk) λb r2 mb H2 l2 a2 v2 q=>a2.go (q _ _ _ [old,b] a2<|.two (VR.ext l2.x vo) v2) λv r3 mv H3 l3 a3 v3 q=>wm q λc' fs' hi' q=>by
   obtain⟨rfl,ht,hl,q⟩:=q
   exact pO O.toF9 a3 hi' ((Le.tk.trans<|l2.trans l3).x.adr i p hp) ht hk hl v3 λr4 l4 a4=>a4.jE (mf:=.next) (l1.trans<|Le.tk.trans<|l2.trans<|l3.trans l4) rfl q) v1)
def dU.assign2{x y:Str}{k j:Nat}{p p' pos:Pos}{e:Expr}(n1:jf θ.f k x)(n2:jf θ.f j y)(h:aB θ u e Lc H (λv H1=>Q .next ((Lc.set k<|some v).set j<|some v) H1) X):dU θ u (.Assign [.Name x p,.Name y p'] e pos) Lc H Q X:=
 λΓ E r a=>wpAny_Assign_two (a.go (h _ _ _ a) λv r1 mv H1 l1 a1 v1 q=>a1.l7 n1 v1 λr2 l2 e2 a2=>a2.l7 n2 (e2.symm▸v1) λr3 l3 _ a3=>a3.jE (mf:=.next) (l1.trans<|l2.trans l3) rfl q) rfl rfl
def dU.Lg{x y z:Str}{k j i:Nat}{p p' p'' pos:Pos}{e:Expr}(n1:jf θ.f k x)(n2:jf θ.f j y)(n3:jf θ.f i z)(h:aB θ u e Lc H (λv H1=>Q .next (((Lc.set k<|some v).set j<|some v).set i<|some v) H1) X):dU θ u (.Assign [.Name x p,.Name y p',.Name z p''] e pos) Lc H Q X:=
 λΓ E r a=>wpAny_Assign_three (a.go (h _ _ _ a) λv r1 mv H1 l1 a1 v1 q=>a1.l7 n1 v1 λr2 l2 e2 a2=>a2.l7 n2 (e2.symm▸v1) λr3 l3 e3 a3=>a3.l7 n3 (e3.symm▸e2.symm▸v1) λr4 l4 _ a4=>a4.jE (mf:=.next) (l1.trans<|l2.trans<|l3.trans l4) rfl q) rfl rfl
def sN:∀(es:List Expr) (ks:List Nat),gO θ.f es ks=true->∀vs ws Lc r {R:Unit->Shared->Prop},At θ u Γ E r Lc H X->cK r.φ vs ws->vs.length=ks.length->(∀r',Le r r'->At θ u Γ E r' (n7 ks vs Lc) H X->R () r'.s)->wpAny θ.M Γ.A (assignInOrder ((assignEach es<|θ.f.env Γ.L).map (·.2)) ws) R E r.s:=
 B9 (P:=λes ks=>∀vs ws Lc r {R:Unit->Shared->Prop},At θ u Γ E r Lc H X->cK r.φ vs ws->vs.length=ks.length->(∀r',Le r r'->At θ u Γ E r' (n7 ks vs Lc) H X->R () r'.s)->wpAny θ.M Γ.A (assignInOrder ((assignEach es<|θ.f.env Γ.L).map (·.2)) ws) R E r.s)
  (λvs ws Lc r R a j hl k=>by
   cases vs with
   |nil=>cases j;exact aao<|k r .refl a
   |cons=>cases hl) λx p es k ks n _ ih vs ws Lc r R a j hl q=>by
   cases vs with
   |nil=>cases hl
   |cons v vs=>
    refine dG j λwv BQ e v1 vr=>?_
    subst e
    exact gf (m:=holding BQ<|assign (.Name x p) (θ.f.env Γ.L) wv)<|aax<|a.l7 n v1 λr2 l2 e2 a2=>ih vs BQ _ r2 a2 (e2.symm▸vr) (Nat.succ.inj hl) λr3 l3 a3=>q r3 (l2.trans l3) a3
def assign_tuple{es:List Expr}{ks:List Nat}{vs:List MV}{wv:Value}{k:Nat}{pos:Pos}{R:Unit->Shared->Prop}(qt:θ.S.quiet=true)(a:At θ u Γ E r Lc H X)(hn:gO θ.f es ks=true)(v1:VR r.φ (.tup vs) wv)(hl:vs.length=ks.length)
  (hq:∀r',Le r r'->At θ u Γ E r' (n7 ks vs Lc) H X->R () r'.s):wpAny θ.M Γ.A (assign (.Tuple es k pos) (θ.f.env Γ.L) wv) R E r.s:=sA v1 λd ws e m w=>by
 subst e
 have p:=sJ (env:=θ.f.env Γ.L) es ks hn
 refine unpackN_ (items:=ws.toArray) a.T.F a.T.N ⟨_,(a.T.N _ m).1,rfl,_,rfl⟩ (a.C.quiet qt) (by rw[p.2,List.size_toArray,w.length,hl]) p.1 λh' F' N'=>?_
 rw[List.toList_toArray]
 have l:Le r ⟨r.φ,r.m,{r.s with heap:=h'}⟩:=⟨.refl,rfl,rfl⟩
 exact sN es ks hn vs ws Lc _ (a.at_ l ⟨F',N',a.T.R,a.T.loc⟩) w hl λr2 l2 a2=>hq r2 (l.trans l2) a2
def dU.AL{es:List Expr}{ks:List Nat}{k:Nat}{p pos:Pos}{e:Expr}(qt:θ.S.quiet=true)(hn:AG e=true)(hc:gW e=true)(hs:gO θ.f es ks=true)(h:aB θ u e Lc H (λv H1=>An v λvs=>vs.length=ks.length/\Q .next (n7 ks vs Lc) H1) X):dU θ u (.Assign [.Tuple es k p] e pos) Lc H Q X:=
 λΓ E r a=>Assign_Tuple (a.go (h _ _ _ a) λv r1 mv H1 l1 a1 v1 q=>Qv q λvs e q=>assign_tuple qt a1 hs (e▸v1) q.1 λr2 l2 a2=>a2.jE (mf:=.next) (l1.trans l2) rfl q.2) (show swapsWith e (some<|.Tuple es k p) pos.line (θ.f.env Γ.L)=pure false from n8 hc)<|EB hn
def dU.uI{o i e:Expr}{p pos:Pos}(hn:gW e=true)(h:aB θ u e Lc H (λv H1=>aB θ u o Lc H1 (λov H2=>aB θ u i Lc H2 (λiv H3=>vP ov iv v H3 λH4=>Q .next Lc H4) X) X) X):dU θ u (.Assign [.Subscript o i p] e pos) Lc H Q X:=
 λΓ E r a=>wpAny_Assign_Subscript (a.go (h _ _ _ a) λv r1 mv H1 l1 a1 v1 q=>a1.go (q _ _ _ a1) λov r2 mo H2 l2 a2 v2 q=>a2.go (q _ _ _ a2) λiv r3 mi H3 l3 a3 v3 q=>a3.go (K0 (θ:=θ) (u:=u) (Lc:=Lc) (X:=X) q _ _ _ [ov,iv,v] a3<|iX (v2.ext l3.x)<|.two v3<|v1.ext (l2.trans l3).x) λ_ r4 _ H4 l4 a4 _ q=>
  a4.jE (mf:=.next) (l1.trans<|l2.trans<|l3.trans l4) rfl q)<|n8 hn
def dU.Lh{o i:Expr}{p pos:Pos}(h:aB θ u o Lc H (λov H2=>aB θ u i Lc H2 (λiv H3=>Ax ov iv H3 λH4=>Q .next Lc H4) X) X):dU θ u (.Delete [.Subscript o i p] pos) Lc H Q X:=
 λΓ E r a=>wpAny_Delete<|wpAny_deleteEach_cons<|wpAny_delete_Subscript<|a.go (h _ _ _ a) λov r2 mo H2 l2 a2 v2 q=>a2.go (q _ _ _ a2) λiv r3 mi H3 l3 a3 v3 q=>a3.go (K3 (θ:=θ) (u:=u) (Lc:=Lc) (X:=X) q _ _ _ [ov,iv] a3<|.two (v2.ext l3.x) v3) λ_ r4 _ H4 l4 a4 _ q=>wpAny_deleteEach_nil<|a4.jE (mf:=.next) (l2.trans<|l3.trans l4) rfl q
def dU.Lj{e:Expr}{msg:Option Expr}{pos:Pos}(h:lU θ u e Lc H (λb H1=>b=true/\Q .next Lc H1) X):dU θ u (.Assert e msg pos) Lc H Q X:=
 λΓ E r a=>wpAny_Assert_holds<|a.go (h _ _ _ a) λb r1 b' H1 l1 a1 e q=>⟨e.symm.trans q.1,a1.jE (mf:=.next) l1 rfl q.2⟩
def At.uJ{E':Value->Shared->Prop}{X':QX}(a:At θ u Γ E r Lc H X)(e:Qu θ Γ r X' E'):At θ u Γ E' r Lc H X':=⟨a.C,a.rm,a.T,e⟩
def At.noted(a:At θ u Γ E r Lc H X):At θ u Γ (notedBy θ.M Γ.A (θ.f.env Γ.L)<|cameBackBy θ.M Γ.A (θ.f.env Γ.L) E) r Lc H X:=a.uJ λr' pN H' x e l fl q=>by
 obtain⟨B,h1,ea,d,es,n,wv,rfl,F,U,b1,b2,AI,b3,b4,b5,b6,b7,b8,b9⟩:=fl
 exact Oe a.C.fr rfl AI λh' F3 U3=>Ug rfl F3 λh'' F4 U4=>a.EX ⟨r'.φ,r'.m,{r'.s with heap:=h''}⟩ pN H' x _ ⟨l.x,l.g,l.o⟩ ⟨B,h1,ea,d,es,n,wv,rfl,F,(U.trans U3).trans U4,b1,b2,F4.Zm<|.inr rfl,b3,b4,b5,b6,b7,b8,b9⟩ q
def Ri(θ:Th)(u:Nat)(c:Expr)(body orelse:List Stmt)(Lc:Loc)(H:MH)(Q:QF)(X:QX):Prop:=∀Γ E r,At θ u Γ E r Lc H X->∀k,WhlRest θ.S.prog θ.w Γ.A E (θ.f.env Γ.L) c body orelse (eX r<|DQ θ Γ Q) k r.s
def Ri.turn{c:Expr}{body orelse:List Stmt}(h:lU θ u c Lc H (λb H'=>if b then ko θ u body Lc H' (mQ (λL2 H2=>Ri θ u c body orelse L2 H2 Q X) Q) X else ko θ u orelse Lc H' Q X) X):Ri θ u c body orelse Lc H Q X:=λΓ E r a k=>by
 have a':=a.noted
 refine codeAny_of_tree (?_:wpAny _ Γ.A ((whileTurn c body orelse<|θ.f.env Γ.L).onRaise λx=>do noteFrame x (θ.f.env Γ.L);theTreesLotGoes x) _ _ r.s)
 refine wpAny_noted ?_
 simp only[whileTurn]
 refine gf<|a'.go (h _ _ _ a') λb r1 b' H1 l1 a1 e q=>?_
 subst e
 cases b' with
 |false=>exact gf<|wpAny_mono ((q:ko ..) _ _ _ a1) (λfl s z=>aao<|z.from l1) λ_ _ z=>z
 |true=>
  refine gf<|a1.Rg ((q:ko ..) _ _ _ a1) λfl r2 mf L2 H2 l2 a2 j q=>?_
  have a3:=a2.uJ<|a.EX.le<|l1.trans l2
  have again:Ri θ u c body orelse L2 H2 Q X->WhlRest θ.S.prog θ.w Γ.A E (θ.f.env Γ.L) c body orelse (eX r<|DQ θ Γ Q) k r2.s:=λq=>codeAny_mono (q _ _ _ a3 k) λo s' z=>by
   cases o with
   |error e=>exact z
   |ok fl=>exact eX.from (l1.trans l2) z
  cases mf with
  |next=>cases j;exact aao ⟨rfl,again q⟩
  |cont=>cases j;exact aao ⟨rfl,again q⟩
  |brk=>cases j;exact aao<|a3.jE (mf:=.next) (l1.trans l2) rfl q
  |ret v=>exact j.elim λx z=>by obtain⟨rfl,z⟩:=z;exact aao<|a3.jE (mf:=.ret v) (l1.trans l2) ⟨x,rfl,z⟩ q
def dU.Rj{c:Expr}{body orelse:List Stmt}{pos:Pos}(h:Ri θ u c body orelse Lc H Q X):dU θ u (.While c body orelse pos) Lc H Q X:=λΓ E r a=>whl_start 0<|h Γ E r a 0
def uK:QX:=λ_ _ _=>False
def At.Zy{E':Value->Shared->Prop}(a:At θ u Γ E r Lc H X):At θ u Γ E' r Lc H uK:=a.uJ λ_ _ _ _ _ _ _ q=>q.elim
def dU.Rk{body orelse:List Stmt}{hd:ExceptHandler}{hs:List ExceptHandler}{pos:Pos}(h:ko θ u body Lc H (qJ (λL' H'=>ko θ u orelse L' H' Q X) Q) uK):dU θ u (.Try body (hd::hs) orelse [] pos) Lc H Q X:=
 λΓ E r a=>wpAny_Try_except ((a.Zy).Rg (h _ _ _ a.Zy) λfl r1 mf L1 H1 l1 a1 j q=>by
  have a2:=a1.uJ<|a.EX.le l1
  exact a2.seq (R:=λf s'=>match f with|.next=>wpAny θ.M Γ.A (execs orelse<|θ.f.env Γ.L) (eX r<|DQ θ Γ Q) E s'|f=>eX r (DQ θ Γ Q) f s') j q (λq=>(q _ _ _ a2).from l1) λfl n j q=>by
   cases fl with
   |next=>exact aan rfl n
   |_=>exact a2.jE l1 j q)
end
noncomputable def l9(e:Expr):Bool:=!(e.ctorIdx==7)
def kY{e:Expr}{env:Env}{x:Value}(h:l9 e=true):foldedSetIterable e env x=pure x:=by
 cases e<;>first|rfl|exact(aap h).elim
def mY(θ:Th)(u:Nat)(body:List Stmt)(us:List<|Loc->Loc):Loc->MH->QF->Prop:=us.rec (λLc H Q=>Q .next Lc H) λg _ ih Lc H Q=>ko θ u body (g Lc) H (mQ (λL' H'=>ih L' H' Q) Q) uK
def oh(θ:Th)(Γ:Gm)(r:Rh)(Q:QF)(o:Result)(s:Shared):Prop:=o.casesOn (λ_=>False) λfl=>eX r (DQ θ Γ Q) fl s
inductive Rl(θ:Th)(u:Nat)(Γ:Gm)(r:Rh)(wr:List Addr)(rL:Nat->Heap->Prop)(body:List Stmt)(us:List<|Loc->Loc)(Q:QF)(k:Nat)(s:Shared):Prop
 |mk (i:Nat) (r1:Rh) (L1:Loc) (H1:MH):r1.s=s->St θ Γ r1 L1 H1->Le r r1->(∀p∈r1.φ.news,p.1∉wr)->rL i s.heap->i<=us.length->k=us.length-i->mY θ u body (us.drop i) L1 H1 Q->Rl θ u Γ r wr rL body us Q k s
section
variable{θ:Th}{u u':Nat}{Γ:Gm}{E:Value->Shared->Prop}{r r':Rh}{Lc:Loc}{H H':MH}{Q Q':QF}{X:QX}{P:Prop}
def St.iO{φ':dD}(T:St θ Γ r Lc H)(N:News Γ.h₀ Γ.L r.s.heap φ'.news)(R:fB θ.S θ.w φ' H')(x:jc r.φ φ'):St θ Γ ⟨φ',r.m,r.s⟩ Lc H':=⟨T.F,N,R,λk y v hy hv=>(T.loc k y v hy hv).elim λw z=>⟨w,z.1,z.2.iO x⟩⟩
def St.off{wr:List Addr}{h':Heap}{tk:Nat}(T:St θ Γ r Lc H)(hL:Γ.L∉wr)(hwr:∀b∈wr,Γ.h₀.get? b=none)(hnw:∀p∈r.φ.news,p.1∉wr)(hk:∀b o,b∉wr->r.s.heap.get? b=some o->h'.get? b=some o):St θ Γ ⟨r.φ,r.m,{r.s with heap:=h',toks:=tk}⟩ Lc H:=
 ⟨⟨T.F.ns.at' λo e=>hk _ o hL e,λb o e=>hk b o (λhb=>nomatch(hwr b hb).symm.trans e)<|T.F.keep b o e,T.F.above⟩,λp hp=>⟨hk _ _ (hnw p hp) (T.N p hp).1,(T.N p hp).2⟩,T.R,T.loc⟩
def zd{h₀:Heap}{wr:List Addr}{h:Heap}(hn:wr.Nodup):((PyProof.Rows.ownOf h₀ wr h).map (·.1)).Nodup:=by
 refine hn.sublist ?_
 clear hn
 unfold PyProof.Rows.ownOf
 induction wr with
 |nil=>exact .slnil
 |cons b r ih=>
  rw[List.filterMap_cons]
  split
  ·exact ih.cons b
  ·rename_i x hx
   have:x.1=b:=by
    split at hx
    ·obtain⟨o,_,e⟩:=Option.map_eq_some_iff.mp hx;rw[<-e]
    ·cases hx
   rw[List.map_cons,this]
   exact ih.cons₂ b
def wI{h₀:Heap}{wr:List Addr}{h:Heap}{p:Addr×Obj}(hp:p∈PyProof.Rows.ownOf h₀ wr h):p.1∈wr/\h.get? p.1=some p.2:=by
 obtain⟨b,hb,e⟩:=List.mem_filterMap.mp hp
 split at e
 ·obtain⟨o,ho,e⟩:=Option.map_eq_some_iff.mp e
  rw[<-e];exact⟨hb,ho⟩
 ·cases e
structure Xw(Γ:Gm)(r:Rh)(fp wr:List Addr)(rL:Nat->Heap->Prop):Prop where
 off:Γ.L∉wr
 new:∀b∈wr,Γ.h₀.get? b=none
 nd:wr.Nodup
 nw:∀p∈r.φ.news,p.1∉wr
 fps:∀b∈fp,b∈wr∨(∃o,(b,o)∈r.φ.pins)∨∃o,Γ.h₀.get? b=some o
 nv:∀i h,rL i h->∀b∈wr,∃o,h.get? b=some o/\rC o
def GQ{target:Expr}{I:Addr}{fp wr:List Addr}{us:List (Loc->Loc)}{Pt Md:Nat->Value->Heap->Prop}{rL:Nat->Heap->Prop}(W:KTurns θ.S.prog θ.w Γ.A target I fp wr us.length Pt Md rL)(I0:Xw Γ r fp wr rL)
  {i:Nat}(hlt:i<us.length){r1 r3 r5:Rh}{L1:Loc}{H1 H5:MH}{L5:Loc}{own:aS}(l1:Le r r1)(hn1:∀p∈r1.φ.news,p.1∉wr)(R1:fB θ.S θ.w r1.φ H1)(eo:own=PyProof.Rows.ownOf Γ.h₀ wr r3.s.heap)(e3:r3.φ=⟨r1.φ.adr,own++r1.φ.news,r1.φ.pins,r1.φ.fix,own++r1.φ.its⟩)(x3:jc r1.φ r3.φ)(g3:r3.s.gens=r1.s.gens)(o3:r3.s.os=r1.s.os)
  (st3:rL (i+1) r3.s.heap)(T3:St θ Γ r3 L1 H1)(l5:Le r3 r5)(T5:St θ Γ r5 L5 H5)(k:∀r6:Rh,r6.s=r5.s->(∀mf fl,sI r5.φ mf fl->sI r6.φ mf fl)->Le r r6->St θ Γ r6 L5 H5->(∀p∈r6.φ.news,p.1∉wr)->rL (i+1) r6.s.heap->P):P:=by
 have ei:r5.φ.its=own++r1.φ.its:=l5.x.its.trans<|by rw[e3]
 have ep:r5.φ.pins=r1.φ.pins:=l5.x.pins.trans<|by rw[e3]
 have ef:r5.φ.fix=r1.φ.fix:=l5.x.fix.trans<|by rw[e3]
 have ow:∀p∈own,p.1∈wr/\r3.s.heap.get? p.1=some p.2:=λp hp=>wI<|eo▸hp
 have mo:∀b∈wr,∀o,r3.s.heap.get? b=some o->(b,o)∈own:=λb hb o ho=>eo.symm▸mem_ownOf hb (I0.new b hb) ho
 have Z:=T5.R.Kr ei (λb hb=>(I0.nv _ _ st3 b hb).elim λo z=>⟨o,mo b hb o z.1⟩) (λp hp=>⟨(ow p hp).1,(I0.nv _ _ st3 p.1 (ow p hp).1).elim λo z=>(aaf<|z.1.symm.trans (ow p hp).2)▸z.2⟩) λp hp=>hn1 p<|R1.pin p<|hp.imp (λh=>ep▸h)<|Or.imp (λh=>ef▸h) id
 have l6:Le r ⟨⟨r5.φ.adr,wj wr r5.φ.news,r5.φ.pins,r5.φ.fix,r1.φ.its⟩,r5.m,r5.s⟩:=⟨⟨((l1.x.tojc.trans x3).trans l5.x.tojc).trans Z.x,ep.trans l1.x.pins,l1.x.its⟩,l5.g.trans<|g3.trans l1.g,l5.o.trans<|o3.trans l1.o⟩
 have T6:=T5.iO (λp hp=>T5.N p (iY.mp hp).1) Z.R Z.x
 refine k ⟨⟨r5.φ.adr,wj wr r5.φ.news,r5.φ.pins,r5.φ.fix,r1.φ.its⟩,r5.m,r5.s⟩ rfl (λmf fl j=>?_) l6 T6 (λp hp=>(iY.mp hp).2)<|W.frame _ _ _ st3 λb hb o e=>(I0.fps b hb).elim (λh=>(T5.N _<|T5.R.pin (b,o)<|.inr<|.inr<|ei.symm▸List.mem_append_left _ (mo b h o e)).1) λh=>h.elim (λh=>h.elim λo' h=>?_) λh=>h.elim λo' h=>(T5.F.keep b o' h).trans<|(T3.F.keep b o' h).symm.trans e
 ·cases mf with
  |ret v=>exact j.elim λx z=>⟨x,z.1,z.2.iO Z.x⟩
  |_=>exact j
 ·have h1:(b,o')∈r5.φ.pins:=ep▸l1.x.pins▸h
  have h2:=(T5.N _<|T5.R.pin _<|.inl h1).1
  have h3:=(T3.N _<|T3.R.pin (b,o')<|.inl<|by rw[e3];exact l1.x.pins▸h).1
  exact h2.trans<|h3.symm.trans e
def qL{target:Expr}{body:List Stmt}{I:Addr}{fp wr:List Addr}{us:List (Loc->Loc)}{Pt Md:Nat->Value->Heap->Prop}{rL:Nat->Heap->Prop}(W:KTurns θ.S.prog θ.w Γ.A target I fp wr us.length Pt Md rL)(I0:Xw Γ r fp wr rL)(hst:rL 0 r.s.heap)(a:At θ u Γ E r Lc H X)
  (hit:∀i g v r1 L1 H1 E' (R:Unit->Shared->Prop),us[i]?=some g->Pt i v r1.s.heap->At θ u Γ E' r1 L1 H1 uK->jc r.φ r1.φ->(∀r',Le r1 r'->At θ u Γ E' r' (g L1) H1 uK->R () r'.s)->wpAny θ.M Γ.A (assign target (θ.f.env Γ.L) v) R E' r1.s)
  (hF:mY θ u body us Lc H Q):codeAny θ.M Γ.A (.forLoop target (.ref I) body []<|θ.f.env Γ.L) (oh θ Γ r Q) r.s:=by
 refine codeAny_forLoop_any (Rl θ u Γ r wr rL body us Q) (λk s1 z=>?_) us.length ⟨0,r,Lc,H,rfl,a.T,.refl,I0.nw,hst,Nat.zero_le _,rfl,hF⟩
 obtain⟨i,r1,L1,H1,rfl,T1,l1,hn1,st1,hi,rfl,F1⟩:=z
 by_cases hlt:i<us.length
 ·refine W.item i _ _ _ hlt st1 λv h₁ tk₁ hMd hk₁=>W.go i v _ _ _ hMd λh₂ hP st2 hk₂=>?_
  have T2:=T1.off (h':=h₂) (tk:=tk₁) I0.off I0.new hn1 λb o hb e=>hk₂ b o hb<|hk₁ b o hb e
  have nd:(((PyProof.Rows.ownOf Γ.h₀ wr h₂)++r1.φ.news).map (·.1)).Nodup:=by
   rw[List.map_append]
   exact List.nodup_append.mpr ⟨zd I0.nd,T1.R.nodup,λx hx y hy e=>(List.mem_map.mp hx).elim λp hp=>(List.mem_map.mp hy).elim λq hq=>hn1 q hq.1<|hq.2.trans (e.symm.trans hp.2.symm)▸(wI hp.1).1⟩
  have Z:=T2.R.BR nd
  have T3:=T2.iO (φ':=⟨r1.φ.adr,PyProof.Rows.ownOf Γ.h₀ wr h₂++r1.φ.news,r1.φ.pins,r1.φ.fix,PyProof.Rows.ownOf Γ.h₀ wr h₂++r1.φ.its⟩) (λp hp=>(List.mem_append.mp hp).elim (news_ownOf I0.off p)<|T2.N p) Z.R Z.x
  rw[show us.drop i=us[i]::us.drop (i+1)from List.drop_eq_getElem_cons hlt]at F1
  refine hit i us[i] v _ L1 H1 _ _ (List.getElem?_eq_getElem hlt) hP ⟨a.C,a.rm,T3,λ_ _ _ _ _ _ _ q=>q.elim⟩ (l1.x.tojc.trans Z.x) λr4 l4 a4=>?_
  refine a4.Rg ((F1:ko ..) _ _ _ a4) λfl r5 mf L5 H5 l5 a5 j q=>?_
  refine GQ (r3:=⟨⟨r1.φ.adr,PyProof.Rows.ownOf Γ.h₀ wr h₂++r1.φ.news,r1.φ.pins,r1.φ.fix,PyProof.Rows.ownOf Γ.h₀ wr h₂++r1.φ.its⟩,r1.m,{r1.s with heap:=h₂,toks:=tk₁}⟩) W I0 hlt l1 hn1 T1.R rfl rfl Z.x rfl rfl st2 T3 (l4.trans l5) a5.T λr6 e6 j6 l6 T6 n6 st6=>?_
  have again:mY θ u body (us.drop<|i+1) L5 H5 Q->∃m,m<us.length-i/\Rl θ u Γ r wr rL body us Q m r5.s:=λq=>⟨us.length-(i+1),Nat.sub_succ_lt_self _ _ hlt,i+1,r6,L5,H5,e6,T6,l6,n6,e6▸st6,hlt,rfl,q⟩
  have fin:∀mf fl,sI r5.φ mf fl->Q mf L5 H5->eX r (DQ θ Γ Q) fl r5.s:=λmf fl j q=>⟨r6,e6,l6,L5,H5,mf,T6,j6 mf fl j,q⟩
  cases mf with
  |next=>cases j;exact again q
  |cont=>cases j;exact again q
  |brk=>cases j;exact fin .next _ rfl q
  |ret v=>exact j.elim λx z=>by obtain⟨rfl,z⟩:=z;exact fin (.ret v) _ ⟨x,rfl,z⟩ q
 ·have hin:i=us.length:=Nat.le_antisymm hi<|Nat.not_lt.mp hlt
  subst hin
  refine W.done _ _ _ st1 λh₁ tk₁ hk₁=>wpAny_execs_nil ?_
  rw[List.drop_length]at F1
  exact⟨⟨r1.φ,r1.m,{r1.s with heap:=h₁,toks:=tk₁}⟩,rfl,l1.trans ⟨.refl,rfl,rfl⟩,L1,H1,.next,T1.off I0.off I0.new hn1 hk₁,rfl,F1⟩
end
def pP(ks:List Nat)(i:Nat)(l:List Nat):List (Loc->Loc):=l.rec (λ_=>[]) (λc _ ih i=>n7 ks [.int (i:Nat),.str [c]]::ih (i+1)) i
def ED(ks:List Nat)(l:List Nat):∀i,(pP ks i l).length=l.length:=l.rec (λ_=>rfl) λ_ _ ih i=>aac (·+1)<|ih<|i+1
def EE{P:Prop}(ks:List Nat)(l:List Nat):∀(i j:Nat) (g:Loc->Loc),(pP ks i l)[j]?=some g->(∀c,l[j]?=some c->g=n7 ks [.int (i+j:Nat),.str [c]]->P)->P:=
 l.rec (λ_ _ _ h _=>by cases h) λc l ih i j g h k=>by
  cases j with
  |zero=>exact k c rfl (aaf h).symm
  |succ j=>exact ih (i+1) j g h λc' a b=>k c' a<|by rw[b,Nat.succ_add_eq_add_succ]
section
variable{θ:Th}{u u':Nat}{Γ:Gm}{E:Value->Shared->Prop}{r r':Rh}{Lc:Loc}{H H':MH}{Q Q':QF}{X:QX}{P:Prop}
def lu{o:Obj}{t:String}(h:o.cls=.type t)(h1:t≠"tuple")(h2:t≠"method"):rC o:=⟨λe=>h1<|Value.type.inj<|h.symm.trans e,λe=>h2<|Value.type.inj<|h.symm.trans e⟩
def Ca(T:St θ Γ r Lc H){b:Addr}(hb:r.s.heap.objs.size<=b):Γ.h₀.get? b=none:=by
 cases z:Γ.h₀.get? b with
 |none=>rfl
 |some o=>exact aan (Heap.lt_size<|T.F.keep _ _ z)<|Nat.not_lt.mpr hb
def xW{ob:Obj}{a:Addr}{b:Addr}{φ':dD}{rL:Nat->Heap->Prop}(T:St θ Γ r Lc H)(en:φ'.news=r.φ.news)(ep:(∃o,(b,o)∈φ'.pins)∨∃o,Γ.h₀.get? b=some o)(ea:a=r.s.heap.objs.size)(nv:∀i h,rL i h->∃o,h.get? a=some o/\rC o):
  Xw Γ ⟨φ',r.m,{r.s with heap:=r.s.heap.push ob}⟩ [a,b] [a] rL:=
 ⟨λh=>aae T.F.ns.lt<|(aaa.mp h).trans ea,λc hc=>by rw[aaa.mp hc,ea];exact Ca T<|aaj _,List.nodup_cons.mpr ⟨(by intro h;cases h),List.Pairwise.nil⟩,
  λp hp e=>Nat.lt_irrefl _<|(aaa.mp e).trans ea▸Heap.lt_size (T.N p<|en▸hp).1,λc hc=>(aab.mp hc).elim (λe=>.inl<|e▸.head _) λh=>.inr<|aaa.mp h▸ep,λi h st c hc=>aaa.mp hc▸nv i h st⟩
def uM{r2:Rh}{o:Result}{s:Shared}(z:oh θ Γ r2 Q o s)(l:Le r r')(x:jc r'.φ r2.φ)(eg:r2.s.gens=r'.s.gens)(eo:r2.s.os=r'.s.os)(back:∀r5 L5 H5 mf,Le r2 r5->St θ Γ r5 L5 H5->Q mf L5 H5->∃ps H6,ps=r'.φ.pins/\uu θ.S θ.w r5.φ ⟨r5.φ.adr,r5.φ.news,ps,r5.φ.fix,r5.φ.its⟩ H6/\Q' mf L5 H6)(ei:r2.φ.its=r'.φ.its):oh θ Γ r Q' o s:=by
 cases o with
 |error e=>exact(z:False).elim
 |ok fl=>
  obtain⟨r5,rfl,l5,z⟩:=(z:eX r2 (DQ θ Γ Q) fl s)
  obtain⟨L5,H5,mf,T5,j,q⟩:=z
  obtain⟨ps,H6,e,Z,q⟩:=back r5 L5 H5 mf l5 T5 q
  refine(⟨⟨⟨r5.φ.adr,r5.φ.news,ps,r5.φ.fix,r5.φ.its⟩,r5.m,r5.s⟩,rfl,l.trans ⟨⟨(x.trans l5.x.tojc).trans Z.x,e,l5.x.its.trans ei⟩,l5.g.trans eg,l5.o.trans eo⟩,L5,H6,mf,T5.iO T5.N Z.R Z.x,?_,q⟩:eX r (DQ θ Γ Q') fl r5.s)
  cases mf with
  |ret v=>exact j.elim λx z=>⟨x,z.1,z.2.iO Z.x⟩
  |_=>exact j
def oh.out{o:Result}{s:Shared}{R:Value->Shared->Prop}(h:oh θ Γ r Q o s):(match(generalizing:=false) o with|.ok f=>eX r (DQ θ Γ Q) f s|.error e=>R e s):=by
 cases o with
 |error e=>exact(h:False).elim
 |ok f=>exact h
def dU.ze{x:Str}{k:Nat}{p pos:Pos}{iter:Expr}{body:List Stmt}(qt:θ.S.quiet=true)(hs:l9 iter=true)(n:jf θ.f k x)
  (h:aB θ u iter Lc H (λv H1=>iZ v λj=>gm (H1.at_ j) λxs=>mY θ u body (xs.map λv Lc=>Lc.set k<|some v) Lc (H1.del j) Q) X):dU θ u (.For (.Name x p) iter body [] pos) Lc H Q X:=
 λΓ E r a=>wpAny_For (a.go (h _ _ _ a) λxv r1 mv H1 l1 a1 v1 q=>rF (P:=λmv=>VR r1.φ mv xv->wpAny θ.M Γ.A (pyIter xv) _ E r1.s) q (λj q v1=>listE q λxs hj q=>eY (P:=λxv=>wpAny θ.M Γ.A (pyIter xv) _ E r1.s) v1 λpa hp=>d8.sG (a1.T.R.obj j _ hj) a1 (λ_ h=>h) hp λvs nn m1 z rv _ Xx=>wpAny_pyIter_list z (by
  have hl:pa.1≠r1.s.heap.objs.size:=aae<|Heap.lt_size (a1.T.N _ m1).1
  have Z:=a1.T.R.Qq hj ⟨pa,hp,.inl rfl⟩ m1
  have T2:St θ Γ ⟨⟨r1.φ.adr,r1.φ.news,(pa.1,listOf vs.toArray nn)::r1.φ.pins,r1.φ.fix,r1.φ.its⟩,r1.m,{r1.s with heap:=r1.s.heap.push {cls:=.type "list_iterator",data:=.fields #[.ref pa.1,.int 0 0]}}⟩ Lc (H1.del j):=
   ⟨a1.T.F.push _,a1.T.N.grown λ_ _ e=>Heap.get?_push_of_some _ e,Z.R,λk y v hy hv=>(a1.T.loc k y v hy hv).elim λw z=>⟨w,z.1,z.2.iO Z.x⟩⟩
  have W:=KTurns.ofWalks (target:=.Name x p) (Walks.list (prog:=θ.S.prog) (w:=θ.w) (a1.C.quiet qt) r1.s.heap.objs.size pa.1 hl vs.toArray) λi v s Q E st q=>letGo_listiter st.1 q
  rw[show vs.toArray.size=(xs.map λv (Lc:Loc)=>Lc.set k<|some v).length by rw[List.size_toArray,Xx,List.length_map]]at W
  refine codeAny_mono (qL W (xW (φ':=⟨r1.φ.adr,r1.φ.news,(pa.1,listOf vs.toArray nn)::r1.φ.pins,r1.φ.fix,r1.φ.its⟩) a1.T rfl (.inl ⟨_,.head _⟩) rfl λi h st=>st.1.elim λit z=>⟨it,z.1,lu z.2.1 (by decide)<|by decide⟩) ⟨⟨_,Heap.get?_push_size _ rfl,rfl,rfl⟩,z.at λo e=>Heap.get?_push_of_some _ e⟩ ⟨a1.C,a1.rm,T2,λ_ _ _ _ _ _ _ q=>q.elim⟩ (X:=uK) (E:=λ_ _=>True) (λi g v r3 L3 H3 E' R hg hP a3 x3 hq=>?_) q) λo s z=>oh.out<|uM z l1 Z.x rfl rfl (λr5 L5 H5 mf l5 T5 q=>⟨_,H5,rfl,T5.R.Qs l5.x.pins (by intro e;exact aan (Value.type.inj e)<|by decide),q⟩) rfl
  rw[List.getElem?_map]at hg
  obtain⟨mv,hmv,rfl⟩:=Option.map_eq_some_iff.mp hg
  refine rv.get hmv λwv hwv jv=>?_
  have Zz:vs.toArray[i]?=some v:=hP
  rw[List.getElem?_toArray,hwv]at Zz
  cases Zz
  exact a3.l7 n ((jv.iO Z.x).iO x3) λr4 l4 _ a4=>hq r4 l4 a4)) v1) λx=>kY hs
def dU.EF{x:Str}{k:Nat}{p pos:Pos}{iter:Expr}{body:List Stmt}(qt:θ.S.quiet=true)(hs:l9 iter=true)(n:jf θ.f k x)
  (h:aB θ u iter Lc H (λv H1=>iZ v λj=>rE (H1.at_ j) λes=>mY θ u body (es.map λe Lc=>Lc.set k<|some<|.int e.1) Lc (H1.put j<|.pG es) λmf pN H'=>H'.at_ j=some (.pG es)/\Q mf pN (H'.put j<|.cA es)) X):dU θ u (.For (.Name x p) iter body [] pos) Lc H Q X:=
 λΓ E r a=>wpAny_For (a.go (h _ _ _ a) λxv r1 mv H1 l1 a1 v1 q=>rF (P:=λmv=>VR r1.φ mv xv->wpAny θ.M Γ.A (pyIter xv) _ E r1.s) q (λj q v1=>Gb q λes hj q=>eY (P:=λxv=>wpAny θ.M Γ.A (pyIter xv) _ E r1.s) v1 λpa hp=>by
  obtain⟨ad,o,kvs,h1,m1,d1,rv,len,lo⟩:=(a1.T.R.obj j _ hj:gj _ _ _ _ _ _)
  cases aaf (h1.symm.trans hp)
  obtain⟨es',ep,dd⟩:=id d1
  have hl:ad≠r1.s.heap.objs.size:=aae<|Heap.lt_size (a1.T.N _ m1).1
  have hD:r1.s.heap.DictAt (intKind θ.S.prog θ.w) ad kvs ep:=⟨o,es',(a1.T.N _ m1).1,dd⟩
  refine wpAny_pyIter_dict lo hD ?_
  have Z:=a1.T.R.Ud hj h1 m1 d1 rv len lo
  have T2:St θ Γ ⟨⟨r1.φ.adr,r1.φ.news,(ad,o)::r1.φ.pins,r1.φ.fix,r1.φ.its⟩,r1.m,{r1.s with heap:=r1.s.heap.push {cls:=.type "dict_keyiterator",data:=.fields #[.ref ad,.int 0 0,.int kvs.length 0,.int ep 0]}}⟩ Lc (H1.put j<|.pG es):=
   ⟨a1.T.F.push _,a1.T.N.grown λ_ _ e=>Heap.get?_push_of_some _ e,Z.R,λk y v hy hv=>(a1.T.loc k y v hy hv).elim λw z=>⟨w,z.1,z.2.iO Z.x⟩⟩
  have W:=KTurns.ofWalks (target:=.Name x p) (Walks.dictKeys (knd:=intKind θ.S.prog θ.w) (a1.C.quiet qt) r1.s.heap.objs.size ad hl kvs ep) λi v s Q E st q=>letGo_keyiter st.1 q
  have hlen:kvs.length=(es.map λe (Lc:Loc)=>Lc.set k<|some<|.int e.1).length:=by rw[rv.len,List.length_map]
  rw[show KTurns θ.S.prog θ.w Γ.A (.Name x p) r1.s.heap.objs.size [r1.s.heap.objs.size,ad] [r1.s.heap.objs.size] kvs.length=KTurns θ.S.prog θ.w Γ.A (.Name x p) r1.s.heap.objs.size [r1.s.heap.objs.size,ad] [r1.s.heap.objs.size] (es.map λe (Lc:Loc)=>Lc.set k<|some<|.int e.1).length by rw[<-hlen]]at W
  refine codeAny_mono (qL W (xW (φ':=⟨r1.φ.adr,r1.φ.news,(ad,o)::r1.φ.pins,r1.φ.fix,r1.φ.its⟩) a1.T rfl (.inl ⟨_,.head _⟩) rfl λi h st=>st.1.elim λit z=>⟨it,z.1,lu z.2.1 (by decide)<|by decide⟩) ⟨⟨_,Heap.get?_push_size _ rfl,rfl,rfl⟩,hD.at' λo e=>Heap.get?_push_of_some _ e⟩ ⟨a1.C,a1.rm,T2,λ_ _ _ _ _ _ _ q=>q.elim⟩ (X:=uK) (E:=λ_ _=>True) (λi g v r3 L3 H3 E' R hg hP a3 x3 hq=>?_) q) λo' s z=>oh.out<|uM z l1 Z.x rfl rfl (λr5 L5 H5 mf l5 T5 q=>⟨r1.φ.pins,H5.put j<|.cA es,rfl,T5.R.Ue l5.x.pins q.1 (l5.x.adr _ _ h1) λp hp e=>a1.T.R.nN p (hp.imp id<|Or.imp (λh=>l5.x.fix▸h) λh=>l5.x.its▸h) j _ hj rfl ⟨_,h1,.inl e⟩,q.2⟩) rfl
  rw[List.getElem?_map]at hg
  obtain⟨e,hmv,rfl⟩:=Option.map_eq_some_iff.mp hg
  obtain⟨kk,xx,hk1,hk2⟩:=hP
  have e1:(kvs.map (·.1))[i]?=some kk:=by rw[List.getElem?_map,hk1];rfl
  rw[rv.keys,List.getElem?_map,hmv]at e1
  cases aaf e1
  exact a3.l7 (v:=.int e.1) n (yV hk2) λr4 l4 _ a4=>hq r4 l4 a4) v1) λx=>kY hs
end
section
variable{θ:Th}{u u':Nat}{Γ:Gm}{E:Value->Shared->Prop}{r r':Rh}{Lc:Loc}{H H':MH}{Q Q':QF}{X:QX}{P:Prop}
def Cb{n0 b:Addr}{P:Prop}(h:b∈[n0+1,n0])(k1:b=n0+1->P)(k0:b=n0->P):P:=(aab.mp h).elim k1 λh=>k0<|aaa.mp h
def zf{elts:List Expr}{kk:Nat}{tp:Pos}{ks:List Nat}{body:List Stmt}{l:List Nat}{h':Heap}(qt:θ.S.quiet=true)(hn:gO θ.f elts ks=true)(hk2:ks.length=2){n0:Nat}{rL:Nat->Heap->Prop}
  (D:Draws θ.S.prog θ.w Γ.A.in1 n0 [n0] l.length (λi v=>∃c u,l[i]?=some c/\v=.str ⟨#[c]⟩ u) rL)(hlive:∀i h,rL i h->∃o,h.get? n0=some o/\rC o)(he:IsEnum h' (n0+1) n0 0 .none)(hst:rL 0 h')(a:At θ u Γ E ⟨r.φ,r.m,{r.s with heap:=h'}⟩ Lc H X)
  (hL:Γ.L<n0)(hnew:∀b,n0<=b->Γ.h₀.get? b=none)(OA:∀p∈r.φ.news,p.1<n0)(hF:mY θ u body (pP ks 0 l) Lc H Q):codeAny θ.M Γ.A (.forLoop (.Tuple elts kk tp) (.ref<|n0+1) body []<|θ.f.env Γ.L) (oh θ Γ ⟨r.φ,r.m,{r.s with heap:=h'}⟩ Q) {r.s with heap:=h'}:=by
 have W:=KTurns.ofWalksU (elts:=elts) (k:=kk) (pos:=tp) (WalksT.enumerateD D (n0+1) (Nat.succ_ne_self _) (by simp)<|by simp).toU
 rw[show l.length=(pP ks 0 l).length from(ED ks l 0).symm]at W
 refine qL (r:=⟨r.φ,r.m,{r.s with heap:=h'}⟩) W ⟨λh=>Cb h (λe=>aae (aaw hL) e) λe=>aae hL e,λb hb=>Cb hb (λe=>hnew b<|e▸Nat.le_succ _) λe=>hnew b<|Nat.le_of_eq e.symm,by simp,λp hp h=>Cb h (λe=>aae (aaw<|OA p hp) e) λe=>aae (OA p hp) e,λb hb=>.inl hb,
  λi h st b hb=>Cb hb (λe=>st.1.elim λold z=>⟨_,e▸z,lu rfl (by decide)<|by decide⟩) λe=>e▸hlive i h st.2⟩ ⟨⟨_,he⟩,hst⟩ a (λi g v r1 L1 H1 E' R hg hP a1 x1 hq=>?_) hF
 refine EE ks l 0 i g hg λc hc eg=>?_
 subst eg
 obtain⟨TT,dW,rfl,⟨tk,y,⟨c',u',hc',rfl⟩,rfl⟩,hT⟩:=hP
 cases hc.symm.trans hc'
 have p:=sJ (env:=θ.f.env Γ.L) elts ks hn
 refine unpackN_ (items:=#[.int i tk,.str ⟨#[c]⟩ u']) a1.T.F a1.T.N hT (a1.C.quiet qt) (by rw[p.2,hk2];rfl) p.1 λh'' F' N'=>?_
 have l2:Le r1 ⟨r1.φ,r1.m,{r1.s with heap:=h''}⟩:=⟨.refl,rfl,rfl⟩
 exact sN elts ks hn [.int (0+i:Nat),.str [c]] _ L1 _ (a1.at_ l2 ⟨F',N',a1.T.R,a1.T.loc⟩) (.two ⟨tk,by rw[Nat.zero_add]⟩ ⟨u',rfl⟩) (by rw[hk2];rfl) λr3 l3 a3=>hq r3 (l2.trans l3) a3
def dU.GR{elts:List Expr}{kk:Nat}{ks:List Nat}{tp np cp pos:Pos}{e:Expr}{body:List Stmt}(qt:θ.S.quiet=true)(G:kj θ.K θ.f "enumerate"<|.type "enumerate")(hn:gO θ.f elts ks=true)(hk2:ks.length=2)(he:bF e=true)
  (h:aB θ u e Lc H (λv H1=>qB v λl=>mY θ u body (pP ks 0 l) Lc H1 Q) X):dU θ u (.For (.Tuple elts kk tp) (.Call (.Name "enumerate" np) [e] [] cp) body [] pos) Lc H Q X:=
 λΓ E r a=>wpAny_For (jy (i0 G a (er (first:=[]) (es:=[e]) (kws:=[]) (R:=λvs ks' H1=>ks'=[]/\∃l,vs=[.str l]/\mY θ u body (pP ks 0 l) Lc H1 Q) (by rw[List.all_cons,he];rfl) rfl GJ a (Ev.mono h λv H1 q=>Ei (P:=λv=>_/\∃l,[v]=[MV.str l]/\mY θ u body (pP ks 0 l) Lc H1 Q) q λl q=>⟨rfl,l,rfl,q⟩) λr1 H1 yW ws rI ks' l1 a1 v1 v2 q=>by
  obtain⟨rfl,l,rfl,hF⟩:=q
  cases v2
  refine v1.e1 (P:=λws=>wpAny θ.M Γ.A (call (.type "enumerate") ws []) _ E r1.s) λx v=>je (P:=λx=>wpAny θ.M Γ.A (call (.type "enumerate") [x] []) _ E r1.s) v λt=>call_enumerate_str λh' hE hI _ hk=>wpAny_pyIter_enum hE ?_
  have l2:Le r1 ⟨r1.φ,r1.m,{r1.s with heap:=h'}⟩:=⟨.refl,rfl,rfl⟩
  have a2:At θ u Γ E ⟨r1.φ,r1.m,{r1.s with heap:=h'}⟩ Lc H1 X:=a1.at_ l2 ⟨a1.T.F.keeps hk,a1.T.N.grown hk,a1.T.R,a1.T.loc⟩
  have fin:∀{rL:Nat->Heap->Prop},Draws θ.S.prog θ.w Γ.A.in1 r1.s.heap.objs.size [r1.s.heap.objs.size] (aW l).cps.size (λi v=>∃c u,(aW l).cps[i]?=some c/\v=.str ⟨#[c]⟩ u) rL->(∀i h,rL i h->∃o,h.get? r1.s.heap.objs.size=some o/\∃t,o.cls=.type t/\t≠"tuple"/\t≠"method")->rL 0 h'->codeAny θ.M Γ.A (.forLoop (.Tuple elts kk tp) (.ref<|r1.s.heap.objs.size+1) body []<|θ.f.env Γ.L) (oh θ Γ r Q) {r1.s with heap:=h'}:=λ{rL} D hlive hst=>by
   rw[show(λ(i:Nat) (v:Value)=>∃c u,(aW l).cps[i]?=some c/\v=.str ⟨#[c]⟩ u)=λi v=>∃c u,l[i]?=some c/\v=.str ⟨#[c]⟩ u by funext i v;simp,show(aW l).cps.size=l.length by simp]at D
   refine codeAny_mono (zf (r:=r1) qt hn hk2 D (λi h st=>(hlive i h st).elim λo z=>z.2.elim λt y=>⟨o,z.1,lu y.1 y.2.1 y.2.2⟩) hE hst a2 a1.T.F.ns.lt (λb hb=>Ca a1.T hb) (λp hp=>Heap.lt_size (a1.T.N p hp).1) hF) λo s z=>?_
   cases o with
   |error e=>exact z
   |ok f=>exact eX.from (l1.trans l2) z
  refine codeAny_mono (?_:codeAny θ.M Γ.A _ (oh θ Γ r Q) _) λo s z=>z.out
  cases ha:(aW l).cps.all (·<128)with
  |false=>exact fin (Draws.strWide (A:=Γ.A.in1) (a1.C.quiet qt) r1.s.heap.objs.size (aW l) t) (λi h st=>st.elim λo z=>⟨o,z.1,_,z.2.1,by decide,by decide⟩)<|by rw[show strIterType (aW l)="str_iterator" by unfold strIterType;rw[ha];rfl]at hI;exact hI
  |true=>exact fin (Draws.strAscii (A:=Γ.A.in1) (a1.C.quiet qt) r1.s.heap.objs.size (aW l) t) (λi h st=>st.elim λo z=>⟨o,z.1,_,z.2.1,by decide,by decide⟩)<|by rw[show strIterType (aW l)="str_ascii_iterator" by unfold strIterType;rw[ha];rfl]at hI;exact hI))) λx=>kY rfl
end
noncomputable def qM(st:Stmt):List Stmt:=if h:st.ctorIdx=9 then Stmt.For.elim (motive_2:=λ_=>List Stmt) st h λ_ _ b _ _=>b else if h:st.ctorIdx=17 then Stmt.Try.elim (motive_2:=λ_=>List Stmt) st h λb _ _ _ _=>b else[]
section
variable(S:aP)(f:Fm)
noncomputable def iG(k:Nat)(x:Str):Bool:=(f.ns[k]?==some x)&&((f.sc.names.lookup x==some .local)&&!(x==("__debug__":Str)))
noncomputable def kq(x:Str)(v:Value):Bool:=(S.gl.lookup x==some v)&&((f.sc.names.lookup x==some .globalImplicit)&&!(x==("__debug__":Str)))
def Cd(k:Nat)(o:Expr)(x:Str):Bool:=dP o&&(S.nm[k]?==some x)
def pA(es:List Expr)(kws:List Keyword):Bool:=es.all bF&&(kwOk kws&&decide (es.length+kws.length+(if kws.isEmpty then 0 else 1)<30))
structure CX where
 E:Expr->Bool
 T:Expr->Bool
 L:List Expr->Bool
 V:List Expr->Bool
 B:List Expr->Bool
 O:Option Expr->Bool
noncomputable def CX.p(E:Expr->Bool):CX:=⟨E,E,λ_=>false,λ_=>false,λ_=>false,λ_=>false⟩
noncomputable def CX.e(E:Expr->Bool):CX:=⟨E,λ_=>false,λ_=>false,λ_=>false,λ_=>false,λ_=>false⟩
noncomputable def CX.t(E T:Expr->Bool):CX:=⟨E,T,λ_=>false,λ_=>false,λ_=>false,λ_=>false⟩
noncomputable def CX.o(O:Option Expr->Bool):CX:=⟨λ_=>false,λ_=>false,λ_=>false,λ_=>false,λ_=>false,O⟩
noncomputable def Lk(l:List Expr):Bool:=l.isEmpty
noncomputable def Ce(p:Expr->Bool)(q:List Expr->Bool)(l:List Expr):Bool:=l.casesOn false λe r=>p e&&q r
def Rm(b:Bool)(p:Expr->Bool)(q:List Expr->Bool)(l:List Expr):Bool:=Ce p (λr=>cond b r.isEmpty<|!r.isEmpty&&q r) l
end
def GS(S:aP)(f:Fm):CX:=.p λe=>tB e λc=>c==.none
def GU(S:aP)(f:Fm)(b:Bool):CX:=.p λe=>tB e λc=>c==.bool b
def OB(S:aP)(f:Fm)(i:Int):CX:=.p λe=>tB e λc=>c==.int i
def OC(S:aP)(f:Fm)(l:List Nat):CX:=.p λe=>tB e λc=>c==.str (aW l)
def OD(S:aP)(f:Fm)(k:Nat):CX:=.p λe=>gr e λx=>iG f k x
def GV(S:aP)(f:Fm)(c:Nat):CX:=.p λe=>gr e λx=>kq S f x<|.ref c
def OF(S:aP)(f:Fm)(n:String):CX:=.p λe=>gr e λx=>kq S f x<|.type n
def GW(S:aP)(f:Fm)(k:Nat)(a:CX):CX:=.p λe=>nV e λo x _=>Cd S k o x&&a.E o
def Cf(S:aP)(f:Fm)(k:Nat)(a:CX):CX:=.p λe=>nV e λo x _=>Cd S k o x&&a.E o
def Cg(S:aP)(f:Fm)(k:Nat)(kn:List Str)(o:CX)(as:CX)(ks:CX):CX:=.p λe=>mX e λg es kws pos=>nV g λo' x ap=>Cd S k o' x&&(pA es kws&&((ap.endLine==pos.line)&&((K9 kws==kn)&&(o.E o'&&(as.L es&&ks.L (Ov kws))))))
def Ci(S:aP)(f:Fm)(k:Nat)(o:CX):CX:=.p λe=>mX e λg es kws pos=>l0 es<|l0 kws<|nV g λo' x ap=>Cd S k o' x&&((ap.endLine==pos.line)&&o.E o')
def Cj(S:aP)(f:Fm)(fa:Nat)(kn:List Str)(as:CX)(ks:CX):CX:=.p λe=>mX e λg es kws _=>gr g λx=>kq S f x (.ref fa)&&(pA es kws&&((K9 kws==kn)&&(as.L es&&ks.L (Ov kws))))
def GX(S:aP)(f:Fm)(c:Nat)(kn:List Str)(as:CX)(ks:CX):CX:=.p λe=>mX e λg es kws _=>gr g λx=>kq S f x (.ref c)&&(pA es kws&&((K9 kws==kn)&&(as.L es&&ks.L (Ov kws))))
def Ck(S:aP)(f:Fm)(k:Nat)(as:CX):CX:=.p λe=>mX e λg es kws _=>l0 kws<|gr g λx=>iG f k x&&(pA es []&&as.L es)
def Cm(S:aP)(f:Fm)(b:BF)(as:CX):CX:=.p λe=>mX e λg es kws _=>l0 kws<|gr g λx=>(x==b.nm)&&(kq S f x b.fv&&(pA es []&&as.L es))
def Cn(S:aP)(f:Fm)(m:KM)(o:CX)(as:CX):CX:=.p λe=>mX e λg es kws pos=>l0 kws<|nV g λo' x ap=>dP o'&&((x==m.nm)&&(pA es []&&(decide (es.length<29)&&((ap.endLine==pos.line)&&(o.E o'&&as.L es)))))
def OG(S:aP)(f:Fm)(op:Operator)(l:CX)(r:CX):CX:=.p λe=>Gx e λl' op' r'=>(op'==op)&&(l.E l'&&r.E r')
def OH(S:aP)(f:Fm)(op:CmpOp)(l:CX)(r:CX):CX:=.p λe=>Em e λl' ops rs=>l1 ops λop'=>l1 rs λr'=>(op'==op)&&(!(behindInMarks op' r')&&(l.E l'&&r.E r'))
def Co(S:aP)(f:Fm)(o1:CmpOp)(o2:CmpOp)(l:CX)(m:CX)(r:CX):CX:=.p λe=>Em e λl' ops rs=>l2 ops λa b=>l2 rs λm' r'=>(a==o1)&&((b==o2)&&(!(lastMarks [a,b] [m',r'])&&(l.E l'&&(m.E m'&&r.E r'))))
def OI(S:aP)(f:Fm)(op:BoolOp)(es:CX):CX:=.t (λe=>K4 e λop' es'=>(op'==op)&&es.V es') λe=>K4 e λop' es'=>(op'==op)&&es.B es'
def OJ(S:aP)(f:Fm)(a:CX):CX:=.t (λe=>Uy e λo b=>(o==.Not)&&a.E b) λe=>Uy e λo b=>(o==.Not)&&a.T b
def OL(S:aP)(f:Fm)(a:CX):CX:=.e λe=>Uy e λo b=>(o==.USub)&&a.E b
def OM(S:aP)(f:Fm)(c:CX)(a:CX)(b:CX):CX:=.e λe=>Xn e λc' a' b'=>c.T c'&&(a.E a'&&b.E b')
def OO(S:aP)(f:Fm)(a:CX)(i:CX):CX:=.p λe=>xP e λa' i'=>nY i'&&(a.E a'&&i.E i')
def OP(S:aP)(f:Fm)(a:CX)(lo:CX)(hi:CX):CX:=.p λe=>xP e λa' s=>K5 s λl h st=>o0 st<|a.E a'&&(lo.O l&&hi.O h)
def GY(S:aP)(f:Fm)(es:CX):CX:=.e λe=>QM e λes'=>es'.all bF&&es.L es'
def OR(S:aP)(f:Fm)(es:CX):CX:=.e λe=>AA e λes'=>es'.all bF&&es.L es'
def OT(S:aP)(f:Fm):CX:=.e λe=>GB e λks vs=>l0 ks<|l0 vs true
def OU(S:aP)(f:Fm):CX:=.e λe=>GB e λks vs=>l0 ks<|l0 vs true
def OV(S:aP)(f:Fm):CX:=.e λ_=>true
def OW(S:aP)(f:Fm):CX:=⟨λ_=>false,λ_=>false,Lk,Lk,Lk,λ_=>false⟩
def GZ(S:aP)(f:Fm)(r':IE)(a:CX)(r:CX):CX:=⟨λ_=>false,λ_=>false,Ce a.E r.L,Rm (Nat.beq r'.ctorIdx 30) a.E r.V,Ce a.T r.B,λ_=>false⟩
def UG(S:aP)(f:Fm):CX:=.o λo=>o.isNone
def OY(S:aP)(f:Fm)(a:CX):CX:=.o λo=>o.casesOn false a.E
section
variable(S:aP)(f:Fm)
def cx(e:IE):CX:=e.rec (GS S f) (λb=>GU S f b) (λi=>OB S f i) (λl=>OC S f l) (λk=>OD S f k) (λc=>GV S f c) (λn=>OF S f n) (λ_ k a=>GW S f k a) (λ_ k a=>Cf S f k a) (λ_ k _ kn _ o as ks=>Cg S f k kn o as ks) (λ_ k o=>Ci S f k o) (λfa _ kn _ as ks=>Cj S f fa kn as ks) (λc _ kn _ as ks=>GX S f c kn as ks) (λk _ as=>Ck S f k as) (λb _ as=>Cm S f b as) (λm _ _ o as=>Cn S f m o as) (λop _ _ l r=>OG S f op l r) (λop _ _ l r=>OH S f op l r) (λo1 o2 _ _ _ l m r=>Co S f o1 o2 l m r) (λop _ es=>OI S f op es) (λ_ a=>OJ S f a) (λ_ a=>OL S f a) (λ_ _ _ c a b=>OM S f c a b) (λ_ _ a i=>OO S f a i) (λ_ _ _ a lo hi=>OP S f a lo hi) (λ_ es=>GY S f es) (λ_ es=>OR S f es) (OT S f) (OU S f) (OV S f) (OW S f) (λ_ r' a r=>GZ S f r' a r) (UG S f) λ_ a=>OY S f a
abbrev mh(e:IE):Expr->Bool:=(cx S f e).E
abbrev Ll(e:IE):Expr->Bool:=(cx S f e).T
noncomputable def Xy(l:List Stmt):Bool:=l.isEmpty
structure CS where
 S:Stmt->Bool
 B:List Stmt->Bool
noncomputable def CS.s(p:Stmt->Bool):CS:=⟨p,λ_=>false⟩
end
def Cp(S:aP)(f:Fm):CS:=.s λst=>Q6 st λ_=>true
def G7(S:aP)(f:Fm):CS:=.s λst=>Q8 st λ_=>true
def Cq(S:aP)(f:Fm):CS:=.s λst=>Ra st λ_=>true
def G8(S:aP)(f:Fm)(e:IE):CS:=.s λst=>Eo st λv=>o1 v λe'=>mh S f e e'
def Cr(S:aP)(f:Fm):CS:=.s λst=>Eo st λv=>o0 v true
def Cs(S:aP)(f:Fm)(e:IE):CS:=.s λst=>GC st λe'=>gW e'&&mh S f e e'
def G9(S:aP)(f:Fm)(k:Nat)(e:IE):CS:=.s λst=>uB st λts e'=>l1 ts λt=>gr t λx=>iG f k x&&(gW e'&&mh S f e e')
def Ct(S:aP)(f:Fm)(k:Nat)(j:Nat)(e:IE):CS:=.s λst=>uB st λts e'=>l2 ts λt u=>gr t λx=>gr u λy=>iG f k x&&(iG f j y&&mh S f e e')
def Cu(S:aP)(f:Fm)(k:Nat)(j:Nat)(i:Nat)(e:IE):CS:=.s λst=>uB st λts e'=>l3 ts λt u v=>gr t λx=>gr u λy=>gr v λz=>iG f k x&&(iG f j y&&(iG f i z&&mh S f e e'))
def Cv(S:aP)(f:Fm)(ks:List Nat)(e:IE):CS:=.s λst=>uB st λts e'=>l1 ts λt=>AA t λes=>S.quiet&&(AG e'&&(gW e'&&(gO f es ks&&mh S f e e')))
def Cw(S:aP)(f:Fm)(o:IE)(k:Nat)(e:IE):CS:=.s λst=>uB st λts e'=>l1 ts λt=>nV t λo' x _=>(S.nm[k]?==some x)&&(gW e'&&(mh S f e e'&&mh S f o o'))
def Cy(S:aP)(f:Fm)(o:IE)(i:IE)(e:IE):CS:=.s λst=>uB st λts e'=>l1 ts λt=>xP t λo' i'=>gW e'&&(mh S f e e'&&(mh S f o o'&&mh S f i i'))
def Cz(S:aP)(f:Fm)(k:Nat)(op:Operator)(e:IE):CS:=.s λst=>K6 st λt op' e'=>gr t λx=>iG f k x&&((op'==op)&&mh S f e e')
def CA(S:aP)(f:Fm)(o:IE)(k:Nat)(op:Operator)(e:IE):CS:=.s λst=>K6 st λt op' e'=>nV t λo' x _=>(S.nm[k]?==some x)&&((op'==op)&&(mh S f o o'&&mh S f e e'))
def Hf(S:aP)(f:Fm)(c:IE)(t:CS)(e:CS):CS:=.s λst=>K7 st λc' t' e'=>Ll S f c c'&&(t.B t'&&e.B e')
def Hg(S:aP)(f:Fm)(c:IE)(b:CS)(o:CS):CS:=.s λst=>QY st λc' b' o'=>Ll S f c c'&&(b.B b'&&o.B o')
def CB(S:aP)(f:Fm)(k:Nat)(e:IE)(b:CS):CS:=.s λst=>AE st λt e' b' o=>l0 o<|gr t λx=>S.quiet&&(l9 e'&&(iG f k x&&(mh S f e e'&&b.B b')))
def CC(S:aP)(f:Fm)(k:Nat)(e:IE)(b:CS):CS:=.s λst=>AE st λt e' b' o=>l0 o<|gr t λx=>S.quiet&&(l9 e'&&(iG f k x&&(mh S f e e'&&b.B b')))
def CD(S:aP)(f:Fm)(ks:List Nat)(e:IE)(b:CS):CS:=.s λst=>AE st λt i b' o=>l0 o<|AA t λes=>mX i λg as kws _=>l0 kws<|l1 as λe'=>gr g λy=>S.quiet&&((y==("enumerate":Str))&&(kq S f y (.type "enumerate")&&(gO f es ks&&((ks.length==2)&&(bF e'&&(mh S f e e'&&b.B b'))))))
def CE(S:aP)(f:Fm)(b:CS)(o:CS):CS:=.s λst=>K8 st λb' hs o' fb=>!hs.isEmpty&&(fb.isEmpty&&(b.B b'&&o.B o'))
def Hh(S:aP)(f:Fm)(o:IE)(i:IE):CS:=.s λst=>Q0 st λts=>l1 ts λt=>xP t λo' i'=>mh S f o o'&&mh S f i i'
def CF(S:aP)(f:Fm)(e:IE):CS:=.s λst=>Q4 st λe'=>Ll S f e e'
def CG(S:aP)(f:Fm)(i:Nat)(b:CS):CS:=.s λst=>S.quiet&&(S.xs i f st&&b.B (qM st))
def Hi(S:aP)(f:Fm):CS:=.s λ_=>true
def Hj(S:aP)(f:Fm):CS:=⟨λ_=>false,Xy⟩
noncomputable def CH(S:aP)(f:Fm)(s:CS)(r:CS):CS:=⟨λ_=>false,λl=>l.casesOn false λs' r'=>s.S s'&&r.B r'⟩
section
variable(S:aP)(f:Fm)
def cs(s:IS):CS:=s.rec (Cp S f) (G7 S f) (Cq S f) (λe=>G8 S f e) (Cr S f) (λe=>Cs S f e) (λk e=>G9 S f k e) (λk j e=>Ct S f k j e) (λk j i e=>Cu S f k j i e) (λks e=>Cv S f ks e) (λo k e=>Cw S f o k e) (λo i e=>Cy S f o i e) (λk op e=>Cz S f k op e) (λo k op e=>CA S f o k op e) (λc _ _ t e=>Hf S f c t e) (λc _ _ b o=>Hg S f c b o) (λk e _ b=>CB S f k e b) (λk e _ b=>CC S f k e b) (λks e _ b=>CD S f ks e b) (λ_ _ b o=>CE S f b o) (λo i=>Hh S f o i) (λe=>CF S f e) (λi _ b=>CG S f i b) (Hi S f) (Hj S f) λ_ _ s r=>CH S f s r
abbrev xX(s:IS):List Stmt->Bool:=(cs S f s).B
end
structure WX where
 E:Loc->MH->QV->QX->Prop
 T:Loc->MH->(Bool->MH->Prop)->QX->Prop
 L:Loc->MH->(List MV->MH->Prop)->QX->Prop
 V:BoolOp->Loc->MH->QV->QX->Prop
 B:BoolOp->Loc->MH->(Bool->MH->Prop)->QX->Prop
 O:Loc->MH->(Option Int->MH->Prop)->QX->Prop
noncomputable def WX.e(E:Loc->MH->QV->QX->Prop):WX:=⟨E,λLc H Q X=>E Lc H (λv H=>kc v H Q) X,λ_ _ _ _=>False,λ_ _ _ _ _=>False,λ_ _ _ _ _=>False,λ_ _ _ _=>False⟩
noncomputable def WX.t(E:Loc->MH->QV->QX->Prop)(T:Loc->MH->(Bool->MH->Prop)->QX->Prop):WX:=⟨E,T,λ_ _ _ _=>False,λ_ _ _ _ _=>False,λ_ _ _ _ _=>False,λ_ _ _ _=>False⟩
noncomputable def WX.o(O:Loc->MH->(Option Int->MH->Prop)->QX->Prop):WX:=⟨λ_ _ _ _=>False,λ_ _ _ _=>False,λ_ _ _ _=>False,λ_ _ _ _ _=>False,λ_ _ _ _ _=>False,O⟩
def Hl(S:aP)(w:World)(lv:Nat):WX:=.e λ_ H Q _=>Q .none H
def Ho(S:aP)(w:World)(lv:Nat)(b:Bool):WX:=.e λ_ H Q _=>Q (.bool b) H
def OZ(S:aP)(w:World)(lv:Nat)(i:Int):WX:=.e λ_ H Q _=>Q (.int i) H
def O0(S:aP)(w:World)(lv:Nat)(l:List Nat):WX:=.e λ_ H Q _=>Q (.str l) H
def O1(S:aP)(w:World)(lv:Nat)(k:Nat):WX:=.e λLc H Q _=>rD Lc[k]? λv=>Q v H
def Hp(S:aP)(w:World)(lv:Nat)(c:Nat):WX:=.e λ_ H Q _=>Q (.cls c) H
def O2(S:aP)(w:World)(lv:Nat)(n:String):WX:=.e λ_ H Q _=>Q (.ty n) H
def Hq(S:aP)(w:World)(lv:Nat)(k:Nat)(a:WX):WX:=.e λLc H Q X=>a.E Lc H (λv H1=>FE S v k H1 Q) X
def CI(S:aP)(w:World)(lv:Nat)(k:Nat)(a:WX):WX:=.e λLc H Q X=>a.E Lc H (λv H1=>dX v k H1 λi c fs=>fs.lookup k=none/\bM (S.mt c k) λfa=>Q (.fj fa i) H1) X
def CJ(S:aP)(w:World)(lv:Nat)(k:Nat)(kn:List Str)(o:WX)(as:WX)(ks:WX):WX:=.e λLc H Q X=>o.E Lc H (λv H1=>dX v k H1 λi c fs=>fs.lookup k=none/\bM (S.mt c k) λfa=>as.L Lc H1 (λvs H2=>ks.L Lc H2 (λus H3=>bH S w lv fa (.ref i::vs) kn us H3 Q λx H'=>X x Lc H') X) X) X
def CK(S:aP)(w:World)(lv:Nat)(k:Nat)(o:WX):WX:=.e λLc H Q X=>o.E Lc H (λv H1=>dX v k H1 λi c fs=>sD (fs.lookup k) λfa j=>(∃c' k',S.mt c' k'=some fa)/\bH S w lv fa [.ref j] [] [] H1 Q (λx H'=>X x Lc H')) X
def CL(S:aP)(w:World)(lv:Nat)(fa:Nat)(kn:List Str)(as:WX)(ks:WX):WX:=.e λLc H Q X=>as.L Lc H (λvs H2=>ks.L Lc H2 (λus H3=>bH S w lv fa vs kn us H3 Q λx H'=>X x Lc H') X) X
def Hr(S:aP)(w:World)(lv:Nat)(c:Nat)(kn:List Str)(as:WX)(ks:WX):WX:=.e λLc H Q X=>bM (S.ini c) λfI=>as.L Lc H (λvs H2=>ks.L Lc H2 (λus H3=>bH S w lv fI (.ref H3.n::vs) kn us (H3.new<|.inst c []) (λv H4=>v=.none/\Q (.ref H3.n) H4) λx H'=>X x Lc H') X) X
def CM(S:aP)(w:World)(lv:Nat)(k:Nat)(as:WX):WX:=.e λLc H Q X=>rD Lc[k]? λv=>yO v λc=>bM (S.ini c) λfI=>as.L Lc H (λvs H3=>bH S w lv fI (.ref H3.n::vs) [] [] (H3.new<|.inst c []) (λv H4=>v=.none/\Q (.ref H3.n) H4) λx H'=>X x Lc H') X
def CN(S:aP)(w:World)(lv:Nat)(b:BF)(as:WX):WX:=.e λLc H Q X=>as.L Lc H (λvs H1=>Om S b vs H1 Q) X
def CO(S:aP)(w:World)(lv:Nat)(m:KM)(o:WX)(as:WX):WX:=.e λLc H Q X=>o.E Lc H (λv H1=>sE v H1 m.kind/\as.L Lc H1 (λvs H2=>Ad m v vs H2 Q) X) X
def O3(S:aP)(w:World)(lv:Nat)(op:Operator)(l:WX)(r:WX):WX:=.e λLc H Q X=>l.E Lc H (λa H1=>r.E Lc H1 (λb H2=>tw op a b H2 Q) X) X
def O4(S:aP)(w:World)(lv:Nat)(op:CmpOp)(l:WX)(r:WX):WX:=.e λLc H Q X=>l.E Lc H (λa H1=>r.E Lc H1 (λb H2=>bM (gx op a b H2) λt=>Q (.bool t) H2) X) X
def CP(S:aP)(w:World)(lv:Nat)(o1:CmpOp)(o2:CmpOp)(l:WX)(m:WX)(r:WX):WX:=.t (λLc H Q X=>l.E Lc H (λa H1=>m.E Lc H1 (λb H2=>bM (gx o1 a b H2) λt=>if t then r.E Lc H2 (λd H5=>bM (gx o2 b d H5) λt=>Q (.bool t) H5) X else Q (.bool false) H2) X) X)
  λLc H Q X=>l.E Lc H (λa H1=>m.E Lc H1 (λb H2=>bM (gx o1 a b H2) λt=>if t then r.E Lc H2 (λd H5=>bM (gx o2 b d H5) λt=>Q t H5) X else Q false H2) X) X
def O5(S:aP)(w:World)(lv:Nat)(op:BoolOp)(es:WX):WX:=.t (es.V op)<|es.B op
def w_not(S:aP)(w:World)(lv:Nat)(a:WX):WX:=.t (λLc H Q X=>a.E Lc H (λv H1=>kc v H1 λb H2=>Q (.bool<|!b) H2) X) λLc H Q X=>a.T Lc H (λb H1=>Q (!b) H1) X
def O6(S:aP)(w:World)(lv:Nat)(a:WX):WX:=.e λLc H Q X=>a.E Lc H (λv H1=>j9 v λi=>Q (.int<|-i) H1) X
def O7(S:aP)(w:World)(lv:Nat)(c:WX)(a:WX)(b:WX):WX:=.e λLc H Q X=>c.T Lc H (λt H1=>if t then a.E Lc H1 Q X else b.E Lc H1 Q X) X
def w_sub(S:aP)(w:World)(lv:Nat)(a:WX)(i:WX):WX:=.e λLc H Q X=>a.E Lc H (λv H1=>i.E Lc H1 (λj H2=>qF v j H2 Q) X) X
def O8(S:aP)(w:World)(lv:Nat)(a:WX)(lo:WX)(hi:WX):WX:=.e λLc H Q X=>a.E Lc H (λv H1=>lo.O Lc H1 (λx H2=>hi.O Lc H2 (λy H3=>AJ v x y H3 Q) X) X) X
def Ht(S:aP)(w:World)(lv:Nat)(es:WX):WX:=.e λLc H Q X=>es.L Lc H (λvs H1=>vs.length<=dg/\Q (.ref H1.n) (H1.new<|.list vs)) X
def O9(S:aP)(w:World)(lv:Nat)(es:WX):WX:=.e λLc H Q X=>es.L Lc H (λvs H1=>vs.length<=dg/\Q (.tup vs) H1) X
def Pa(S:aP)(w:World)(lv:Nat):WX:=.e λ_ H Q _=>Q (.ref H.n)<|H.new<|.aF []
def Pb(S:aP)(w:World)(lv:Nat):WX:=.e λ_ H Q _=>Q (.ref H.n)<|H.new<|.cA []
def Pc(S:aP)(w:World)(lv:Nat):WX:=.e λ_ _ _ _=>False
noncomputable def Pd(S:aP)(w:World)(lv:Nat):WX:=⟨λ_ _ _ _=>False,λ_ _ _ _=>False,λ_ H Q _=>Q [] H,λ_ _ _ _ _=>False,λop _ H Q _=>op.casesOn (Q true H)<|Q false H,λ_ _ _ _=>False⟩
def Hu(S:aP)(w:World)(lv:Nat)(r':IE)(a:WX)(r:WX):WX:=⟨λ_ _ _ _=>False,λ_ _ _ _=>False,λLc H Q X=>a.E Lc H (λv H1=>r.L Lc H1 (λvs H2=>Q (v::vs) H2) X) X,
  λop Lc H Q X=>cond (Nat.beq r'.ctorIdx 30) (a.E Lc H Q X)<|a.E Lc H (λv H1=>kc v H1 λb H2=>if nZ op b then Q v H2 else r.V op Lc H2 Q X) X,
  λop Lc H Q X=>a.T Lc H (λb H1=>op.casesOn (if b then r.B .And Lc H1 Q X else Q false H1)<|if b then Q true H1 else r.B .Or Lc H1 Q X) X,λ_ _ _ _=>False⟩
def UH(S:aP)(w:World)(lv:Nat):WX:=.o λ_ H Q _=>Q none H
def Pe(S:aP)(w:World)(lv:Nat)(a:WX):WX:=.o λLc H Q X=>a.E Lc H (λv H1=>j9 v λi=>Q (some i) H1) X
section
variable(S:aP)(w:World)(lv:Nat)
def wx(e:IE):WX:=e.rec (Hl S w lv) (λb=>Ho S w lv b) (λi=>OZ S w lv i) (λl=>O0 S w lv l) (λk=>O1 S w lv k) (λc=>Hp S w lv c) (λn=>O2 S w lv n) (λ_ k a=>Hq S w lv k a) (λ_ k a=>CI S w lv k a) (λ_ k _ kn _ o as ks=>CJ S w lv k kn o as ks) (λ_ k o=>CK S w lv k o) (λfa _ kn _ as ks=>CL S w lv fa kn as ks) (λc _ kn _ as ks=>Hr S w lv c kn as ks) (λk _ as=>CM S w lv k as) (λb _ as=>CN S w lv b as) (λm _ _ o as=>CO S w lv m o as) (λop _ _ l r=>O3 S w lv op l r) (λop _ _ l r=>O4 S w lv op l r) (λo1 o2 _ _ _ l m r=>CP S w lv o1 o2 l m r) (λop _ es=>O5 S w lv op es) (λ_ a=>w_not S w lv a) (λ_ a=>O6 S w lv a) (λ_ _ _ c a b=>O7 S w lv c a b) (λ_ _ a i=>w_sub S w lv a i) (λ_ _ _ a lo hi=>O8 S w lv a lo hi) (λ_ es=>Ht S w lv es) (λ_ es=>O9 S w lv es) (Pa S w lv) (Pb S w lv) (Pc S w lv) (Pd S w lv) (λ_ r' a r=>Hu S w lv r' a r) (UH S w lv) λ_ a=>Pe S w lv a
def f5(e:IE):Loc->MH->QV->QX->Prop:=(wx S w lv e).E
def J4(e:IE):Loc->MH->(Bool->MH->Prop)->QX->Prop:=(wx S w lv e).T
def CQ(e:IE):Loc->MH->(List MV->MH->Prop)->QX->Prop:=(wx S w lv e).L
def Xz(op:BoolOp)(e:IE):Loc->MH->QV->QX->Prop:=(wx S w lv e).V op
def Tz(e:IE):Loc->MH->(Option Int->MH->Prop)->QX->Prop:=(wx S w lv e).O
end
section
variable(S:aP)(w:World)(f:Fm)(lv:Nat)
def tD(ic:IE)(ib io:IB)(Lc:Loc)(H:MH)(Q:QF)(X:QX):Prop:=∀c body orelse,Ll S f ic c=true->xX S f ib body=true->xX S f io orelse=true->Ri ⟨S,w,f⟩ (8*lv) c body orelse Lc H Q X
def mZ(ib:IB)(us:List<|Loc->Loc)(Lc:Loc)(H:MH)(Q:QF):Prop:=∀body,xX S f ib body=true->mY ⟨S,w,f⟩ (8*lv) body us Lc H Q
end
def CR(S:aP)(w:World)(f:Fm)(lv:Nat):Loc->MH->QF->QX->Prop:=λLc H Q _=>Q .next Lc H
def Hv(S:aP)(w:World)(f:Fm)(lv:Nat):Loc->MH->QF->QX->Prop:=λLc H Q _=>Q .brk Lc H
def CT(S:aP)(w:World)(f:Fm)(lv:Nat):Loc->MH->QF->QX->Prop:=λLc H Q _=>Q .cont Lc H
def Hw(S:aP)(w:World)(f:Fm)(lv:Nat)(e:IE):Loc->MH->QF->QX->Prop:=λLc H Q X=>f5 S w lv e Lc H (λv H1=>Q (.ret v) Lc H1) X
def CU(S:aP)(w:World)(f:Fm)(lv:Nat):Loc->MH->QF->QX->Prop:=λLc H Q _=>Q (.ret .none) Lc H
def CV(S:aP)(w:World)(f:Fm)(lv:Nat)(e:IE):Loc->MH->QF->QX->Prop:=λLc H Q X=>f5 S w lv e Lc H (λ_ H1=>Q .next Lc H1) X
def Hx(S:aP)(w:World)(f:Fm)(lv:Nat)(k:Nat)(e:IE):Loc->MH->QF->QX->Prop:=λLc H Q X=>f5 S w lv e Lc H (λv H1=>Q .next (Lc.set k<|some v) H1) X
def CY(S:aP)(w:World)(f:Fm)(lv:Nat)(k:Nat)(j:Nat)(e:IE):Loc->MH->QF->QX->Prop:=λLc H Q X=>f5 S w lv e Lc H (λv H1=>Q .next ((Lc.set k<|some v).set j<|some v) H1) X
def CZ(S:aP)(w:World)(f:Fm)(lv:Nat)(k:Nat)(j:Nat)(i:Nat)(e:IE):Loc->MH->QF->QX->Prop:=λLc H Q X=>f5 S w lv e Lc H (λv H1=>Q .next (((Lc.set k<|some v).set j<|some v).set i<|some v) H1) X
def C0(S:aP)(w:World)(f:Fm)(lv:Nat)(ks:List Nat)(e:IE):Loc->MH->QF->QX->Prop:=λLc H Q X=>f5 S w lv e Lc H (λv H1=>An v λvs=>vs.length=ks.length/\Q .next (n7 ks vs Lc) H1) X
def C1(S:aP)(w:World)(f:Fm)(lv:Nat)(o:IE)(k:Nat)(e:IE):Loc->MH->QF->QX->Prop:=λLc H Q X=>f5 S w lv e Lc H (λv H1=>f5 S w lv o Lc H1 (λov H2=>dX ov k H2 λi c fs=>S.tab c k=true/\fs.length<jO/\Q .next Lc (H2.put i<|.inst c<|jN k v fs)) X) X
def C4(S:aP)(w:World)(f:Fm)(lv:Nat)(o:IE)(i:IE)(e:IE):Loc->MH->QF->QX->Prop:=λLc H Q X=>f5 S w lv e Lc H (λv H1=>f5 S w lv o Lc H1 (λov H2=>f5 S w lv i Lc H2 (λiv H3=>vP ov iv v H3 λH4=>Q .next Lc H4) X) X) X
def C5(S:aP)(w:World)(f:Fm)(lv:Nat)(k:Nat)(op:Operator)(e:IE):Loc->MH->QF->QX->Prop:=λLc H Q X=>rD Lc[k]? λu=>f5 S w lv e Lc H (λb H1=>tw op u b H1 λv H2=>Q .next (Lc.set k<|some v) H2) X
def C8(S:aP)(w:World)(f:Fm)(lv:Nat)(o:IE)(k:Nat)(op:Operator)(e:IE):Loc->MH->QF->QX->Prop:=λLc H Q X=>f5 S w lv o Lc H (λov H1=>dX ov k H1 λi c fs=>bM (fs.lookup k) λu=>f5 S w lv e Lc H1 (λb H2=>tw op u b H2 λv H3=>iR (H3.at_ i) λc' fs'=>c'=c/\S.tab c k=true/\fs'.length<jO/\Q .next Lc (H3.put i<|.inst c<|jN k v fs')) X) X
def Hy(S:aP)(w:World)(f:Fm)(lv:Nat)(c:IE)(t:Loc->MH->QF->QX->Prop)(e:Loc->MH->QF->QX->Prop):Loc->MH->QF->QX->Prop:=λLc H Q X=>J4 S w lv c Lc H (λb H1=>if b then t Lc H1 Q X else e Lc H1 Q X) X
def Hz(S:aP)(w:World)(f:Fm)(lv:Nat)(c:IE)(b:IS)(o:IS):Loc->MH->QF->QX->Prop:=λLc H Q X=>tD S w f lv c b o Lc H Q X
def C9(S:aP)(w:World)(f:Fm)(lv:Nat)(k:Nat)(e:IE)(b:IS):Loc->MH->QF->QX->Prop:=λLc H Q X=>f5 S w lv e Lc H (λv H1=>iZ v λj=>gm (H1.at_ j) λxs=>mZ S w f lv b (xs.map λv Lc=>Lc.set k<|some v) Lc (H1.del j) Q) X
def Dc(S:aP)(w:World)(f:Fm)(lv:Nat)(k:Nat)(e:IE)(b:IS):Loc->MH->QF->QX->Prop:=λLc H Q X=>f5 S w lv e Lc H (λv H1=>iZ v λj=>rE (H1.at_ j) λes=>mZ S w f lv b (es.map λe Lc=>Lc.set k<|some<|.int e.1) Lc (H1.put j<|.pG es) λmf pN H'=>H'.at_ j=some (.pG es)/\Q mf pN (H'.put j<|.cA es)) X
def Dd(S:aP)(w:World)(f:Fm)(lv:Nat)(ks:List Nat)(e:IE)(b:IS):Loc->MH->QF->QX->Prop:=λLc H Q X=>f5 S w lv e Lc H (λv H1=>qB v λl=>mZ S w f lv b (pP ks 0 l) Lc H1 Q) X
def De(S:aP)(w:World)(f:Fm)(lv:Nat)(b:Loc->MH->QF->QX->Prop)(o:Loc->MH->QF->QX->Prop):Loc->MH->QF->QX->Prop:=λLc H Q X=>b Lc H (qJ (λpN H'=>o pN H' Q X) Q) uK
def HA(S:aP)(w:World)(f:Fm)(lv:Nat)(o:IE)(i:IE):Loc->MH->QF->QX->Prop:=λLc H Q X=>f5 S w lv o Lc H (λov H2=>f5 S w lv i Lc H2 (λiv H3=>Ax ov iv H3 λH4=>Q .next Lc H4) X) X
def Df(S:aP)(w:World)(f:Fm)(lv:Nat)(e:IE):Loc->MH->QF->QX->Prop:=λLc H Q X=>J4 S w lv e Lc H (λb H1=>b=true/\Q .next Lc H1) X
def Dg(S:aP)(w:World)(f:Fm)(lv:Nat)(i:Nat)(b:Loc->MH->QF->QX->Prop):Loc->MH->QF->QX->Prop:=λLc H Q X=>S.xw i lv Lc H (λqt l fa vs kn ks H Q X=>bH {S with quiet:=qt} w l fa vs kn ks H Q X) (λL' H' Q' X'=>b L' H' Q' X') Q X
def HB(S:aP)(w:World)(f:Fm)(lv:Nat):Loc->MH->QF->QX->Prop:=λ_ _ _ _=>False
def HC(S:aP)(w:World)(f:Fm)(lv:Nat):Loc->MH->QF->QX->Prop:=λLc H Q _=>Q .next Lc H
def Dh(S:aP)(w:World)(f:Fm)(lv:Nat)(s:Loc->MH->QF->QX->Prop)(r:Loc->MH->QF->QX->Prop):Loc->MH->QF->QX->Prop:=λLc H Q X=>s Lc H (qJ (λpN H'=>r pN H' Q X) Q) X
section
variable(S:aP)(w:World)(f:Fm)(lv:Nat)
def wpS(s:IS):Loc->MH->QF->QX->Prop:=s.rec (CR S w f lv) (Hv S w f lv) (CT S w f lv) (λe=>Hw S w f lv e) (CU S w f lv) (λe=>CV S w f lv e) (λk e=>Hx S w f lv k e) (λk j e=>CY S w f lv k j e) (λk j i e=>CZ S w f lv k j i e) (λks e=>C0 S w f lv ks e) (λo k e=>C1 S w f lv o k e) (λo i e=>C4 S w f lv o i e) (λk op e=>C5 S w f lv k op e) (λo k op e=>C8 S w f lv o k op e) (λc _ _ t e=>Hy S w f lv c t e) (λc b o _ _=>Hz S w f lv c b o) (λk e b _=>C9 S w f lv k e b) (λk e b _=>Dc S w f lv k e b) (λks e b _=>Dd S w f lv ks e b) (λ_ _ b o=>De S w f lv b o) (λo i=>HA S w f lv o i) (λe=>Df S w f lv e) (λi _ b=>Dg S w f lv i b) (HB S w f lv) (HC S w f lv) λ_ _ s r=>Dh S w f lv s r
def zg(s:IS):Loc->MH->QF->QX->Prop:=wpS S w f lv s
end
def ff{P:Prop}{a:Bool}(h:a=true)(e:a=false:=by rfl):P:=aan (e.symm.trans h) aap
def HD(k:KM):PlainAttrs k.kind.tn/\Slot k.kind.tn k.nm k.id/\typeOf (.builtin k.id)=pure (.type "method_descriptor"):=by
 cases k with
 |append=>exact⟨PySem.F.plainAttrs_list,PySem.F.slot_list_append,PySem.F.type_list_append⟩
 |pop=>exact⟨PySem.F.plainAttrs_list,PySem.F.slot_list_pop,PySem.F.type_list_pop⟩
 |extend=>exact⟨PySem.F.plainAttrs_list,PySem.F.slot_list_extend,PySem.F.type_list_extend⟩
 |join=>exact⟨PySem.F.plainAttrs_str,PySem.F.slot_str_join,PySem.F.type_str_join⟩
section
variable{S:aP}{w:World}{f:Fm}{lv:Nat}{Lc:Loc}{H:MH}{Q:QV}{X:QX}{P:Prop}
def bH.u{fa:Nat}{az kv:List MV}{kn:List Str}{X:MV->MH->Prop}(h:bH S w lv fa az kn kv H Q X):nX ⟨S,w,f⟩ (8*lv) fa az kn kv H Q X:=h.elim λl h=>⟨l,Nat.mul_le_mul_left 8 h.1,h.2⟩
def bY{k:Nat}{x:Str}(h:iG f k x=true):jf f k x:=⟨be<|bl h,be<|bl<|br h⟩
def qN{k:Nat}{x:Str}(h:iG f k x=true):(x==("__debug__":Str))=false:=bn<|br<|br h
def gy(O:bL S w){x:Str}{v:Value}(h:kq S f x v=true):kj (S.K w.params) f x v:=⟨O.gl x v<|be<|bl h,be<|bl<|br h,bn<|br<|br h⟩
structure SX(S:aP)(w:World)(f:Fm)(lv:Nat)(c:CX)(x:WX):Prop where
 E:∀{Lc H Q X} e,c.E e=true->x.E Lc H Q X->aB ⟨S,w,f⟩ (8*lv) e Lc H Q X
 T:∀{Lc H Q X} e,c.T e=true->x.T Lc H Q X->lU ⟨S,w,f⟩ (8*lv) e Lc H Q X
 L:∀{Lc H Q X} e,c.L e=true->x.L Lc H Q X->mO ⟨S,w,f⟩ (8*lv) Lc X e H Q
 V:∀{op p Lc H Q X} e,c.V e=true->x.V op Lc H Q X->aB ⟨S,w,f⟩ (8*lv) (.BoolOp op e p) Lc H Q X
 B:∀{op p Lc H Q X} e,c.B e=true->x.B op Lc H Q X->lU ⟨S,w,f⟩ (8*lv) (.BoolOp op e p) Lc H Q X
 O:∀{Lc H Q X} e,c.O e=true->x.O Lc H Q X->Ld ⟨S,w,f⟩ (8*lv) Lc X e H Q
def SX.p{c:Expr->Bool}{x:Loc->MH->QV->QX->Prop}(pl:∀e,c e=true->Plain e)(E:∀{Lc H Q X} e,c e=true->x Lc H Q X->aB ⟨S,w,f⟩ (8*lv) e Lc H Q X):SX S w f lv (.p c) (.e x):=
 ⟨E,λe hc h=>lU.plain (pl _ hc)<|E e hc h,λ_ h=>ff h,λ_ h=>ff h,λ_ h=>ff h,λ_ h=>ff h⟩
def SX.e{c:Expr->Bool}{x:Loc->MH->QV->QX->Prop}(E:∀{Lc H Q X} e,c e=true->x Lc H Q X->aB ⟨S,w,f⟩ (8*lv) e Lc H Q X):SX S w f lv (.e c) (.e x):=⟨E,λ_ h=>ff h,λ_ h=>ff h,λ_ h=>ff h,λ_ h=>ff h,λ_ h=>ff h⟩
def SX.t{c d:Expr->Bool}{x:Loc->MH->QV->QX->Prop}{y:Loc->MH->(Bool->MH->Prop)->QX->Prop}(E:∀{Lc H Q X} e,c e=true->x Lc H Q X->aB ⟨S,w,f⟩ (8*lv) e Lc H Q X)(T:∀{Lc H Q X} e,d e=true->y Lc H Q X->lU ⟨S,w,f⟩ (8*lv) e Lc H Q X):SX S w f lv (.t c d) (.t x y):=⟨E,T,λ_ h=>ff h,λ_ h=>ff h,λ_ h=>ff h,λ_ h=>ff h⟩
section
variable{a b c:CX}{x y z:WX}
def Rn:SX S w f lv (GS S f) (Hl S w lv):=.p (λ_ hc=>gp hc λ_ _ _ e _=>e▸λ_ _=>rfl) λ_ hc h=>gp hc λc n p e d=>e▸be d▸(aB.const_none h)
def s_bool{b:Bool}:SX S w f lv (GU S f b) (Ho S w lv b):=.p (λ_ hc=>gp hc λ_ _ _ e _=>e▸λ_ _=>rfl) λ_ hc h=>gp hc λc n p e d=>e▸be d▸(aB.Am h)
def UI{i:Int}:SX S w f lv (OB S f i) (OZ S w lv i):=.p (λ_ hc=>gp hc λ_ _ _ e _=>e▸λ_ _=>rfl) λ_ hc h=>gp hc λc n p e d=>e▸be d▸(aB.const_int h)
def UJ{l:List Nat}:SX S w f lv (OC S f l) (O0 S w lv l):=.p (λ_ hc=>gp hc λ_ _ _ e _=>e▸λ_ _=>rfl) λ_ hc h=>gp hc λc n p e d=>e▸be d▸(aB.o9 h)
def UK{k:Nat}:SX S w f lv (OD S f k) (O1 S w lv k):=.p (λ_ hc=>bh hc λ_ _ e _=>e▸λ_ _=>rfl) λ_ hc h=>bh hc λx p e d=>e▸KA h λv hv h=>aB.Kv (bY d).ns hv (bY d).kd (qN d) h
def Ro(O:bL S w){c:Nat}:SX S w f lv (GV S f c) (Hp S w lv c):=.p (λ_ hc=>bh hc λ_ _ e _=>e▸λ_ _=>rfl) λ_ hc h=>bh hc λx p e d=>e▸aB.glob (mv:=.cls c) (gy O d) (λ_=>rfl) h
def UL(O:bL S w){n:String}:SX S w f lv (OF S f n) (O2 S w lv n):=.p (λ_ hc=>bh hc λ_ _ e _=>e▸λ_ _=>rfl) λ_ hc h=>bh hc λx p e d=>e▸aB.glob (mv:=.ty n) (gy O d) (λ_=>rfl) h
def Rp(O:bL S w){k:Nat}(A:SX S w f lv a x):SX S w f lv (GW S f k a) (Hq S w lv k x):=.p (λ_ hc=>f7 hc λ_ _ _ e _=>e▸λ_ _=>rfl) λ_ hc h=>f7 hc λo x p e d=>e▸aB.attr O (bl<|bl d) (be<|br<|bl d) (A.E _ (br d) h)
def Lm(O:bL S w){k:Nat}(A:SX S w f lv a x):SX S w f lv (Cf S f k a) (CI S w lv k x):=.p (λ_ hc=>f7 hc λ_ _ _ e _=>e▸λ_ _=>rfl) λ_ hc h=>f7 hc λo x p e d=>e▸aB.bound O (bl<|bl d) (be<|br<|bl d) (A.E _ (br d) h)
def WS{v:MV}{k:Nat}{K K':Nat->Nat->List (Nat×MV)->Prop}(h:dX v k H K)(m:∀i c fs,K i c fs->K' i c fs):dX v k H K':=Uk (P:=λv=>dX v k H K') h λi c fs hi q=>(aac (iR · (K' i)) hi).mpr<|m i c fs q
def jl{α:Type}{o:Option α}{K K':α->Prop}(h:bM o K)(m:∀a,K a->K' a):bM o K':=by cases o with|none=>exact h|some a=>exact m a h
def XA{v:MV}{K K':Nat->Nat->Prop}(h:Kw v K)(m:∀a i,K a i->K' a i):Kw v K':=Ui h λa i e h=>e▸m a i h
def UM{o:Option MV}{K K':Nat->Nat->Prop}(h:sD o K)(m:∀a i,K a i->K' a i):sD o K':=jl h λv h=>XA h m
def Ln(O:bL S w){k:Nat}{kn:List Str}(A:SX S w f lv a x)(B:SX S w f lv b y)(C:SX S w f lv c z):SX S w f lv (Cg S f k kn a b c) (CJ S w lv k kn x y z):=.p (λ_ hc=>dY hc λ_ _ _ _ e _=>e▸λ_ _=>rfl) λ_ hc h=>dY hc λg es ks p e d=>e▸f7 d λo' x ap e d=>e▸
 have h1:=br d
 have h3:=br (br h1)
 aB.gJ O (bl<|bl d) (be<|br<|bl d) (bl<|bl h1) (bl<|br<|bl h1) (br<|br<|bl h1) (bl<|br h1) (Ev.mono (A.E _ (bl<|br h3) h) λv H1 q=>WS q λi c fs q=>⟨q.1,jl q.2 λfa q=>mO.mono (B.L _ (bl<|br<|br h3) q) λvs H2 q=>mO.mono (C.L _ (br<|br<|br h3) q) λus H3 q=>(be<|bl h3).symm▸bH.u q⟩)
def Lo(O:bL S w){k:Nat}(A:SX S w f lv a x):SX S w f lv (Ci S f k a) (CK S w lv k x):=.p (λ_ hc=>dY hc λ_ _ _ _ e _=>e▸λ_ _=>rfl) λ_ hc h=>dY hc λg es ks p e d=>e▸iE d λe d=>e▸iE d λe d=>e▸f7 d λo' x ap e d=>e▸
 aB.yG O (bl<|bl d) (be<|br<|bl d) (bl<|br d) (Ev.mono (A.E _ (br<|br d) h) λv H1 q=>WS q λi c fs q=>UM q λfa j q=>⟨q.1,bH.u q.2⟩)
def Lp(O:bL S w){fa:Nat}{kn:List Str}(A:SX S w f lv a x)(B:SX S w f lv b y):SX S w f lv (Cj S f fa kn a b) (CL S w lv fa kn x y):=.p (λ_ hc=>dY hc λ_ _ _ _ e _=>e▸λ_ _=>rfl) λ_ hc h=>dY hc λg es ks p e d=>e▸bh d λx xp e d=>e▸
 have h1:=br d
 have h2:=br h1
 aB.uq (gy O<|bl d) (O.Zw _ _<|be<|bl<|bl d) (bl<|bl h1) (bl<|br<|bl h1) (mO.mono (A.L _ (bl<|br h2) h) λvs H2 q=>mO.mono (B.L _ (br<|br h2) q) λus H3 q=>(be<|bl h2).symm▸bH.u q)
def Rq(O:bL S w){c:Nat}{kn:List Str}(A:SX S w f lv a x)(B:SX S w f lv b y):SX S w f lv (GX S f c kn a b) (Hr S w lv c kn x y):=.p (λ_ hc=>dY hc λ_ _ _ _ e _=>e▸λ_ _=>rfl) λ_ hc h=>dY hc λg es ks p e d=>e▸bh d λx xp e d=>e▸cX h λfI hi h=>
 have h1:=br d
 have h2:=br h1
 aB.make (gy O<|bl d) (O.ini _ _ hi) (bl<|bl h1) (bl<|br<|bl h1) (mO.mono (A.L _ (bl<|br h2) h) λvs H2 q=>mO.mono (B.L _ (br<|br h2) q) λus H3 q=>(be<|bl h2).symm▸bH.u q)
def Lq(O:bL S w){k:Nat}(A:SX S w f lv a x):SX S w f lv (Ck S f k a) (CM S w lv k x):=.p (λ_ hc=>dY hc λ_ _ _ _ e _=>e▸λ_ _=>rfl) λ_ hc h=>dY hc λg es ks p e d=>e▸iE d λe d=>e▸bh d λx xp e d=>e▸KA h λv hv h=>Xh h λc ec h=>cX h λfI hi h=>
 aB.yH (bY<|bl d).ns (ec▸hv) (bY<|bl d).kd (qN<|bl d) (O.ini _ _ hi) (bl<|bl<|br d) (mO.mono (A.L _ (br<|br d) h) λvs H2 q=>bH.u q)
def Lr{θ:Th}{b:BF}:∀Γ,Kept θ Γ b.fv:=λΓ=>by cases b<;>first|exact GI|exact GJ
def Ls(O:bL S w){m:BF}(A:SX S w f lv a x):SX S w f lv (Cm S f m a) (CN S w lv m x):=.p (λ_ hc=>dY hc λ_ _ _ _ e _=>e▸λ_ _=>rfl) λ_ hc h=>dY hc λg es ks p e d=>e▸iE d λe d=>e▸bh d λx xp e d=>e▸
 aB.yI (gy O<|bl<|br d) Lr (bl<|bl<|br<|br d) (mO.mono (A.L _ (br<|br<|br d) h) λvs H1 q=>QH O q)
def Lu{m:KM}(A:SX S w f lv a x)(B:SX S w f lv b y):SX S w f lv (Cn S f m a b) (CO S w lv m x y):=.p (λ_ hc=>dY hc λ_ _ _ _ e _=>e▸λ_ _=>rfl) λ_ hc h=>dY hc λg es ks p e d=>e▸iE d λe d=>e▸f7 d λo x ap e d=>e▸
 have h2:=br<|br d
 have h3:=br h2
 have K:=HD m
 be (bl<|br d)▸(aB.su (bl d) (bl<|bl h2) (bl h3) (bl<|br h3) K.1 K.2.1 K.2.2<|Ev.mono (A.E _ (bl<|br<|br h3) h) λv H1 q=>⟨uy q.1,mO.mono (B.L _ (br<|br<|br h3) q.2) λvs H2 q=>QK q⟩)
def UN{op:Operator}(A:SX S w f lv a x)(B:SX S w f lv b y):SX S w f lv (OG S f op a b) (O3 S w lv op x y):=.p (λ_ hc=>xO hc λ_ _ _ _ e _=>e▸λ_ _=>rfl) λ_ hc h=>xO hc λl o r p e d=>e▸be (bl d)▸(aB.binop<|Ev.mono (A.E _ (bl<|br d) h) λm H1 q=>Ev.mono (B.E _ (br<|br d) q) λn H2 q=>KL q)
def UO{op:CmpOp}(A:SX S w f lv a x)(B:SX S w f lv b y):SX S w f lv (OH S f op a b) (O4 S w lv op x y):=
 .t (λ_ hc h=>rH hc λl os rs p e d=>e▸jk d λo e d=>e▸jk d λr e d=>e▸be (bl d)▸(aB.cmp (be (bl d)▸bn (bl<|br d))<|Ev.mono (A.E _ (bl<|br<|br d) h) λm H1 q=>B.E _ (br<|br<|br d) q))
  λ_ hc h=>rH hc λl os rs p e d=>e▸jk d λo e d=>e▸jk d λr e d=>e▸be (bl d)▸(lU.cmp (be (bl d)▸bn (bl<|br d))<|Ev.mono (A.E _ (bl<|br<|br d) h) λm H1 q=>B.E _ (br<|br<|br d) q)
def Lv{o1 o2:CmpOp}(A:SX S w f lv a x)(B:SX S w f lv b y)(C:SX S w f lv c z):SX S w f lv (Co S f o1 o2 a b c) (CP S w lv o1 o2 x y z):=
 .t (λ_ hc h=>rH hc λl os rs p e d=>e▸AF d λp1 p2 e d=>e▸AF d λm' r e d=>e▸
   have h2:=br<|br d
   have e1:=be<|bl d
   have e2:=be<|bl<|br d
   have g:=bn (bl h2)
   e1▸e2▸aB.chain (by rw[<-e1,<-e2];exact g) (Ev.mono (A.E _ (bl<|br h2) h) λm H1 q=>Ev.mono (B.E _ (bl<|br<|br h2) q) λn H2 q=>jl q λt q=>t.rec (λq=>q) (λq=>C.E _ (br<|br<|br h2) q) q))
  λ_ hc h=>rH hc λl os rs p e d=>e▸AF d λp1 p2 e d=>e▸AF d λm' r e d=>e▸
   have h2:=br<|br d
   have e1:=be<|bl d
   have e2:=be<|bl<|br d
   have g:=bn (bl h2)
   e1▸e2▸lU.chain (by rw[<-e1,<-e2];exact g) (Ev.mono (A.E _ (bl<|br h2) h) λm H1 q=>Ev.mono (B.E _ (bl<|br<|br h2) q) λn H2 q=>jl q λt q=>t.rec (λq=>q) (λq=>C.E _ (br<|br<|br h2) q) q)
def UP{op:BoolOp}(A:SX S w f lv a x):SX S w f lv (OI S f op a) (O5 S w lv op x):=
 .t (λ_ hc h=>Gy hc λo es p e d=>e▸be (bl d)▸(A.V _ (br d) h)) λ_ hc h=>Gy hc λo es p e d=>e▸be (bl d)▸(A.B _ (br d) h)
def UQ(A:SX S w f lv a x):SX S w f lv (OJ S f a) (w_not S w lv x):=
 .t (λ_ hc h=>Gz hc λo b p e d=>e▸be (bl d)▸(aB.not<|A.E _ (br d) h)) λ_ hc h=>Gz hc λo b p e d=>e▸be (bl d)▸(lU.not<|A.T _ (br d) h)
def UR(A:SX S w f lv a x):SX S w f lv (OL S f a) (O6 S w lv x):=.e λ_ hc h=>Gz hc λo b p e d=>e▸be (bl d)▸(aB.neg<|A.E _ (br d) h)
def US(A:SX S w f lv a x)(B:SX S w f lv b y)(C:SX S w f lv c z):SX S w f lv (OM S f a b c) (O7 S w lv x y z):=.e λ_ hc h=>Uz hc λc' a' b' p e d=>e▸aB.UD (Ev.mono (A.T _ (bl d) h) λt H1 q=>t.rec (λq=>C.E _ (br<|br d) q) (λq=>B.E _ (bl<|br d) q) q)
def UT(A:SX S w f lv a x)(B:SX S w f lv b y):SX S w f lv (OO S f a b) (w_sub S w lv x y):=.p (λ_ hc=>lW hc λ_ _ _ e _=>e▸λ_ _=>rfl) λ_ hc h=>lW hc λa' i' p e d=>e▸aB.sub (bl d) (Ev.mono (A.E _ (bl<|br d) h) λv H1 q=>B.E _ (br<|br d) q)
def Ld.mono{e:Option Expr}{QO XD:Option Int->MH->Prop}(h:Ld ⟨S,w,f⟩ (8*lv) Lc X e H QO)(k:∀v H',QO v H'->XD v H'):Ld ⟨S,w,f⟩ (8*lv) Lc X e H XD:=by
 cases e with
 |none=>exact k _ _ h
 |some e=>exact Ev.mono h λv H1 q=>yP (P:=λv=>j9 v λi=>XD (some i) H1) q λi q=>k _ _ q
def UU(A:SX S w f lv a x)(B:SX S w f lv b y)(C:SX S w f lv c z):SX S w f lv (OP S f a b c) (O8 S w lv x y z):=.p (λ_ hc=>lW hc λ_ _ _ e _=>e▸λ_ _=>rfl) λ_ hc h=>lW hc λa' s p e d=>e▸GA d λl u st q e d=>e▸GH d λe d=>e▸
 aB.slice (Ev.mono (A.E _ (bl d) h) λv H1 q=>Ld.mono (B.O _ (bl<|br d) q) λm H2 q=>C.O _ (br<|br d) q)
def Rr(A:SX S w f lv a x):SX S w f lv (GY S f a) (Ht S w lv x):=.e λ_ hc h=>QN hc λes p e d=>e▸aB.list (bl d) (A.L _ (br d) h)
def UW(A:SX S w f lv a x):SX S w f lv (OR S f a) (O9 S w lv x):=.e λ_ hc h=>uA hc λes k p e d=>e▸aB.tuple (bl d) (A.L _ (br d) h)
def UX:SX S w f lv (OT S f) (Pa S w lv):=.e λ_ hc h=>AB hc λks vs p e d=>e▸iE d λe d=>e▸iE d λe _=>e▸aB.Oz (Oh _) (λ_ h _=>h) h
def UY:SX S w f lv (OU S f) (Pb S w lv):=.e λ_ hc h=>AB hc λks vs p e d=>e▸iE d λe d=>e▸iE d λe _=>e▸aB.Oz (Oi _) (λ_ _ h=>h) h
def UZ:SX S w f lv (OV S f) (Pc S w lv):=.e λ_ _ h=>h.elim
def HE{l:List Expr}(h:Lk l=true)(k:l=[]->P):P:=by cases l with|nil=>exact k rfl|cons=>exact ff h
def xY{p:Expr->Bool}{q:List Expr->Bool}{l:List Expr}(h:Ce p q l=true)(k:∀e r,l=e::r->p e=true->q r=true->P):P:=by cases l with|nil=>exact ff h|cons e r=>exact k e r rfl (bl h)<|br h
def U0:SX S w f lv (OW S f) (Pd S w lv):=⟨λ_ h=>ff h,λ_ h=>ff h,λ_ hc h=>HE hc λe=>e▸h,λ_ _ h=>h.elim,λ{op _ _ _ _ _} _ hc h=>HE hc λe=>e▸(by
 cases op with
 |And=>exact lU.and_nil h
 |Or=>exact lU.or_nil h),λ_ h=>ff h⟩
def XE{v:MV}{K K':Bool->MH->Prop}(h:kc v H K)(m:∀b H',K b H'->K' b H'):kc v H K':=by
 cases v with
 |str l=>exact⟨h.1,m _ _ h.2⟩
 |tup l=>exact⟨h.1,m _ _ h.2⟩
 |ref i=>refine objE (P:=iP (H.at_ i) _ _ _ _ _ _) h (λ_ _ _=>J2) (λxs e h=>?_) (λ_ _=>nQ) (λxs e h=>?_) (λxs e h=>?_) λ_ _=>nQ<;>rw[e]<;>exact m _ _ h
 |_=>first|exact m _ _ h|exact h
def Rt{r':IE}(A:SX S w f lv a x)(B:SX S w f lv b y):SX S w f lv (GZ S f r' a b) (Hu S w lv r' x y):=⟨λ_ h=>ff h,λ_ h=>ff h,
 λ_ hc h=>xY hc λe r E h1 h2=>E▸Ev.mono (A.E _ h1 h) λv H1 q=>B.L _ h2 q,
 λ{op _ _ _ _ _} _ hc h=>xY hc λe r E h1 h2=>E▸(by
  have h:cond (Nat.beq r'.ctorIdx 30) _ _:=h
  cases hn:Nat.beq r'.ctorIdx 30 with
  |true=>
   rw[hn]at h h2
   cases r with
   |nil=>exact A.E e h1 h
   |cons=>cases h2
  |false=>
   rw[hn]at h h2
   cases r with
   |nil=>cases h2
   |cons e2 r2=>exact aB.Ew (Ev.mono (A.E _ h1 h) λv H1 q=>XE q λb H2 q=>by
     cases hb:nZ op b with
     |true=>rw[hb]at q;exact q
     |false=>rw[hb]at q;exact B.V _ h2 q)),
 λ{op _ _ _ _ _} _ hc h=>xY hc λe r E h1 h2=>E▸(by
  cases op with
  |And=>exact lU.and_cons<|Ev.mono (A.T _ h1 h) λb H1 q=>b.rec (λq=>q) (λq=>B.B _ h2 q) q
  |Or=>exact lU.or_cons<|Ev.mono (A.T _ h1 h) λb H1 q=>b.rec (λq=>B.B _ h2 q) (λq=>q) q),λ_ h=>ff h⟩
def SX.o{c:Option Expr->Bool}{x:Loc->MH->(Option Int->MH->Prop)->QX->Prop}(O:∀{Lc H Q X} e,c e=true->x Lc H Q X->Ld ⟨S,w,f⟩ (8*lv) Lc X e H Q):SX S w f lv (.o c) (.o x):=⟨λ_ h=>ff h,λ_ h=>ff h,λ_ h=>ff h,λ_ h=>ff h,λ_ h=>ff h,O⟩
def XH:SX S w f lv (UG S f) (UH S w lv):=.o λe hc h=>by cases e with|none=>exact h|some=>exact ff hc
def U6(A:SX S w f lv a x):SX S w f lv (OY S f a) (Pe S w lv x):=.o λe hc h=>by cases e with|none=>exact ff hc|some e=>exact A.E _ hc h
end
def sx(O:bL S w)(e:IE):SX S w f lv (cx S f e) (wx S w lv e):=e.rec (motive:=λe=>SX S w f lv (cx S f e)<|wx S w lv e) Rn (λ_=>s_bool) (λ_=>UI) (λ_=>UJ) (λ_=>UK) (λ_=>Ro O) (λ_=>UL O) (λ_ _ A=>Rp O A) (λ_ _ A=>Lm O A)
 (λ_ _ _ _ _ A B C=>Ln O A B C) (λ_ _ A=>Lo O A) (λ_ _ _ _ A B=>Lp O A B) (λ_ _ _ _ A B=>Rq O A B) (λ_ _ A=>Lq O A) (λ_ _ A=>Ls O A) (λ_ _ _ A B=>Lu A B) (λ_ _ _ A B=>UN A B) (λ_ _ _ A B=>UO A B) (λ_ _ _ _ _ A B C=>Lv A B C)
 (λ_ _ A=>UP A) (λ_ A=>UQ A) (λ_ A=>UR A) (λ_ _ _ A B C=>US A B C) (λ_ _ A B=>UT A B) (λ_ _ _ A B C=>UU A B C) (λ_ A=>Rr A) (λ_ A=>UW A) UX UY UZ U0 (λ_ _ A B=>Rt A B) XH λ_ A=>U6 A
end
structure pY(S:aP)(w:World):Prop extends bL S w where
 WT:∀(f:Fm) (lv i:Nat) (st:Stmt) (Lc:Loc) (H:MH) (WB:Loc->MH->QF->QX->Prop) (Q:QF) (X:QX),S.quiet=true->S.xs i f st=true->(∀L H Q X,WB L H Q X->ko ⟨S,w,f⟩ (8*lv) (qM st) L H Q X)->
  S.xw i lv Lc H (λqt l fa vs kn ks H Q X=>bH {S with quiet:=qt} w l fa vs kn ks H Q X) WB Q X->dU ⟨S,w,f⟩ (8*lv) st Lc H Q X
section
variable{S:aP}{w:World}{f:Fm}{lv:Nat}{Lc:Loc}{H:MH}{Q:QF}{X:QX}{P:Prop}
def tE{v:MV}{K K':Nat->Prop}(h:iZ v K)(m:∀a,K a->K' a):iZ v K':=rF (P:=λv=>iZ v K') h m
def HF{v:MV}{K K':List Nat->Prop}(h:qB v K)(m:∀a,K a->K' a):qB v K':=Ei (P:=λv=>qB v K') h m
def AM{o:Option MO}{K K':List MV->Prop}(h:gm o K)(m:∀a,K a->K' a):gm o K':=listE h λa e h=>e▸m a h
def HG{o:Option MO}{K K':List (Int×MV)->Prop}(h:rE o K)(m:∀a,K a->K' a):rE o K':=Gb h λa e h=>e▸m a h
structure SS(S:aP)(w:World)(f:Fm)(lv:Nat)(c:CS)(x:Loc->MH->QF->QX->Prop):Prop where
 A:∀{Lc H Q X} st,c.S st=true->x Lc H Q X->dU ⟨S,w,f⟩ (8*lv) st Lc H Q X
 B:∀{Lc H Q X} st,c.B st=true->x Lc H Q X->ko ⟨S,w,f⟩ (8*lv) st Lc H Q X
def SS.s{c:Stmt->Bool}{x:Loc->MH->QF->QX->Prop}(s:∀{Lc H Q X} st,c st=true->x Lc H Q X->dU ⟨S,w,f⟩ (8*lv) st Lc H Q X):SS S w f lv (.s c) x:=⟨s,λ_ h=>ff h⟩
def U7{K K':Loc->MH->Prop}{mf:MF}{L:Loc}{H:MH}(h:qJ K Q mf L H)(m:∀L H,K L H->K' L H):qJ K' Q mf L H:=by cases mf<;>first|exact m _ _ h|exact h
def HH{K K':Loc->MH->Prop}{mf:MF}{L:Loc}{H:MH}(h:mQ K Q mf L H)(m:∀L H,K L H->K' L H):mQ K' Q mf L H:=by cases mf<;>first|exact m _ _ h|exact h
def ZA{b:Bool}{A B A' B':Prop}(h:if b then A else B)(m:A->A')(n:B->B'):if b then A' else B':=by cases b<;>first|exact m h|exact n h
section
variable{b o:CS}{y z:Loc->MH->QF->QX->Prop}
def Lw:SS S w f lv (Cp S f) (CR S w f lv):=.s λ_ hc h=>Q7 hc λp e _=>e▸dU.pass h
def Ru:SS S w f lv (G7 S f) (Hv S w f lv):=.s λ_ hc h=>Q9 hc λp e _=>e▸dU.brk h
def Lx:SS S w f lv (Cq S f) (CT S w f lv):=.s λ_ hc h=>Rb hc λp e _=>e▸dU.UE h
def Ly:SS S w f lv (Cr S f) (CU S w f lv):=.s λ_ hc h=>xQ hc λv p e d=>e▸GH d λe _=>e▸dU.GN h
def Rv:SS S w f lv (Hi S f) (HB S w f lv):=.s λ_ _ h=>h.elim
def Lz(B:SS S w f lv b y)(O:SS S w f lv o z):SS S w f lv (CE S f b o) (De S w f lv y z):=.s λ_ hc h=>GG hc λb' hs o' fb p e d=>e▸by
 cases hs with
 |nil=>exact ff<|bl d
 |cons x xs=>cases fb with
  |cons y ys=>exact ff<|bl<|br d
  |nil=>exact dU.Rk<|AK.mono (B.B _ (bl<|br<|br d) h) λmf L' H' q=>U7 q λL H q=>O.B _ (br<|br<|br d) q
def Rw:SS S w f lv (Hj S f) (HC S w f lv):=⟨λ_ h=>ff h,λl hc h=>by cases l with|nil=>exact ko.nil h|cons=>exact ff hc⟩
def LA(B:SS S w f lv b y)(O:SS S w f lv o z):SS S w f lv (CH S f b o) (Dh S w f lv y z):=⟨λ_ h=>ff h,λl hc h=>by
 cases l with
 |nil=>exact ff hc
 |cons s r=>exact ko.cons<|AK.mono (B.A _ (bl hc) h) λmf L' H' q=>U7 q λL H q=>O.B _ (br hc) q⟩
variable(O:bL S w){e:IE}
include O
def Rx:SS S w f lv (G8 S f e) (Hw S w f lv e):=.s λ_ hc h=>xQ hc λv p e d=>e▸xR d λe' e d=>e▸dU.ret ((sx O _).E _ d h)
def LF:SS S w f lv (Cs S f e) (CV S w f lv e):=.s λ_ hc h=>AD hc λv p e d=>e▸dU.expr (bl d) ((sx O _).E _ (br d) h)
def Ry{k:Nat}:SS S w f lv (G9 S f k e) (Hx S w f lv k e):=.s λ_ hc h=>lX hc λts v p e d=>e▸jk d λt e d=>e▸bh d λx p' e d=>e▸dU.sL (bY<|bl d) (bl<|br d) ((sx O _).E _ (br<|br d) h)
def LG{k j:Nat}:SS S w f lv (Ct S f k j e) (CY S w f lv k j e):=.s λ_ hc h=>lX hc λts v p e d=>e▸AF d λt u e d=>e▸bh d λx p1 e d=>e▸bh d λy p2 e d=>e▸dU.assign2 (bY<|bl d) (bY<|bl<|br d) ((sx O _).E _ (br<|br d) h)
def LJ{k j i:Nat}:SS S w f lv (Cu S f k j i e) (CZ S w f lv k j i e):=.s λ_ hc h=>lX hc λts v p e d=>e▸Xs d λt u z e d=>e▸bh d λx p1 e d=>e▸bh d λy p2 e d=>e▸bh d λy' p3 e d=>e▸dU.Lg (bY<|bl d) (bY<|bl<|br d) (bY<|bl<|br<|br d) ((sx O _).E _ (br<|br<|br d) h)
def LK{ks:List Nat}:SS S w f lv (Cv S f ks e) (C0 S w f lv ks e):=.s λ_ hc h=>lX hc λts v p e d=>e▸jk d λt e d=>e▸uA d λes n p' e d=>e▸
 have d2:=br (br d)
 dU.AL (bl d) (bl<|br d) (bl d2) (bl<|br d2) ((sx O _).E _ (br<|br d2) h)
def LL{o:IE}{k:Nat}:SS S w f lv (Cw S f o k e) (C1 S w f lv o k e):=.s λ_ hc h=>lX hc λts v p e d=>e▸jk d λt e d=>e▸f7 d λo' x p' e d=>e▸
 have d2:=br (br d)
 dU.zc O (be<|bl d) (bl<|br d) (Ev.mono ((sx O _).E _ (bl d2) h) λv H1 q=>(sx O _).E _ (br d2) q)
def LN{o i:IE}:SS S w f lv (Cy S f o i e) (C4 S w f lv o i e):=.s λ_ hc h=>lX hc λts v p e d=>e▸jk d λt e d=>e▸lW d λo' i' p' e d=>e▸
 have d2:=br (br d)
 dU.uI (bl d) (Ev.mono ((sx O _).E _ (bl<|br d) h) λv H1 q=>Ev.mono ((sx O _).E _ (bl d2) q) λov H2 q=>(sx O _).E _ (br d2) q)
def LO{k:Nat}{op:Operator}:SS S w f lv (Cz S f k op e) (C5 S w f lv k op e):=.s λ_ hc h=>GD hc λt o' v p e d=>e▸bh d λx p' e d=>e▸KA h λu hu h=>be (bl<|br d)▸dU.GO (bY<|bl d) hu (Ev.mono ((sx O _).E _ (br<|br d) h) λv H1 q=>wz q)
def LQ{o:IE}{k:Nat}{op:Operator}:SS S w f lv (CA S f o k op e) (C8 S w f lv o k op e):=.s λ_ hc h=>GD hc λt o' v p e d=>e▸f7 d λo'' x p' e d=>e▸
 have d2:=br (br d)
 be (bl<|br d)▸dU.GP O (be<|bl d) (Ev.mono ((sx O _).E _ (bl d2) h) λov H1 q=>WS q λi c fs q=>jl q λu q=>Ev.mono ((sx O _).E _ (br d2) q) λv H2 q=>wz q)
def Rz{c:IE}(B:SS S w f lv b y)(C:SS S w f lv o z):SS S w f lv (Hf S f c b o) (Hy S w f lv c y z):=.s λ_ hc h=>GF hc λc' a' b' p e d=>e▸dU.ite (Ev.mono ((sx O _).T _ (bl d) h) λt H1 q=>ZA q (B.B _<|bl<|br d)<|C.B _<|br<|br d)
omit O in
def RA{c:IE}{b o:IS}:SS S w f lv (Hg S f c (cs S f b)<|cs S f o) (Hz S w f lv c b o):=.s λ_ hc h=>QZ hc λc' a' b' p e d=>e▸dU.Rj (h _ _ _ (bl d) (bl<|br d)<|br<|br d)
def LR{k:Nat}{b:IS}:SS S w f lv (CB S f k e<|cs S f b) (C9 S w f lv k e b):=.s λ_ hc h=>uC hc λt i a o p e d=>e▸iE d λe d=>e▸bh d λx p' e d=>e▸
 have d2:=br (br d)
 dU.ze (bl d) (bl<|br d) (bY<|bl d2) (Ev.mono ((sx O _).E _ (bl<|br d2) h) λv H1 q=>tE q λj q=>AM q λxs q=>q _<|br<|br d2)
def LU{k:Nat}{b:IS}:SS S w f lv (CC S f k e<|cs S f b) (Dc S w f lv k e b):=.s λ_ hc h=>uC hc λt i a o p e d=>e▸iE d λe d=>e▸bh d λx p' e d=>e▸
 have d2:=br (br d)
 dU.EF (bl d) (bl<|br d) (bY<|bl d2) (Ev.mono ((sx O _).E _ (bl<|br d2) h) λv H1 q=>tE q λj q=>HG q λxs q=>q _<|br<|br d2)
def LV{ks:List Nat}{b:IS}:SS S w f lv (CD S f ks e<|cs S f b) (Dd S w f lv ks e b):=.s λ_ hc h=>uC hc λt i a o p e d=>e▸iE d λe d=>e▸uA d λes n p' e d=>e▸dY d λg as kws p2 e d=>e▸iE d λe d=>e▸jk d λe' e d=>e▸bh d λy p3 e d=>e▸
 have d2:=br<|br d
 have d3:=br (br d2)
 be (bl<|br d)▸dU.GR (bl d) (be (bl<|br d)▸gy O (bl d2)) (bl<|br d2) (be<|bl d3) (bl<|br d3) (Ev.mono ((sx O _).E _ (bl<|br<|br d3) h) λv H1 q=>HF q λl q=>q _<|br<|br<|br d3)
def RB{o i:IE}:SS S w f lv (Hh S f o i) (HA S w f lv o i):=.s λ_ hc h=>Q3 hc λts p e d=>e▸jk d λt e d=>e▸lW d λo' i' p' e d=>e▸dU.Lh (Ev.mono ((sx O _).E _ (bl d) h) λov H2 q=>(sx O _).E _ (br d) q)
def LY:SS S w f lv (CF S f e) (Df S w f lv e):=.s λ_ hc h=>Q5 hc λe' m p e d=>e▸dU.Lj ((sx O _).T _ d h)
omit O in
def LZ(O:pY S w){i:Nat}(B:SS S w f lv b y):SS S w f lv (CG S f i b) (Dg S w f lv i y):=.s λst hc h=>O.WT f lv i st _ _ _ _ _ (bl hc) (bl<|br hc) (λL' H' Q' X' hb=>B.B _ (br<|br hc) hb) h
end
def ss(O:pY S w)(s:IS):SS S w f lv (cs S f s) (wpS S w f lv s):=have o:=O.tobL;s.rec (motive:=λs=>SS S w f lv (cs S f s)<|wpS S w f lv s) Lw Ru Lx (λ_=>Rx o) Ly (λ_=>LF o) (λ_ _=>Ry o) (λ_ _ _=>LG o) (λ_ _ _ _=>LJ o) (λ_ _=>LK o) (λ_ _ _=>LL o) (λ_ _ _=>LN o)
 (λ_ _ _=>LO o) (λ_ _ _ _=>LQ o) (λ_ _ _ B C=>Rz o B C) (λ_ _ _ _ _=>RA) (λ_ _ _ _=>LR o) (λ_ _ _ _=>LU o) (λ_ _ _ _=>LV o) (λ_ _ B C=>Lz B C) (λ_ _=>RB o) (λ_=>LY o) (λ_ _ B=>LZ O B) Rv Rw λ_ _ B C=>LA B C
def rM(O:pY S w)(ib:IB){sts:List Stmt}(hc:xX S f ib sts=true)(h:zg S w f lv ib Lc H Q X):ko ⟨S,w,f⟩ (8*lv) sts Lc H Q X:=(ss O ib).B sts hc h
def tD.turn(O:pY S w){ic:IE}{ib io:IB}(h:J4 S w lv ic Lc H (λb H'=>if b then zg S w f lv ib Lc H' (mQ (λLc2 H2=>tD S w f lv ic ib io Lc2 H2 Q X) Q) X else zg S w f lv io Lc H' Q X) X):tD S w f lv ic ib io Lc H Q X:=
 λc body orelse h1 h2 h3=>Ri.turn<|Ev.mono ((sx O.tobL ic).T c h1 h) λb H1 q=>ZA q (λq=>AK.mono (rM O ib h2 q) λmf L' H' q=>HH q λL H q=>q c body orelse h1 h2 h3) λq=>rM O io h3 q
def mZ.nil{ib:IB}(h:Q .next Lc H):mZ S w f lv ib [] Lc H Q:=λbody hc=>h
def mZ.cons(O:pY S w){ib:IB}{u:Loc->Loc}{us:List (Loc->Loc)}(h:zg S w f lv ib (u Lc) H (mQ (λpN H'=>mZ S w f lv ib us pN H' Q) Q) uK):mZ S w f lv ib (u::us) Lc H Q:=
 λbody hc=>AK.mono (rM O ib hc h) λmf L' H' q=>HH q λL H q=>q body hc
end
def gP(Q:QV):QF:=λmf _ H'=>mf.casesOn (Q .none H') False False λv=>Q v H'
section
variable{S:aP}{w:World}{l:Nat}{H:MH}{Q:QV}{X:MV->MH->Prop}
structure c6(S:aP)(w:World)(fd:FuncData)(ns:List Str)(az:List MV)(kn:List Str)(kv:List MV)(dW:List MV):Prop where
 go:∀(φ:dD) (s:Shared) (ws ks:List Value),(S.K w.params).In s.heap->cK φ az ws->cK φ kv ks->∃bs:List Value,BindsTo s fd ⟨ws,kn.zip ks⟩ ((ns.take dW.length).zip bs)/\cK φ dW bs
 len:dW.length<=ns.length
def ja{α β:Type}[BEq α][LawfulBEq α]{x:α}{v:β}{l:List (α×β)}(h:l.lookup x=some v):(x,v)∈l:=by
 induction l with
 |nil=>cases h
 |cons p r ih=>
  obtain⟨a,b⟩:=p
  by_cases q:x=a
  ·rw[q,List.lookup_cons,beq_self_eq_true]at h;rw[q];exact aaf h▸.head _
  ·rw[List.lookup_cons,beq_false_of_ne q]at h;exact .tail _<|ih h
def mem_lookup{x:Str}{v:Value}{l:List (Str×Value)}(hn:(l.map (·.1)).Nodup)(h:(x,v)∈l):l.lookup x=some v:=by
 induction l with
 |nil=>cases h
 |cons p r ih=>
  obtain⟨a,b⟩:=p
  have hn:=List.nodup_cons.mp hn
  rw[List.lookup_cons]
  cases h with
  |head=>rw[beq_self_eq_true]
  |tail _ h=>rw[beq_false_of_ne λq:x=a=>hn.1 (show a∈r.map (·.1)from q▸List.mem_map_of_mem (f:=(·.1)) h)];exact ih hn.2 h
def AN{x:Str}{v:Value}{l:List (Str×Value)}(hn:(l.map (·.1)).Nodup)(h:(x,v)∈l):l.reverse.lookup x=some v:=
 mem_lookup (by rw[List.map_reverse];exact List.pairwise_reverse.mpr<|List.Pairwise.imp Ne.symm hn) (List.mem_reverse.mpr h)
noncomputable def bW(ns:List Str)(dW:List MV):Loc:=dW.map some++List.replicate (ns.length-dW.length) none
def AO{ns:List Str}{dW:List MV}{k:Nat}{v:MV}(h:(bW ns dW)[k]?=some (some v)):dW[k]?=some v:=by
 rcases Nat.lt_or_ge k dW.length with q|q
 ·rw[bW,List.getElem?_append_left (by rw[List.length_map];exact q),List.getElem?_map]at h
  exact(Option.map_eq_some_iff.mp h).elim λ_ z=>aaf z.2▸z.1
 ·rw[bW,List.getElem?_append_right (by rw[List.length_map];exact q),List.getElem?_replicate]at h
  split at h<;>cases h
def L6{x:Str}{v:Value}{ns:List Str}{bs:List Value}{n k:Nat}(h:ns[k]?=some x)(hb:bs[k]?=some v)(hk:k<n):(x,v)∈(ns.take n).zip bs:=
 List.mem_iff_getElem?.mpr ⟨k,by rw[List.getElem?_zip_eq_some,List.getElem?_take,aam hk];exact⟨h,hb⟩⟩
def Di{φ:dD}{ns:List Str}{dW:List MV}{bs:List Value}(hnd:ns.Nodup)(hl:dW.length<=ns.length)(rb:cK φ dW bs){k:Nat}{x:Str}{v:MV}(hx:ns[k]?=some x)(hv:(bW ns dW)[k]?=some (some v)):∃w,((ns.take dW.length).zip bs).reverse.lookup x=some w/\VR φ v w:=
 have hv:=AO hv
 rb.get hv λw hw r=>⟨w,AN (by rw[List.map_fst_zip<|by rw[List.length_take,rb.length];exact Nat.min_le_left _ _];exact hnd.sublist<|List.take_sublist _ _)<|L6 hx hw (List.getElem?_eq_some_iff.mp hv).1,r⟩
def sO{A:Around}{l:Nat}{env:Env}(h:yN (8*l+4) A):yN (8*l) (A.deeper env):=⟨(by have:=h.depth;show A.depth+1+_<=_;omega),(by have:=h.units;show A.units+3+_<=_;omega)⟩
abbrev Gm.sub(Γ:Gm)(f f':Fm)(g:Heap)(L:Addr):Gm:=⟨Γ.A.deeper<|f'.env L,Γ.A,Γ.base,g,f.env Γ.L::Γ.outer,L⟩
section
variable{u:Nat}{Γ:Gm}{E:Value->Shared->Prop}{r r0:Rh}{Lc:Loc}{f f':Fm}{g:Heap}{L:Addr}{Y:QX}
def zh(a:At ⟨S,w,f⟩ u Γ E r Lc H λx pN H'=>pN=Lc/\X x H')(FG:Fr Γ.h₀ Γ.L g r.m)(l0:Le r r0):Qu ⟨S,w,f'⟩ (Γ.sub f f' g L) r0 (λx _ H'=>X x H') λe s'=>wpAny (model S.prog w) (Γ.A.deeper<|f'.env L) (leaving (f'.env L) e) (λ_ s'=>E e s') E s':=λr1 Xv H1 x e l j q=>by
 cases j with
 |mk B h1 ea d es n wv ee F2 U2 k1 k2 AI k3 k4 k5 k6 k7 k8 k9=>
  subst ee
  have X1:=(l0.trans l).x
  exact Qt (Around.frames_deeper a.C.fr) rfl AI λh' F3 U3=>a.EX ⟨r1.φ,r.m,{r1.s with heap:=h'}⟩ Lc H1 x _ ⟨X1,l.g.trans l0.g,l.o.trans l0.o⟩
   (.mk B g ea d es n wv rfl FG ((Heap.UpToSlots.of_keeps F2.keep).trans<|U2.trans U3) k1 k2 (F3.Zm<|.inl rfl) k3 k4 k5 k6 k7 k8 λk x v hx hv=>(a.T.loc k x v hx hv).elim λw h=>⟨w,h.1,h.2.ext X1⟩) ⟨rfl,q⟩
def wJ(a:At ⟨S,w,f⟩ u Γ E r Lc H Y)(l0:Le r r0){V:Flow->Value}(hn:V .next=.none)(hr:∀v,V (.ret v)=v):∀fl s',eX r0 (DQ ⟨S,w,f'⟩ (Γ.sub f f' g L)<|gP Q) fl s'->LeaveK Γ.h₀ Γ.L r.m g (B5 ⟨S,w,f⟩ Γ E r Lc Q) (V fl) s':=λfl s' z=>z.elim λr1 z=>by
 obtain⟨rfl,l,D⟩:=z
 cases D with
 |mk Xv H1 mf T j q=>
  have X1:=(l0.trans l).x
  have back:∀v mv,VR r1.φ mv v->Q mv H1->LeaveK Γ.h₀ Γ.L r.m g (B5 ⟨S,w,f⟩ Γ E r Lc Q) v r1.s:=λv mv j q=>⟨L,r1.m,r1.φ.news,T.F,T.N,λFF NN=>⟨⟨r1.φ,r.m,r1.s⟩,rfl,⟨X1,l.g.trans l0.g,l.o.trans l0.o⟩,H1,mv,⟨FF,NN,T.R,λk x v hx hv=>(a.T.loc k x v hx hv).elim λw h=>⟨w,h.1,h.2.ext X1⟩⟩,j,q⟩⟩
  cases mf with
  |next=>cases j;exact hn▸back .none .none rfl q
  |ret v=>exact j.elim λx y=>by obtain⟨rfl,y⟩:=y;exact(hr x).symm▸back x v y q
  |_=>exact q.elim
end
def nW.intro{fa:Nat}{az dW:List MV}{kn:List Str}{kv:List MV}{name qual:Str}{params:Arguments}{body:List Stmt}{scope:Scope}{cl:List (Str×Addr)}{dV kV doc pm cdv ct oc:Value}{an od:Option Addr}{osl:Array (Option Value)}{ns:List Str}
  (hK:(S.K w.params).lookup fa=some ⟨oc,od,.func<|fnX name qual params body scope cl dV kV doc pm an cdv ct,osl⟩)(hcd:codeIn (S.K w.params) cdv qual=true)
  (hcell:∀x∈scope.names,x.2≠.cell)(hco:scope.isCoroutine=false)(hgen:scope.isGenerator=false)(hk:scope.kind=.function)(hnd:ns.Nodup)(hloc:∀x∈ns,scope.names.lookup x=some .local)
  (hb:c6 S w (fnX name qual params body scope cl dV kV doc pm an cdv ct) ns az kn kv dW)(hne:fa≠S.top)
  (h:ko ⟨S,w,⟨ns,scope,qual,cdv,cl,fa⟩⟩ (8*l) body (bW ns dW) H (gP Q) λx _ H'=>X x H'):nW S w l fa az kn kv H Q X:=
 λf Lc Γ E r ws ks a R R2=>(hb.go r.φ r.s ws ks (a.C.X.keeps a.T.F.keep) R R2).elim λbs z=>a.C.T.elim λmg t=>t.elim λmb TT=>
  callX_plain (fo:=⟨oc,od,.func<|fnX name qual params body scope cl dV kV doc pm an cdv ct,osl⟩) a.C.B a.T.F a.T.N TT.nolimit a.C.fr rfl a.C.lT (a.C.X.keeps a.T.F.keep _ _ hK) rfl (codeRec_of (a.C.X.keeps a.T.F.keep) hcd)
  (H8 (av (aah _ _) a.rm.depth)<|by decide) z.1 (λy hy=>hloc _<|List.mem_of_mem_take (List.of_mem_zip (a:=y.1) (b:=y.2) hy).1) (λg' L' h₁ FG F' N' B' st _=>
   have l0:Le r ⟨r.φ,λy=>((ns.take dW.length).zip bs).reverse.lookup y,{r.s with heap:=h₁,toks:=r.s.toks+((ns.take dW.length).zip bs).length}⟩:=⟨.refl,rfl,rfl⟩
   wpAny_mono (h (Γ.sub f ⟨ns,scope,qual,cdv,cl,fa⟩ g' L') _ ⟨r.φ,λy=>((ns.take dW.length).zip bs).reverse.lookup y,{r.s with heap:=h₁,toks:=r.s.toks+((ns.take dW.length).zip bs).length}⟩ ⟨⟨B',Around.frames_deeper a.C.fr,a.C.X.keeps st,⟨mg,mb,TT.keeps st⟩,hk,hnd,a.C.quiet,λe=>aan e hne⟩,sO a.rm,⟨F',N',a.T.R,λk x v hx hv=>Di hnd hb.len z.2 hx hv⟩,zh a FG l0⟩) (wJ a l0 rfl λ_=>rfl) λ_ _ z=>z) hcell hco hgen hk
end
section
open PySem PySem.W PySem.Calls PyProof.Rows PySem.Spec Builtin Builtin.ObjectAttr
def XI(prog:Program)(w:World)(A:Around)(R:Result->Shared->Prop)(fin:Fin)(s:Shared):Prop:=match fin with
 |.done f=>R (.ok f) s
 |.again c=>c.quiet=true/\codeAny (model prog w) A c R s
section
variable{prog:Program}{w:World}{A:Around}{E:Value->Shared->Prop}{R:Result->Shared->Prop}{s:Shared}{K:Frag}{x C L D:Addr}{h₀:Heap}{m:Str->Option Value}{news rest:aS}{name:Str}{tk:Tok}{v:Value}{ox:Obj}{od:Option Obj}{cd:ClassData}{es:List DictEntry}{n:Nat}
def EG{h:Heap}{M:Model}{a:Value}(X:K.In h)(b:Bool)(ht:takesIn K a=some b)(e:(if b then some a else none)=none):Looks M h (storeTaker?<|some a) none:=by
 cases b with
 |true=>cases e
 |false=>exact(looks_takesIn X ht).andThen .now
def AP{h:Heap}{M:Model}(X:K.In h)(ht:takerIn K C name=some none):∃attr,findIn K (.ref C) name=some attr/\Looks M h (storeTaker? attr) none:=
 (Option.bind_eq_some_iff.mp ht).elim λattr z=>⟨attr,z.1,by
  cases attr with
  |none=>exact .now
  |some a=>exact(Option.map_eq_some_iff.mp z.2).elim λb y=>EG X b y.1 y.2⟩
structure AR(K:Frag)(C:Addr)(cd:ClassData):Prop where
 cls:clsIn K C=some cd
 ne:cd.mro.isEmpty=false
 obj:cd.mro.contains (.type "object")=true
 dict:cd.hasDict=true
 pass:∀v,refuseLoop v "__setattr__" cd.mro=pure ()
 set:findIn K (.ref C) "__setattr__"=some (some<|.builtin "object.__setattr__")
def zj(X:K.In s.heap)(I:InstAt s.heap x ox C od)(XC:AR K C cd)(ht:takerIn K C name=some none)(h:∀b,wpAny (model prog w) A.in1 (storeInOwnDict (.ref x) (.ref C) (.str name tk) name v b) (XI prog w A R) (λe s'=>R (.error e) s') s):
  codeAny (model prog w) A (.call (.builtin "object.__setattr__") ⟨[.ref x,.str name tk,v],[]⟩) R s:=
 have G:=PySem.F.store_object
 have isO:Looks (model prog w) s.heap (isInstance (.ref x)<|.type "object") true:=I.type.andThen<|looks_mroIn X<|by unfold mroIn;rw[XC.cls,Option.bind_some,aal (by rw[XC.ne];decide),XC.obj]
 have LM:Looks (model prog w) s.heap (mroOf<|.ref C) cd.mro:=(looks_clsIn X XC.cls).andThen .now
 (AP X ht).elim λattr t=>codeAny_call_builtin G.slot.plain G.entry (@check_slot (model prog w) _ _ s "object.__setattr__" "object" "__setattr__" (.ref x) [.str name tk,v] [] _ G.kind G.split isO (G.args (.ref x) (.str name tk) v) (by
  rw[osa_eq,refuse_eq]
  refine gf<|gf<|I.type.here<|gf<|LM.here ?_
  rw[XC.pass]
  exact aao<|gf<|I.type.here<|gf<|(looks_findIn X t.1).here<|gf<|t.2.here<|h _))
def AS{es:List DictEntry}(hl:(getL name es).isSome=true):(!es.any (·.key.isStr name)&&es.any (·.refKey))=false:=by
 unfold getL at hl
 split at hl
 ·rename_i en he
  rw[List.any_eq_true.mpr ⟨en,List.mem_of_find?_eq_some he,List.find?_some he⟩];rfl
 ·split at hl
  ·cases hl
  ·rename_i z;rw[Bool.not_eq_true]at z;rw[z,Bool.and_false]
def Dj{Q:Fin->Shared->Prop}(F:Fr h₀ L s.heap m)(N:News h₀ L s.heap<|(D,dictOf es n)::rest)(hr:∀p∈rest,p.1≠D)(hl:(getL name es).isSome=true)(hz:es.length<1000)
  (h:∀h',Fr h₀ L h' m->News h₀ L h' ((D,dictOf (putL name (PyData.keyHash w.params name) (.str name s.toks) v es)<|putN name es n)::rest)->Q (.done<|.ret .none) {s with heap:=h',toks:=s.toks+1}):
  wpAny (model prog w) A (storeInDict D (.str name tk) name v) Q E s:=by
 have U:=news_upd (pre:=[]) (f:=Obj.putName name (PyData.keyHash w.params name) (.str name s.toks) v) F N (λ_ h=>by cases h) hr (putName_dict ..) rfl
 refine gf<|aao<|gf<|gf<|gf<|wpAny_askSetting<|aao<|gf<|wpAny_mkText<|gf<|wpAny_loadPart (N _<|.head _).1 ?_
 dsimp only
 rw[aRefKeyMayBeTheName_at,<-Array.any_toList,<-Array.any_toList,AS hl]
 exact wpAny_updatePart (N _<|.head _).1<|gf<|wpAny_lookBehind (U.2 _<|.head _).1 (pastItsLine_dict<|by rw[List.size_toArray,sizeLine_eq];exact av (rK es)<|av hz<|by decide)<|aao<|h _ U.1 U.2
noncomputable abbrev i7(C:Addr)(d:Option Addr)(vs:Array Value):Obj:={cls:=.ref C,dict:=d,data:=.fields vs}
section
variable{vs:Array Value}{b:Bool}{nv:Value}(X:K.In s.heap)(XC:AR K C cd)
include X XC
def HJ{Q:Fin->Shared->Prop}(hx:s.heap.get? x=some (i7 C (some D) vs))(h:wpAny (model prog w) A (storeInDict D nv name v) Q E s):wpAny (model prog w) A (storeInOwnDict (.ref x) (.ref C) nv name v b) Q E s:=by
 refine gf<|aao<|gf<|gf<|wpAny_loadPart hx<|gf<|(looks_clsIn X XC.cls).here ?_
 rw[XC.dict]
 exact aao (a:=some D) h
def HK{Q:Fin->Shared->Prop}(hx:s.heap.get? x=some (i7 C none vs))(h:wpAny (model prog w) A (storeInDict s.heap.objs.size nv name v) Q E {s with heap:=(s.heap.push<|dictOf [] 0).update x λo=>{o with dict:=some s.heap.objs.size}}):wpAny (model prog w) A (storeInOwnDict (.ref x) (.ref C) nv name v b) Q E s:=by
 refine gf<|aao<|gf<|gf<|wpAny_loadPart hx<|gf<|(looks_clsIn X XC.cls).here ?_
 rw[XC.dict]
 exact gf<|wpAny_alloc<|gf<|wpAny_update (Heap.get?_push_of_some _ hx)<|aao (a:=some s.heap.objs.size) h
end
def EH{Q:Unit->Shared->Prop}{vs:Array Value}(F:Fr h₀ L s.heap m)(X₀:K.In h₀)(N:News h₀ L s.heap<|(D,dictOf es n)::(x,i7 C (some D) vs)::rest)(XC:AR K C cd)(ht:takerIn K C name=some none)
  (hr:∀p∈(x,i7 C (some D) vs)::rest,p.1≠D)(hl:(getL name es).isSome=true)(hz:es.length<1000)
  (h:∀h',Fr h₀ L h' m->News h₀ L h' ((D,dictOf (putL name (PyData.keyHash w.params name) (.str name<|s.toks+1) v es)<|putN name es n)::(x,i7 C (some D) vs)::rest)->Q () {s with heap:=h',toks:=s.toks+2}):wpAny (model prog w) A (setAttr (.ref x) name v) Q E s:=
 have X:=X₀.keeps F.keep
 have hx:=(N _<|.tail _<|.head _).1
 have I:InstAt s.heap x (i7 C (some D) vs) C (some<|dictOf es n):=⟨hx,rfl,rfl,(N _<|.head _).1⟩
 set_plain X I XC.set (zj (s:={s with toks:=s.toks+1}) X I XC ht λb=>HJ (s:={s with toks:=s.toks+1}) X XC hx<|Dj (s:={s with toks:=s.toks+1}) F N hr hl hz h)
def EI{Q:Unit->Shared->Prop}{vs:Array Value}(F:Fr h₀ L s.heap m)(X₀:K.In h₀)(N:News h₀ L s.heap<|(x,i7 C none vs)::rest)(XC:AR K C cd)(ht:takerIn K C name=some none)(hxr:∀p∈rest,p.1≠x)
  (h:∀h' D,Fr h₀ L h' m->News h₀ L h' ((D,dictOf (putL name (PyData.keyHash w.params name) (.str name<|s.toks+1) v []) 1)::(x,i7 C (some D) vs)::rest)->x<D->(∀p∈rest,p.1<D)->Q () {s with heap:=h',toks:=s.toks+2}):wpAny (model prog w) A (setAttr (.ref x) name v) Q E s:=
 have X:=X₀.keeps F.keep
 have hx:=(N _<|.head _).1
 have I:InstAt s.heap x (i7 C none vs) C none:=⟨hx,rfl,rfl,trivial⟩
 have l1:x<s.heap.objs.size:=Heap.lt_size hx
 have l2:∀p∈rest,p.1<s.heap.objs.size:=λp hp=>Heap.lt_size (N p<|.tail _ hp).1
 have U:=news_upd (pre:=[(s.heap.objs.size,dictOf [] 0)]) (post:=rest) (o':=i7 C (some s.heap.objs.size) vs) (f:=λo=>{o with dict:=some s.heap.objs.size}) (F.push<|dictOf [] 0) (news_pushed F N (λb o q=>Heap.get?_push_of_some _ q) (Heap.get?_push_at rfl rfl) rfl) (λp hp=>aaa.mp hp▸aav l1) hxr rfl rfl
 set_plain X I XC.set (zj (s:={s with toks:=s.toks+1}) X I XC ht λb=>HK (s:={s with toks:=s.toks+1}) X XC hx (Dj (s:={s with heap:=(s.heap.push<|dictOf [] 0).update x λo=>{o with dict:=some s.heap.objs.size},toks:=s.toks+1}) U.1 U.2
  (λp hp=>(aab.mp hp).elim (λe=>e▸aae l1) λhp=>aae<|l2 p hp) rfl (Nat.zero_lt_succ _) λh' F3 N3=>h h' _ F3 N3 l1 l2))
end
end
structure EC where
 nm:Str
 q:Str
 C:Addr
 N:Addr
 bs:List Value
 bm:List Value
 sn:List Str
 sub:List Value
 ab:Bool
 col:Option Bool
 dd:Option Addr
 k0:Option Value
 k1:Option Value
 k2:Option Value
 k3:Option Value
 k5:Option Value
noncomputable abbrev EC.obj(c:EC):Obj:=excClassObj c.nm c.q c.C c.N c.bs c.bm true c.sn c.sub c.ab c.col c.dd c.k0 c.k1 c.k2 c.k3 c.k5 "Exception.__new__"
structure zk(bm:List Value):Prop where
 exc:bm.contains (.type "Exception")=true
 base:bm.contains (.type "BaseException")=true
 attr:bm.contains (.type "AttributeError")=false
 name:bm.contains (.type "NameError")=false
noncomputable abbrev oj(t:Addr):Array Value:=#[.ref t,.none,.none,.none,.bool false,.none]
section
variable{prog:Program}{w:World}{A:Around}{E:Value->Shared->Prop}{s:Shared}{c:EC}{rest:List Value}
def XJ(T:zk c.bm){R:Result->Shared->Prop}(hC:s.heap.get? c.C=some c.obj)(hr:rest.length<=sizeLine)
  (hq:R (.ok<|.ret<|.ref<|s.heap.objs.size+1) {s with heap:=(s.heap.push<|eT rest).push (i7 c.C none<|oj s.heap.objs.size)}):codeAny (model prog w) A (.builtin "Exception.__new__" ⟨.ref c.C::rest,[]⟩) R s:=by
 have G:=PySem.F.excBase_Exception
 have:=G.ends
 have e1:(Value.ref c.C::c.bm).contains (.type "Exception")=true:=by rw[List.contains_cons,T.exc,Bool.or_true]
 have e2:(Value.ref c.C::c.bm).contains (.type "AttributeError")=false:=by rw[List.contains_cons,T.attr];rfl
 have e3:(Value.ref c.C::c.bm).contains (.type "NameError")=false:=by rw[List.contains_cons,T.name];rfl
 refine codeAny_builtinAt G.entry ?_
 unfold Builtin.«BaseException.__new__»
 refine PySem.wpAt_bind ?_
 refine(?_:PySem.wpAt _ _ _ (stack>>=_) _ _ _)
 refine PySem.wpAt_bind<|PySem.wpAt_stack λp below=>PySem.wpAt_of_wpAny ?_
 obtain⟨h,g,d,t,os⟩:=s
 wp_walk
 refine PySem.wpAt_of_wpAny ?_
 rw[G.owner]
 repeat(first|with_reducible refine wpAny_madeHere_exc G.canon hC ?_|with_reducible refine wpAny_loadPart_at hC ?_|(with_reducible refine wpAny_isSubtype_exc hC ?_;first|rw[e1]|rw[e2]|rw[e3])|wp_step)
 refine(?_:R _ _)
 rw[Heap.size_push]
 exact hq
def zl{M:Model}{o tp:Value}{name:Str}{fI:Addr}{oI:Obj}{Q:Option Value->Shared->Prop}(ht:Looks M s.heap (typeOf o) tp)(hl:Looks M s.heap (typeLookup tp name)<|some<|.ref fI)(hfI:s.heap.get? fI=some oI)(hfc:oI.cls=.type "function")(h:wpAny M A (call (.ref fI)<|o::rest) (λr s'=>Q (some r) s') E s):
  wpAny M A (callSpecial? o name rest []) Q E s:=
 gf (gf<|ht.here<|hl.here<|aax<|gf<|gf<|wpAny_typeOf (T:="function") ⟨_,hfI,hfc⟩<|aao<|gf<|wpAny_mono h (λr s' z=>aao z) λ_ _ z=>z)
def U9(T:zk c.bm){fI:Addr}{oI:Obj}{Q:Value->Shared->Prop}(hC:s.heap.get? c.C=some c.obj)(hi:Looks (model prog w) s.heap (typeLookup (.ref c.C) "__init__")<|some<|.ref fI)(hfI:s.heap.get? fI=some oI)(hfc:oI.cls=.type "function")(hr:rest.length<=sizeLine)
  (hx:Looks (model prog w) ((s.heap.push<|eT rest).push<|i7 c.C none<|oj s.heap.objs.size) (isInstance (.ref<|s.heap.objs.size+1)<|.ref c.C) true)
  (hy:Looks (model prog w) ((s.heap.push<|eT rest).push<|i7 c.C none<|oj s.heap.objs.size) (typeOf<|.ref<|s.heap.objs.size+1)<|.ref c.C)
  (hq:wpAny (model prog w) (A.under<|.builtin "type.__call__" ⟨.ref c.C::rest,[]⟩) (call (.ref fI)<|.ref (s.heap.objs.size+1)::rest) (λr s'=>r=.none/\Q (.ref<|s.heap.objs.size+1) s') E
   {s with heap:=(s.heap.push<|eT rest).push (i7 c.C none<|oj s.heap.objs.size)}):wpAny (model prog w) A (call (.ref c.C) rest) Q E s:=by
 have up:∀b o,s.heap.get? b=some o->((s.heap.push<|eT rest).push<|i7 c.C none<|oj s.heap.objs.size).get? b=some o:=λb o e=>Heap.get?_push_of_some _<|Heap.get?_push_of_some _ e
 obtain⟨h,g,d,t,os⟩:=s
 have f1:=tc_lookup
 have f2:=tc_bind<|.ref c.C
 have hT:(⟨h,g,d,t,os⟩:Shared).TypeIs (.ref c.C) "type":=⟨_,hC,rfl⟩
 refine wpAny_call<|codeAny_of_tree ?_
 refine(?_:wpAny _ _ (callAny (.ref c.C) _) _ _ _)
 repeat(any_goals(first|assumption|with_reducible refine wpAny_loadPart_at hC ?_|wp_step))
 refine⟨rfl,?_⟩
 refine codeAny_call_builtin_at (Code.quiet_builtin _<|by decide+kernel) entry_typeCall (wpAny_check_type_call_sub hC ?_)
 repeat(first|with_reducible refine wpAny_loadPart_at hC ?_|with_reducible refine wpAny_madeBy_exc hC ?_|wp_step)
 refine codeAny_call_builtin_code (Code.quiet_builtin _ PySem.F.excBase_Exception.quiet)<|wpAny_check_new_subU PySem.F.excBase_Exception T.exc .base hC ?_
 refine XJ T hC hr ?_
 refine(?_:wpAny _ _ _ _ _ _)
 refine gf<|hx.here ?_
 refine gf<|aax<|zl hy (hi.keeps up) (up _ _ hfI) hfc<|wpAny_mono hq (λr s' z=>?_) λ_ _ z=>z
 obtain⟨rfl,z⟩:=z
 exact aao z
end
def isSet(x:Str)(st:Stmt):Bool:=uB st λts v=>l1 ts λt=>nV t λo a _=>(a==x)&&(gr o (λs=>s=="self")&&gr v λy=>y==x)
def AU(xs:List Str):List Stmt->Bool:=xs.rec (λb=>b.isEmpty) λx _ ih b=>b.casesOn false λst r=>isSet x st&&ih r
def L8{P:Prop}{x:Str}{st:Stmt}(h:isSet x st=true)(k:∀p1 p2 p3 pos,st=.Assign [.Attribute (.Name "self" p1) x p2] (.Name x p3) pos->P):P:=
 lX h λts v p e0 h=>jk h λt e1 h=>f7 h λo a q e2 h=>bh (bl<|br h) λs p1 e3 hs=>bh (br<|br h) λy p3 e4 hy=>k p1 q p3 p<|by rw[e0,e1,e2,e3,e4,be hs,be hy,be<|bl h]
structure HL(K:Frag)(C:Addr)(sc:Scope)(m:Str->Option Value)(v:Str->Value)(x:Str):Prop where
 loc:sc.names.lookup x=some .local
 nd:(x==("__debug__":Str))=false
 at_:m x=some (v x)
 tk:takerIn K C x=some none
section
variable{prog:Program}{w:World}{A:Around}{E:Value->Shared->Prop}{K:Frag}{C L a ea D:Addr}{g:Heap}{m:Str->Option Value}{cd:ClassData}{vs:Array Value}{rest:aS}{cn:Str}{sc:Scope}{ccd:Value}{cl:List (Str×Addr)}{v:Str->Value}{pm x:Str}{st:Stmt}{s:Shared}{es:List DictEntry}{n:Nat}
def Pf{Q:Flow->Shared->Prop}(hb:isSet x st=true)(F:Fr g L s.heap m)(hk:sc.kind=.function)(hs:sc.names.lookup ("self":Str)=some .local)(X:HL K C sc m v x)(ms:m "self"=some (.ref ea))(h:wpAny (model prog w) A (setAttr (.ref ea) x<|v x) (λ_=>Q .next) E s):
  wpAny (model prog w) A (exec st<|envX cn sc L a ccd cl) Q E s:=
 L8 hb λp1 p2 p3 pos e=>e▸plainObj_wpAny_Assign_Attribute (nameX_L F X.at_ (nameX_L F ms h hk hs) hk X.loc X.nd) rfl
def Va(XC:AR K C cd)(X₀:K.In g)(hk:sc.kind=.function)(hs:sc.names.lookup ("self":Str)=some .local)(ms:m "self"=some (.ref ea))(hr:∀p∈(ea,i7 C (some D) vs)::rest,p.1≠D)(xs:List Str):
  ∀{body:List Stmt} {s:Shared} {es:List DictEntry} {n:Nat} {Q:Flow->Shared->Prop},AU xs body=true->(∀x∈xs,HL K C sc m v x)->Fr g L s.heap m->News g L s.heap ((D,dictOf es n)::(ea,i7 C (some D) vs)::rest)->es.any (·.refKey)=false->es.length+xs.length<=1000->(pm∈xs∨getL pm es=some (some<|v pm))->
   (∀s' es' n',Fr g L s'.heap m->News g L s'.heap ((D,dictOf es' n')::(ea,i7 C (some D) vs)::rest)->getL pm es'=some (some<|v pm)->s'.gens=s.gens->s'.os=s.os->Q .next s')->wpAny (model prog w) A (execs body<|envX cn sc L a ccd cl) Q E s:=by
 induction xs with
 |nil=>
  intro body s es n Q hb hx F N hr hl hp h
  cases body with
  |nil=>exact wpAny_execs_nil<|h s es n F N (hp.elim (λe=>by cases e) id) rfl rfl
  |cons=>cases hb
 |cons x xs ih=>
  intro body s es n Q hb hx F N hr2 hl hp h
  cases body with
  |nil=>cases hb
  |cons st r=>
   have l:es.length<1000:=aas (Nat.lt_add_of_pos_right<|Nat.zero_lt_succ _) hl
   refine wpAny_execs_cons<|Pf (v:=v) (bl hb) F hk hs (hx x<|.head _) ms<|EH F X₀ N XC (hx x<|.head _).tk hr ?_ l λh' F' N'=>ih (s:={s with heap:=h',toks:=s.toks+2}) (br hb) (λy hy=>hx y<|.tail _ hy) F' N' ((any_put es).trans hr2) ?_ ?_ h
   ·rw[qK,hr2];cases(es.find? (·.key.isStr x)).map (·.val)<;>rfl
   ·exact av (Nat.add_le_add_right (rK es) _)<|by rw[Nat.add_right_comm];exact hl
   ·by_cases e:x=pm
    ·rw[<-e];exact .inr<|wG es
    ·exact hp.elim (λhp=>(aab.mp hp).elim (λq=>aan q.symm e) .inl) λhp=>.inr<|(rJ (Ne.symm e) es).trans hp
def RC(XC:AR K C cd)(X₀:K.In g)(hk:sc.kind=.function)(hs:sc.names.lookup ("self":Str)=some .local)(ms:m "self"=some (.ref ea))(hr:∀p∈rest,p.1≠ea){x:Str}{xs:List Str}{body:List Stmt}{Q:Flow->Shared->Prop}(hb:AU (x::xs) body=true)(hx:∀y∈x::xs,HL K C sc m v y)
  (F:Fr g L s.heap m)(N:News g L s.heap<|(ea,i7 C none vs)::rest)(hl:xs.length<=900)(hp:pm∈xs)
  (h:∀s' D es' n',Fr g L s'.heap m->News g L s'.heap ((D,dictOf es' n')::(ea,i7 C (some D) vs)::rest)->ea<D->getL pm es'=some (some<|v pm)->s'.gens=s.gens->s'.os=s.os->Q .next s'):wpAny (model prog w) A (execs body<|envX cn sc L a ccd cl) Q E s:=by
 cases body with
 |nil=>cases hb
 |cons st r=>
  exact wpAny_execs_cons (Pf (v:=v) (bl hb) F hk hs (hx x<|.head _) ms (EI F X₀ N XC (hx x<|.head _).tk hr λh' D F' N' l1 l2=>Va (pm:=pm) (v:=v) XC X₀ hk hs ms (λp hp=>(aab.mp hp).elim (λe=>e▸aae l1) λhp=>aae<|l2 p hp) xs (s:={s with heap:=h',toks:=s.toks+2}) (br hb) (λy hy=>hx y<|.tail _ hy) F' N' rfl
   (av (Nat.add_le_add_left hl _)<|show 1+900<=1000 by decide) (.inl hp) λs' es' n' F2 N2 g2 a2 b2=>h s' D es' n' F2 N2 l1 g2 a2 b2))
end
noncomputable def pNames:List Str:=["context","context_mark","problem","problem_mark","note"]
structure FD where
 name:Str
 qual:Str
 params:Arguments
 body:List Stmt
 scope:Scope
 cl:List (Str×Addr)
 dV:Value
 kV:Value
 doc:Value
 pm:Value
 cdv:Value
 ct:Value
 an:Option Addr
noncomputable abbrev FD.fn(d:FD):FuncData:=fnX d.name d.qual d.params d.body d.scope d.cl d.dV d.kV d.doc d.pm d.an d.cdv d.ct
structure XM(K:Frag)(fI:Addr)(d:FD):Prop where
 at_:∃od osl,K.lookup fI=some ⟨.type "function",od,.func d.fn,osl⟩
 code:codeIn K d.cdv d.qual=true
 cell:∀x∈d.scope.names,x.2≠.cell
 co:d.scope.isCoroutine=false
 gen:d.scope.isGenerator=false
 kind:d.scope.kind=.function
structure om(K:Frag)(c:EC)(fI:Addr)(d:FD):Prop extends XM K fI d where
 obj:K.lookup c.C=some c.obj
 tail:zk c.bm
 pass:∀v,refuseLoop v "__setattr__" c.bm=pure ()
 object:c.bm.contains (.type "object")=true
 init:findIn K (.ref c.C) "__init__"=some (some<|.ref fI)
 set:findIn K (.ref c.C) "__setattr__"=some (some<|.builtin "object.__setattr__")
 BW:∀x∈pNames,takerIn K c.C x=some none
 sets:AU pNames d.body=true
 loc:∀x∈("self":Str)::pNames,d.scope.names.lookup x=some .local
 bind:∀s e w1 w2 w3 w4,K.In s.heap->BindsTo s d.fn ⟨[e,w1,w2,w3,w4],[]⟩ [("self",e),("context",w1),("context_mark",w2),("problem",w3),("problem_mark",w4),("note",.none)]
def om.cls{K:Frag}{c:EC}{fI:Addr}{d:FD}(F:om K c fI d):∃cd,AR K c.C cd/\cd.mro=.ref c.C::c.bm:=
 ⟨_,⟨by unfold clsIn;rw[F.obj],rfl,by rw[List.contains_cons,F.object,Bool.or_true],rfl,λv=>by rw[refuseLoop_ref,F.pass],F.set⟩,rfl⟩
section
variable{θ:Th}{u:Nat}{Γ:Gm}{E:Value->Shared->Prop}{r:Rh}{Lc:Loc}{H:MH}{X:QX}{c:EC}{fI:Addr}{d:FD}{w1 w2 w3 w4:Value}
noncomputable def HM(e w1 w2 w3 w4:Value):List (Str×Value):=[("self",e),("context",w1),("context_mark",w2),("problem",w3),("problem_mark",w4),("note",.none)]
abbrev XN(e w1 w2 w3 w4:Value)(x:Str):Option Value:=(HM e w1 w2 w3 w4).reverse.lookup x
def xZ{e:Value}:∀y∈HM e w1 w2 w3 w4,y.1∈("self":Str)::pNames:=λy h=>(List.mem_map_of_mem (f:=(·.1)) h:y.1∈("self":Str)::pNames)
def HN:∀x∈pNames,(x==("__debug__":Str))=false:=by decide
def RD{e:Value}:∀x∈pNames,XN e w1 w2 w3 w4 x=some ((XN e w1 w2 w3 w4 x).getD .none):=
 List.forall_mem_cons.mpr ⟨rfl,List.forall_mem_cons.mpr ⟨rfl,List.forall_mem_cons.mpr ⟨rfl,List.forall_mem_cons.mpr ⟨rfl,List.forall_mem_cons.mpr ⟨rfl,λ_ h=>by cases h⟩⟩⟩⟩⟩
structure Made(Γ:Gm)(C:Addr)(r:Rh)(wv:Value)(vs:List Value)(s':Shared)(D ea t:Addr)(es:List DictEntry)(n:Nat):Prop where
 F:Fr Γ.h₀ Γ.L s'.heap r.m
 N:News Γ.h₀ Γ.L s'.heap ((D,dictOf es n)::(ea,i7 C (some D)<|oj t)::(t,eT vs)::r.φ.news)
 lt:∀p∈r.φ.news,p.1<t
 l1:t<ea
 l2:ea<D
 mark:getL "problem_mark" es=some (some wv)
 gens:s'.gens=r.s.gens
 os:s'.os=r.s.os
def Vb{Q:Value->Shared->Prop}(XF:om θ.K c fI d)(a:At θ u Γ E r Lc H X)(h:∀s' D ea t es n,Made Γ c.C r w4 [w1,w2,w3,w4] s' D ea t es n->Q (.ref ea) s'):wpAny θ.M Γ.A (call (.ref c.C) [w1,w2,w3,w4]) Q E r.s:=
 XF.cls.elim λcd XC=>XF.at_.elim λod hK=>hK.elim λosl hK=>a.C.T.elim λmg t=>t.elim λmb TT=>by
 have X₁:=a.C.X.keeps a.T.F.keep
 have F1:=a.T.F.push<|eT [w1,w2,w3,w4]
 have N1:=news_pushed (D:=r.s.heap.objs.size) (o:=eT [w1,w2,w3,w4]) a.T.F a.T.N (λb o q=>Heap.get?_push_of_some _ q) (Heap.get?_push_at rfl rfl) rfl
 have sz:(r.s.heap.push<|eT [w1,w2,w3,w4]).objs.size=r.s.heap.objs.size+1:=Heap.size_push _ _
 have F2:=F1.push<|i7 c.C none<|oj r.s.heap.objs.size
 have N2:=news_pushed (s:={r.s with heap:=r.s.heap.push (eT [w1,w2,w3,w4])}) (D:=r.s.heap.objs.size+1) (o:=i7 c.C none<|oj r.s.heap.objs.size) F1 N1 (λb o q=>Heap.get?_push_of_some _ q) (Heap.get?_push_at rfl rfl) sz.symm
 have lt:∀p∈r.φ.news,p.1<r.s.heap.objs.size:=λp hp=>Heap.lt_size (a.T.N p hp).1
 have X₂:=a.C.X.keeps F2.keep
 have I:InstAt _ (r.s.heap.objs.size+1) (i7 c.C none<|oj r.s.heap.objs.size) c.C none:=⟨(N2 _<|.head _).1,rfl,rfl,trivial⟩
 refine U9 XF.tail (X₁ _ _ XF.obj) (looks_findIn X₁ XF.init) (X₁ _ _ hK) rfl (by rw[sizeLine_eq];exact aai rfl) (I.type.andThen<|looks_mroIn X₂<|by unfold mroIn;rw[XC.1.cls,Option.bind_some,aal (by rw[XC.1.ne];decide),XC.2,List.contains_cons,beq_self_eq_true];rfl) I.type ?_
 refine wpAny_call (callX_plain (s:={r.s with heap:=(r.s.heap.push<|eT [w1,w2,w3,w4]).push (i7 c.C none<|oj r.s.heap.objs.size)}) a.C.B F2 N2 TT.nolimit ((qH ..).trans a.C.fr) rfl a.C.lT (X₂ _ _ hK) rfl (codeRec_of X₂ XF.code) (by rw[sH];exact(H8 (aau<|av (aah _ u) a.rm.depth) (by decide):Γ.A.depth+1<1000))
  (XF.bind _ _ _ _ _ _ X₂) (λy hy=>XF.loc _<|xZ y hy) (λg' L' h₁ FG F' N' B' st _=>?_) XF.cell XF.co XF.gen XF.kind)
 exact RC (v:=λx=>(XN (.ref<|r.s.heap.objs.size+1) w1 w2 w3 w4 x).getD .none) (pm:="problem_mark") (ea:=r.s.heap.objs.size+1) (x:="context") (xs:=["context_mark","problem","problem_mark","note"]) XC.1 (a.C.X.keeps st) XF.kind (XF.loc _<|.head _) rfl
  (λp hp=>(aab.mp hp).elim (λe=>e▸aae (Nat.lt_succ_self _)) λhp=>aae<|aaw<|lt p hp) XF.sets (λy hy=>⟨XF.loc y<|.tail _ hy,HN y hy,RD y hy,XF.BW y hy⟩) F' N' (by decide) (by decide)
  λs' D es' n' F3 N3 l3 g3 a3 b3=>⟨L',_,_,F3,N3,λFF NN=>⟨rfl,h s' D (r.s.heap.objs.size+1) r.s.heap.objs.size es' n' ⟨FF,NN,lt,Nat.lt_succ_self _,l3,g3,a3,b3⟩⟩⟩
end
section
variable{M:Model}{A:Around}{E:Value->Shared->Prop}{s:Shared}{env:Env}{c:EC}
structure AV(c:EC)(E:Value->Shared->Prop)(v:Value)(s:Shared):Prop where
 go:∃e d vs,v=.ref e/\s.heap.get? c.C=some c.obj/\s.heap.get? e=some (i7 c.C d vs)/\vs[1]?=some .none/\E (.ref e) s
def RE{x:Sem Value}{Q:Flow->Shared->Prop}(XT:zk c.bm)(hh:A.handled=none)(h:wpAny M A x (AV c E) E s):wpAny M A (raiseStmt env (some x) none) Q E s:=by
 have hcB:(Value.ref c.C::c.bm).contains (.type "BaseException")=true:=by rw[List.contains_cons,XT.base,Bool.or_true]
 refine gf<|wpAny_mono h (λv s₁ h₁=>?_) λ_ _ x=>x
 obtain⟨e,d,vs,rfl,hC,he,h1,hE⟩:=h₁.go
 obtain⟨hp,g,dr,tk,os⟩:=s₁
 have fin:wpAny M A (setFlight (.ref e) none) (λ_ s'=>wpAny M A (raiseNew (.ref e):Sem Flow) Q E s') E ⟨hp,g,dr,tk,os⟩:=by
  unfold setFlight
  refine gf<|wpAny_field he rfl h1 ?_
  rw[aal<|by decide]
  exact aao (wpAny_raiseNew_none hh hE)
 repeat(first|with_reducible refine wpAny_loadPart_at he ?_|with_reducible refine wpAny_loadPart_at hC ?_|(with_reducible refine wpAny_isSubtype_exc hC ?_;rw[hcB])|(refine gf fin;done)|exact fin|wp_step)
end
section
variable{θ:Th}{u:Nat}{Γ:Gm}{E:Value->Shared->Prop}{r:Rh}{Lc:Loc}{H:MH}{Q:QF}{X:QX}{c:EC}{fI:Addr}{d:FD}
def uN{B:Below Γ.A₀ Γ.base Γ.outer Γ.h₀}{a ea:Addr}{P:Prop}{L:Addr}{f:Fm}(z:a∈ea::((f.env L)::Γ.outer).filterMap (·.frame))(k1:a=ea->P)(k2:a=L->P)(k3:∀o,Γ.h₀.get? a=some o->Γ.base.get? a=none->P):P:=
 (aab.mp z).elim k1 λz=>(List.mem_filterMap.mp z).elim λenv z=>(aab.mp z.1).elim (λe=>k2 (aaf ((aac (·.frame) e).symm.trans z.2)).symm) λhe=>
  have m:=B.frames.mem (List.mem_filterMap.mpr ⟨env,he,z.2⟩)
  m.2.elim λo ho=>k3 o ho.1 m.1
def XO{D ea t:Addr}{es:List DictEntry}{n:Nat}{wv:Value}{x:MV}{s':Shared}{vs:List Value}(a:At θ u Γ E r Lc H X)(hx:θ.S.xc=c.C)(M:Made Γ c.C r wv vs s' D ea t es n)(rx:VR r.φ x wv):∃r',r'.s=s'/\Le r r'/\jd θ Γ r' Lc H x (.ref ea):=by
 have lD:∀p∈r.φ.news,p.1<D:=λp hp=>aar (M.lt p hp)<|aar M.l1 M.l2
 have Z:=a.T.R.more (more:=[(D,dictOf es n),(t,eT vs)]) (List.nodup_cons.mpr ⟨λh=>(aab.mp h).elim (aav<|aar M.l1 M.l2) λh=>(List.mem_map.mp h).elim λp hp=>aae (lD p hp.1) hp.2,
  List.nodup_cons.mpr ⟨λh=>(List.mem_map.mp h).elim λp hp=>aae (M.lt p hp.1) hp.2,a.T.R.nodup⟩⟩)
 have e1:=(M.N _<|.tail _<|.head _)
 refine⟨⟨⟨r.φ.adr,[(D,dictOf es n),(t,eT vs)]++r.φ.news,r.φ.pins,r.φ.fix,r.φ.its⟩,r.m,s'⟩,rfl,⟨Z.x,M.gens,M.os⟩,
  .mk (hideAll s'.heap (ea::(θ.f.env Γ.L::Γ.outer).filterMap (·.frame))) s'.heap ea D es n wv rfl M.F (.refl _) (λb o q=>?_) (λq hq=>?_) ⟨λb o q=>of_hideAll _ q,hideAll_none _<|.head _,funFrames_hide (base:=Γ.base) (pushX (env:=θ.f.env Γ.L) a.C.B M.F rfl a.C.lT).frames λenv he a ha=>.tail _<|List.mem_filterMap.mpr ⟨env,he,ha⟩,
   .inr (.inr ⟨_,_,e1.1,hx▸rfl,rfl,rfl,rfl⟩)⟩ (.head _) M.mark (rx.ext Z.x) (λi m=>(a.T.R.yE i D m).elim λo m=>Nat.lt_irrefl _<|lD _ m) (λp hp=>aae<|lD p<|a.T.R.pin p hp) Z.R λk x v hx hv=>(a.T.loc k x v hx hv).elim λw h=>⟨w,h.1,h.2.ext Z.x⟩⟩
 ·have hb:=a.C.B.stays b o q
  exact hideAll_get _ (M.F.keep b o hb) λz=>uN (B:=a.C.B) z (λe=>by rw[<-e,hb]at e1;cases e1.2.2) (λe=>aan (aas (Heap.lt_size<|e▸hb) M.F.above)<|Nat.lt_irrefl _) λo ho hn=>by rw[q]at hn;cases hn
 ·have hq':q∈(D,dictOf es n)::(ea,i7 c.C (some D)<|oj t)::(t,eT vs)::r.φ.news:=(aab.mp hq).elim (λe=>e▸.head _) λh=>.tail _<|.tail _ h
  have hne:q.1≠ea:=(aab.mp hq).elim (λe=>e▸aav M.l2) λh=>(aab.mp h).elim (λe=>e▸aae M.l1) λh=>aae<|aar (M.lt q h) M.l1
  have n1:=M.N q hq'
  exact⟨hideAll_get _ n1.1 λz=>uN (B:=a.C.B) z hne (λe=>n1.2.1 e) λo ho _=>(by rw[n1.2.2]at ho;cases ho),fresh_of_stays a.C.B.stays n1.2.2⟩
def RG{φ:dD}{a b d x:MV}{ws:List Value}{P:List Value->Prop}(h:cK φ [a,b,d,x] ws)(k:∀w1 w2 w3 w4,VR φ x w4->P [w1,w2,w3,w4]):P ws:=
 dG h λw1 r1 e1 _ h=>dG h λw2 r2 e2 _ h=>dG h λw3 r3 e3 _ h=>h.e1 (P:=λr3=>r2=w3::r3->P ws) (λw4 z e3=>by rw[e1,e2,e3];exact k w1 w2 w3 w4 z) e3
def dU.RH{x:Str}{np cpos pos:Pos}{az:List Expr}(hx:θ.S.xc=c.C)(G:kj θ.K θ.f x<|.ref c.C)(XF:om θ.K c fI d)(hkeep:keepIn θ.K (.ref c.C)=true)(AW:θ.S.quiet=true)(hn:az.all bF=true)
  (h:mO θ u Lc X az H (λvs H'=>∃a b c x,vs=[a,b,c,x]/\X x Lc H')):dU θ u (.Raise (some<|.Call (.Name x np) az [] cpos) none pos) Lc H Q X:=λΓ E r a=>by
 refine(?_:wpAny θ.M Γ.A (exec (.Raise (some<|.Call (.Name x np) az [] cpos) none pos)<|θ.f.env Γ.L) _ E r.s)
 rw[arm_exec_Raise]
 refine gf<|wpAny_standAt<|RE XF.tail (a.C.quiet AW) (c:=c)<|gf<|wpAny_mono (Q:=AV c E) (jy<|i0 G a<|er (first:=[]) (kws:=[]) (R:=λvs ks H3=>∃a b c x,vs=[a,b,c,x]/\X x Lc H3) hn rfl (uE a.C hkeep) a h λr2 H2 yW ws rI ks l2 a2 v2 v3 q=>?_) (λv s' z=>gf<|wpAny_standAt<|aao z) λ_ _ z=>z
 obtain⟨x1,x2,x3,x,rfl,hx'⟩:=q
 exact RG (P:=λws=>wpAny θ.M Γ.A (call (.ref c.C) ws []) (AV c E) E r2.s) v2 λw1 w2 w3 w4 z=>Vb XF a2 λs' D ea t es n M=>(XO a2 hx M z).elim λr3 y=>by
  obtain⟨rfl,l3,fl⟩:=y
  exact⟨ea,_,_,rfl,a.C.X.keeps M.F.keep _ _ XF.obj,(M.N _<|.tail _<|.head _).1,rfl,a.EX r3 Lc H2 x _ (l2.trans l3) fl hx'⟩
end
noncomputable abbrev aP.loud(S:aP):aP:={S with quiet:=false}
section
variable{θ:Th}{u:Nat}{Γ:Gm}{E:Value->Shared->Prop}{r:Rh}{Lc:Loc}{H:MH}{Q:QF}{X:QX}{c:EC}{fI:Addr}{d:FD}
def fB.qt{S:aP}{w:World}{φ:dD}{H:MH}(b:Bool)(R:fB S w φ H):fB {S with quiet:=b} w φ H:=⟨R.nodup,R.lt,R.dom,R.yE,R.inj,λi o h=>by
 have z:=R.obj i o h
 cases o with
 |inst k fs=>
  obtain⟨p,es,n,h1,h2,h3,h4,h5,h6,h7⟩:=(z:nM S φ i k fs)
  exact nM.mk p es n h1 h2 h3 h4 h5 h6 h7
 |_=>exact z,R.pin,R.qu,R.nN⟩
def zm{S:aP}{w:World}{f:Fm}{ea D:Addr}{es:List DictEntry}{n:Nat}{wv:Value}{x:MV}{B h1:Heap}{s:Shared}(F:Fr Γ.h₀ Γ.L h1 r.m)(U:h1.UpToSlots s.heap)(kB:Γ.h₀.StaysIn B)(kn:∀q∈r.φ.news,B.get? q.1=some q.2/\Γ.h₀.get? q.1=none)
  (FL:mW B (f.env Γ.L::Γ.outer) ea (.ref S.xc) (some D) .none s.heap)(hd:(D,dictOf es n)∈r.φ.news)(hm:getL "problem_mark" es=some (some wv))(rx:VR r.φ x wv)(free:∀i,¬vN r.φ i D)(fp:∀p,r.φ.held p->p.1≠D)(R:fB S w r.φ H)(loc:xE f r.φ Lc r.m):
  ∃r',r'.s=s/\Ext r.φ r'.φ/\VR r'.φ (.ref H.n) (.ref ea)/\r'.m=r.m/\St ⟨S,w,f⟩ Γ r' Lc (H.new<|.exc S.xc x):=by
 obtain⟨f1,f2,f3,⟨oe,vs,T,oT,ts,he,hc,hdi,hda,-⟩⟩:=FL
 obtain⟨_,⟨L',o,hf,hL,ho,hn⟩,_⟩:=f3
 cases aaf hf
 have XQ:∀p∈r.φ.news,p.1≠ea:=λp hp e=>by have:=(kn p hp).1;rw[e,f2]at this;cases this
 have Z:=R.place (o:=.exc S.xc x) (a:=ea) (d:=D) (more:=[(ea,oe)]) (List.nodup_cons.mpr ⟨(by intro h;cases h),List.Pairwise.nil⟩) (λp hp p' qy=>aaa.mp hp▸XQ p' qy)
  ⟨⟨_,.head _⟩,λi m=>(R.yE i ea m).elim λo h=>XQ _ h rfl,λp hp=>XQ p<|R.pin p hp⟩ ⟨⟨_,.tail _ hd⟩,free,fp⟩ λX=>Eg.mk (ea,D) oe es n wv vs dD.o8 (.head _) hc hdi hda (.tail _ hd) hm<|rx.ext X
 refine⟨⟨r.φ.new H.n ea D [(ea,oe)],r.m,s⟩,rfl,Z.x,dD.j7,rfl,F.of_stays (λb o q=>f1 b o<|kB b o q) U,λq hq=>(aab.mp hq).elim (λe=>?_) λhq=>?_,Z.R,λk y v hx hv=>(loc k y v hx hv).elim λw h=>⟨w,h.1,h.2.ext Z.x⟩⟩
 ·rw[e]
  exact⟨he,(λe:ea=Γ.L=>by rw[<-e,he]at ho;cases ho;exact hn _ hda),fresh_of_stays kB f2⟩
 ·exact⟨f1 _ _ (kn q hq).1,(λe=>by have a:=(kn q hq).1;rw[e,hL]at a;cases a),(kn q hq).2⟩
def xE.drop{f:Fm}{φ:dD}{m:Str->Option Value}{k:Nat}{x:Str}{v:Option Value}(hnd:f.ns.Nodup)(hx:f.ns[k]?=some x)(h:xE f φ Lc m):xE f φ (Lc.set k none) (λy=>if y=x then v else m y):=λj y u hy hu=>by
 by_cases e:j=k
 ·rw[e,List.getElem?_set]at hu
  split at hu
  ·split at hu<;>cases hu
  ·rename_i q;exact aan rfl q
 ·rw[List.getElem?_set_ne<|Ne.symm e]at hu
  exact(h j y u hy hu).elim λwv z=>⟨wv,(aal λq:y=x=>by
   exact e<|pq hnd hy<|q▸hx).trans z.1,z.2⟩
noncomputable abbrev Gm.mark(Γ:Gm)(e:Value):Gm:=⟨Γ.A.mark<|some e,Γ.A₀,Γ.base,Γ.h₀,Γ.outer,Γ.L⟩
def Ctx.mark{S:aP}{w:World}{f:Fm}{e:Value}(C:Ctx ⟨S,w,f⟩ Γ):Ctx ⟨S.loud,w,f⟩ (Γ.mark e):=⟨C.B,C.fr,C.X,C.T,C.lT,C.nodup,(λe=>by cases e),C.top⟩
section
variable{S:aP}{w:World}{f:Fm}
def HO{e:Value}{x:Str}{k:Nat}{sts:List Stmt}{pos:Pos}{H1:MH}{r0 r1:Rh}(n:jf f k x)(C:Ctx ⟨S,w,f⟩ Γ)(rm:yN u Γ.A)(T:St ⟨S.loud,w,f⟩ (Γ.mark e) r1 Lc H1)(l:Le r0 r1){E2:Value->Shared->Prop}
  (h:ko ⟨S.loud,w,f⟩ u sts Lc H1 (λmf L2 H2=>mf=.next/\Q .next (L2.set k none) H2) uK){R:Flow->Shared->Prop}(hR:∀s',wpAny (model S.prog w) Γ.A (do bindName (f.env Γ.L) x .none;unbindBehindTheSuite (f.env Γ.L) x pos) (λ_ s₃=>eX r0 (DQ ⟨S,w,f⟩ Γ Q) .next s₃) E s'->R .next s'):
  wpAny (model S.prog w) (Γ.mark e).A (execs sts<|f.env Γ.L) R E2 r1.s:=
 (At.mk C.mark ⟨rm.depth,rm.units⟩ T (λ_ _ _ _ _ _ _ q=>q.elim):At ⟨S.loud,w,f⟩ u (Γ.mark e) E2 r1 Lc H1 uK).Rg (h _ _ _ ⟨C.mark,⟨rm.depth,rm.units⟩,T,λ_ _ _ _ _ _ _ q=>q.elim⟩) λfl r2 mf L2 H2 l2 a2 j q=>by
  obtain⟨rfl,q⟩:=q
  cases(j:fl=.next)
  exact hR _ (wpAny_nameGoes_keeps n.kd a2.T.F.ns (by show(f.sc.kind==.class||(f.sc.kind==.module&&Γ.L !=mainGlobals))=false;rw[C.lT];rfl) λh8 v hn hs=>
   ⟨⟨r2.φ,_,{r2.s with heap:=h8,toks:=r2.s.toks+1}⟩,rfl,⟨(l.trans l2).x,(l.trans l2).g,(l.trans l2).o⟩,L2.set k none,H2,.next,⟨a2.T.F.set hn hs,a2.T.N.set hs,a2.T.R.qt S.quiet,a2.T.loc.drop C.nodup n.ns⟩,rfl,q⟩)
def HP{x Vc:Str}{np hpos:Pos}{kn:Nat}{suite:List Stmt}{b₀:Stmt}{x1:MV}{e:Value}{r0:Rh}(hx:S.xc=c.C)(G:kj (S.K w.params) f x<|.ref c.C)(XF:om (S.K w.params) c fI d)(n:jf f kn Vc)(C:Ctx ⟨S,w,f⟩ Γ)(hb:Γ.base=Γ.h₀)(rm:yN u Γ.A)(l:Le r0 r)(IF:jd ⟨S,w,f⟩ Γ r Lc H x1 e)
  (h:ko ⟨S.loud,w,f⟩ u (b₀::suite) (Lc.set kn<|some<|.ref H.n) (H.new<|.exc S.xc x1) (λmf L2 H2=>mf=.next/\Q .next (L2.set kn none) H2) uK):
  wpAny (model S.prog w) Γ.A (noteFrame e<|f.env Γ.L) (λ_ s₂=>wpAny (model S.prog w) Γ.A (setFlight e none) (λ_ s₃=>wpAny (model S.prog w) Γ.A (handleBy e (f.env Γ.L) [.ExceptHandler (some<|.Name x np) (some Vc) (b₀::suite) hpos]) (eX r0<|DQ ⟨S,w,f⟩ Γ Q) E s₃) E s₂) E r.s:=by
 obtain⟨B,hh,ea,D,es,n0,wv,rfl,F1,U1,kB,kn',AI,hd,hm,r1,free,fp,R1,loc1⟩:=IF
 rw[hb]at kB kn'
 refine Oe C.fr rfl AI λh2 FL2 U2=>BU (s:={r.s with heap:=h2}) FL2 λh3 XR U3=>?_
 have ZC:=(U1.trans U2).trans U3
 obtain⟨r4,e4,X4,v4,m4,T4⟩:=zm (S:=S.loud) (s:={r.s with heap:=h3}) F1 ZC kB kn' XR hd hm r1 free fp (R1.qt false) loc1
 have T4':St ⟨S.loud,w,f⟩ (Γ.mark<|.ref ea) r4 Lc (H.new<|.exc S.xc x1):=⟨T4.F,T4.N,T4.R,T4.loc⟩
 have hC:=C.X.keeps T4.F.keep _ _ XF.obj
 obtain⟨oe,vs,_,_,_,he,hce,-⟩:=XR.tr
 rw[e4]at hC
 refine wpAny_handleBy_cons (codeAny_handlers_test ?_)<|by intro q;cases q
 have nE:∀{E':Value->Shared->Prop} {r:Rh},Qu ⟨S.loud,w,f⟩ (Γ.mark<|.ref ea) r uK E':=λ_ _ _ _ _ _ _ q=>q.elim
 have hs4:{r.s with heap:=h3}=r4.s:=e4.symm
 rw[hs4]
 refine i0 (θ:=⟨S.loud,w,f⟩) (u:=u) G ⟨C.mark,⟨rm.depth,rm.units⟩,T4',nE⟩ ?_
 rw[e4]
 refine wpAny_excMatches_sub_self hC he (hx▸hce) XF.tail.base<|codeAny_handlers_suite_as<|BU (s:={r.s with heap:=h3}) XR λh5 FL5 U5=>?_
 obtain⟨r5,e5,X5,v5,m5,T5⟩:=zm (S:=S.loud) (s:={r.s with heap:=h5}) F1 (ZC.trans U5) kB kn' FL5 hd hm r1 free fp (R1.qt false) loc1
 have T5':St ⟨S.loud,w,f⟩ (Γ.mark<|.ref ea) r5 Lc (H.new<|.exc S.xc x1):=⟨T5.F,T5.N,T5.R,T5.loc⟩
 have l5:Le r0 r5:=l.trans ⟨X5,(by rw[e5]),(by rw[e5])⟩
 have hs5:{r.s with heap:=h5}=r5.s:=e5.symm
 refine hs5▸At.store (θ:=⟨S.loud,w,f⟩) (u:=u) ⟨C.mark,⟨rm.depth,rm.units⟩,T5',nE⟩ n v5 λr6 l6 _ a6=>HO n C rm a6.T (l5.trans l6) h λs' z=>z
def dU.RI{x Vc:Str}{np hpos pos:Pos}{kn:Nat}{body suite:List Stmt}{b₀:Stmt}(hx:S.xc=c.C)(G:kj (S.K w.params) f x<|.ref c.C)(XF:om (S.K w.params) c fI d)(htop:f.fa=S.top)(n:jf f kn Vc)
  (h:ko ⟨S,w,f⟩ u body Lc H (λmf pN H'=>mf=.next/\Q .next pN H') λx pN H'=>ko ⟨S.loud,w,f⟩ u (b₀::suite) (pN.set kn<|some<|.ref H'.n) (H'.new<|.exc S.xc x) (λmf L2 H2=>mf=.next/\Q .next (L2.set kn none) H2) uK):
  dU ⟨S,w,f⟩ u (.Try body [.ExceptHandler (some<|.Name x np) (some Vc) (b₀::suite) hpos] [] [] pos) Lc H Q X:=λΓ E r a=>
 have go:=λ(r':Rh) (Lc:Loc) (H:MH) (x:MV) (e:Value) (l:Le r r') (IF:jd ⟨S,w,f⟩ Γ r' Lc H x e) q=>HP (np:=np) (hpos:=hpos) (suite:=suite) (b₀:=b₀) (Q:=Q) (E:=E) hx G XF n a.C (a.C.top htop) a.rm l IF q
 wpAny_Try_except ((a.uJ go).Rg (h _ _ _<|a.uJ go) λfl r1 mf L1 H1 l1 a1 j q=>by
  obtain⟨rfl,q⟩:=q
  cases(j:fl=.next)
  exact wpAny_execs_nil<|a1.jE (mf:=.next) l1 rfl q)
end
end
section
variable{prog:Program}{w:World}{A:Around}{E:Value->Shared->Prop}{s:Shared}{K:Frag}{x C:Addr}{ox:Obj}{od:Option Obj}{name:Str}{expr:Bool}{Q:Value->Shared->Prop}{v:Value}
def HQ:Slot "Exception" "__getattribute__" "BaseException.__getattribute__":=
 .of (owner:="BaseException") (n:="__getattribute__") (by rw[typeLookup_type,builtinLookup_eq_fast];kernel_rfl) (by decide+kernel) (by decide+kernel) (by decide+kernel) (by first|exact .inl (by decide+kernel)|exact .inr<|by decide+kernel) (by rw[isSubtype_type];kernel_rfl)
structure Ma(K:Frag)(C:Addr):Prop where
 dict:hasDictIn K C=true
 ga:findIn K (.ref C) "__getattribute__"=some (some<|.builtin "BaseException.__getattribute__")
 gn:findIn K (.ref C) "__getattr__"=some none
 base:mroIn K C (.type "BaseException")=some true
 own:findIn K (.ref C) "problem_mark"=some none
def XS(X:K.In s.heap)(I:InstAt s.heap x ox C od)(G:Ma K C)(hf:findObj K C od name=some (.value v))(hh:handedIn v=true)(h:Q v {s with toks:=s.toks+1}):wpAny (model prog w) A (getAttr (.ref x) name expr) Q E s:=by
 obtain⟨hp,g,d,t,os⟩:=s
 have L0:=I.type (M:=model prog w)
 have hx0:(expr&&onTheHeap (Value.builtin "BaseException.__getattribute__"))=false:=by cases expr<;>rfl
 refine gf<|wpAny_mkText<|aax<|gf<|L0.at (gf<|(looks_findIn X G.ga).at ?_)
 show wpAny _ _ (if _ then _ else _) _ _ _
 rw[aal<|by show ¬(true&&Value.builtin _==_)=true;decide]
 refine gf<|(looks_findIn X G.gn).at (t:=typeLookup (.ref C) _) (gf<|wpAny_attempt<|aax ?_)
 unfold callGetattribute boundAndCalled
 rw[aal (by rw[hx0];decide),HQ.bind<|.ref x]
 refine gf (aao (wpAny_call (codeAny_call_builtin HQ.plain PySem.F.entry_bexc_ga (@check_slot (model prog w) _ _ _ "BaseException.__getattribute__" "BaseException" "__getattribute__" (.ref x) [.str name _] [] _ (by decide+kernel) (by decide+kernel) (L0.andThen<|looks_mroIn X G.base) (PySem.F.args_bexc_ga _ _)
  (gf<|aao<|gf<|aao<|gf<|L0.at (gf<|(looks_find X I hf).at (aao ?_)))))))
 refine(?_:wpAny _ _ (handedOut v) _ _ _)
 rw[handedOut_of hh];exact aao h
end
section
variable{θ:Th}{u:Nat}{Lc:Loc}{H:MH}{Q:QV}{X:QX}
def XU(o:Option MO)(c:Nat)(K:MV->Prop):Prop:=∃x,o=some (.exc c x)/\K x
def aB.Vd{o:Expr}{pos:Pos}(XG:Ma θ.K θ.S.xc)(hn:dP o=true)(h:aB θ u o Lc H (λv H1=>iZ v λi=>XU (H1.at_ i) θ.S.xc λx=>Q x H1) X):aB θ u (.Attribute o "problem_mark" pos) Lc H Q X:=λΓ E r a=>by
 refine(?_:wpAny θ.M Γ.A (eval (.Attribute o "problem_mark" pos)<|θ.f.env Γ.L) _ E r.s)
 rw[arm_eval_Attribute,ua hn]
 refine gf<|a.go (h _ _ _ a) λo r1 mv H1 l1 a1 v1 q=>Eh q λi e y=>y.elim λx y=>?_
 subst e
 refine kQ v1 λp hp e=>?_
 subst e
 obtain⟨p',ox,es,n,wv,vs,z0,z1,y1,y2,y3,z2,z3,z4⟩:=(a1.T.R.obj i _ y.1:Eg _ _ _ _)
 cases aaf (hp.symm.trans z0)
 have I:InstAt r1.s.heap p.1 ox θ.S.xc (some<|dictOf es n):=⟨(a1.T.N _ z1).1,y1,by unfold notCls;rw[y3],by rw[y2];exact(a1.T.N _ z2).1⟩
 exact gf<|wpAny_standAt<|gf<|aax<|XS (a1.C.X.keeps a1.T.F.keep) I XG (findObj_own XG.dict XG.own rfl z3) z4.handed<|gf<|wpAny_letTemporaryGo<|aao<|(a1.tk _).fin (J:=VR) (l1.trans .tk) z4 y.2
end
def Pg(S:aP)(f:Fm)(kg kn fa:Nat)(word:List Nat)(st:Stmt):Bool:=GC st λe=>mX e λg es ks pos=>l0 ks<|nV g λo a ap=>(a=="append")&&((ap.endLine==pos.line)&&(gr o (λx=>iG f kg x)&&l1 es λt=>AA t λts=>l2 ts λwd c=>tB wd (λv=>v==.str (aW word))&&mX c λg es ks _=>l0 ks<|l1 es λat_=>gr g (λx=>kq S f x<|.ref fa)&&nV at_ λo a _=>(a=="problem_mark")&&gr o λx=>iG f kn x))
section
variable{S:aP}{w:World}{f:Fm}{lv:Nat}{Lc:Loc}{H:MH}{Q:Loc->MH->Prop}{X:QX}
def bH.mono{fa:Nat}{az kv:List MV}{kn:List Str}{Ve HR:QV}{Y:MV->MH->Prop}(h:bH S w lv fa az kn kv H Ve λ_ _=>False)(k:∀v H',Ve v H'->HR v H'):bH S w lv fa az kn kv H HR Y:=
 h.elim λl z=>⟨l,z.1,λf Lc Γ E r ws ks a v1 v2=>codeAny_mono (z.2 f Lc Γ E r ws ks (a.uJ λ_ _ _ _ _ _ _ q=>q.2.elim) v1 v2) λo s' y=>by
  cases o with
  |error e=>exact y
  |ok fl=>
   cases fl with
   |ret v=>exact y.elim λr2 y=>⟨r2,y.1,y.2.1,by cases y.2.2 with|mk H2 b T j q=>exact .mk H2 b T j<|k _ _ q⟩
   |_=>exact y⟩
def AX{kg kn fa g:Nat}{word:List Nat}{st:Stmt}{x:MV}(O:bL S.loud w)(hst:Pg S f kg kn fa word st=true)(hkeep:keepIn (S.K w.params) (.ref fa)=true)(XG:Ma (S.K w.params) S.xc)(hne:kg≠kn)(hkn:kn<Lc.length)(hg:Lc[kg]?=some (some<|.ref g))(Mb:gm (H.at_ g) λ_=>True)(hlt:g<H.n)
  (h:bH S.loud w lv fa [x] [] [] (H.new<|.exc S.xc x) (λr H2=>gm (H2.at_ g) λxs=>xs.length<dg/\Q (Lc.set kn none) (H2.put g<|.list<|xs++[.tup [.str word,r]])) λ_ _=>False):
  ko ⟨S.loud,w,f⟩ (8*lv) [st] (Lc.set kn<|some<|.ref H.n) (H.new<|.exc S.xc x) (λmf L2 H2=>mf=.next/\Q (L2.set kn none) H2) uK:=
 AD hst λe p8 e0 d=>dY d λgf es ks pos e1 d=>iE d λe2 d=>f7 d λo a ap e3 d=>bh (bl<|br<|br d) λxg p1 e4 d1=>jk (br<|br<|br d) λt e5 d2=>uA d2 λts k2 p7 e6 d2=>AF d2 λwd cl e7 d2=>gp (bl d2) λv k1 p2 e8 d3=>dY (br d2) λg' es' ks' p6 e9 d4=>iE d4 λe10 d4=>jk d4 λat_ e11 d4=>bh (bl d4) λmk p3 e12 d5=>f7 (br d4) λo' a' p5 e13 d6=>bh (br d6) λn p4 e14 d7=>by
  rw[show st=.Expr (.Call (.Attribute (.Name xg p1) "append" ap) [.Tuple [.Constant (.str<|aW word) k1 p2,.Call (.Name mk p3) [.Attribute (.Name n p4) "problem_mark" p5] [] p6] k2 p7] [] pos) p8 from by rw[e0,e1,e2,e3,e4,e5,e6,e7,e8,e9,e10,e11,e12,e13,e14,be<|bl d,be d3,be<|bl d6]]
  have hg':(Lc.set kn<|some<|.ref H.n)[kg]?=some (some<|.ref g):=(List.getElem?_set_ne<|Ne.symm hne).trans hg
  have hn':(Lc.set kn<|some<|.ref H.n)[kn]?=some (some<|.ref H.n):=List.getElem?_set_self hkn
  have q1:sE (.ref g) (H.new<|.exc S.xc x) .list:=listE Mb λxs e _=>(aac (iP · noI (λ_=>True) lJ lJ lJ lJ) ((aal<|aae hlt).trans e:(H.new<|.exc S.xc x).at_ g=_)).mpr trivial
  have a1:=bY d1
  have a2:=bY d7
  exact ko.cons (dU.expr rfl (aB.su (k:=.list) (id:="list.append") rfl rfl rfl (bl<|br d) PySem.F.plainAttrs_list PySem.F.slot_list_append PySem.F.type_list_append (aB.Kv a1.ns hg' a1.kd (qN d1) ⟨uy q1,
   aB.tuple rfl (aB.o9<|aB.uq (gy (S:=S.loud) O d5) hkeep rfl rfl<|aB.Vd XG rfl<|aB.Kv a2.ns hn' a2.kd (qN d7) ⟨x,aam rfl,bH.u<|bH.mono h λr H2 q=>⟨(by decide:(2:Nat)<=dg),listE q λxs hi q=>wA hi q.1<|ko.nil ⟨rfl,(by rw[List.set_set];exact q.2)⟩⟩⟩)⟩)))
end
noncomputable def XW(p0 p1 p2 p3 p4 p5:Pos)(arg:Str):Stmt:=.Expr (.Call (.Attribute (.Call (.Name "super" p0) [] [] p1) "__init__" p2) [.Name arg p3] [] p4) p5
def Mc(arg:Str)(st:Stmt):Bool:=GC st λe=>mX e λg es ks pos=>l0 ks<|nV g λo a ap=>(a=="__init__")&&(!(arg==("__debug__":Str))&&((ap.endLine==pos.line)&&(mX o (λg es ks _=>l0 es<|l0 ks<|gr g λs=>s=="super")&&l1 es λx=>gr x λy=>y==arg)))
def RJ{P:Prop}{arg:Str}{st:Stmt}(h:Mc arg st=true)(k:∀p0 p1 p2 p3 p4 p5,st=XW p0 p1 p2 p3 p4 p5 arg->(arg==("__debug__":Str))=false->(p2.endLine==p4.line)=true->P):P:=
 AD h λe p5 e0 h=>dY h λg es ks p4 e1 h=>iE h λe2 h=>f7 h λo a p2 e3 h=>dY (bl<|br<|br<|br h) λg' es' ks' p1 e4 h2=>iE h2 λe5 h2=>iE h2 λe6 h2=>bh h2 λs p0 e7 h2=>jk (br<|br<|br<|br h) λx e8 h3=>bh h3 λy p3 e9 h3=>
  k p0 p1 p2 p3 p4 p5 (by rw[e0,e1,e2,e3,e4,e5,e6,e7,e8,e9,be h2,be h3,be<|bl h];rfl) (bn<|bl<|br h) (bl<|br<|br h)
structure SD where
 fa:Addr
 name:Str
 qual:Str
 params:Arguments
 body:List Stmt
 scope:Scope
 cc:Addr
 dV:Value
 kV:Value
 doc:Value
 pm:Value
 cda:Addr
 ct:Value
 an:Option Addr
noncomputable abbrev SD.fn(d:SD):FuncData:=fnX d.name d.qual d.params d.body d.scope [("__class__",d.cc)] d.dV d.kV d.doc d.pm d.an (.ref d.cda) d.ct
noncomputable abbrev SD.fm(d:SD)(ns:List Str):Fm:=⟨ns,d.scope,d.qual,.ref d.cda,[("__class__",d.cc)],d.fa⟩
structure qO(prog:Program)(K:Frag)(d:SD)(D C f2:Addr)(me arg:Str):Prop where
 fn:∃oc od osl,K.lookup d.fa=some ⟨oc,od,.func d.fn,osl⟩
 head:∃ar,(d.params.posonlyargs++d.params.args).head?=some ar/\ar.arg=me
 code:∃ccl cdd vs ccs file tf,K.lookup d.cda=some ⟨ccl,cdd,.fields vs,ccs⟩/\vs[2]?=some (.str file tf)/\((prog.main.file:Str)==file)=true
 cell:∃cl cld csl,K.lookup d.cc=some ⟨cl,cld,.cell<|some<|.ref D,csl⟩
 cls:∃c d cdD sl,K.lookup D=some ⟨c,d,.cls cdD,sl⟩
 sub:mroIn K C (.ref D)=some true
 sup:nsIn K mainGlobals "super"=some none
 any:nsIn K cStatics "thirdparty.any"=some none
 find:ks_superIn K C D "__init__"=some (some<|.ref f2)
 typ:typeIn K (.ref f2)=some (.type "function")
 Of:fnIn K f2=true
 n1:d.scope.names.lookup ("super":Str)=some .globalImplicit
 n2:d.scope.names.lookup ("__class__":Str)=some .free
 n3:d.scope.names.lookup me=some .local
 n4:d.scope.names.lookup arg=some .local
 top:(prog.main.scope.names.lookup ("super":Str)).isSome=false
def AY:bootBuiltins "super"=some (.type "super"):=by kernel_rfl
section
variable{S:aP}{w:World}{d:SD}{ns:List Str}{u:Nat}{Γ:Gm}{E:Value->Shared->Prop}{r:Rh}{Lc:Loc}{H:MH}{X:QX}{D C f2:Addr}{me arg:Str}{x:Addr}{ox:Obj}{odx:Option Obj}
def Me{b0:List Stmt}{p0 p1:Pos}{whole:Sem Value}{Q:Value->Shared->Prop}(a:At ⟨S,w,d.fm ns⟩ u Γ E r Lc H X)(SF:qO S.prog (S.K w.params) d D C f2 me arg)(hv:r.m me=some (.ref x))(I:InstAt r.s.heap x ox C odx)
  (h:∀so h',Fr Γ.h₀ Γ.L h' r.m->News Γ.h₀ Γ.L h' ((so,ks_superObj D x C)::r.φ.news)->(∀p∈r.φ.news,p.1<so)->Q (.ref so) {r.s with heap:=h'}):
  PySem.wpAt (model S.prog w) Γ.A (.func b0<|(d.fm ns).env Γ.L) (attributeBase (.Call (.Name "super" p0) [] [] p1) "__init__" ((d.fm ns).env Γ.L) whole) Q E r.s:=
 SF.fn.elim λoc z=>z.elim λod z=>z.elim λosl hfn=>SF.head.elim λar har=>SF.code.elim λccl z=>z.elim λcdd z=>z.elim λvs z=>z.elim λccs z=>z.elim λfile z=>z.elim λtf hc=>SF.cell.elim λcl z=>z.elim λcld z=>z.elim λcsl hcell=>SF.cls.elim λc1 z=>z.elim λd1 z=>z.elim λcdD z=>z.elim λsl hD=>a.C.T.elim λmg z=>z.elim λmb TT=>by
 have X:=a.C.X.keeps a.T.F.keep
 refine ks_wpAt_super_base (env:=(d.fm ns).env Γ.L) SF.n1 SF.n2 (by decide+kernel) rfl (X _ _ hfn) rfl har.1 rfl (X _ _ hc.1) rfl hc.2.1 hc.2.2 SF.top ?_
 refine ks_loadName_global a.C.lT SF.n1<|loadGlobal_builtin (env:=(d.fm ns).env Γ.L) (TT.g.keeps a.T.F.keep) (mg_none_of a.C.X TT.g SF.sup) (TT.b.keeps a.T.F.keep) ((TT.builtins _<|by decide+kernel).trans AY) ⟨rfl,?_⟩
 refine wpAny_loadName_free a.C.lT SF.n2 rfl ⟨_,X _ _ hcell,rfl⟩ ?_
 rw[har.2]
 refine wpAny_loadName_local a.C.lT SF.n3 a.T.F.ns hv<|ks_wpAny_isType_cls (X _ _ hD) rfl ⟨rfl,ks_wpAny_call_super (X _ _ hD) rfl I.at_ I.cls (λc e=>?_) (looks_mroIn X SF.sub) λh' e k=>?_⟩
 ·have:=I.no
  unfold notCls at this
  rw[e]at this
  exact Bool.noConfusion this
 ·have Z:=ks_newsPush a.T.F a.T.N rfl e k
  exact h _ _ Z.1 Z.2.1 Z.2.2
def EJ{θ:Th}{i c:Nat}{fs:List (Nat×MV)}{p:Addr×Addr}(T:St θ Γ r Lc H)(h:H.at_ i=some (.inst c fs))(hp:r.φ.adr i=some p):(p.1,instObj c p.2)∈r.φ.news:=by
 obtain⟨q,es,n,h1,h2,_⟩:=(T.R.obj i _ h:nM _ _ _ _ _)
 cases aaf (h1.symm.trans hp)
 exact h2
def HS{b0:List Stmt}{st:Stmt}{i:Nat}{v:MV}{fs:List (Nat×MV)}{Q:MH->Prop}{R:Flow->Shared->Prop}(a:At ⟨S,w,d.fm ns⟩ u Γ E r Lc H X)(SF:qO S.prog (S.K w.params) d D C f2 me arg)(hst:Mc arg st=true)(n0:ns[0]?=some me)(n1:ns[1]?=some arg)(hp:Lc[0]?=some (some<|.ref i))(hv:Lc[1]?=some (some v))(hi:H.at_ i=some (.inst C fs))
  (h:nX ⟨S,w,d.fm ns⟩ u f2 [.ref i,v] [] [] H (λ_ H'=>Q H') λx H'=>X x Lc H')(hR:∀r' H',Le r r'->At ⟨S,w,d.fm ns⟩ u Γ E r' Lc H' X->Q H'->R .next r'.s):PySem.wpAt (model S.prog w) Γ.A (.func b0<|(d.fm ns).env Γ.L) (exec st<|(d.fm ns).env Γ.L) R E r.s:=
 RJ hst λp0 p1 p2 p3 p4 p5 e hdg hline=>e▸(a.T.loc 1 arg v n1 hv).elim λwv z=>(a.T.loc 0 me (.ref i) n0 hp).elim λwp y=>kQ y.2 λp hp e'=>a.T.inst hi λq es n hq m2 _ _ _ I=>by
 cases aaf (hq.symm.trans hp)
 have y1:=y.1
 rw[e']at y1
 refine ks_wpAt_Expr_any ?_ (hi:=by unfold interactive;show(d.scope.kind==.module&&_)=false;rw[a.C.lT];rfl)
 rw[arm_eval_Call]
 refine PySem.wpAt_bind<|Me a SF y1 I λso h2 F2 N2 WU=>PySem.wpAt_of_wpAny<|gf<|wpAny_standAt ?_
 unfold methodCall
 rw[Ox (es:=[.Name arg p3]) (kws:=[]) rfl rfl rfl]
 refine gf<|aax ?_
 unfold calleeOf
 rw[aam rfl]
 have I2:InstAt h2 p.1 (instObj C p.2) C (some<|dictOf es n):=⟨(N2 _<|.tail _<|EJ a.T hi hp).1,rfl,rfl,(N2 _<|.tail _ m2).1⟩
 refine ks_method (s:={r.s with heap:=h2,toks:=_}) F2 a.C.X N2 (.head _) I2 SF.any SF.find SF.typ (by decide+kernel) λq' h3 F3 N3 lt3=>gf<|wpAny_of_eq (?_:methodCallPos true _ _ p2 p4=pure p4) ?_
 ·unfold methodCallPos;simp[hline]
 refine callWith_M (K:=S.K w.params) (first:=[]) a.C.X N3 (.head _) SF.Of ?_
 refine spliced_cons (x:=eval (.Name arg p3)<|(d.fm ns).env Γ.L) (rest:=[])<|nameX_L F3 z.1 (aao ⟨⟨(N3 _<|.head _).1,a.C.X.keeps F3.keep⟩,call_meth N3 (.head _) ?_⟩) a.C.lT SF.n4 hdg
 have nd:((([(q',methodObj (.ref f2)<|.ref p.1),(so,ks_superObj D p.1 C)]:aS)++r.φ.news).map (·.1)).Nodup:=List.nodup_cons.mpr ⟨λh=>(List.mem_map.mp h).elim λp z=>aae (lt3 p z.1) z.2,List.nodup_cons.mpr ⟨λh=>(List.mem_map.mp h).elim λp z=>aae (WU p z.1) z.2,a.T.R.nodup⟩⟩
 have Z:=a.T.R.more nd
 have l3:Le r ⟨⟨r.φ.adr,[(q',methodObj (.ref f2)<|.ref p.1),(so,ks_superObj D p.1 C)]++r.φ.news,r.φ.pins,r.φ.fix,r.φ.its⟩,r.m,{r.s with heap:=h3,toks:=r.s.toks+1}⟩:=⟨Z.x,rfl,rfl⟩
 have a3:=a.at_ l3 ⟨F3,N3,Z.R,λk x v hx hv=>(a.T.loc k x v hx hv).elim λw h=>⟨w,h.1,h.2.ext Z.x⟩⟩
 exact h.elim λl' z'=>codeAny_mono (z'.2 (d.fm ns) Lc Γ E _ [.ref p.1,wv] [] (a3.call<|av (Nat.add_le_add_left (by decide) _) z'.1) (.two (VR.ext Z.x ⟨p,hp,rfl⟩)<|z.2.ext Z.x) rfl) λo s' y=>by
  cases o with
  |error e=>exact y
  |ok fl=>
   cases fl with
   |ret rv=>exact y.elim λr2 y=>y.1▸(by cases y.2.2 with|mk H2 b T j q=>exact hR r2 H2 (l3.trans y.2.1) (a3.at_ y.2.1 T) q)
   |_=>exact y
end
section
variable{S:aP}{w:World}{l:Nat}{H:MH}{Q:QV}{X:MV->MH->Prop}{d:SD}{D C f2:Addr}{me arg:Str}{EL:List Str}{i:Nat}{v:MV}{fs:List (Nat×MV)}{st:Stmt}{rest:List Stmt}
def nW.RK(SF:qO S.prog (S.K w.params) d D C f2 me arg)(hbd:d.body=st::rest)(hcd:codeIn (S.K w.params) (.ref d.cda) d.qual=true)(hcell:∀x∈d.scope.names,x.2≠.cell)(hco:d.scope.isCoroutine=false)(hgen:d.scope.isGenerator=false)(hk:d.scope.kind=.function)(hnd:(me::arg::EL).Nodup)(hloc:∀x∈me::arg::EL,d.scope.names.lookup x=some .local)
  (hst:Mc arg st=true)(hb:c6 S w d.fn (me::arg::EL) [.ref i,v] [] [] [.ref i,v])(hne:d.fa≠S.top)(hi:H.at_ i=some (.inst C fs))
  (h:bH S w l f2 [.ref i,v] [] [] H (λ_ H'=>ko ⟨S,w,d.fm<|me::arg::EL⟩ (8*l) rest (bW (me::arg::EL) [.ref i,v]) H' (gP Q) λx _ H'=>X x H') λx H'=>X x H'):nW S w l d.fa [.ref i,v] [] [] H Q X:=
 λf Lc Γ E r ws ks a R R2=>(hb.go r.φ r.s ws ks (a.C.X.keeps a.T.F.keep) R R2).elim λbs z=>a.C.T.elim λmg t=>t.elim λmb TT=>SF.fn.elim λoc y=>y.elim λod y=>y.elim λosl hfn=>by
 have G:=groundX (R:=B5 ⟨S,w,f⟩ Γ E r Lc Q) a.C.B a.T.F a.T.N a.C.fr rfl a.C.lT
 generalize hg:hideAll r.s.heap (r.φ.news.map (·.1))=g at G
 have X₁:=a.C.X.keeps a.T.F.keep
 refine ks_codeAny_call_defAt (fd:=d.fn) (body:=d.body) (binds:=((me::arg::EL).take 2).zip bs) (H8 (av (aah _ _) a.rm.depth)<|by decide) (X₁ _ _ hfn) rfl (TT.nolimit.keeps a.T.F.keep) (codeRec_of X₁ hcd) rfl z.1 hcell (λy hy=>hloc _<|List.mem_of_mem_take (List.of_mem_zip (a:=y.1) (b:=y.2) hy).1) (λh₁ hns hk₁=>?_) hco hgen hk
 have l0:Le r ⟨r.φ,λx=>(((me::arg::EL).take 2).zip bs).reverse.lookup x,{r.s with heap:=h₁,toks:=r.s.toks+(((me::arg::EL).take 2).zip bs).length}⟩:=⟨.refl,rfl,rfl⟩
 have a0:At ⟨S,w,d.fm<|me::arg::EL⟩ (8*l) (Γ.sub f (d.fm<|me::arg::EL) g r.s.heap.objs.size) _ ⟨r.φ,λx=>(((me::arg::EL).take 2).zip bs).reverse.lookup x,{r.s with heap:=h₁,toks:=r.s.toks+(((me::arg::EL).take 2).zip bs).length}⟩ (bW (me::arg::EL) [.ref i,v]) H (λx _ H'=>X x H'):=
  ⟨⟨G.2.1,Around.frames_deeper a.C.fr,a.C.X.keeps G.2.2.1,⟨mg,mb,TT.keeps G.2.2.1⟩,hk,hnd,a.C.quiet,λe=>aan e hne⟩,sO a.rm,
   ⟨⟨hns,λb o e=>hk₁ b o<|of_hideAll _<|hg▸e,Nat.le_of_eq<|hg▸hideAll_size _ _⟩,λq hq=>⟨hk₁ _ _ (a.T.N q hq).1,aae<|Heap.lt_size (a.T.N q hq).1,hg▸hideAll_none _ (List.mem_map_of_mem hq)⟩,a.T.R,λk x v hx hv=>Di hnd hb.len z.2 hx hv⟩,zh a G.1 l0⟩
 rw[hbd]
 exact ks_wpAt_execs_cons<|HS (b0:=st::rest) a0 SF hst rfl rfl rfl rfl hi h.u λr1 H1 l1 a1 q=>PySem.wpAt_of_wpAny<|(q _ _ _ a1).then λfl r2 l2 p=>G.2.2.2 _ _<|wJ (V:=λfl=>match fl with|.ret v=>v|_=>.none) a l0 rfl (λ_=>rfl) fl r2.s ⟨r2,rfl,l1.trans l2,p⟩
end
def gQ(f:Fm)(k:Nat)(e:Expr):Bool:=gr e λx=>iG f k x
def m8(S:aP)(f:Fm)(k n:Nat)(e:Expr):Bool:=nV e λo a _=>(S.nm[n]?==some a)&&gQ f k o
def wL(S:aP)(f:Fm)(e:Expr):Bool:=mX e λg es ks pos=>l0 es<|l0 ks<|nV g λo a ap=>(S.nm[99]?==some a)&&((ap.endLine==pos.line)&&gQ f 0 o)
def wM(e:Expr):Bool:=tB e λc=>c==.none
def HT(l:List Nat)(e:Expr):Bool:=tB e λc=>c==.str (aW l)
def Mf(S:aP)(f:Fm)(k:Expr->Expr->Bool)(g a b e3 e4:Expr):Bool:=wM a&&(wM b&&(bF e3&&(bF e4&&(gr g (λx=>kq S f x<|.ref S.xc)&&k e3 e4))))
def x6(S:aP)(f:Fm)(st:Stmt)(k:Expr->Expr->Bool):Bool:=Rc st λe c=>o0 c<|o1 e λe=>mX e λg es ks _=>l0 ks<|l4 es (Mf S f k g)
def Mg(e:Expr):Bool:=tB e λc=>Xo c λ_=>true
def EM(fmt:List Nat)(e:Expr)(k:Expr->Bool):Bool:=Gx e λl o r=>(o==.Mod)&&(HT fmt l&&k r)
def HU(S:aP)(n:Nat)(e:Expr)(k:Expr->Bool):Bool:=nV e λo a _=>dP o&&((S.nm[n]?==some a)&&k o)
section
variable{S:aP}{w:World}{f:Fm}{lv u:Nat}{Lc:Loc}{H:MH}{Q:QF}{QE:QV}{X:QX}{e:Expr}{k n:Nat}{v:MV}
def aB.gQ(hx:gQ f k e=true)(hv:Lc[k]?=some (some v))(h:QE v H):aB ⟨S,w,f⟩ u e Lc H QE X:=bh hx λx p e d=>e▸aB.Kv (bY d).ns hv (bY d).kd (qN d) h
def zo(h:gQ f k e=true):dP e=true:=bh h λx p e0 _=>e0▸rfl
def aB.wM(h:wM e=true)(hq:QE .none H):aB ⟨S,w,f⟩ u e Lc H QE X:=gp h λc n p e d=>e▸be d▸aB.const_none hq
def aB.HT{l:List Nat}(h:HT l e=true)(hq:QE (.str l) H):aB ⟨S,w,f⟩ u e Lc H QE X:=gp h λc n p e d=>e▸be d▸aB.o9 hq
def aB.m8(O:bL S w)(h:m8 S f k n e=true)(hv:Lc[k]?=some (some v))(hq:FE S v n H QE):aB ⟨S,w,f⟩ u e Lc H QE X:=f7 h λo a p e d=>e▸aB.attr O (zo<|br d) (be<|bl d) (aB.gQ (br d) hv hq)
def aB.Vf(O:bL S w){k:Expr->Bool}(h:HU S n e k=true)(hq:∀o,k o=true->aB ⟨S,w,f⟩ u o Lc H (λv H1=>FE S v n H1 QE) X):aB ⟨S,w,f⟩ u e Lc H QE X:=f7 h λo a p e d=>e▸aB.attr O (bl d) (be<|bl<|br d) (hq o<|br<|br d)
def aB.wL(O:bL S w)(h:wL S f e=true)(h0:Lc[0]?=some (some v))(hq:dX v 99 H λi c fs=>fs.lookup 99=none/\bM (S.mt c 99) λfa=>nX ⟨S,w,f⟩ u fa [.ref i] [] [] H QE λx H'=>X x Lc H'):aB ⟨S,w,f⟩ u e Lc H QE X:=
 dY h λg es ks pos e d=>e▸iE d λe d=>e▸iE d λe d=>e▸f7 d λo a ap e d=>e▸aB.gJ O (zo<|br<|br d) (be<|bl d) rfl rfl rfl (bl<|br d) (aB.gQ (br<|br d) h0 hq)
def aB.Mg(h:Mg e=true)(hq:∀l,QE (.str l) H):aB ⟨S,w,f⟩ u e Lc H QE X:=gp h λc n p e d=>e▸UA d λx e _=>e▸aB.o9 (l:=x.cps.toList) (hq _)
def uO{c:EC}{fI:Addr}{d:FD}{st:Stmt}{k:Expr->Expr->Bool}(O:bL S w)(hx:S.xc=c.C)(hb:x6 S f st k=true)(XF:om (S.K w.params) c fI d)(hkeep:keepIn (S.K w.params) (.ref c.C)=true)(AW:S.quiet=true)
  (h:∀e3 e4,k e3 e4=true->aB ⟨S,w,f⟩ u e3 Lc H (λ_ H1=>aB ⟨S,w,f⟩ u e4 Lc H1 (λx H2=>X x Lc H2) X) X):dU ⟨S,w,f⟩ u st Lc H Q X:=
 Rf hb λe c p e0 hb=>GH hb λe1 hb=>xR hb λe' e2 hb=>dY hb λg es ks p4 e3 hb=>iE hb λe4 hb=>Xu hb λa b c3 c4 e5 hb=>bh (bl<|br<|br<|br<|br hb) λx p1 e6 hg=>by
  rw[e0,e1,e2,e3,e4,e5,e6]
  have n1:bF a=true:=gp (bl hb) λ_ _ _ q _=>q▸rfl
  have n2:bF b=true:=gp (bl<|br hb) λ_ _ _ q _=>q▸rfl
  exact dU.RH hx (hx▸gy O hg) XF hkeep AW (by rw[List.all_cons,List.all_cons,List.all_cons,List.all_cons,n1,n2,bl<|br<|br hb,bl<|br<|br<|br hb];rfl)
   (aB.wM (bl hb)<|aB.wM (bl<|br hb)<|Ev.mono (h _ _<|br<|br<|br<|br<|br hb) λc H1 h=>Ev.mono h λx H2 h=>⟨.none,.none,c,x,rfl,h⟩)
def Ph(fmt z:List Nat)(T:Str):Prop:=∀t u,Meets (PySem.Builtin.«str.__mod__» ⟨[.str (aW fmt) t,.str (aW z) u],[]⟩) (λ_ R s=>∀t' k,R (.ok<|.ret<|.str T t') {s with toks:=k})
def RM{fl z:List Nat}{T:Str}(hm:Ph fl z T)(hq:∀l,QE (.str l) H):dc ⟨S,w,f⟩ u Lc H X [.str fl,.str z] (bin .Mod) VR QE:=
 .g8 (mv:=.str T.cps.toList) (hq _) λΓ E r x y a h1 h2 R k=>h1.elim λt e1=>h2.elim λu e2=>by
  subst e1 e2
  exact binaryOp_meets (T:="str") (op:=.Mod) (typeIs_str r.s _ t) (typeIs_str r.s _ u) PySem.F.fills_str_mod PySem.F.slot_str_mod PySem.F.entry_str_mod (PySem.F.args_str_mod_2 _ _) (hm t u) λt' kk=>⟨(λe=>nomatch e),k _ _ ⟨t',rfl⟩⟩
def aB.EM{fmt:List Nat}{k:Expr->Bool}(he:Mine.EM fmt e k=true)(h:∀r,k r=true->aB ⟨S,w,f⟩ u r Lc H (λv H1=>qB v λz=>(∃T,Ph fmt z T)/\∀l,QE (.str l) H1) X):aB ⟨S,w,f⟩ u e Lc H QE X:=
 xO he λl o r p e d=>e▸be (bl d)▸aB.binop (aB.HT (bl<|br d)<|Ev.mono (h r<|br<|br d) λv H1 q=>Ei (P:=λv=>dc ⟨S,w,f⟩ u Lc H1 X [.str fmt,v] (bin .Mod) VR QE) q λz q=>q.1.elim λT hm=>RM hm q.2)
end
section
variable{S:aP}{w:World}{f:Fm}{u:Nat}{Lc:Loc}{H:MH}{Q:QF}{QE:QV}{X:QX}
def zp{i:Nat}{es:List (List Nat×MV)}(hi:H.at_ i=some (.aF es))(hq:QE (.ref H.n)<|H.new<|.aF es):dc ⟨S,w,f⟩ u Lc H X [.ref i] (aU<|.builtin "dict.copy") VR QE:=λΓ E r ws a R=>
 R.e1 (P:=λws=>Go ⟨S,w,f⟩ Γ E r (aU (.builtin "dict.copy") ws)<|pM ⟨S,w,f⟩ Γ Lc VR QE) λx h1=>eY (P:=λx=>Go ⟨S,w,f⟩ Γ E r (aU (.builtin "dict.copy") [x])<|pM ⟨S,w,f⟩ Γ Lc VR QE) h1 λp hp=>(Oh ⟨S,w,f⟩).sG a hi hp λo kvs m d hD hr hl lo=>a.C.T.elim λmg z=>z.elim λmb TT=>
  call_meetsIn PySem.F.slot_dict_copy hD.typeIs PySem.F.entry_dict_copy (PySem.F.args_dict_copy_1 _) (meets_dict_copy (strKind S.prog w) p.1 lo) ⟨kvs,hD,by rw[sizeLine_eq,hr.len];exact av hl (by decide),λh' q1 q2 k=>(Heap.dictOf_iff.mp q1).elim λo' ho=>
   have Z:=a.new1 (o:=.aF es) (tk:=r.s.toks) (λp hp=>Heap.lt_size (a.T.N p hp).1) rfl (a.T.F.keeps k) (news_pushed a.T.F a.T.N k ho.1 rfl) λφ' X q m=>gj.mk _ o' kvs q m ho.2 (hr.iO X.tojc) hl (a.T.F.notModules<|modules_low TT.nolimit)
   Z.a.fin (J:=VR) (b:=.ref H.n) (v:=.ref r.s.heap.objs.size) Z.l dD.j7 hq⟩
end
def Pj(S:aP)(f:Fm)(st:Stmt):Bool:=uB st λts v=>l1 ts λt=>gr t λx=>iG f 3 x&&AA v λes=>l2 es λa c=>bF a&&(bF c&&(m8 S f 0 21 a&&mX c λg es ks pos=>l0 es<|l0 ks<|nV g λo m ap=>(m=="copy")&&((ap.endLine==pos.line)&&(dP o&&m8 S f 0 22 o))))
section
variable{S:aP}{w:World}{f:Fm}{u:Nat}{Lc:Loc}{H:MH}{Q:QF}{X:QX}
def uP{v:MV}{k i c:Nat}{fs:List (Nat×MV)}{K:QV}(hi:H.at_ i=some (.inst c fs))(hl:fs.lookup k=some v)(q:K v H):FE S (.ref i) k H K:=by
 show iR (H.at_ i) _
 rw[hi]
 show(fs.lookup k).casesOn _ _
 rw[hl];exact q
def EN{j:Nat}{es:List (List Nat×MV)}(hj:H.at_ j=some (.aF es)):sE (.ref j) H .dict:=(aac (iP · noI lJ lJ (λ_=>True) (λ_=>True) λ_=>True) hj).mpr trivial
def Mh{st:Stmt}{v:MV}(O:bL S w)(hb:Pj S f st=true)(h0:Lc[0]?=some (some v))(hq:iZ v λp=>iR (H.at_ p) λc fs=>bM (fs.lookup 21) λa=>bM (fs.lookup 22) λd=>iZ d λi=>xG (H.at_ i) λes=>Q .next (Lc.set 3<|some<|.tup [a,.ref H.n])<|H.new<|.aF es):dU ⟨S,w,f⟩ u st Lc H Q X:=
 Eh hq λi ev hq=>wm hq λc fs hi hq=>cX hq λav ha hq=>cX hq λdv hd hq=>Eh hq λj ed hq=>Qw hq λes hj hq=>
 lX hb λts v p e hb=>e▸jk hb λt e hb=>e▸bh hb λx p1 e hb=>e▸uA (br hb) λes' n p2 e h=>e▸AF h λa c e h=>e▸
  dU.sL (bY<|bl hb) rfl (aB.tuple (by rw[List.all_cons,List.all_cons,bl h,bl<|br h];rfl) (aB.m8 O (bl<|br<|br h) h0 (ev▸uP hi ha (dY (br<|br<|br h) λg es2 ks pos e h2=>e▸iE h2 λe h2=>e.symm▸iE h2 λe h2=>e.symm▸f7 h2 λo m ap e h2=>e▸be (bl h2)▸
   aB.su (k:=.dict) (id:="dict.copy") (bl<|br<|br h2) rfl rfl (bl<|br h2) PySem.F.plainAttrs_dict PySem.F.slot_dict_copy PySem.F.type_dict_copy (aB.m8 O (br<|br<|br h2) h0<|ev▸uP hi hd ⟨uy<|ed▸EN hj,ed▸zp hj ⟨(by decide:(2:Nat)<=dg),hq⟩⟩)))))
end
def Dk(ks:List<|List Nat):List (Option Expr)->Bool:=ks.rec (λes=>es.isEmpty) λl _ ih es=>es.casesOn false λe r=>o1 e (HT l)&&ih r
def PrR(ks:List<|List Nat)(φ:dD)(vs:List MV)(RN:List<|Value×Value):Prop:=allStrKeys RN=true/\ny aW φ (ks.zip vs) (strPairs RN)
section
variable{S:aP}{w:World}{φ:dD}{H:MH}
def fB.XX{p:Addr×Obj}{its:aS}(R:fB S w φ H)(hp:φ.its=p::its):fB S w ⟨φ.adr,φ.news,φ.pins,φ.fix,its⟩ H:=
 have hd:∀q,dD.held ⟨φ.adr,φ.news,φ.pins,φ.fix,its⟩ q->φ.held q:=λq h=>h.imp id (Or.imp id λh=>hp▸.tail _ h)
 ⟨R.nodup,R.lt,R.dom,R.yE,R.inj,λi o h=>(R.obj i o h).move ⟨λ_ _ h=>h,λ_ _ m=>m,λ_ _ _ m=>m,rfl⟩ (λ_ _ _ _ m=>m) λ_ _ _ _ m=>m,λq h=>R.pin q<|hd q h,λq h=>R.qu q<|hp▸.tail _ h,λq h=>R.nN q<|hd q h⟩
def fB.fill{d:Addr}{o o':Obj}(R:fB S w φ H)(hm:(d,o)∈φ.news)(hc:o.cls=.type "dict")(off:∀i,¬vN φ i d)(hh:∀p,φ.held p->p.1≠d):Step S w φ ⟨φ.adr,lR d o' φ.news,φ.pins,φ.fix,φ.its⟩ H:=
 have ne:∀{a x},(a,x)∈φ.news->x.cls≠.type "dict"->(a,x)∈lR d o' φ.news:=λ{a x} m n=>qw (λe=>n<|(aac Obj.cls<|nO R.nodup (show(d,x)∈φ.news from e▸m) hm).trans hc) m
 have X:Ext φ ⟨φ.adr,lR d o' φ.news,φ.pins,φ.fix,φ.its⟩:=⟨⟨λ_ _ h=>h,λa vs m=>ne m λe=>aan (Value.type.inj e) (by decide),λa f x m=>ne m λe=>aan (Value.type.inj e) (by decide),rfl⟩,rfl,rfl⟩
 ⟨X,by rw[yM];exact R.nodup,R.lt,R.dom,λi a m=>(R.yE i a m).elim λx h=>⟨x,qw (λe=>off i<|e▸m) h⟩,R.inj,λi o h=>(R.obj i o h).move X.tojc (λ_ a x m h=>qw (λe=>off i<|e▸m) h) λ_ _ _ _ m=>m,λp h=>qw (hh p h)<|R.pin p h,R.qu,R.nN⟩
end
section
variable{S:aP}{w:World}{f:Fm}{u:Nat}{Lc:Loc}{X:QX}{pos:Pos}
def Mi(ks:List<|List Nat):∀{keys:List (Option Expr)} {gI:List Expr} {H:MH} {QL:List MV->MH->Prop} {Γ:Gm} {E:Value->Shared->Prop} {r:Rh},Dk ks keys=true->gI.length=ks.length->mO ⟨S,w,f⟩ u Lc X gI H QL->At ⟨S,w,f⟩ u Γ E r Lc H X->Go ⟨S,w,f⟩ Γ E r (evalPairs<|pairTrees keys gI (f.env Γ.L) pos) (pM ⟨S,w,f⟩ Γ Lc (PrR ks) QL):=by
 induction ks with
 |nil=>
  intro keys gI H QL Γ E r h1 hl h a
  cases keys with
  |cons=>exact ff h1
  |nil=>cases gI with
   |cons=>cases hl
   |nil=>exact pairTrees_nil_walk<|a.fin (b:=[]) .refl ⟨rfl,.nil⟩ h
 |cons l ks ih=>
  intro keys gI H QL Γ E r h1 hl h a
  cases keys with
  |nil=>exact ff h1
  |cons k keys=>cases gI with
   |nil=>cases hl
   |cons e gI=>
    exact xR (bl h1) λe1 ee h2=>gp h2 λc n p ec h3=>by
     rw[ee,ec,be h3]
     have a0:=a.tk<|r.s.toks+1
     exact pairTrees_cons_walk<|wpAny_mkText<|a0.go (h _ _ _ a0) λv r1 mv H1 l1 a1 v1 q=>a1.go (ih (br h1) (Nat.succ.inj hl) q a1) λRN r2 vs H2 l2 a2 v2 q=>a2.fin (b:=mv::vs) (v:=(.str (aW l) r.s.toks,v)::RN) (Le.tk.trans<|l1.trans l2) ⟨v2.1,.cons (v1.ext l2.x) v2.2⟩ q
def EO{ks:List (List Nat)}:∀{es:List (Option Expr)},Dk ks es=true->es.all (·.isSome)=true/\es.length=ks.length:=by
 induction ks with
 |nil=>intro es h;cases es with|nil=>exact⟨rfl,rfl⟩|cons=>exact ff h
 |cons l ks ih=>
  intro es h
  cases es with
  |nil=>exact ff h
  |cons e es=>exact xR (bl h) λe1 ee _=>⟨by rw[ee];exact(ih<|br h).1,aac (·+1) (ih<|br h).2⟩
def aB.Vg{H:MH}{QE:QV}{ks:List (List Nat)}{keys:List (Option Expr)}{gI:List Expr}(h1:Dk ks keys=true)(hl:gI.length=ks.length)(h0:ks≠[])(TA:ks.length<=15)(hn:(ks.map aW).Nodup)
  (h:mO ⟨S,w,f⟩ u Lc uK gI H λvs H1=>vs.length=ks.length/\QE (.ref H1.n) (H1.new<|.aF<|ks.zip vs)):aB ⟨S,w,f⟩ u (.Dict keys gI pos) Lc H QE X:=λΓ E r a=>a.C.T.elim λmg t=>t.elim λmb TT=>
 have K:=EO h1
 kdn_eval (knd:=strKind S.prog w) a.T.F a.T.N TT.nolimit K.1 (K.2.trans hl.symm) (λe=>h0<|List.length_eq_zero_iff.mp<|by rw[<-K.2,e];rfl) (by rw[K.2];exact TA) λd h' o F' N' lt lo hd=>by
 have nd:(([(d,o)]++r.φ.news).map (·.1)).Nodup:=List.nodup_cons.mpr ⟨λh=>(List.mem_map.mp h).elim λp z=>aae (lt p z.1) z.2,a.T.R.nodup⟩
 have hc:o.cls=.type "dict":=hd.elim λ_ h=>h.elim λ_ h=>h.1.1
 have Z:=a.T.R.BR nd
 have a1:At ⟨S,w,f⟩ u Γ E ⟨⟨r.φ.adr,(d,o)::r.φ.news,r.φ.pins,r.φ.fix,(d,o)::r.φ.its⟩,r.m,{r.s with heap:=h'}⟩ Lc H uK:=⟨a.C,a.rm,⟨F',N',Z.R,λk x v hx hv=>(a.T.loc k x v hx hv).elim λw h=>⟨w,h.1,h.2.iO Z.x⟩⟩,λ_ _ _ _ _ _ _ q=>q.elim⟩
 refine a1.go (Mi ks h1 hl h a1) λRN r2 vs H2 l2 a2 pr q=>?_
 have ei:r2.φ.its=(d,o)::r.φ.its:=l2.x.its
 have hm:=a2.T.R.pin (d,o)<|.inr<|.inr<|ei▸.head _
 have off:=a2.T.R.qu (d,o)<|ei▸.head _
 have hh:∀p,dD.held ⟨r2.φ.adr,r2.φ.news,r2.φ.pins,r2.φ.fix,r.φ.its⟩ p->p.1≠d:=λp h=>aae<|lt p<|a.T.R.pin p<|h.imp (λh=>l2.x.pins▸h)<|Or.imp (λh=>l2.x.fix▸h) id
 refine kdn_made_str a2.T.F a2.T.N (lS a2.T.R.nodup hm) hd pr.1 (by rw[pr.2.keys,show(ks.zip vs).map (λe=>aW e.1)=ks.map aW from(List.map_map (g:=aW) (f:=Prod.fst)).symm.trans (aac (List.map aW)<|List.map_fst_zip<|Nat.le_of_eq q.1.symm)];exact hn) λh3 o' F3 N3 hd'=>?_
 have x0:jc r2.φ ⟨r2.φ.adr,r2.φ.news,r2.φ.pins,r2.φ.fix,r.φ.its⟩:=⟨λ_ _ h=>h,λ_ _ m=>m,λ_ _ _ m=>m,rfl⟩
 have Y:=(a2.T.R.XX ei).fill (o':=o') hm hc off hh
 have V:=Y.R.place (o:=.aF<|ks.zip vs) (a:=d) (d:=d) (more:=[]) List.Pairwise.nil (λ_ h=>by cases h) ⟨⟨o',nP hm⟩,off,hh⟩ ⟨⟨o',nP hm⟩,off,hh⟩ λX=>gj.mk d o' (strPairs RN) dD.o8 (nP hm) hd' (pr.2.iO<|x0.trans<|Y.x.tojc.trans X.tojc) (by rw[List.length_zip];exact av (Nat.min_le_left _ _)<|av TA<|by decide) lo
 have x:jc r.φ (dD.new ⟨r2.φ.adr,lR d o' r2.φ.news,r2.φ.pins,r2.φ.fix,r.φ.its⟩ H2.n d d []):=((Z.x.trans l2.x.tojc).trans x0).trans<|Y.x.tojc.trans V.x.tojc
 exact⟨⟨dD.new ⟨r2.φ.adr,lR d o' r2.φ.news,r2.φ.pins,r2.φ.fix,r.φ.its⟩ H2.n d d [],r2.m,{r2.s with heap:=h3,toks:=r2.s.toks+RN.length}⟩,rfl,⟨⟨x,l2.x.pins,rfl⟩,l2.g,l2.o⟩,.mk (H2.new<|.aF<|ks.zip vs) (.ref H2.n) ⟨F3,N3,V.R,λk x v hx hv=>(a2.T.loc k x v hx hv).elim λw h=>⟨w,h.1,h.2.iO<|x0.trans<|Y.x.tojc.trans V.x.tojc⟩⟩ dD.j7 q.2⟩
def Pk(S:aP)(f:Fm)(ks:List<|List Nat)(iv:IE)(st:Stmt):Bool:=Eo st λe=>o1 e λe=>GB e λkeys gI=>Dk ks keys&&((gI.length==ks.length)&&(cx S f iv).L gI)
def Mj{lv:Nat}{H:MH}{Q:QF}{ks:List (List Nat)}{iv:IE}{st:Stmt}(O:bL S w)(hb:Pk S f ks iv st=true)(h0:ks≠[])(TA:ks.length<=15)(hn:(ks.map aW).Nodup)(h:(wx S w lv iv).L Lc H (λvs H1=>vs.length=ks.length/\Q (.ret<|.ref H1.n) Lc (H1.new<|.aF<|ks.zip vs)) uK):dU ⟨S,w,f⟩ (8*lv) st Lc H Q X:=
 xQ hb λe p e0 d=>e0▸xR d λe e0 d=>e0▸AB d λkeys gI p e0 d=>e0▸dU.ret (aB.Vg (bl d) (be<|bl<|br d) h0 TA hn<|(sx O iv).L _ (br<|br d) h)
end
section
open PySem.AutoSeq1 (wpAny_loadPart')
open PySem.MeetsSeq PySem.MeetsSeq2 PySem.MeetsSeq3 PySem.SeqRoads2 PySem.SeqAt
def FH(prog:Program)(w:World)(A:Around)(s:Shared)(y x:Value):Prop:=∀(E:Value->Shared->Prop) (Q:Bool->Shared->Prop),Q true s->wpAny (model prog w) A (eqBool y x) Q E s
structure x7(prog:Program)(w:World)(A:Around)(s:Shared)(v u:Array Value):Prop where
 len:v.size=u.size
 go:∀j (h1:j<v.size) (h2:j<u.size),FH prog w A s v[j] u[j]
section
variable{prog:Program}{w:World}{l b:Addr}{v u:Array Value}{n n2:Nat}
def FH.of{A:Around}{s:Shared}{y x:Value}{b:Bool}(h:EqAt A s y x b)(e:b=true):FH prog w A s y x:=λE Q hq=>h prog w E Q<|e▸hq
def FH.refs{A:Around}{s:Shared}(h:∀(E:Value->Shared->Prop) (Q:Value->Shared->Prop),Q (.bool true) s->wpAny (model prog w) A (richCompare .Eq (.ref l)<|.ref b) Q E s):FH prog w A s (.ref l) (.ref b):=by
 by_cases e:l=b
 ·rw[e];exact .of (EqAt.same _) rfl
 ·exact λE Q hq=>aax<|wpAny_ite_split (λhab=>aan (Value.ref.inj<|eq_of_beq hab) e) λ_=>gf<|h E _<|wpAny_truthy_bool hq
abbrev HV(prog:Program)(w:World)(l b:Addr)(v u:Array Value)(n n2:Nat)(A:Around)(R:Result->Shared->Prop)(s:Shared):Prop:=s.heap.get? l=some (listOf v n)/\s.heap.get? b=some (listOf u n2)/\x7 prog w A.in1 s v u/\R (.ok<|.ret<|.bool true) s
def EP(k:Nat):∀i:Nat,v.size-i=k->MeetsIn prog w (Builtin.«list.__eq__.loop» ⟨[.ref l,.ref b,rawInt i,rawInt 2],[]⟩) (HV prog w l b v u n n2):=by
 induction k with
 |zero=>
  intro i hk A R s h
  obtain⟨hp,g,d,tk,os⟩:=s;obtain⟨hl,hb,he,h⟩:=h
  wp_walk using wpAny_loadPart' hl,wpAny_loadPart' hb
  have le:v.size<=i:=Nat.sub_eq_zero_iff_le.mp hk
  rw[show v[((i:Nat):Int).toNat]?=none from Array.getElem?_eq_none le,show u[((i:Nat):Int).toNat]?=none from Array.getElem?_eq_none<|he.len▸le]
  wp_walk using wpAny_loadPart' hl,wpAny_loadPart' hb
  show R (.ok<|.ret<|.bool<|v.size==u.size) _
  rw[he.len,beq_self_eq_true]
  exact h
 |succ k ih=>
  intro i hk A R s h
  obtain⟨hp,g,d,tk,os⟩:=s;obtain⟨hl,hb,he,h⟩:=h
  wp_walk using wpAny_loadPart' hl,wpAny_loadPart' hb
  have lt:i<v.size:=Nat.lt_of_sub_pos<|hk▸Nat.zero_lt_succ k
  have WU:i<u.size:=he.len▸lt
  rw[show v[((i:Nat):Int).toNat]?=some v[i]from Array.getElem?_eq_getElem lt,show u[((i:Nat):Int).toNat]?=some u[i]from Array.getElem?_eq_getElem WU]
  refine gf (he.go i lt WU _ _ ?_)
  wp_walk
  rw[show((i:Int)+1)=((i+1:Nat):Int)from rfl]
  exact⟨plainId_quiet plain_eq_loop _,codeAny_builtin entry_eq_loop (by
   rw[Around.under_plainId plain_eq_loop _]
   exact ih (i+1) (by rw[Nat.sub_add_eq,hk];rfl) A R _ ⟨hl,hb,he,h⟩)⟩
def Mk:MeetsIn prog w (Builtin.«list.__eq__» ⟨[.ref l,.ref b],[]⟩) (HV prog w l b v u n n2):=by
 intro A R s h
 obtain⟨hp,g,d,tk,os⟩:=s;obtain⟨hl,hb,he,h⟩:=h
 have f3:=AutoSeq1.sub_list_list
 have hne:¬(v.size !=u.size)=true:=by simp[he.len]
 wp_walk using wpAny_loadPart' hl,wpAny_loadPart' hb
 exact⟨plainId_quiet plain_eq_loop _,codeAny_builtin entry_eq_loop (by
  rw[Around.under_plainId plain_eq_loop _]
  exact EP _ 0 rfl A R _ ⟨hl,hb,he,h⟩)⟩
def HX{vs us:List Value}:MeetsIn prog w (Builtin.«tuple.__eq__» ⟨[.ref l,.ref b],[]⟩) (λA R s=>s.heap.get? l=some (eT vs)/\s.heap.get? b=some (eT us)/\x7 prog w A.in1 s vs.toArray us.toArray/\R (.ok<|.ret<|.bool true) s):=
 .of_wp λA R s h=>by
  obtain⟨hp,g,d,tk,os⟩:=s;obtain⟨hl,hb,he,h⟩:=h
  have f2:=AutoSeq1.sub_tuple_tuple
  have hsz:vs.length=us.length:=he.len
  have hZ:(vs.zip us).length=vs.length:=by rw[List.length_zip,hsz,Nat.min_self]
  wp_walk using wpAny_loadPart' hl,wpAny_loadPart' hb,wpAny_forIn_list _ (λrest b s'=>b.1=none/\s'=⟨hp,g,d,tk,os⟩/\∃i,rest=(vs.zip us).drop i) _
  case turn=>
   rintro ⟨y,x⟩ rest b s' ⟨hb',rfl,i,hz⟩
   have hlt:i<(vs.zip us).length:=Nat.lt_of_not_le λh'=>by rw[List.drop_of_length_le h']at hz;cases hz
   rw[List.drop_eq_getElem_cons hlt,List.getElem_zip]at hz
   cases hz
   refine gf (he.go i (show i<vs.length from hZ▸hlt) (show i<us.length from hsz▸hZ▸hlt) _ _ ?_)
   wp_walk
   exact⟨rfl,rfl,i+1,rfl⟩
  case fin=>
   rintro ⟨b1,b2⟩ s' ⟨hb',rfl,i,hz⟩
   cases hb'
   wp_walk
   exact⟨_,rfl,by simpa[Builtin.Tuple.tupleCompareSizes,hsz]using h⟩
  case h=>exact⟨rfl,rfl,0,rfl⟩
end
end
section
open PySem.SeqAt
def Pn(v:MV):Prop:=v.casesOn True (λ_=>True) (λ_=>True) (λ_=>True) (λ_=>False) (λ_=>False) (λ_ _=>False) (λ_=>False) λ_=>False
inductive jm(H:MH):Nat->List MV->List MV->Prop
 |nil {n:Nat}:jm H n [] []
 |flat {n:Nat} {v:MV} {l m:List MV}:Pn v->jm H n l m->jm H n (v::l) (v::m)
 |tup {n:Nat} {a b l m:List MV}:jm H n a b->jm H (n+1) l m->jm H (n+1) (.tup a::l) (.tup b::m)
 |dict {n i j:Nat} {es:List (List Nat×List Nat)} {l m:List MV}:H.at_ i=some (.aF<|es.map λe=>(e.1,.str e.2))->H.at_ j=some (.aF<|es.map λe=>(e.1,.str e.2))->jm H n l m->jm H n (.ref i::l) (.ref j::m)
def HY{κ:Type}[DecidableEq κ]{k:κ}{v:MV}{es:List (κ×MV)}(hn:(es.map (·.1)).Nodup)(h:(k,v)∈es):d9 k es=some v:=by
 induction es with
 |nil=>cases h
 |cons p r ih=>
  have hn:=List.nodup_cons.mp hn
  by_cases q:p.1=k
  ·have e:(k,v)=p:=(aab.mp h).elim id λm=>aan (show p.1∈r.map (·.1) by rw[q];exact List.mem_map_of_mem (f:=(·.1)) m) hn.1
   rw[d9,List.find?_cons_of_pos (by rw[q];exact aag rfl),<-e];rfl
  ·rw[d9,List.find?_cons_of_neg<|by rw[aad q];exact aap]
   exact ih hn.2<|(aab.mp h).elim (λe=>aan (aac Prod.fst e).symm q) id
section
variable{prog:Program}{w:World}{S:aP}{φ:dD}{H:MH}{h₀:Heap}{L:Addr}{s:Shared}
def x7.cons{A:Around}{x y:Value}{xs ys:List Value}(h:FH prog w A s x y)(t:x7 prog w A s xs.toArray ys.toArray):x7 prog w A s (x::xs).toArray (y::ys).toArray:=
 ⟨aac (·+1) (t.len:xs.length=ys.length),λj h1 h2=>by
  cases j with
  |zero=>exact h
  |succ j=>exact t.go j (Nat.lt_of_succ_lt_succ h1)<|Nat.lt_of_succ_lt_succ h2⟩
def Ml{A:Around}{v:MV}{x y:Value}(hv:Pn v)(h1:VR φ v x)(h2:VR φ v y):FH prog w A s x y:=by
 cases v with
 |none=>exact h1▸h2▸.of (EqAt.same _) rfl
 |bool=>exact h1▸h2▸.of (EqAt.same _) rfl
 |int i=>exact h1.elim λt e=>h2.elim λu e'=>e▸e'▸.of (EqAt.int_int i t i u) (beq_self_eq_true _)
 |str l=>exact h1.elim λt e=>h2.elim λu e'=>e▸e'▸.of (EqAt.str_str _ t _ u) (beq_self_eq_true _)
 |_=>exact hv.elim
def Mm{A:Around}{es r:List (List Nat×List Nat)}{kb ka:List (Str×Value)}(hn:(es.map (·.1)).Nodup)(hb:ny aW φ (es.map λe=>(e.1,MV.str e.2)) kb)(hm:∀e∈r,e∈es)(h:ny aW φ (r.map λe=>(e.1,MV.str e.2)) ka):KeqHits A s kb ka true:=by
 induction r generalizing ka with
 |nil=>cases h;exact .nil
 |cons e r ih=>
  cases h with
  |cons r1 h2=>
   exact(hb.get qC (k:=e.1)).yes (HY (by rw[List.map_map];exact hn)<|List.mem_map.mpr ⟨e,hm e<|.head _,rfl⟩) λy g g2=>by
    obtain⟨t,rfl⟩:=r1
    obtain⟨u,rfl⟩:=g2
    have z:=EqAt.str_str (A:=A) (s:=s) (aW e.2) t (aW e.2) u
    rw[beq_self_eq_true]at z
    exact .hit (e:=true) (b:=true) g z<|ih (λx hx=>hm x<|.tail _ hx) h2
variable(N:News h₀ L s.heap φ.news)(R:fB S w φ H)
include N R
def Mn{A:Around}{i j:Nat}{es:List (List Nat×List Nat)}{x y:Value}(hi:H.at_ i=some (.aF<|es.map λe=>(e.1,.str e.2)))(hj:H.at_ j=some (.aF<|es.map λe=>(e.1,.str e.2)))(hu:A.units<9900)(h1:VR φ (.ref i) x)(h2:VR φ (.ref j) y):FH S.prog w A s x y:=
 eY (P:=λx=>FH S.prog w A s x y) h1 λp hp=>eY (P:=λy=>FH S.prog w A s (.ref p.1) y) h2 λp' qy=>by
 obtain⟨a1,o1,k1,e1,m1,d1,q1,len1,lo1⟩:=(R.obj i _ hi:gj _ _ _ _ _ _)
 obtain⟨a2,o2,k2,e2,m2,d2,q2,len2,lo2⟩:=(R.obj j _ hj:gj _ _ _ _ _ _)
 cases aaf (e1.symm.trans hp)
 cases aaf (e2.symm.trans qy)
 have hn:(es.map (·.1)).Nodup:=by
  obtain⟨_,_,_,_,_,_,nd⟩:=d2
  rw[q2.keys,List.map_map]at nd
  exact List.Pairwise.of_map aW (λa b h e=>h<|e▸rfl) (show((es.map (·.1)).map aW).Nodup by rw[List.map_map];exact nd)
 refine FH.refs λE Q hq=>keq_eq lo1 lo2 (Heap.dictOf_iff.mpr ⟨o1,(N _ m1).1,d1⟩) (Heap.dictOf_iff.mpr ⟨o2,(N _ m2).1,d2⟩) hu (λ_=>Mm hn q2 (λe he=>he) q1) ?_
 rw[q1.len,q2.len,beq_self_eq_true];exact hq
def Mp{n:Nat}{a b:List MV}(h:jm H n a b):∀{A:Around} {wa wb:List Value},A.units+n<9900->cK φ a wa->cK φ b wb->x7 S.prog w A s wa.toArray wb.toArray:=by
 induction h with
 |nil=>intro A wa wb hu h1 h2;cases h1;cases h2;exact⟨rfl,λj h=>aan h<|Nat.not_lt_zero _⟩
 |flat hv _ ih=>exact λhu h1 h2=>dG h1 λx xs e a1 b1=>dG h2 λy ys e' a2 b2=>e▸e'▸x7.cons (Ml hv a1 a2) (ih hu b1 b2)
 |dict hi hj _ ih=>exact λhu h1 h2=>dG h1 λx xs e a1 b1=>dG h2 λy ys e' a2 b2=>e▸e'▸x7.cons (Mn N R hi hj (H8 (aah _ _) hu) a1 a2) (ih hu b1 b2)
 |tup _ _ ih1 ih=>exact λ{A wa wb} hu h1 h2=>dG h1 λx xs e a1 b1=>dG h2 λy ys e' a2 b2=>e▸e'▸x7.cons (sA a1 λp vs ex m1 r1=>sA a2 λp' us ey m2 r2=>ex▸ey▸FH.refs λE Q hq=>
   have g1:=(N _ m1).1
   have g2:=(N _ m2).1
   wpAny_richCompare_same_room (op:=.Eq) (T:="tuple") ⟨_,g1,rfl⟩ ⟨_,g2,rfl⟩ PySem.F.slot_tuple_eq (call_meetsIn PySem.F.slot_tuple_eq ⟨_,g1,rfl⟩ PySem.F.entry_tuple_eq (PySem.F.args_tuple_eq_2 _ _) HX ⟨g1,g2,ih1 (A:=A.in1) (by rw[Nat.add_succ]at hu;rw[show A.in1.units=A.units+1 from rfl,Nat.succ_add];exact hu) r1 r2,(λx=>nomatch x),hq⟩) (H8 (aah _ _) hu)) (ih hu b1 b2)
end
section
variable{S:aP}{w:World}{f:Fm}{u n:Nat}{Lc:Loc}{H:MH}{Q:QF}{QE:QV}{X:QX}{i j:Nat}{xs ys:List MV}
def ER(hi:H.at_ i=some (.list xs))(hj:H.at_ j=some (.list ys))(hd:jm H n xs ys)(hn:n<=100)(hq:QE (.bool true) H):dc ⟨S,w,f⟩ u Lc H X [.ref i,.ref j] (dN .Eq) VR QE:=
 .g8 hq λΓ E r x y a h1 h2 R k=>eY (P:=λx=>wpAny _ _ (dN .Eq [x,y]) R E r.s) h1 λp hp=>eY (P:=λy=>wpAny _ _ (dN .Eq [.ref p.1,y]) R E r.s) h2 λp' qy=>
  d8.sG (a.T.R.obj i _ hi) a (λ_ h=>h) hp λvs n1 m1 _ r1 _ _=>d8.sG (a.T.R.obj j _ hj) a (λ_ h=>h) qy λus n2 m2 _ r2 _ _=>
   have g1:=(a.T.N _ m1).1
   have g2:=(a.T.N _ m2).1
   have hu:Γ.A.units+1+n<9900:=H8 (Nat.add_le_add (aau<|av (aah _ _) a.rm.units) hn) (by decide)
   wpAny_richCompare_same_room (op:=.Eq) (T:="list") ⟨_,g1,rfl⟩ ⟨_,g2,rfl⟩ PySem.F.slot_list_eq (call_meetsIn PySem.F.slot_list_eq ⟨_,g1,rfl⟩ PySem.F.entry_list_eq (PySem.F.args_list_eq_2 _ _) Mk ⟨g1,g2,Mp a.T.N a.T.R hd (A:=Γ.A.in1) hu r1 r2,(λx=>nomatch x),k _ r.s.toks rfl⟩) (H8 (av (aah _ 1)<|aah _ n) hu)
def eqB(f:Fm)(ka kb:Nat)(st:Stmt):Bool:=Eo st λe=>o1 e λe=>Em e λl os rs=>l1 os λo=>l1 rs λr=>(o==.Eq)&&(gQ f ka l&&gQ f kb r)
def aB.RO{l r:Expr}{op:CmpOp}{pos:Pos}(hm:behindInMarks op r=false)(h:aB ⟨S,w,f⟩ u l Lc H (λa H1=>aB ⟨S,w,f⟩ u r Lc H1 (λb H2=>dc ⟨S,w,f⟩ u Lc H2 X [a,b] (dN op) VR QE) X) X):aB ⟨S,w,f⟩ u (.Compare l [op] [r] pos) Lc H QE X:=λ_ _ _ a=>wpAny_Compare1 (Zx a h) hm
def RP{st:Stmt}{ka kb:Nat}(hb:eqB f ka kb st=true)(h1:Lc[ka]?=some (some<|.ref i))(h2:Lc[kb]?=some (some<|.ref j))(hi:H.at_ i=some (.list xs))(hj:H.at_ j=some (.list ys))(hd:jm H n xs ys)(hn:n<=100)(hq:Q (.ret<|.bool true) Lc H):dU ⟨S,w,f⟩ u st Lc H Q X:=
 xQ hb λe p e0 d=>e0▸xR d λe' e0 d=>e0▸rH d λl os rs p2 e0 d=>e0▸jk d λo e0 d=>e0▸jk d λr e0 d=>e0▸be (bl d)▸dU.ret (aB.RO (bh (br<|br d) λ_ _ e _=>e▸rfl)<|aB.gQ (bl<|br d) h1<|aB.gQ (br<|br d) h2<|ER hi hj hd hn hq)
end
end
structure TF(S:aP)(w:World)(a:Addr)(es:List<|List Nat×List Nat):Prop where
 val:∃o kvs,(S.K w.params).lookup a=some o/\o.IsDictOf (strKind S.prog w) kvs/\∀φ,ny aW φ (es.map λe=>(e.1,MV.str e.2)) kvs
 lo:(a==sysModules)=false
section
variable{S:aP}{w:World}{f:Fm}{u:Nat}{Lc:Loc}{H:MH}{Q:QF}{QE:QV}{X:QX}{a:Addr}{es:List (List Nat×List Nat)}
def HZ{prog:Program}{k:Str}{v:Value}(h:(strKind prog w).is k v=true):∃t,v=.str k t:=by
 cases v<;>first|(simp[PySem.strKind,Value.isStrOf]at h;done)|skip
 rename_i a' t'
 exact⟨t',by rw[show a'=k by simpa[PySem.strKind,Value.isStrOf]using h]⟩
def dU.AZ{x:Str}{k:Nat}{p pos:Pos}{iter:Expr}{body:List Stmt}(SD:TF S w a es)(qt:S.quiet=true)(hs:l9 iter=true)(n:jf f k x)
  (h:aB ⟨S,w,f⟩ u iter Lc H (λv H1=>v=.cls a/\mY ⟨S,w,f⟩ u body (es.map λe Lc=>Lc.set k<|some<|.str e.1) Lc H1 Q) X):dU ⟨S,w,f⟩ u (.For (.Name x p) iter body [] pos) Lc H Q X:=
 λΓ E r A=>wpAny_For (A.go (h _ _ _ A) λxv r1 mv H1 l1 a1 v1 q=>by
  obtain⟨rfl,q⟩:=q
  cases(v1:xv=.ref a)
  obtain⟨o,kvs,hK,d1,rv⟩:=SD.val
  obtain⟨es',ep,dd⟩:=id d1
  have h0:=a1.C.X _ _ hK
  have hax:=a1.T.F.keep _ _ h0
  have hl:a≠r1.s.heap.objs.size:=aae<|Heap.lt_size hax
  have hD:r1.s.heap.DictAt (strKind S.prog w) a kvs ep:=⟨o,es',hax,dd⟩
  refine wpAny_pyIter_dict SD.lo hD ?_
  have T2:St ⟨S,w,f⟩ Γ ⟨r1.φ,r1.m,{r1.s with heap:=r1.s.heap.push {cls:=.type "dict_keyiterator",data:=.fields #[.ref a,.int 0 0,.int kvs.length 0,.int ep 0]}}⟩ Lc H1:=⟨a1.T.F.push _,a1.T.N.grown λ_ _ e=>Heap.get?_push_of_some _ e,a1.T.R,a1.T.loc⟩
  have W:=KTurns.ofWalks (target:=.Name x p) (Walks.dictKeys (knd:=strKind S.prog w) (a1.C.quiet qt) r1.s.heap.objs.size a hl kvs ep) λi v s Q E st q=>letGo_keyiter st.1 q
  have hlen:kvs.length=(es.map λe (Lc:Loc)=>Lc.set k<|some<|.str e.1).length:=by rw[(rv r1.φ).len,List.length_map,List.length_map]
  rw[show KTurns S.prog w Γ.A (.Name x p) r1.s.heap.objs.size [r1.s.heap.objs.size,a] [r1.s.heap.objs.size] kvs.length=KTurns S.prog w Γ.A (.Name x p) r1.s.heap.objs.size [r1.s.heap.objs.size,a] [r1.s.heap.objs.size] (es.map λe (Lc:Loc)=>Lc.set k<|some<|.str e.1).length by rw[<-hlen]]at W
  refine codeAny_mono (qL W (xW (φ':=r1.φ) a1.T rfl (.inr ⟨_,h0⟩) rfl λi h st=>st.1.elim λit z=>⟨it,z.1,lu z.2.1 (by decide)<|by decide⟩) ⟨⟨_,Heap.get?_push_size _ rfl,rfl,rfl⟩,hD.at' λo e=>Heap.get?_push_of_some _ e⟩ ⟨a1.C,a1.rm,T2,λ_ _ _ _ _ _ _ q=>q.elim⟩ (X:=uK) (E:=λ_ _=>True) (λi g v r3 L3 H3 E' R hg hP a3 x3 hq=>?_) q) λo' s z=>oh.out<|uM z l1 ⟨λ_ _ h=>h,λ_ _ m=>m,λ_ _ _ m=>m,rfl⟩ rfl rfl (λr5 L5 H5 mf l5 T5 q=>⟨_,H5,l5.x.pins,⟨⟨λ_ _ h=>h,λ_ _ m=>m,λ_ _ _ m=>m,rfl⟩,T5.R⟩,q⟩) rfl
  rw[List.getElem?_map]at hg
  obtain⟨e,hmv,rfl⟩:=Option.map_eq_some_iff.mp hg
  obtain⟨kk,xx,hk1,hk2⟩:=hP
  have e1:(kvs.map (·.1))[i]?=some kk:=by rw[List.getElem?_map,hk1];rfl
  rw[(rv r1.φ).keys,List.getElem?_map,List.getElem?_map,hmv]at e1
  cases aaf e1
  exact a3.l7 (v:=.str e.1) n (HZ hk2) λr4 l4 _ a4=>hq r4 l4 a4) λx=>kY hs
def aB.A0{value slice:Expr}{pos:Pos}(SD:TF S w a es)(hn:nY slice=true)(h:aB ⟨S,w,f⟩ u value Lc H (λv H1=>aB ⟨S,w,f⟩ u slice Lc H1 (λi H2=>v=.cls a/\qB i λk=>bM (d9 k<|es.map λe=>(e.1,MV.str e.2)) λm=>QE m H2) X) X):aB ⟨S,w,f⟩ u (.Subscript value slice pos) Lc H QE X:=
 λΓ E r A=>Subscript_ (A.go (h _ _ _ A) λo r1 mv H1 l1 a1 v1 q=>a1.go (q _ _ _ a1) λi r2 mi H2 l2 a2 v2 q=>Ei (P:=λmi=>VR r2.φ mi i->wpAny (model S.prog w) Γ.A (subscriptTail value slice o i) (eX r<|pM ⟨S,w,f⟩ Γ Lc VR QE) E r2.s) q.2 (λk y v2=>cX y λm hm y=>SD.val.elim λob z=>z.elim λkvs z=>Kind.dict.B0.elim λid hid=>v2.elim λt e=>by
  rw[q.1]at v1
  cases(v1:o=.ref a)
  subst e
  have hD:r2.s.heap.DictOf (strKind S.prog w) a kvs:=Heap.dictOf_iff.mpr ⟨ob,a2.T.F.keep _ _<|a2.C.X _ _ z.1,z.2.1⟩
  exact lZ (θ:=⟨S,w,f⟩) (Γ:=Γ) (i:=.str (aW k) t) (E:=E) hD.typeIs hid (((z.2.2 r2.φ).get qC (k:=k)).yes hm λx g j=>wpAny_getItem_of (knd:=strKind S.prog w) (strKind_is _ _ _ _) hD.mapOf g<|(a2.tk _).fin (J:=VR) ((l1.trans l2).trans .tk) j y)<|jR hn) v2)
def pZ(es:List<|List Nat×MV)(t:List Nat×List Nat):List (List Nat×MV):=if(d9 t.1 es).isSome then es else nR t.1 (.str t.2) es
def RQ(S:aP)(f:Fm)(s2:Stmt):Bool:=K7 s2 λc bt bo=>l0 bo<|Em c (λl os rs=>l1 os λop=>l1 rs λr=>(op==.NotIn)&&(gQ f 1 l&&m8 S f 0 22 r))&&l1 bt λs3=>uB s3 λts v=>l1 ts λt=>xP t (λa i=>m8 S f 0 22 a&&gQ f 1 i)&&(gW v&&xP v λa i=>nY i&&(m8 S f 0 98 a&&gQ f 1 i))
def Po(S:aP)(f:Fm)(st:Stmt):Bool:=AE st λt i b o=>l0 o<|gr t λk=>iG f 1 k&&(l9 i&&(m8 S f 0 98 i&&l1 b (RQ S f)))
def H9{v:MV}{k i c:Nat}{fs:List (Nat×MV)}{K:QV}(hi:H.at_ i=some (.inst c fs))(hl:fs.lookup k=none)(hc:S.ca c k=some v)(q:K v H):FE S (.ref i) k H K:=by
 show iR (H.at_ i) _
 rw[hi]
 show(fs.lookup k).casesOn _ _
 rw[hl]
 show bM (S.ca c k) _
 rw[hc];exact q
def A1{α:Type}{o:Option α}{x:α}{K:α->Prop}(e:o=some x)(h:K x):bM o K:=e▸h
def Pp{d:Nat}{em:List (List Nat×MV)}{K:List (List Nat×MV)->Prop}(e:H.at_ d=some (.aF em))(h:K em):xG (H.at_ d) K:=e▸h
def Vh(v:MV)(K:Bool->Prop):Prop:=v.casesOn False K (λ_=>False) (λ_=>False) (λ_=>False) (λ_=>False) (λ_ _=>False) (λ_=>False) λ_=>False
def Vi{v:MV}{K:Bool->Prop}{P:MV->Prop}(h:Vh v K)(k:∀b,K b->P (.bool b)):P v:=by cases v<;>first|exact h.elim|exact k _ h
def lU.RO{l r:Expr}{op:CmpOp}{pos:Pos}{QB:Bool->MH->Prop}(hm:behindInMarks op r=false)(h:aB ⟨S,w,f⟩ u l Lc H (λa H1=>aB ⟨S,w,f⟩ u r Lc H1 (λb H2=>dc ⟨S,w,f⟩ u Lc H2 X [a,b] (dN op) VR λv H3=>Vh v λt=>QB t H3) X) X):lU ⟨S,w,f⟩ u (.Compare l [op] [r] pos) Lc H QB X:=
 λΓ E r a=>wpAny_isTrue_Compare1 (a.go (h _ _ _ a) λx r1 m H1 l1 a1 v1 q=>a1.go (q _ _ _ a1) λy r2 n H2 l2 a2 v2 q=>a2.go (q _ _ _ [x,y] a2<|.two (v1.ext l2.x) v2) λv r3 b H3 l3 a3 v3 q=>Vi (P:=λb=>VR r3.φ b v->wpAny (model S.prog w) Γ.A (truthy v) (eX r<|pM ⟨S,w,f⟩ Γ Lc Xf QB) E r3.s) q (λt q v3=>by cases(v3:v=.bool t);exact wpAny_truthy_bool<|a3.fin (l1.trans<|l2.trans l3) rfl q) v3) hm
def Ia{s2:Stmt}{p c d:Nat}{fs:List (Nat×MV)}{em:List (List Nat×MV)}{t:List Nat×List Nat}(O:bL S w)(SD:TF S w a es)(hb:RQ S f s2=true)(h0:Lc[0]?=some (some<|.ref p))(hk:Lc[1]?=some (some<|.str t.1))(hi:H.at_ p=some (.inst c fs))(hca:S.ca c 98=some (.cls a))(RT:fs.lookup 98=none)(h22:fs.lookup 22=some (.ref d))(hd:H.at_ d=some (.aF em))(hlen:em.length<jO)(ht:d9 t.1 (es.map λe=>(e.1,MV.str e.2))=some (.str t.2))
  (hy:(d9 t.1 em).isSome=true->Q .next Lc H)(hq:(d9 t.1 em).isSome=false->Q .next Lc (H.put d<|.aF<|nR t.1 (.str t.2) em)):ko ⟨S,w,f⟩ u [s2] Lc H Q X:=
 GF hb λc bt bo p0 e0 d0=>e0▸iE d0 λe0 d0=>e0.symm▸rH (bl d0) λl os rs p2 e0 d1=>e0▸jk d1 λop e0 d1=>e0▸jk d1 λr e0 d1=>e0▸jk (br d0) λs3 e0 d2=>e0▸lX d2 λts v p3 e0 d2=>e0▸jk d2 λtt e0 d2=>e0▸lW (bl d2) λa1 i1 p4 e0 d3=>e0▸be (bl d1)▸
  have go:(d9 t.1 em).isSome=false->dU ⟨S,w,f⟩ u (.Assign [.Subscript a1 i1 p4] v p3) Lc H (qJ (λL' H'=>ko ⟨S,w,f⟩ u [] L' H' (qJ (λL' H'=>ko ⟨S,w,f⟩ u [] L' H' Q X) Q) X)<|qJ (λL' H'=>ko ⟨S,w,f⟩ u [] L' H' Q X) Q) X:=λhg=>dU.uI (bl<|br d2) (lW (br<|br d2) λa2 i2 p5 e0 d4=>e0▸aB.A0 SD (bl d4) (aB.m8 O (bl<|br d4) h0<|H9 hi RT hca<|aB.gQ (br<|br d4) hk ⟨rfl,A1 ht<|aB.m8 O (bl d3) h0<|uP (K:=λov H2=>aB ⟨S,w,f⟩ u i1 Lc H2 (λiv H3=>vP ov iv _ H3 _) X) hi h22<|aB.gQ (br d3) hk<|Pp hd ⟨hlen,ko.nil<|ko.nil<|hq hg⟩⟩))
  ko.cons (dU.ite (lU.RO (f7 (br<|br d1) λ_ _ _ e _=>e▸rfl) (aB.gQ (bl<|br d1) hk (aB.m8 O (br<|br d1) h0 (uP hi h22 ((Oh _).Ol hd (by
   cases hg:(d9 t.1 em).isSome with
   |true=>exact ko.nil<|ko.nil<|hy hg
   |false=>exact ko.cons<|go hg)))))))
def MH.Ib{i:Nat}{o:MO}(h:H.at_ i=some o):H.put i o=H:=aac (MH.mk H.n) (funext λj=>by
 by_cases e:j=i
 ·rw[aam e,e,h]
 ·exact aal e)
def MH.Mq{i:Nat}{o o':MO}:(H.put i o).put i o'=H.put i o':=aac (MH.mk H.n) (funext λj=>by
 by_cases e:j=i
 ·rw[aam e,aam e]
 ·exact(aal e).trans ((aal e).trans (aal e).symm))
def A2{em:List (List Nat×MV)}{t:List Nat×List Nat}:(pZ em t).length<=em.length+1:=by
 unfold pZ nR
 split
 ·exact Nat.le_succ _
 ·split<;>simp
def wN{s2:Stmt}{p c d:Nat}{fs:List (Nat×MV)}{em:List (List Nat×MV)}{t:List Nat×List Nat}(O:bL S w)(SD:TF S w a es)(hb:RQ S f s2=true)(h0:Lc[0]?=some (some<|.ref p))(hk:Lc[1]?=some (some<|.str t.1))(hi:H.at_ p=some (.inst c fs))(hca:S.ca c 98=some (.cls a))(RT:fs.lookup 98=none)(h22:fs.lookup 22=some (.ref d))(hd:H.at_ d=some (.aF em))(hlen:em.length<jO)(ht:d9 t.1 (es.map λe=>(e.1,MV.str e.2))=some (.str t.2))
  (hq:Q .next Lc<|H.put d<|.aF<|pZ em t):ko ⟨S,w,f⟩ u [s2] Lc H Q X:=
 Ia O SD hb h0 hk hi hca RT h22 hd hlen ht (λg=>by rw[pZ,aam g,MH.Ib hd]at hq;exact hq) λg=>by rw[pZ,aal<|by rw[g];exact aap]at hq;exact hq
def Mr{st:Stmt}{p c d:Nat}{fs:List (Nat×MV)}{em:List (List Nat×MV)}{t1 t2:List Nat×List Nat}(O:bL S w)(SD:TF S w a [t1,t2])(g1:d9 t1.1 ([t1,t2].map λe=>(e.1,MV.str e.2))=some (.str t1.2))(g2:d9 t2.1 ([t1,t2].map λe=>(e.1,MV.str e.2))=some (.str t2.2))(qt:S.quiet=true)(hb:Po S f st=true)
  (h0:Lc[0]?=some (some<|.ref p))(hl:1<Lc.length)(hi:H.at_ p=some (.inst c fs))(hca:S.ca c 98=some (.cls a))(RT:fs.lookup 98=none)(h22:fs.lookup 22=some (.ref d))(hd:H.at_ d=some (.aF em))(hlen:em.length<100)(hq:Q .next (Lc.set 1<|some<|.str t2.1)<|H.put d<|.aF<|pZ (pZ em t1) t2):dU ⟨S,w,f⟩ u st Lc H Q X:=
 have pd:p≠d:=λe=>by rw[<-e,hi]at hd;cases hd
 have z0:∀v,(Lc.set 1<|some v)[0]?=some (some<|.ref p):=λv=>(List.getElem?_set_ne<|by decide).trans h0
 have z1:∀v,(Lc.set 1<|some v)[1]?=some (some v):=λv=>List.getElem?_set_self hl
 uC hb λtt ii b o p0 e0 d0=>e0▸iE d0 λe0 d0=>e0▸bh d0 λk p1 e0 d0=>e0▸jk (br<|br<|br d0) λs2 e0 d1=>e0▸dU.AZ SD qt (bl<|br d0) (bY<|bl d0) (aB.m8 O (bl<|br<|br d0) h0 (H9 hi RT hca ⟨rfl,
  wN (Q:=mQ _ Q) (t:=t1) O SD d1 (z0 _) (z1 _) hi hca RT h22 hd (aar hlen<|by decide) g1 (wN (Q:=mQ _ Q) (t:=t2) O SD d1 ((aac (·[0]?)<|List.set_set _).trans<|z0 _) ((aac (·[1]?)<|List.set_set _).trans<|z1 _) ((aal pd).trans hi) hca RT h22 (aam rfl) (H8 A2<|H8 hlen<|by decide) g2 (by
   show Q .next ((Lc.set 1<|some<|.str t1.1).set 1<|some<|.str t2.1) ((H.put d _).put d _)
   rw[List.set_set,MH.Mq];exact hq))⟩))
end
noncomputable def zq(sc:Scope):Bool:=sc.names.all λz=>(z.2==.local)&&(sc.names.lookup z.1==some .local)
def XY(n:Int)(x:Str)(e:Expr):Bool:=Gx e λl o r=>(o==.Mod)&&(gr l (λy=>y==x)&&tB r λc=>c==.int n)
def Pq(n:Int)(e:Expr)(k:Expr->Bool):Bool:=QS e λelt cs scope=>l1 cs λc=>l0 c.ifs<|(c.is_async==0)&&gr c.target λx=>XY n x elt&&((scope.kind==.function)&&(zq scope&&((scope.names.lookup x==some .local)&&(l9 c.iter&&(!(x==("__debug__":Str))&&k c.iter)))))
def x8{sc:Scope}{env:Env}(h:zq sc=true):closureFor sc env=pure []:=by
 have:∀l:List<|Str×NameKind,(l.all λz=>(z.2==.local)&&(sc.names.lookup z.1==some .local))=true->∀cs:List<|Str×Addr,
   (forIn l cs λ(x:Str×NameKind) (cs:List (Str×Addr))=>(if(x.2==.free)=true then(do let a<-cellOf env x.1;pure<|ForInStep.yield<|(x.1,a)::cs)else pure (ForInStep.yield cs):Sem<|ForInStep<|List<|Str×Addr))=pure cs:=by
  intro l
  induction l with
  |nil=>intro _ cs;rfl
  |cons z r ih=>
   intro hl cs
   rw[List.forIn_cons,be<|bl<|bl hl]
   exact(pure_bind _ _).trans (ih (br hl) cs)
 exact(bind_pure _).trans (this sc.names h [])
abbrev Vj(n:Int)(v y:Value):Prop:=∀i t,v=Value.int i t->∃t',y=Value.int (i.fmod n) t'
def A3{φ φ':dD}{n:Int}(xs:List Int):∀{vs ys:List Value},cK φ (xs.map MV.int) vs->Paired (Vj n) vs ys->cK φ' (xs.map λi=>MV.int<|i.fmod n) ys:=by
 induction xs with
 |nil=>intro vs ys h p;cases h;cases p;rfl
 |cons x xs ih=>
  exact λh p=>dG h λw r e a b=>a.elim λt e'=>by
   rw[e,e']at p
   cases p with
   |cons f p=>exact(f x t rfl).elim λt' e=>iX ⟨t',e⟩<|ih b p
def cK.ints_get{φ:dD}{xs:List Int}{vs:List Value}(h:cK φ (xs.map MV.int) vs){i:Nat}{v:Value}(hv:vs[i]?=some v):∃x t,v=.int x t:=by
 have l:i<xs.length:=by have:=(List.getElem?_eq_some_iff.mp hv).1;rw[h.length,List.length_map]at this;exact this
 exact h.get (i:=i) (v:=.int xs[i]) (by rw[List.getElem?_map,List.getElem?_eq_getElem l];rfl) λwv h1 h2=>by
  cases hv.symm.trans h1
  exact⟨_,h2⟩
section
variable{S:aP}{w:World}{f:Fm}{u:Nat}{Lc:Loc}{H:MH}{QE:QV}{X:QX}
def A4{α:Type}{vs vs':List α}(hl:vs'.length=vs.length)(h:∀(i:Nat) (x:α),vs'[i]?=some x->vs[i]?=some x):vs'=vs:=List.ext_getElem? λi=>by
 cases e:vs'[i]? with
 |some x=>exact(h i x e).symm
 |none=>exact(List.getElem?_eq_none<|hl▸List.getElem?_eq_none_iff.mp e).symm
def aB.comp{n:Int}{e:Expr}{k:Expr->Bool}(hb:Pq n e k=true)(hn:n≠0)(qt:S.quiet=true)
  (h:∀iter,k iter=true->aB ⟨S,w,f⟩ u iter Lc H (λv H1=>iZ v λj=>∃xs:List Int,H1.at_ j=some (.list<|xs.map MV.int)/\QE (.ref H1.n) (H1.new<|.list<|xs.map λi=>MV.int<|i.fmod n)) X):aB ⟨S,w,f⟩ u e Lc H QE X:=λΓ E r A=>
 QW hb λelt cs scope pos z0 hb=>jk hb λcc z1 hb=>iE hb λz2 hb=>bh (br hb) λx px z3 hc=>xO (bl hc) λl o r0 pb z4 hd=>bh (bl<|br hd) λy py z5 hy=>gp (br<|br hd) λc kk pc z6 hcc=>by
 have h3:=be<|bl<|br hc
 have h4:=bl<|br<|br hc
 have h5:=be<|bl<|br<|br<|br hc
 have h6:=bl<|br<|br<|br<|br hc
 have h7:=bn<|bl<|br<|br<|br<|br<|br hc
 have h:=h _<|br<|br<|br<|br<|br<|br hc
 obtain⟨tt,iter,ifs,ia⟩:=cc
 cases(z2:ifs=[])
 cases(z3:tt=.Name x px)
 cases(be (bl hb):ia=0)
 rw[z0,z1,z4,z5,z6,be<|bl hd,be hy,be hcc]
 have hloc:∀y∈scope.names,y.2=.local/\scope.names.lookup y.1=some .local:=λy hy=>have z:=List.all_eq_true.mp h4 y hy;⟨be<|bl z,be<|br z⟩
 refine wpAny_ListComp_free (cl:=[]) (λ_=>true) (Vj n) (x8 h4) (λy hy e=>by rw[(hloc y hy).1]at e;cases e) h3 (λy hy _=>(hloc y hy).2) h5 (A.go (h _ _ _ A) λxv r1 mv H1 l1 a1 v1 q=>?_) λx=>kY h6
 refine rF (P:=λmv=>VR r1.φ mv xv->wpAny (model S.prog w) Γ.A (pyIter xv) _ E r1.s) q (λj q v1=>q.elim λxs q=>eY (P:=λxv=>wpAny (model S.prog w) Γ.A (pyIter xv) _ E r1.s) v1 λp hp=>d8.sG (a1.T.R.obj j _ q.1) a1 (λ_ h=>h) hp λvs nn m1 hl rv len hlen=>wpAny_pyIter_list hl ?_) v1
 have hax:=a1.T.N _ m1
 have hlt:p.1<r1.s.heap.objs.size:=Heap.lt_size hax.1
 have hne:=aae hlt
 refine⟨r1.s.heap.objs.size,[r1.s.heap.objs.size,p.1],[r1.s.heap.objs.size],vs.toArray.size,_,_,rfl,Walks.list (a1.C.quiet qt) r1.s.heap.objs.size p.1 hne vs.toArray,by rw[List.size_toArray,sizeLine_eq,hlen];exact av len (by decide),⟨⟨_,Heap.get?_push_size _ rfl,rfl,rfl⟩,hl.at λo e=>Heap.get?_push_of_some _ e⟩,λb hb=>?_,⟨?_,?_⟩,?_⟩
 ·show b<(r1.s.heap.push _).objs.size
  rw[Heap.size_push]
  exact(aab.mp hb).elim (λe=>e▸Nat.lt_succ_self _) λhb=>aaa.mp hb▸aaw hlt
 ·intro Cc i v s₃ m₃ E' _ _ _ _ _ _
  rw[List.forIn_nil]
  exact aao ⟨rfl,s₃.heap,s₃.toks,rfl,λ_ _ e=>e⟩
 ·intro Cc i v s₃ m₃ E' _ hP _ hns hm _ _
  have hv:vs[i]?=some v:=List.getElem?_toArray▸(hP:vs.toArray[i]?=some v)
  exact(rv.ints_get hv).elim λx' z=>z.elim λt e=>by
   subst e
   exact wpAny_BinOp<|wpAny_Name (wpAny_loadName_local (by show scope.kind=.function;exact h3) (lookup_relabel_local h5) hns hm<|wpAny_Constant_int<|mod_int' hn ⟨λi t e=>by cases e;exact⟨_,rfl⟩,s₃.heap,_,rfl,λ_ _ e=>e⟩) h7
 ·intro D h' tk ys vs' hD hLs hPl hlen' hP hF hk
  have evs:vs'=vs:=A4 (by rw[hlen'];rfl) λi x e=>List.getElem?_toArray▸(hP i x e:vs.toArray[i]?=some x)
  rw[evs,List.filter_eq_self.mpr λ_ _=>rfl]at hF
  have rr:=λφ'=>A3 (φ':=φ') xs rv hF
  have k1:∀b o,r1.s.heap.get? b=some o->h'.get? b=some o:=λb o e=>hk b o (by rw[aaa];exact aae<|Heap.lt_size e)<|Heap.get?_push_of_some _ e
  have RU:∀b o,r1.s.heap.get? b=some o->b≠D:=λb o e q=>by have:=Heap.get?_push_of_some {cls:=.type "list_iterator",data:=.fields #[.ref p.1,.int 0 0]} e;rw[q,hD]at this;cases this
  obtain⟨nn',hPl⟩:=hPl
  have hDh:Γ.h₀.get? D=none:=by
   cases z:Γ.h₀.get? D with
   |none=>rfl
   |some o=>exact aan rfl<|RU D o<|a1.T.F.keep _ _ z
  have hDL:D≠Γ.L:=a1.T.F.ns.elim λoL z=>z.elim λ_ z=>z.elim λ_ z=>Ne.symm<|RU Γ.L oL z.1
  have Z:=a1.new (o:=.list<|xs.map λi=>MV.int<|i.fmod n) (d:=D) (e:=D) (more:=[(D,listOf ys nn')]) (h':=h') (tk:=tk) (List.nodup_cons.mpr ⟨(by intro h;cases h),List.Pairwise.nil⟩) (λq hq p' qy=>aaa.mp hq▸RU _ _ (a1.T.N p' qy).1) ⟨_,.head _⟩ ⟨_,.head _⟩ rfl (a1.T.F.keeps k1)
   (λq hq=>(aab.mp hq).elim (λe=>e▸⟨hPl,hDL,hDh⟩) λhq=>⟨k1 _ _ (a1.T.N q hq).1,(a1.T.N q hq).2⟩) λX=>d8.mk D ys.toList nn' dD.o8 (.head _) (rr _)<|by rw[List.length_map]at len⊢;exact len
  exact Z.a.fin (J:=VR) (b:=.ref H1.n) (v:=.ref D) (l1.trans Z.l) dD.j7 q.2
end
def Vk(n:Nat):uG n 8=min 8 n:=by
 show(max (0:Int)<|min (if(8:Int)<0 then 8+n else 8) n).toNat=min 8 n
 rw[aal (by decide),show min (8:Int) (n:Int)=((min 8 n:Nat):Int)from(by rcases Nat.le_total 8 n with h|h;rw[Nat.min_eq_left h];exact Int.min_eq_left (Int.ofNat_le.mpr h);rw[Nat.min_eq_right h];exact Int.min_eq_right (Int.ofNat_le.mpr h)),Int.max_eq_right (Int.natCast_nonneg _)];rfl
def Vl{α:Type}(l:List α):qI l none (some 8)=l.take 8:=by
 show(l.drop 0).take (uG l.length 8-0)=l.take 8
 rw[List.drop_zero,Nat.sub_zero,Vk,List.take_eq_take_iff]
 exact(Nat.min_eq_left<|Nat.min_le_right ..)
def Pr(f:Fm)(n:Int)(kx kl:Nat)(st:Stmt):Bool:=AE st λt e b o=>l0 o<|gr t λx=>iG f kx x&&(l9 e&&Pq n e λit=>xP it λa s=>gQ f kl a&&K5 s λlo hi sp=>o0 lo<|o0 sp<|o1 hi λh=>tB h λc=>c==.int 8)
def uc(WB:Loc->MH->QF->QX->Prop)(k:Nat)(Q:QF)(ns:List Int):Loc->MH->Prop:=ns.rec (λL H=>Q .next L H) λn _ ih L H=>WB (L.set k<|some<|.int n) H (mQ ih Q) uK
section
variable{S:aP}{w:World}{f:Fm}{u:Nat}{Lc:Loc}{H:MH}{Q:QF}{X:QX}
def A5{WB:Loc->MH->QF->QX->Prop}{body:List Stmt}{k:Nat}(J5:∀L H Q X,WB L H Q X->ko ⟨S,w,f⟩ u body L H Q X)(ns:List Int):∀{L H},uc WB k Q ns L H->mY ⟨S,w,f⟩ u body (ns.map λn Lc=>Lc.set k<|some<|.int n) L H Q:=by
 induction ns with
 |nil=>exact λh=>h
 |cons n ns ih=>exact λh=>AK.mono (J5 _ _ _ _ h) λmf L' H' q=>HH q λ_ _ q=>ih q
def Ms{st:Stmt}{n:Int}{kx kl j:Nat}{xs:List Int}{WB:Loc->MH->QF->QX->Prop}(hb:Pr f n kx kl st=true)(hn:n≠0)(qt:S.quiet=true)(J5:∀L H Q X,WB L H Q X->ko ⟨S,w,f⟩ u (qM st) L H Q X)(h1:Lc[kl]?=some (some<|.ref j))(hj:H.at_ j=some (.s9<|xs.map MV.int))
  (h:uc WB kx Q ((xs.take 8).map λi=>i.fmod n) Lc<|((H.new<|.list<|(xs.map MV.int).take 8).new<|.list<|(xs.take 8).map λi=>MV.int<|i.fmod n).del<|H.n+1):dU ⟨S,w,f⟩ u st Lc H Q X:=
 uC hb λtt e body o pos z0 hb=>iE hb λz1 hb=>bh hb λx p z2 hb=>by
 have z:=A5 J5 _ h
 rw[z0]at z⊢
 rw[z1,z2]
 rw[List.map_map]at z
 refine dU.ze qt (bl<|br hb) (bY<|bl hb)<|aB.comp (br<|br hb) hn qt λiter hi=>lW hi λa s p2 e hi=>e▸GA (br hi) λlo h8 sp p3 e h9=>e▸GH h9 λe h9=>e.symm▸GH h9 λe h9=>e.symm▸xR h9 λh8' e h9=>e▸gp h9 λc kk p4 e h9=>e▸be h9▸aB.slice (aB.gQ (bl hi) h1<|aB.const_int ?_)
 show iP (H.at_ j) noI _ _ _ _ _
 rw[hj]
 refine⟨xs.take 8,(aam rfl).trans (by rw[Vl,List.map_take]),?_⟩
 rw[Vl]
 show gm (if H.n+1=H.n+1 then _ else _) _
 rw[aam rfl]
 show mY _ _ _ (List.map _<|List.map _ _) _ _ _
 rw[List.map_map]
 exact z
end
section
variable{prog:Program}{w:World}{A:Around}{E:Value->Shared->Prop}{s:Shared}
def Ic:SlotG "str" (Str.ofString "__repr__") "str.__repr__":=PySem.F.slot_str_repr.toG
def pQ{x:Str}{t:Tok}{b:Nat}{Q:Value->Shared->Prop}(hx:(reprText x).length<=sizeLine)(h:Q (.str (reprText x) s.toks) {s with toks:=s.toks+1}):wpAny (model prog w) A (pyReprObjUnder b<|.str x t) Q E s:=by
 have hT:s.TypeIs (.str x t) "str":=rfl
 unfold pyReprObjUnder pyReprObjBy
 simp only[cRoomFor,show[Value.str x t].any Value.onHeap=false from rfl,Bool.false_eq_true,if_false,pure_bind]
 refine gf<|wpAny_specialOf (name:=Str.ofString "__repr__") hT PySem.F.slot_str_repr.lookup ?_
 refine gf<|wpAny_callSpecialIfBoundBy?_slotG (name:=Str.ofString "__repr__") hT Ic ?_
 show wpAny _ _ (call (.builtin "str.__repr__") [.str x t]) _ _ _
 refine call_gives PySem.F.slot_str_repr hT PySem.F.entry_str_repr (PySem.F.args_str_repr_1 _) (gives_str_repr x t) ⟨hx,?_⟩
 exact gf<|wpAny_isInstance (T:="str") (b:=true) rfl isSubtype_str_str<|aao h
end
open Builtin Builtin.Str in
def Mt{t u:Tok}{z:Str}(hz:(reprText z).length<=100000):Meets («str.__mod__» ⟨[.str ⟨#[101,120,112,101,99,116,101,100,32,39,60,100,111,99,117,109,101,110,116,32,115,116,97,114,116,62,39,44,32,98,117,116,32,102,111,117,110,100,32,37,114]⟩ t,.str z u],[]⟩) (λ_ R s=>∀t' k,R (.ok<|.ret<|.str (Str.ofString "expected '<document start>', but found "++reprText z) t') {s with toks:=k}):=by
 apply KPc.meets_of
 intro _ _ _ _ _ _ hq
 rw[KPc.entry_is_s]
 unfold Builtin.Str.percentFormat
 refine gf<|wpAny_isInstance (typeIs_str _ _ _) PySem.F.sub_str_tuple ?_
 refine gf<|wpAny_of_eq (a:=some _) rfl ?_
 refine gf<|KPc.wp_fills_str ?_
 intro _
 kpc_if
 refine gf<|aao ?_
 refine gf ?_
 rw[KPc.range_list]
 refine KPc.start ?_
 intro _ _
 refine KPc.turn ?_;kpc_check;(repeat kpc_if)
 refine aao ?_;kpc_piece
 refine KPc.turn ?_;kpc_check;(repeat kpc_if)
 refine gf ?_;refine aax ?_;(repeat kpc_if)
 refine gf ?_
 (repeat kpc_if)
 refine pQ (by rw[sizeLine_eq];omega) ?_
 refine gf<|wpAny_of_eq (a:=some _) rfl ?_
 refine aao ?_
 refine aao ?_
 refine KPc.after_str (K:=100000) (by kpc_g) hz (by kpc_obj) ?_
 intro _ _
 refine KPc.turn ?_;kpc_check;(repeat kpc_if)
 kpc_close
open Builtin Builtin.Str in
def Mu{t u:Tok}{z:Str}(hz:(reprText z).length<=100000):Meets («str.__mod__» ⟨[.str ⟨#[100,117,112,108,105,99,97,116,101,32,116,97,103,32,104,97,110,100,108,101,32,37,114]⟩ t,.str z u],[]⟩) (λ_ R s=>∀t' k,R (.ok<|.ret<|.str (Str.ofString "duplicate tag handle "++reprText z) t') {s with toks:=k}):=by
 apply KPc.meets_of
 intro _ _ _ _ _ _ hq
 rw[KPc.entry_is_s]
 unfold Builtin.Str.percentFormat
 refine gf<|wpAny_isInstance (typeIs_str _ _ _) PySem.F.sub_str_tuple ?_
 refine gf<|wpAny_of_eq (a:=some _) rfl ?_
 refine gf<|KPc.wp_fills_str ?_
 intro _
 kpc_if
 refine gf<|aao ?_
 refine gf ?_
 rw[KPc.range_list]
 refine KPc.start ?_
 intro _ _
 refine KPc.turn ?_;kpc_check;(repeat kpc_if)
 refine aao ?_;kpc_piece
 refine KPc.turn ?_;kpc_check;(repeat kpc_if)
 refine gf ?_;refine aax ?_;(repeat kpc_if)
 refine gf ?_
 (repeat kpc_if)
 refine pQ (by rw[sizeLine_eq];omega) ?_
 refine gf<|wpAny_of_eq (a:=some _) rfl ?_
 refine aao ?_
 refine aao ?_
 refine KPc.after_str (K:=100000) (by kpc_g) hz (by kpc_obj) ?_
 intro _ _
 refine KPc.turn ?_;kpc_check;(repeat kpc_if)
 kpc_close
def ES:List Str:=[q "name",q "stream",q "stream_pointer",q "eof",q "buffer",q "pointer",q "raw_buffer",q "raw_decode",q "encoding",q "index",q "line",q "column",q "done",q "flow_level",q "tokens",q "tokens_taken",q "indent",q "indents",q "allow_simple_key",q "possible_simple_keys",q "current_event",q "yaml_version",q "tag_handles",q "states",q "marks",q "state",q "context",q "context_mark",q "problem",q "problem_mark",q "note",q "start_mark",q "end_mark",q "value",q "plain",q "style",q "anchor",q "explicit",q "version",q "tags",q "tag",q "implicit",q "check_printable",q "update",q "token_number",q "required",q "mark",q "fetch_stream_start",q "need_more_tokens",q "fetch_more_tokens",q "id",q "stale_possible_simple_keys",q "next_possible_simple_key",q "scan_to_next_token",q "unwind_indent",q "peek",q "fetch_stream_end",q "check_directive",q "fetch_directive",q "check_document_start",q "fetch_document_start",q "check_document_end",q "fetch_document_end",q "check_block_entry",q "check_key",q "check_value",q "fetch_alias",q "fetch_single",q "fetch_double",q "check_plain",q "fetch_plain",q "remove_possible_simple_key",q "get_mark",q "scan_directive",q "fetch_document_indicator",q "forward",q "save_possible_simple_key",q "scan_anchor",q "fetch_flow_scalar",q "scan_flow_scalar",q "scan_plain",q "prefix",q "scan_line_break",q "scan_directive_name",q "scan_yaml_directive_value",q "scan_tag_directive_value",q "scan_directive_ignored_line",q "scan_yaml_directive_number",q "scan_tag_directive_handle",q "scan_tag_directive_prefix",q "scan_tag_handle",q "scan_tag_uri",q "scan_flow_scalar_non_spaces",q "scan_plain_spaces",q "parse_stream_start",q "get_token",q "parse_implicit_document_start",q "check_token",q "DEFAULT_TAGS",q "peek_token",q "parse_document_end",q "parse_block_node",q "parse_document_start",q "process_directives",q "parse_document_content",q "process_empty_scalar",q "parse_node",q "get_event"]
noncomputable def Vm:List (Nat×List Nat):=[(53,[0,9,10,11,4,5]),(763,[44,45,9,10,11,46]),(179,[31,32,8]),(191,[31,32]),(147,[31,32]),(159,[31,32]),(342,[33,31,32]),(135,[0,33,31,32]),(400,[33,34,31,32,35]),(501,[31,32,8]),(533,[31,32,37,38,39]),(513,[31,32]),(553,[31,32,37]),(565,[36,31,32]),(585,[36,40,41,33,31,32,35]),(1521,[20,21,22,23,24,25,12,13,14,15,16,17,18,19,0,1,2,3,4,5,6,7,8,9,10,11])]
noncomputable def XZ:List (Nat×Nat):=[(42,720),(43,727),(47,869),(48,813),(49,820),(51,834),(52,827),(53,1100),(54,855),(55,690),(56,876),(57,1051),(58,883),(59,1058),(60,890),(61,1065),(62,897),(63,1072),(66,981),(67,1023),(68,1030),(69,1093),(70,1044),(71,848),(72,713),(73,1107),(74,904),(75,706),(76,841),(77,1163),(78,1037),(79,1212),(80,1243),(81,698),(82,1278),(83,1114),(84,1121),(85,1135),(86,1156),(87,1128),(88,1142),(89,1149),(90,1257),(91,1264),(92,1222),(93,1250),(94,1340),(95,806),(96,1347),(97,792),(99,799),(100,1361),(101,1382),(102,1354),(103,1375),(104,1368),(105,1518),(106,1404),(107,1333)]
noncomputable def RV:List (Nat×Nat×MV):=[(179,50,.str [60,115,116,114,101,97,109,32,115,116,97,114,116,62]),(191,50,.str [60,115,116,114,101,97,109,32,101,110,100,62]),(147,50,.str [60,100,111,99,117,109,101,110,116,32,115,116,97,114,116,62]),(159,50,.str [60,100,111,99,117,109,101,110,116,32,101,110,100,62]),(342,50,.str [60,97,108,105,97,115,62]),(135,50,.str [60,100,105,114,101,99,116,105,118,101,62]),(400,50,.str [60,115,99,97,108,97,114,62]),(1521,98,.cls 1304)]
noncomputable def X3:List (Nat×Nat×MV):=[(135,50,.str [60,100,105,114,101,99,116,105,118,101,62]),(147,50,.str [60,100,111,99,117,109,101,110,116,32,115,116,97,114,116,62]),(159,50,.str [60,100,111,99,117,109,101,110,116,32,101,110,100,62]),(179,50,.str [60,115,116,114,101,97,109,32,115,116,97,114,116,62]),(191,50,.str [60,115,116,114,101,97,109,32,101,110,100,62]),(203,50,.str [60,98,108,111,99,107,32,115,101,113,117,101,110,99,101,32,115,116,97,114,116,62]),(215,50,.str [60,98,108,111,99,107,32,109,97,112,112,105,110,103,32,115,116,97,114,116,62]),(227,50,.str [60,98,108,111,99,107,32,101,110,100,62]),(239,50,.str [91]),(251,50,.str [123]),(263,50,.str [93]),(275,50,.str [125]),(287,50,.str [63]),(299,50,.str [58]),(311,50,.str [45]),(323,50,.str [44]),(342,50,.str [60,97,108,105,97,115,62]),(361,50,.str [60,97,110,99,104,111,114,62]),(380,50,.str [60,116,97,103,62]),(400,50,.str [60,115,99,97,108,97,114,62])]
noncomputable def Ie:List (Nat×Nat):=[(53,35),(763,760),(179,176),(191,111),(147,111),(159,111),(342,339),(135,132),(400,397),(501,498),(533,530),(513,417),(553,550),(565,446),(585,582),(1521,1312)]
noncomputable def Vn:List (Nat×Nat×Bool):=[(501,469,false),(501,481,false),(501,501,true),(501,513,false),(501,533,false),(501,553,false),(501,565,false),(501,585,false),(501,597,false),(501,609,false),(501,621,false),(501,633,false),(533,469,false),(533,481,false),(533,501,false),(533,513,false),(533,533,true),(533,553,false),(533,565,false),(533,585,false),(533,597,false),(533,609,false),(533,621,false),(533,633,false),(513,469,false),(513,481,false),(513,501,false),(513,513,true),(513,533,false),(513,553,false),(513,565,false),(513,585,false),(513,597,false),(513,609,false),(513,621,false),(513,633,false),(553,469,false),(553,481,false),(553,501,false),(553,513,false),(553,533,false),(553,553,true),(553,565,false),(553,585,false),(553,597,false),(553,609,false),(553,621,false),(553,633,false),(565,469,false),(565,481,false),(565,501,false),(565,513,false),(565,533,false),(565,553,false),(565,565,true),(565,585,false),(565,597,false),(565,609,false),(565,621,false),(565,633,false),(585,469,false),(585,481,false),(585,501,false),(585,513,false),(585,533,false),(585,553,false),(585,565,false),(585,585,true),(585,597,false),(585,609,false),(585,621,false),(585,633,false)]
def X6:List (Str×Value):=[(q "Mark",.ref 53),(q "YAMLError",.ref 67),(q "MarkedYAMLError",.ref 95),(q "Token",.ref 114),(q "DirectiveToken",.ref 135),(q "DocumentStartToken",.ref 147),(q "DocumentEndToken",.ref 159),(q "StreamStartToken",.ref 179),(q "StreamEndToken",.ref 191),(q "BlockSequenceStartToken",.ref 203),(q "BlockMappingStartToken",.ref 215),(q "BlockEndToken",.ref 227),(q "FlowSequenceStartToken",.ref 239),(q "FlowMappingStartToken",.ref 251),(q "FlowSequenceEndToken",.ref 263),(q "FlowMappingEndToken",.ref 275),(q "KeyToken",.ref 287),(q "ValueToken",.ref 299),(q "BlockEntryToken",.ref 311),(q "FlowEntryToken",.ref 323),(q "AliasToken",.ref 342),(q "AnchorToken",.ref 361),(q "TagToken",.ref 380),(q "ScalarToken",.ref 400),(q "Event",.ref 427),(q "NodeEvent",.ref 449),(q "CollectionStartEvent",.ref 469),(q "CollectionEndEvent",.ref 481),(q "StreamStartEvent",.ref 501),(q "StreamEndEvent",.ref 513),(q "DocumentStartEvent",.ref 533),(q "DocumentEndEvent",.ref 553),(q "AliasEvent",.ref 565),(q "ScalarEvent",.ref 585),(q "SequenceStartEvent",.ref 597),(q "SequenceEndEvent",.ref 609),(q "MappingStartEvent",.ref 621),(q "MappingEndEvent",.ref 633),(q "ReaderError",.ref 659),(q "Reader",.ref 730),(q "ScannerError",.ref 744),(q "SimpleKey",.ref 763),(q "Scanner",.ref 1281),(q "ParserError",.ref 1293),(q "Parser",.ref 1521),(q "_is_printable",.ref 668),(q "_law_ENDS",.ref 1530),(q "_law_ROWS",.ref 1537),(q "_law_DIRECTIVES",.ref 1544),(q "_law_flag",.ref 1551),(q "_law_mark",.ref 1558),(q "_law_told",.ref 1565),(q "_law_behind",.ref 1572),(q "_law_closed",.ref 1579),(q "_law_plain",.ref 1586),(q "_law_fold",.ref 1593),(q "_law_fits",.ref 1600),(q "len",.builtin "len"),(q "isinstance",.builtin "isinstance"),(q "int",.type "int"),(q "list",.type "list"),(q "str",.type "str"),(q "enumerate",.type "enumerate")]
noncomputable def jt:Nat:=1521
def ET(c k:Nat):Bool:=match Vm.lookup c with
 |some l=>l.contains k
 |none=>false
def Ig(c k:Nat):Option Nat:=if c=jt then XZ.lookup k else none
def Mv(c d:Nat):Option Bool:=(Vn.find? λx=>x.1==c&&x.2.1==d).map (·.2.2)
noncomputable def find3(l:List<|Nat×Nat×MV)(c k:Nat):Option MV:=(l.find? λx=>x.1==c&&x.2.1==k).map (·.2.2)
noncomputable def gZ:List (List Nat×MV):=[
 ([37,89,65,77,76,32,49,46,49],.tup [.str [118,101,114,115,105,111,110],.tup [.int 1,.int 1]]),
 ([37,89,65,77,76,32,49,46,51],.tup [.str [118,101,114,115,105,111,110],.tup [.int 1,.int 3]]),
 ([37,89,65,77,76,32,50,46,48],.tup [.str [102,111,114,101,105,103,110],.none]),
 ([37,84,65,71,32,33,101,33,32,120],.tup [.str [33,101,33],.str [120]]),
 ([37,84,65,71,32,33,32,121],.tup [.str [33],.str [121]]),
 ([37,122,32,45,45,45],.tup [.str [111,116,104,101,114],.none])]
noncomputable def sP(l:List IE):IE:=.tup<|l.foldr .cons .nil
def Vo:IE:=[sP [.str [118,101,114,115,105,111,110],sP [.int 1,.int 1]],sP [.str [118,101,114,115,105,111,110],sP [.int 1,.int 3]],sP [.str [102,111,114,101,105,103,110],.none],sP [.str [33,101,33],.str [120]],sP [.str [33],.str [121]],sP [.str [111,116,104,101,114],.none]].foldr .cons .nil
noncomputable def ue:List (List Nat×List Nat):=[([33],[33]),([33,33],[116,97,103,58,121,97,109,108,46,111,114,103,44,50,48,48,50,58])]
noncomputable def uf(es:List<|List Nat×MV):List (List Nat×List Nat)->List (List Nat×MV)
 |[]=>es
 |t::ts=>uf (if(d9 t.1 es).isSome then es else nR t.1 (.str t.2) es) ts
noncomputable def oq:List Nat:=[114,101,102,117,115,101,100]
def x9(k:Nat)(L:Loc)(H:MH)(P:MV->Prop):Prop:=∃i c fs m,L[k]?=some (some<|.ref i)/\H.at_ i=some (.inst c fs)/\fs.lookup 31=some m/\P m
def WW(i lv:Nat)(L:Loc)(H:MH)(cb:Bool->Oc)(WB:Loc->MH->QF->QX->Prop)(Q:QF)(X:QX):Prop:=match i with
 |0=>∃p v fs,L[0]?=some (some<|.ref p)/\L[1]?=some (some v)/\H.at_ p=some (.inst jt fs)/\cb true lv 783 [.ref p,v] [] [] H (λ_ H'=>Q .next L H') (λx H'=>X x L H')
 |1=>∃p v fs,L[0]?=some (some<|.ref p)/\L[1]?=some (some v)/\H.at_ p=some (.inst jt fs)/\cb true lv 682 [.ref p,v] [] [] H (λ_ H'=>Q .next L H') (λx H'=>X x L H')
 |2=>∃p fs,L[0]?=some (some<|.ref p)/\H.at_ p=some (.inst jt fs)/\fs.lookup 99=none/\cb true lv 799 [.ref p] [] [] H (λv1 H1=>(∃i c fs l,v1=.ref i/\H1.at_ i=some (.inst c fs)/\fs.lookup 50=none/\find3 RV c 50=some (.str l))/\(∃fs,H1.at_ p=some (.inst jt fs)/\fs.lookup 99=none)/\
   cb true lv 799 [.ref p] [] [] H1 (λv2 H2=>∃i c fs m,v2=.ref i/\H2.at_ i=some (.inst c fs)/\fs.lookup 31=some m/\X m L H2) (λx H'=>X x L H')) (λx H'=>X x L H')
 |3=>x9 2 L H λm=>X m L H
 |4=>x9 2 L H λm=>X m L H
 |5=>x9 2 L H λm=>(∃h,L[6]?=some (some<|.str h)/\(reprText<|aW h).length<=100000)/\X m L H
 |6=>∃p c fs d yv es,L[0]?=some (some<|.ref p)/\H.at_ p=some (.inst c fs)/\fs.lookup 21=some yv/\fs.lookup 22=some (.ref d)/\H.at_ d=some (.aF es)/\es.length<100/\Q .next (L.set 3<|some<|.tup [yv,.ref H.n]) (H.new<|.aF es)
 |7=>∃p fs d es,L[0]?=some (some<|.ref p)/\1<L.length/\H.at_ p=some (.inst jt fs)/\fs.lookup 98=none/\fs.lookup 22=some (.ref d)/\H.at_ d=some (.aF es)/\es.length<100/\Q .next (L.set 1<|some<|.str [33,33]) (H.put d<|.aF<|uf es ue)
 |8=>Q (.ret<|.ref H.n) L<|H.new<|.aF gZ
 |9=>∃(j:Nat) (xs:List Int),L[0]?=some (some<|.ref j)/\H.at_ j=some (.s9<|xs.map MV.int)/\uc WB 14 Q ((xs.take 8).map λi=>i.fmod 27720) L (((H.new<|.list<|(xs.map MV.int).take 8).new<|.list<|(xs.take 8).map λi=>MV.int<|i.fmod 27720).del<|H.n+1)
 |10=>WB L H (λmf L' H'=>mf=.next/\Q .next L' H') λx L' H'=>∃g ZD,L'[16]?=some (some<|.ref g)/\H'.at_ g=some (.list ZD)/\g<H'.n/\17<L'.length/\
   cb false lv 1558 [x] [] [] (H'.new<|.exc 1293 x) (λr H2=>∃xs,H2.at_ g=some (.list xs)/\xs.length<1000000/\Q .next (L'.set 17 none) (H2.put g<|.list<|xs++[.tup [.str oq,r]])) (λ_ _=>False)
 |11=>∃i j xs ys,L[16]?=some (some<|.ref i)/\L[2]?=some (some<|.ref j)/\H.at_ i=some (.list xs)/\H.at_ j=some (.list ys)/\jm H 100 xs ys/\Q (.ret<|.bool true) L H
 |_=>False
def S0:aP:=⟨pw,K,qv,loose,ES,ET,Ig,true,Mv,find3 RV,find3 X3,λ_=>none,λc=>Ie.lookup c,X6,λ_ _ _=>false,λ_ _ _ _ _ _ _ _=>False,1293,1605⟩
noncomputable def RW:List Nat:=[101,120,112,101,99,116,101,100,32,39,60,100,111,99,117,109,101,110,116,32,115,116,97,114,116,62,39,44,32,98,117,116,32,102,111,117,110,100,32,37,114]
noncomputable def RX:List Nat:=[100,117,112,108,105,99,97,116,101,32,116,97,103,32,104,97,110,100,108,101,32,37,114]
def Mw(f:Fm)(st:Stmt):Bool:=x6 S0 f st λe3 e4=>EM RW e3 (λr=>HU S0 50 r λt=>wL S0 f t)&&HU S0 31 e4 λt=>wL S0 f t
def Dl(f:Fm)(st:Stmt):Bool:=x6 S0 f st λe3 e4=>Mg e3&&m8 S0 f 2 31 e4
def Mx(f:Fm)(st:Stmt):Bool:=x6 S0 f st λe3 e4=>EM RX e3 (λr=>gQ f 6 r)&&m8 S0 f 2 31 e4
def X7(f:Fm)(st:Stmt):Bool:=K8 st λ_ hs o fb=>l0 o<|l0 fb<|l1 hs λh=>o1 (Xp h) λx=>o1 (Xq h) λn=>l1 (Xr h) λs=>gr x (λx=>kq S0 f x<|.ref 1293)&&((f.fa==1605)&&((f.ns[17]?==some n)&&((f.sc.names.lookup n==some .local)&&Pg S0 f 16 17 1558 oq s)))
def ZE(i:Nat)(f:Fm)(st:Stmt):Bool:=match i with
 |2=>Mw f st
 |3=>Dl f st
 |4=>Dl f st
 |5=>Mx f st
 |6=>Pj S0 f st
 |7=>Po S0 f st
 |8=>Pk S0 f (gZ.map (·.1)) Vo st
 |9=>Pr f 27720 14 0 st
 |10=>X7 f st
 |11=>eqB f 16 2 st
 |_=>false
def SG(quiet:Bool):aP:=⟨pw,K,qv,loose,ES,ET,Ig,quiet,Mv,find3 RV,find3 X3,λ_=>none,λc=>Ie.lookup c,X6,ZE,WW,1293,1605⟩
noncomputable def ya(K:Frag)(c:Addr)(x:Str):Bool:=plainGet K c x&&hasDictIn K c&&(findIn K (.ref c) x==some none)&&noGet K none&&(findIn K (.ref c) "__setattr__"==some (some<|.builtin "object.__setattr__"))&&plainOver K c&&(takerIn K c x==some none)
def wO{K:Frag}{c:Addr}{x:Str}(h:ya K c x=true):BV K c x/\findIn K (.ref c) x=some none:=by
 unfold ya at h
 simp only[Bool.and_eq_true,beq_iff_eq]at h
 obtain⟨⟨⟨⟨⟨⟨a,b⟩,c⟩,d⟩,e⟩,f⟩,g⟩:=h
 exact⟨⟨a,b,⟨_,c,d⟩,e,f,g⟩,c⟩
def X8(P:Params):Bool:=Vm.all λp=>p.2.all λk=>match ES[k]? with
 |some x=>ya (K P) p.1 x
 |none=>true
def My:(λP=>X8 P)=λ_=>true:=by kernel_rfl
noncomputable def Ih(K:Frag)(c:Addr)(x:Str)(f:Addr):Bool:=plainGet K c x&&(findIn K (.ref c) x==some (some<|.ref f))&&isFn K (.ref f)&&fnIn K f&&keepIn K (.ref f)&&hasDictIn K c&&(specialIn K (.ref f) "__get__"==some (some<|.builtin "function.__get__"))&&(takesIn K (.ref f)==some false)&&!(copiedNames.contains x)
def zu{K:Frag}{c f:Addr}{x:Str}(h:Ih K c x f=true):F8 K c x f:=by
 unfold Ih at h
 simp only[Bool.and_eq_true,beq_iff_eq,Bool.not_eq_true']at h
 obtain⟨⟨⟨⟨⟨⟨⟨⟨a,b⟩,c⟩,d⟩,e⟩,f⟩,g⟩,i⟩,j⟩:=h
 exact⟨a,b,c,d,e,f,g,i,j⟩
def mtB(P:Params):Bool:=XZ.all λp=>match ES[p.1]? with
 |some x=>Ih (K P) jt x p.2
 |none=>true
def Ii:(λP=>mtB P)=λ_=>true:=by kernel_rfl
def WY(v:MV)(a:Value):Bool:=match v,a with
 |.str l,.str x _=>x==aW l
 |.cls c,.ref d=>c==d
 |_,_=>false
def Ij{v:MV}{a:Value}(h:WY v a=true):SR v a:=by
 unfold WY at h
 split at h
 ·exact⟨_,by rw[beq_iff_eq.mp h]⟩
 ·have:=beq_iff_eq.mp h
  subst this;rfl
 ·cases h
def RY(K:Frag)(c:Addr)(x:Str)(v:MV):Bool:=plainGet K c x&&hasDictIn K c&&!(copiedNames.contains x)&&(match findIn K (.ref c) x with
 |some (some a)=>WY v a&&(specialIn K a "__get__"==some none)
 |_=>false)
def Mz{K:Frag}{c:Addr}{x:Str}{v:MV}(h:RY K c x v=true):Uw K c x v:=by
 unfold RY at h
 simp only[Bool.and_eq_true,Bool.not_eq_true']at h
 obtain⟨⟨⟨a,b⟩,c⟩,d⟩:=h
 split at d
 ·rename_i v' hf
  simp only[Bool.and_eq_true,beq_iff_eq]at d
  exact⟨a,b,c,v',Ij d.1,hf,d.2⟩
 ·cases d
def caB(P:Params):Bool:=RV.all λp=>match ES[p.2.1]? with
 |some x=>RY (K P) p.1 x p.2.2
 |none=>true
def RZ:(λP=>caB P)=λ_=>true:=by kernel_rfl
def R0(K:Frag)(c:Addr)(x:Str)(v:MV):Bool:=match typeIn K (.ref c)with
 |some mc=>readsIn K c mc&&(match findCls K (.ref c) mc x with
  |some (.val a)=>WY v a
  |_=>false)
 |none=>false
def MA{K:Frag}{c:Addr}{x:Str}{v:MV}(h:R0 K c x v=true):Ux K c x v:=by
 unfold R0 at h
 split at h
 ·rename_i mc hm
  simp only[Bool.and_eq_true]at h
  obtain⟨a,d⟩:=h
  split at d
  ·rename_i a' hf;exact⟨mc,a',Ij d,hm,a,hf⟩
  ·cases d
 ·cases h
def cvB(P:Params):Bool:=X3.all λp=>match ES[p.2.1]? with
 |some x=>R0 (K P) p.1 x p.2.2
 |none=>true
def R7:(λP=>cvB P)=λ_=>true:=by kernel_rfl
noncomputable def Ik(K:Frag)(c d:Addr)(b:Bool):Bool:=(kitOne K (.ref c) (.ref d)==some b)&&plainGet K c "__class__"&&hasDictIn K c&&(findIn K (.ref c) "__class__"==some (some<|.builtin "object.__class__"))&&(specialIn K (.builtin "object.__class__") "__get__"==some (some<|.builtin "getset_descriptor.__get__"))&&(takesIn K (.builtin "object.__class__")==some true)&&(mroIn K c (.type "object")==some true)
def Il{K:Frag}{c d:Addr}{b:Bool}(h:Ik K c d b=true):Oo K c d b:=by
 unfold Ik at h
 simp only[Bool.and_eq_true,beq_iff_eq]at h
 obtain⟨⟨⟨⟨⟨⟨a,b⟩,c⟩,d⟩,e⟩,f⟩,g⟩:=h
 exact⟨a,b,c,d,e,f,g⟩
def Yb(P:Params):Bool:=Vn.all λp=>Ik (K P) p.1 p.2.1 p.2.2
def MB:(λP=>Yb P)=λ_=>true:=by kernel_rfl
def Yc(P:Params):Bool:=Ie.all λp=>makesIn (K P) p.1&&(findIn (K P) (.ref p.1) "__init__"==some (some<|.ref p.2))&&isFn (K P) (.ref p.2)&&keepIn (K P) (.ref p.1)
def MC:(λP=>Yc P)=λ_=>true:=by kernel_rfl
noncomputable def R8(K:Frag)(x:Str)(v:Value):Bool:=((nsIn K mainGlobals x==some (some v))||((nsIn K mainGlobals x==some none)&&(bootBuiltins x==some v)&&!(x=="__name__")))&&(match v with
 |.ref a=>keepIn K<|.ref a
 |_=>true)
def glB(P:Params):Bool:=X6.all λp=>R8 (K P) p.1 p.2
def Im:(λP=>glB P)=λ_=>true:=by kernel_rfl
def EU:ES.Nodup:=aaq<|by kernel_rfl
def zv{α:Type}{l:List α}{p:α->Bool}{a:α}(h:l.find? p=some a):a∈l/\p a=true:=⟨List.mem_of_find?_eq_some h,List.find?_some h⟩
def rN{l:List (Nat×Nat×MV)}{c k:Nat}{v:MV}(h:find3 l c k=some v):(c,k,v)∈l:=by
 unfold find3 at h
 obtain⟨⟨a,b,d⟩,h1,h2⟩:=Option.map_eq_some_iff.mp h
 obtain⟨m,p⟩:=zv h1
 simp only[Bool.and_eq_true,beq_iff_eq]at p
 obtain⟨rfl,rfl⟩:=p
 simp only at h2
 subst h2;exact m
def Io{c k:Nat}{x:Str}(P:Params)(h:ET c k=true)(hx:ES[k]?=some x):ya (K P) c x=true:=by
 unfold ET at h
 split at h
 ·rename_i l hl
  have m:=ja hl
  have z:=congrFun My P
  have z:=List.all_eq_true.mp z _ m
  have z:=List.all_eq_true.mp z k<|by simpa using h
  rw[hx]at z
  exact z
 ·cases h
def p9(b:Bool)(w:World):bL (SG b) w where
 nodup:=EU
 tab:=λc k x h hx=>(wO<|Io w.params h hx).1
 mt:=λc k x f h hx=>by
  have h:Ig c k=some f:=h
  unfold Ig at h
  split at h
  ·rename_i e;subst e
   have z:=List.all_eq_true.mp (congrFun Ii w.params) _<|ja h
   have hx:ES[k]?=some x:=hx
   simp only[hx]at z
   exact zu z
  ·cases h
 Uc:=λc d b' h=>by
  have h:Mv c d=some b':=h
  unfold Mv at h
  obtain⟨⟨a,b,d'⟩,h1,h2⟩:=Option.map_eq_some_iff.mp h
  obtain⟨m,p⟩:=zv h1
  simp only[Bool.and_eq_true,beq_iff_eq]at p
  obtain⟨rfl,rfl⟩:=p
  have z:=List.all_eq_true.mp (congrFun MB w.params) _ m
  simp only at h2
  subst h2
  exact Il z
 ca:=λc k x v h hx=>by
  have z:=List.all_eq_true.mp (congrFun RZ w.params) _<|rN h
  have hx:ES[k]?=some x:=hx
  simp only[hx]at z
  exact Mz z
 cv:=λc k x v h hx=>by
  have z:=List.all_eq_true.mp (congrFun R7 w.params) _<|rN h
  have hx:ES[k]?=some x:=hx
  simp only[hx]at z
  exact MA z
 sd:=λa es h=>by cases h
 Zu:=λc k fa h=>by
  have h:Ig c k=some fa:=h
  unfold Ig at h
  split at h
  ·have m:=ja h
   have z:=List.all_eq_true.mp (congrFun Ii w.params) _ m
   have lt:k<ES.length:=by
    have q:=List.all_eq_true.mp (show XZ.all (λp=>decide<|p.1<ES.length)=true by kernel_rfl) _ m
    exact aaq q
   simp only[List.getElem?_eq_getElem lt]at z
   exact(zu z).fn
  ·cases h
 Zv:=λc k x h hx=>(wO<|Io w.params h hx).2
 Zw:=λx a h=>by
  have z:=List.all_eq_true.mp (congrFun Im w.params) _<|ja h
  unfold R8 at z
  simp only[Bool.and_eq_true]at z
  exact z.2
 ini:=λc fI h=>by
  have z:=List.all_eq_true.mp (congrFun MC w.params) _<|ja h
  simp only[Bool.and_eq_true,beq_iff_eq]at z
  obtain⟨⟨⟨a,b⟩,c⟩,d⟩:=z
  exact⟨a,b,c,d⟩
 gl:=λx v h=>by
  have z:=List.all_eq_true.mp (congrFun Im w.params) _<|ja h
  unfold R8 at z
  simp only[Bool.and_eq_true,Bool.or_eq_true,beq_iff_eq,Bool.not_eq_true',beq_eq_false_iff_ne]at z
  rcases z.1 with h|h
  ·exact .inl h
  ·exact .inr ⟨h.1.1,h.1.2,h.2⟩
def WZ:EC:=⟨q "ParserError",q "ParserError",1293,1292,[.ref 95],[.ref 95,.ref 67,.type "Exception",.type "BaseException",.type "object"],[],[],false,none,none,some<|.ref 1284,none,some<|.str (q "ParserError") 2100,some<|.str (q "ParserError") 2108,some<|.bool true⟩
def W0:FD:=⟨q "__init__",q "MarkedYAMLError.__init__",s8<|dw 4 0,gV<|dw 4 0,dS<|dw 4 0,[],.ref 78,.none,.none,.str (q "yaml.error") 194,.ref 84,.none,none⟩
def MD(P:Params):(K P).lookup 1293=some WZ.obj:=by kernel_rfl
def Vp(P:Params):(K P).lookup 85=some ⟨.type "function",none,.func W0.fn,#[]⟩:=by kernel_rfl
def Vq(P:Params):(K P).lookup 78=some ⟨.type "tuple",none,.seq #[.none,.none,.none,.none,.none] 0,#[]⟩:=by kernel_rfl
def Vr:zk WZ.bm:=⟨by kernel_rfl,by kernel_rfl,by kernel_rfl,by kernel_rfl⟩
noncomputable def Vs(sc:Scope)(ns:List Str):Bool:=sc.names.all (λx=>!(x.2==.cell))&&(!sc.isCoroutine&&(!sc.isGenerator&&((sc.kind==.function)&&ns.all λx=>sc.names.lookup x==some .local)))
structure Yd(sc:Scope)(ns:List Str):Prop where
 cell:∀x∈sc.names,x.2≠.cell
 co:sc.isCoroutine=false
 gen:sc.isGenerator=false
 kind:sc.kind=.function
 loc:∀x∈ns,sc.names.lookup x=some .local
def yb{sc:Scope}{ns:List Str}(h:Vs sc ns=true):Yd sc ns:=
 ⟨λx hx e=>(by have:=bn<|List.all_eq_true.mp (bl h) x hx;rw[e]at this;cases this),bn<|bl<|br h,bn<|bl<|br<|br h,be<|bl<|br<|br<|br h,λx hx=>be<|List.all_eq_true.mp (br<|br<|br<|br h) x hx⟩
def R9(P:Params):(λP=>pNames.all λx=>takerIn (K P) 1293 x==some none) P=true:=by revert P;exact congrFun (by kernel_rfl:(λP=>pNames.all λx=>takerIn (K P) 1293 x==some none)=λ_=>true)
def yc(P:Params):om (K P) WZ 85 W0:=
 have z:=yb (sc:=W0.scope) (ns:=("self":Str)::pNames) (by kernel_rfl)
 {at_:=⟨_,_,Vp P⟩,code:=by kernel_rfl,cell:=z.cell,co:=z.co,gen:=z.gen,kind:=z.kind,obj:=MD P,tail:=Vr,pass:=λv=>by
   show refuseLoop v "__setattr__" (.ref 95::.ref 67::_)=_
   rw[refuseLoop_ref,refuseLoop_ref];exact PySem.F.store_Exception.passes v
  object:=by kernel_rfl,init:=by kernel_rfl,set:=by kernel_rfl,BW:=λx hx=>be<|List.all_eq_true.mp (R9 P) x hx,sets:=by kernel_rfl,loc:=z.loc,
  bind:=λs e w1 w2 w3 w4 X=>BindsTo.of_defaults (T:=78) (n:=0) rfl (X _ _<|Vq P) rfl (by rfl) (by rfl)}
def Ye(P:Params):Ma (K P) 1293:=⟨by kernel_rfl,by kernel_rfl,by kernel_rfl,by kernel_rfl,by kernel_rfl⟩
def ME(P:Params):(K P).lookup 1304=some ⟨.type "dict",none,.dict #[en P (aW [33]) 2128<|.str (aW [33]) 2129,en P (aW [33,33]) 2130<|.str (aW [116,97,103,58,121,97,109,108,46,111,114,103,44,50,48,48,50,58]) 2131] 2,#[]⟩:=by kernel_rfl
def Sa(w:World):TF (SG true) w 1304 ue where
 val:=⟨_,[(aW [33],.str (aW [33]) 2129),(aW [33,33],.str (aW [116,97,103,58,121,97,109,108,46,111,114,103,44,50,48,48,50,58]) 2131)],ME w.params,
  ⟨_,_,⟨rfl,rfl,rfl⟩,rfl,λe he=>(aab.mp<|List.mem_toArray.mp he).elim (λh=>h▸⟨aW [33],strKind_is _ _ _ _,rfl⟩) λh=>aaa.mp h▸⟨aW [33,33],strKind_is _ _ _ _,rfl⟩,.cons (strKind_is _ _ _ _) rfl<|.cons (strKind_is _ _ _ _) rfl .nil,by decide⟩,λφ=>.cons ⟨_,rfl⟩<|.cons ⟨_,rfl⟩ .nil⟩
 lo:=by kernel_rfl
def Ip(P:Params):keepIn (K P) (.ref 1293)=true:=by kernel_rfl
def Vt(P:Params):keepIn (K P) (.ref 1558)=true:=by kernel_rfl
section
variable{w:World}{f:Fm}{lv:Nat}{st:Stmt}{Lc:Loc}{H:MH}{Q:QF}{X:QX}{WB:Loc->MH->QF->QX->Prop}
abbrev XK(i:Nat)(w:World)(f:Fm)(lv:Nat)(st:Stmt)(Lc:Loc)(H:MH)(WB:Loc->MH->QF->QX->Prop)(Q:QF)(X:QX):Prop:=ZE i f st=true->(∀L H Q X,WB L H Q X->ko ⟨SG true,w,f⟩ (8*lv) (qM st) L H Q X)->WW i lv Lc H (λqt l fa vs kn ks H Q X=>bH {SG true with quiet:=qt} w l fa vs kn ks H Q X) WB Q X->dU ⟨SG true,w,f⟩ (8*lv) st Lc H Q X
def ZF:XK 3 w f lv st Lc H WB Q X:=λhb _ h=>h.elim λi h=>h.elim λc h=>h.elim λfs h=>h.elim λm h=>uO (S:=SG true) (p9 true w) rfl hb (yc w.params) (Ip w.params) rfl λe3 e4 hk=>aB.Mg (bl hk) λl=>aB.m8 (p9 true w) (br hk) h.1<|uP h.2.1 h.2.2.1 h.2.2.2
def Yg:XK 11 w f lv st Lc H WB Q X:=λhb _ h=>h.elim λi h=>h.elim λj h=>h.elim λxs h=>h.elim λys h=>RP hb h.1 h.2.1 h.2.2.1 h.2.2.2.1 h.2.2.2.2.1 (aaj _) h.2.2.2.2.2
def xk9:XK 9 w f lv st Lc H WB Q X:=λhb J5 h=>h.elim λj h=>h.elim λxs h=>Ms hb (by decide) rfl J5 h.1 h.2.1 h.2.2
def rO{H:MH}{p c:Nat}{fs:List (Nat×MV)}{K:Nat->List (Nat×MV)->Prop}(e:H.at_ p=some (.inst c fs))(h:K c fs):iR (H.at_ p) K:=e▸h
def xk6:XK 6 w f lv st Lc H WB Q X:=λhb _ h=>h.elim λp h=>h.elim λc h=>h.elim λfs h=>h.elim λd h=>h.elim λyv h=>h.elim λes h=>Mh (p9 true w) hb h.1<|rO h.2.1<|A1 h.2.2.1<|A1 h.2.2.2.1<|Pp h.2.2.2.2.1 h.2.2.2.2.2.2
def xk5:XK 5 w f lv st Lc H WB Q X:=λhb _ h=>h.elim λi h=>h.elim λc h=>h.elim λfs h=>h.elim λm h=>uO (S:=SG true) (p9 true w) rfl hb (yc w.params) (Ip w.params) rfl λe3 e4 hk=>aB.EM (bl hk) λr hr=>h.2.2.2.1.elim λhh z=>aB.gQ hr z.1 ⟨⟨_,λt u=>Mu z.2⟩,λl=>aB.m8 (p9 true w) (br hk) h.1<|uP h.2.1 h.2.2.1 h.2.2.2.2⟩
def xk7:XK 7 w f lv st Lc H WB Q X:=λhb _ h=>h.elim λp h=>h.elim λfs h=>h.elim λd h=>h.elim λes h=>Mr (S:=SG true) (p9 true w) (Sa w) rfl rfl rfl hb h.1 h.2.1 h.2.2.1 rfl h.2.2.2.1 h.2.2.2.2.1 h.2.2.2.2.2.1 h.2.2.2.2.2.2.1 h.2.2.2.2.2.2.2
def xk8:XK 8 w f lv st Lc H WB Q X:=λhb _ h=>Mj (S:=SG true) (iv:=Vo) (p9 true w) hb (by intro e;cases e) (by decide) (by decide) ⟨by decide,by decide,by decide,by decide,by decide,by decide,by decide,by decide,rfl,h⟩
def Pu{g:Nat}{H:MH}{xs:List MV}{K:List MV->Prop}(e:H.at_ g=some (.list xs))(h:K xs):gm (H.at_ g) K:=e▸h
def AK.Vu{t:Gm->Sem Flow}{θ:Th}{u:Nat}{X':QX}(h:AK θ u Lc H X t Q)(k:∀x L H,X x L H->X' x L H):AK θ u Lc H X' t Q:=λΓ E r a=>h Γ E r ⟨a.C,a.rm,a.T,λr' Lc H x e l j q=>a.EX r' Lc H x e l j<|k _ _ _ q⟩
def Yh:XK 10 w f lv st Lc H WB Q X:=λhb J5 h=>GG hb λbody hs o fb pos z0 hb=>iE hb λz1 hb=>iE hb λz2 hb=>jk hb λhd z3 hb=>xR hb λx z4 hb=>xR hb λn z5 hb=>jk hb λhst z6 hz=>bh (bl hz) λxn p z7 x1=>by
 obtain⟨ty,nm,bd,pp⟩:=hd
 have z4:ty=some x:=z4
 have z5:nm=some n:=z5
 have z6:bd=[hst]:=z6
 rw[z0]at J5⊢
 rw[z1,z2,z3,z4,z5,z6,z7]
 exact dU.RI (c:=WZ) (d:=W0) rfl (gy (p9 true w) x1) (yc w.params) (be<|bl<|br hz) ⟨be<|bl<|br<|br hz,be<|bl<|br<|br<|br hz⟩ (AK.Vu (J5 _ _ _ _ h) λx L' H' q=>q.elim λg q=>q.elim λZD q=>
  AX (S:=SG true) (Q:=λL H=>Q .next L H) (p9 false w) (br<|br<|br<|br hz) (Vt w.params) (Ye w.params) (by decide) q.2.2.2.1 q.1 (Pu q.2.1 trivial) q.2.2.1 (bH.mono q.2.2.2.2 λr H2 q=>q.elim λxs q=>Pu q.1 q.2))
def bH.Iq{S:aP}{l fa:Nat}{az kv:List MV}{kn:List Str}{Ve HR:QV}{Y:MV->MH->Prop}(h:bH S w l fa az kn kv H Ve Y)(k:∀v H',Ve v H'->HR v H'):bH S w l fa az kn kv H HR Y:=
 h.elim λl z=>⟨l,z.1,λf Lc Γ E r ws ks a v1 v2=>codeAny_mono (z.2 f Lc Γ E r ws ks a v1 v2) λo s' y=>by
  cases o with
  |error e=>exact y
  |ok fl=>
   cases fl with
   |ret v=>exact y.elim λr2 y=>⟨r2,y.1,y.2.1,by cases y.2.2 with|mk H2 b T j q=>exact .mk H2 b T j<|k _ _ q⟩
   |_=>exact y⟩
def EV:(RV.all λx=>x.2.2.casesOn true (λ_=>true) (λ_=>true) (λl=>decide<|(reprText<|aW l).length<=100000) (λ_=>true) (λ_=>true) (λ_ _=>true) (λ_=>true) λ_=>true)=true:=by kernel_rfl
def xk2:XK 2 w f lv st Lc H WB Q X:=λhb _ h=>h.elim λp h=>h.elim λfs h=>uO (S:=SG true) (p9 true w) rfl hb (yc w.params) (Ip w.params) rfl λe3 e4 hk=>
 aB.EM (bl hk) λr hr=>aB.Vf (p9 true w) hr λo ho=>aB.wL (p9 true w) ho h.1 (rO h.2.1 ⟨h.2.2.1,bH.u (bH.Iq h.2.2.2 λv1 H1 q=>q.1.elim λi z=>z.elim λc z=>z.elim λfs1 z=>z.elim λl z=>z.1.symm▸H9 z.2.1 z.2.2.1 z.2.2.2
  ⟨⟨_,λt u=>Mt<|aaq<|List.all_eq_true.mp EV _<|rN z.2.2.2⟩,λl'=>aB.Vf (p9 true w) (br hk) λo ho=>q.2.1.elim λfs2 y=>aB.wL (p9 true w) ho h.1<|rO y.1 ⟨y.2,bH.u<|bH.Iq q.2.2 λv2 H2 q=>q.elim λi z=>z.elim λc z=>z.elim λfs z=>z.elim λm z=>z.1.symm▸uP z.2.1 z.2.2.1 z.2.2.2⟩⟩)⟩)
def WT(i:Nat):XK i w f lv st Lc H WB Q X:=by
 rcases i with _|_|_|_|_|_|_|_|_|_|_|_|i
 ·exact λh=>ff h
 ·exact λh=>ff h
 ·exact xk2
 ·exact ZF
 ·exact ZF
 ·exact xk5
 ·exact xk6
 ·exact xk7
 ·exact xk8
 ·exact xk9
 ·exact Yh
 ·exact Yg
 ·exact λh=>ff h
def wQ(b:Bool)(w:World):pY (SG b) w:={p9 b w with
 WT:=λf lv i st Lc H WB Q X hq hxs J5 h=>by
  cases(hq:b=true)
  exact WT i hxs J5 h}
end
def Yi(sc:Scope)(ns:List Str):Bool:=Vs sc ns&&decide ns.Nodup
def MG(n:Nat):(List Value->Prop)->Prop:=n.rec (λP=>P []) λ_ ih P=>∀x,ih λl=>P<|x::l
def Dm{n:Nat}:∀{P:List Value->Prop} {ws:List Value},MG n P->ws.length=n->P ws:=by
 induction n with
 |zero=>
  intro P ws h e
  cases ws with
  |nil=>exact h
  |cons=>cases e
 |succ n ih=>
  intro P ws h e
  cases ws with
  |nil=>cases e
  |cons x ws=>exact ih (P:=λl=>P<|x::l) (h x)<|Nat.succ.inj e
set_option genCtorIdx false in
inductive Src where
 |a (i:Nat)
 |k (i:Nat)
 |c (m:MV) (t:Nat)
noncomputable def Src.m(az kv:List MV)(s:Src):MV:=s.casesOn (λi=>az.getD i .none) (λi=>kv.getD i .none) λm _=>m
noncomputable def cV(t:Nat)(v:MV):Value:=v.casesOn .none (λb=>.bool b) (λi=>.int i t) (λ_=>.none) (λ_=>.none) (λ_=>.none) (λ_ _=>.none) (λ_=>.none) λ_=>.none
def Src.v(ws ks:List Value)(s:Src):Value:=s.casesOn (λi=>ws.getD i .none) (λi=>ks.getD i .none) λm t=>cV t m
noncomputable def isK(v:MV):Bool:=v.casesOn true (λ_=>true) (λ_=>true) (λ_=>false) (λ_=>false) (λ_=>false) (λ_ _=>false) (λ_=>false) λ_=>false
def Src.ok(n m:Nat)(s:Src):Bool:=s.casesOn (λi=>decide<|i<n) (λi=>decide<|i<m) λv _=>isK v
section
variable{φ:dD}{az kv:List MV}{ws ks:List Value}
def cK.getD{i:Nat}(R:cK φ az ws)(h:i<az.length):VR φ (az.getD i .none) (ws.getD i .none):=R.get (i:=i) (v:=az.getD i .none) (by rw[List.getD_eq_getElem?_getD,List.getElem?_eq_getElem h];rfl) λwv a b=>by
 rw[List.getD_eq_getElem?_getD (l:=ws),a];exact b
def Sb(R:cK φ az ws)(R2:cK φ kv ks)(s:Src)(h:s.ok az.length kv.length=true):VR φ (s.m az kv) (s.v ws ks):=by
 cases s with
 |a i=>exact R.getD<|aaq h
 |k i=>exact R2.getD<|aaq h
 |c v t=>cases v<;>first|exact rfl|exact⟨_,rfl⟩|cases h
def Yj(R:cK φ az ws)(R2:cK φ kv ks)(σ:List Src):σ.all (Src.ok az.length kv.length)=true->cK φ (σ.map<|Src.m az kv) (σ.map<|Src.v ws ks):=σ.rec (λ_=>rfl) λs r ih h=>iX (Sb R R2 s<|bl h)<|ih<|br h
end
def c6.of{b:Bool}{w:World}{fd:FuncData}{ns:List Str}{az kv dW:List MV}{kn:List Str}(σ:List Src)(hv:σ.map (Src.m az kv)=dW)(hn:(Nat.ble σ.length ns.length&&σ.all (Src.ok az.length kv.length))=true)
  (h:∀s,(K w.params).In s.heap->MG az.length λws=>MG kv.length λks=>BindsTo s fd ⟨ws,kn.zip ks⟩<|(ns.take σ.length).zip<|σ.map<|Src.v ws ks):c6 (SG b) w fd ns az kn kv dW:=by
 have hl:dW.length=σ.length:=by rw[<-hv,List.length_map]
 refine⟨λφ s ws ks X R R2=>⟨_,?_,hv▸Yj R R2 σ (br hn)⟩,hl▸aai (bl hn)⟩
 rw[hl]
 exact Dm (P:=λks=>BindsTo s fd ⟨ws,kn.zip ks⟩<|(ns.take σ.length).zip<|σ.map<|Src.v ws ks) (Dm (P:=λws=>MG kv.length λks=>BindsTo s fd ⟨ws,kn.zip ks⟩<|(ns.take σ.length).zip<|σ.map<|Src.v ws ks) (h s X) R.length) R2.length
def Yk(fa:Nat)(fd:FuncData)(fm:Fm)(ns:List Str)(ib:IB):Prop:=∀{w:World} {lv:Nat} {az dW:List MV} {kn:List Str} {kv:List MV} {H:MH} {Q:QV} {X:MV->MH->Prop},c6 (SG true) w fd ns az kn kv dW->
  zg (SG true) w fm lv ib (bW ns dW) H (gP Q) (λx _ H'=>X x H')->nW (SG true) w lv fa az kn kv H Q X
noncomputable def hdS(l:List Stmt):Stmt:=l.headD<|.Pass ⟨0,0,0,0⟩
noncomputable def ZG(l:List Stmt):List Stmt:=l.tail
noncomputable def Sd(b:IB):IB:=b.casesOn .nil .nil .nil (λ_=>.nil) .nil (λ_=>.nil) (λ_ _=>.nil) (λ_ _ _=>.nil) (λ_ _ _ _=>.nil) (λ_ _=>.nil) (λ_ _ _=>.nil) (λ_ _ _=>.nil) (λ_ _ _=>.nil) (λ_ _ _ _=>.nil) (λ_ _ _=>.nil) (λ_ _ _=>.nil) (λ_ _ _=>.nil) (λ_ _ _=>.nil) (λ_ _ _=>.nil) (λ_ _=>.nil) (λ_ _=>.nil) (λ_=>.nil) (λ_ _=>.nil) .nil .nil λ_ r=>r
def FR.dflt{fd:FuncData}{s:Shared}{az:Args}{binds:List (Str×Value)}{w:World}{T:Addr}{items:Array Value}{k:Option (Array Value)->Sem (List<|Str×Value)}(df:∀P,(K P).lookup T=some ⟨.type "tuple",none,.seq items 0,#[]⟩)(X:(K w.params).In s.heap)(hd:fd.defaults=.ref T)
  (h₁:bindArgs fd az=seqItems? fd.defaults>>=k)(h₂:k (some items)=pure binds):BindsTo s fd az binds:=BindsTo.of_defaults hd (X _ _<|df w.params) rfl h₁ h₂
def nW.Ir{S:aP}{w:World}{l:Nat}{H:MH}{Q:QV}{X:MV->MH->Prop}{fa:Nat}{az dW:List MV}{kn:List Str}{kv:List MV}{name qual:Str}{params:Arguments}{body:List Stmt}{scope:Scope}{cl:List (Str×Addr)}{dV kV doc pm cdv ct oc:Value}{an od:Option Addr}{osl:Array (Option Value)}{ns:List Str}{ib:IB}
  (hK:(S.K w.params).lookup fa=some ⟨oc,od,.func<|fnX name qual params body scope cl dV kV doc pm an cdv ct,osl⟩)(hcd:codeIn (S.K w.params) cdv qual=true)(hsc:Yi scope ns=true)
  (O:pY S w)(hck:xX S ⟨ns,scope,qual,cdv,cl,fa⟩ ib body=true)(hne:fa≠S.top)
  (hb:c6 S w (fnX name qual params body scope cl dV kV doc pm an cdv ct) ns az kn kv dW)
  (h:zg S w ⟨ns,scope,qual,cdv,cl,fa⟩ l ib (bW ns dW) H (gP Q) λx _ H'=>X x H'):nW S w l fa az kn kv H Q X:=
 have z:=yb (bl hsc)
 nW.intro hK hcd z.cell z.co z.gen z.kind (aaq<|br hsc) z.loc hb hne (rM O ib hck h)
abbrev Vv(fa:Addr)(ql:Str)(st:Stmt)(cc:Addr)(dV doc pm:Value)(cda:Addr)(ct:Value):SD:=⟨fa,q "__init__",ql,s8 st,gV st,dS st,cc,dV,.none,doc,pm,cda,ct,none⟩
def Dn{K:Frag}{D:Addr}(h:(clsIn K D).isSome=true):∃c d cdD sl,K.lookup D=some ⟨c,d,.cls cdD,sl⟩:=by
 unfold clsIn at h
 split at h
 ·exact⟨_,_,_,_,by assumption⟩
 ·cases h
def ZH{fa f2 C cda:Nat}{ql:Str}{st:Stmt}{cc:Addr}{ct pm dV doc:Value}{ns:List Str}{ir:IB}(hsc:Yi (dS st) (q "self"::q "stream"::ns)=true)(hck:xX (SG true) ⟨q "self"::q "stream"::ns,dS st,ql,.ref cda,[("__class__",cc)],fa⟩ (Sd ir) (ZG<|gV st)=true)(hbody:gV st=hdS (gV st)::ZG (gV st))(hsb:Mc (q "stream") (hdS<|gV st)=true)(hne:fa≠1605)
  (hir:∀{w lv L H Q X},zg (SG true) w ⟨q "self"::q "stream"::ns,dS st,ql,.ref cda,[("__class__",cc)],fa⟩ lv ir L H Q X->∃p v fs,L[0]?=some (some<|.ref p)/\L[1]?=some (some v)/\H.at_ p=some (.inst jt fs)/\bH (SG true) w lv f2 [.ref p,v] [] [] H (λ_ H'=>zg (SG true) w ⟨q "self"::q "stream"::ns,dS st,ql,.ref cda,[("__class__",cc)],fa⟩ lv (Sd ir) L H' Q X) (λx H'=>X x L H'))
  (hcd:∀P,codeIn (K P) (.ref cda) ql=true)(SF:∀P,qO pw (K P) (Vv fa ql st cc dV doc pm cda ct) C jt f2 (q "self")<|q "stream")
  {w:World}{lv:Nat}{p:Nat}{v:MV}{H:MH}{Q:QV}{X:MV->MH->Prop}(hb:c6 (SG true) w (fnX (q "__init__") ql (s8 st) (gV st) (dS st) [("__class__",cc)] dV .none doc pm none (.ref cda) ct) (q "self"::q "stream"::ns) [.ref p,v] [] [] [.ref p,v])
  (h:zg (SG true) w ⟨q "self"::q "stream"::ns,dS st,ql,.ref cda,[("__class__",cc)],fa⟩ lv ir (bW (q "self"::q "stream"::ns) [.ref p,v]) H (gP Q) λx _ H'=>X x H'):nW (SG true) w lv fa [.ref p,v] [] [] H Q X:=
 (hir h).elim λp' z=>z.elim λv' z=>z.elim λfs z=>by
  have e1:some (some<|MV.ref p)=some (some<|MV.ref p'):=z.1
  have e2:some (some v)=some (some v'):=z.2.1
  cases e1
  cases e2
  have y:=yb<|bl hsc
  exact nW.RK (S:=SG true) (d:=Vv fa ql st cc dV doc pm cda ct) (SF w.params) hbody (hcd _) y.cell y.co y.gen y.kind (aaq<|br hsc) y.loc hsb hb hne z.2.2.1<|bH.Iq z.2.2.2 λ_ H2 q2=>rM (wQ true w) _ hck q2
abbrev mR:FuncData:=fnX (q "__init__") (q "Scanner.__init__") (s8<|dw 49 0) (gV<|dw 49 0) (dS<|dw 49 0) [((q "__class__"),771)] .none .none .none (.str (q "yaml.scanner") 1285) none (.ref 782)<|.ref 776
def tF:Fm:=⟨fV,dS<|dw 49 0,q "Scanner.__init__",(.ref 782),[((q "__class__"),771)],783⟩
abbrev ou:FuncData:=fnX (q "__init__") (q "Parser.__init__") (s8<|dw 52 1) (gV<|dw 52 1) (dS<|dw 52 1) [((q "__class__"),1299)] .none .none .none (.str (q "yaml.parser") 2098) none (.ref 1311)<|.ref 1305
def uQ:Fm:=⟨gi,dS<|dw 52 1,q "Parser.__init__",(.ref 1311),[((q "__class__"),1299)],1312⟩
abbrev A6:FuncData:=eO.fd
def mq:Fm:=eO.fm
def FT:List FR:=[lK,g6,gK,fH,bN,gY,bq,gM,dZ,bP,aI,bQ,bu,jj,jC,cN,fk,aG,fJ,bG,iW,iw,cu,f6,gh,dz,aT,bR,bA,bS,bB,eH,cQ,dB,dI,cC,cR,bT,fK,fq,fy,bg,fL,dJ,cG,cU,c7,fM,aA,aR,cH,bI,bD,bU,bJ,bK,aJ,fN,aV,bz,aX,aj,cy,fz,dK,fc,c8,aQ,ay,c9,cz,aD,dM,bX,cJ,nB,nC,iy,nD,cW,nG,j4,j5,lO,nH,nJ]
def Yl:(λP=>FT.map λr=>(K P).lookup r.fa)=λP=>FT.map λr=>some ⟨.type "function",none,.func r.fd,#[]⟩:=by kernel_rfl
def Ym:(λP=>FT.all λr=>codeIn (K P) (.ref r.cd) r.ql&&(Yi (dS r.st) r.ns&&(xX (SG true) r.fm r.ib (gV r.st)&&!(r.fa==1605))))=λ_=>true:=by kernel_rfl
def Pw{r:FR}(i:Nat)(hi:FT[i]?=some r)(P:Params):(K P).lookup r.fa=some ⟨.type "function",none,.func r.fd,#[]⟩:=by
 have z:=aac (λl=>l[i]?)<|congrFun Yl P
 rw[List.getElem?_map,List.getElem?_map,hi]at z
 exact aaf z
def Yn{r:FR}(i:Nat)(hi:FT[i]?=some r):Yk r.fa r.fd r.fm r.ns r.ib:=λ{w} {_ _ _ _ _ _ _ _} hb h=>
 have z:=List.all_eq_true.mp (congrFun Ym w.params) r (List.mem_of_getElem? hi)
 nW.Ir (S:=SG true) (Pw i hi w.params) (bl z) (bl<|br z) (wQ true w) (bl<|br<|br z) (λe=>by have e:r.fa=1605:=e;have y:=bn<|br<|br<|br z;rw[e]at y;cases y) hb h
def Yo:(λf:Nat->Value=>FT.map λr=>@Nat.rec (λ_=>Sem<|List<|Str×Value) (pure []) (λn _=>bindArgs r.fd ⟨(List.range n).map f,[]⟩) r.np)=λf=>FT.map λr=>@Nat.rec (λ_=>Sem<|List<|Str×Value) (pure []) (λn _=>pure<|(r.ns.take n).zip<|(List.range n).map f) r.np:=by kernel_rfl
def Yp:(FT.all λr=>Nat.ble r.np<|r.ns.length+1)=true:=by kernel_rfl
def EW{α:Type}{d:α}(l:List α):(List.range l.length).map (λi=>l.getD i d)=l:=List.ext_getElem? λi=>by
 rw[List.getElem?_map]
 by_cases h:i<l.length
 ·rw[List.getElem?_range h,List.getElem?_eq_getElem h]
  show some (l.getD i d)=_
  rw[List.getD_eq_getElem?_getD,List.getElem?_eq_getElem h]
  rfl
 ·rw[List.getElem?_eq_none (by rw[List.length_range];exact Nat.not_lt.mp h),List.getElem?_eq_none<|Nat.not_lt.mp h]
  rfl
def Yq{r:FR}{b:Bool}{w:World}{az:List MV}(h:(FT[r.i]?,r.np)=(some r,az.length+1)):c6 (SG b) w r.fd r.ns az [] [] az:=by
 have h1:FT[r.i]?=some r:=aac Prod.fst h
 have h2:r.np=az.length+1:=aac Prod.snd h
 have l:=List.all_eq_true.mp Yp r<|List.mem_of_getElem? h1
 rw[h2]at l
 refine⟨λφ s ws ks X R R2=>⟨ws,.of_eq ?_,R⟩,Nat.le_of_succ_le_succ<|aai l⟩
 have z:=aac (λl=>l[r.i]?)<|congrFun Yo λi=>ws.getD i .none
 rw[List.getElem?_map,List.getElem?_map,h1]at z
 have z:@Nat.rec (λ_=>Sem<|List<|Str×Value) (pure []) (λn _=>bindArgs r.fd ⟨(List.range n).map λi=>ws.getD i .none,[]⟩) r.np=@Nat.rec (λ_=>Sem<|List<|Str×Value) (pure []) (λn _=>pure<|(r.ns.take n).zip<|(List.range n).map λi=>ws.getD i .none) r.np:=aaf z
 rw[h2,<-R.length]at z
 have z:bindArgs r.fd ⟨(List.range ws.length).map λi=>ws.getD i .none,[]⟩=pure ((r.ns.take ws.length).zip<|(List.range ws.length).map λi=>ws.getD i .none):=z
 rw[EW]at z
 rw[<-R.length]
 exact z
def kr(P:Params):(K P).lookup 169=some ⟨.type "tuple",none,.seq #[.none,.none,.none] 0,#[]⟩:=by kernel_rfl
def gR{b:Bool}{w:World}{a0 a1 a2 b0:MV}:c6 (SG b) w bN.fd bN.ns [a0,a1,a2] [q "encoding"] [b0] [a0,a1,a2,b0]:=.of [.a 0,.a 1,.a 2,.k 0] rfl rfl λs X _ _ _ _=>FR.dflt kr X rfl (by rfl)<|by rfl
def jo(P:Params):(K P).lookup 390=some ⟨.type "tuple",none,.seq #[.none] 0,#[]⟩:=by kernel_rfl
def m9{b:Bool}{w:World}{a0 a1 a2 a3 a4:MV}:c6 (SG b) w bq.fd bq.ns [a0,a1,a2,a3,a4] [] [] [a0,a1,a2,a3,a4,.none]:=.of [.a 0,.a 1,.a 2,.a 3,.a 4,.c .none 0] rfl rfl λs X _ _ _ _ _=>FR.dflt jo X rfl (by rfl)<|by rfl
def nc{b:Bool}{w:World}{a0 a1 a2 a3 a4 a5:MV}:c6 (SG b) w bq.fd bq.ns [a0,a1,a2,a3,a4,a5] [] [] [a0,a1,a2,a3,a4,a5]:=.of [.a 0,.a 1,.a 2,.a 3,.a 4,.a 5] rfl rfl λs X _ _ _ _ _ _=>FR.dflt jo X rfl (by rfl)<|by rfl
def vQ(P:Params):(K P).lookup 410=some ⟨.type "tuple",none,.seq #[.none,.none] 0,#[]⟩:=by kernel_rfl
def tG{b:Bool}{w:World}{a0 a1 a2:MV}:c6 (SG b) w gM.fd gM.ns [a0,a1,a2] [] [] [a0,a1,a2]:=.of [.a 0,.a 1,.a 2] rfl rfl λs X _ _ _=>FR.dflt vQ X rfl (by rfl)<|by rfl
def qP(P:Params):(K P).lookup 439=some ⟨.type "tuple",none,.seq #[.none,.none] 0,#[]⟩:=by kernel_rfl
def pH{b:Bool}{w:World}{a0 a1 a2 a3:MV}:c6 (SG b) w dZ.fd dZ.ns [a0,a1,a2,a3] [] [] [a0,a1,a2,a3]:=.of [.a 0,.a 1,.a 2,.a 3] rfl rfl λs X _ _ _ _=>FR.dflt qP X rfl (by rfl)<|by rfl
def ku(P:Params):(K P).lookup 491=some ⟨.type "tuple",none,.seq #[.none,.none,.none] 0,#[]⟩:=by kernel_rfl
def gS{b:Bool}{w:World}{a0 a1 a2 b0:MV}:c6 (SG b) w bP.fd bP.ns [a0,a1,a2] [q "encoding"] [b0] [a0,a1,a2,b0]:=.of [.a 0,.a 1,.a 2,.k 0] rfl rfl λs X _ _ _ _=>FR.dflt ku X rfl (by rfl)<|by rfl
def gu(P:Params):(K P).lookup 523=some ⟨.type "tuple",none,.seq #[.none,.none,.none,.none,.none] 0,#[]⟩:=by kernel_rfl
def gz{b:Bool}{w:World}{a0 a1 a2 b0:MV}:c6 (SG b) w aI.fd aI.ns [a0,a1,a2] [q "explicit"] [b0] [a0,a1,a2,b0,.none,.none]:=.of [.a 0,.a 1,.a 2,.k 0,.c .none 0,.c .none 0] rfl rfl λs X _ _ _ _=>FR.dflt gu X rfl (by rfl)<|by rfl
def dQ{b:Bool}{w:World}{a0 a1 a2 b0 b1 b2:MV}:c6 (SG b) w aI.fd aI.ns [a0,a1,a2] [q "explicit",q "version",q "tags"] [b0,b1,b2] [a0,a1,a2,b0,b1,b2]:=.of [.a 0,.a 1,.a 2,.k 0,.k 1,.k 2] rfl rfl λs X _ _ _ _ _ _=>FR.dflt gu X rfl (by rfl)<|by rfl
def kG(P:Params):(K P).lookup 543=some ⟨.type "tuple",none,.seq #[.none,.none,.none] 0,#[]⟩:=by kernel_rfl
def gT{b:Bool}{w:World}{a0 a1 a2 b0:MV}:c6 (SG b) w bQ.fd bQ.ns [a0,a1,a2] [q "explicit"] [b0] [a0,a1,a2,b0]:=.of [.a 0,.a 1,.a 2,.k 0] rfl rfl λs X _ _ _ _=>FR.dflt kG X rfl (by rfl)<|by rfl
def jq(P:Params):(K P).lookup 575=some ⟨.type "tuple",none,.seq #[.none,.none,.none] 0,#[]⟩:=by kernel_rfl
def ng{b:Bool}{w:World}{a0 a1 a2 a3 a4 a5 a6:MV}:c6 (SG b) w bu.fd bu.ns [a0,a1,a2,a3,a4,a5,a6] [] [] [a0,a1,a2,a3,a4,a5,a6,.none]:=.of [.a 0,.a 1,.a 2,.a 3,.a 4,.a 5,.a 6,.c .none 0] rfl rfl λs X _ _ _ _ _ _ _=>FR.dflt jq X rfl (by rfl)<|by rfl
def ju{b:Bool}{w:World}{a0 a1 a2 a3 a4 a5 a6 b0:MV}:c6 (SG b) w bu.fd bu.ns [a0,a1,a2,a3,a4,a5,a6] [q "style"] [b0] [a0,a1,a2,a3,a4,a5,a6,b0]:=.of [.a 0,.a 1,.a 2,.a 3,.a 4,.a 5,.a 6,.k 0] rfl rfl λs X _ _ _ _ _ _ _ _=>FR.dflt jq X rfl (by rfl)<|by rfl
def oz(P:Params):(K P).lookup 683=some ⟨.type "tuple",none,.seq #[(.int (0) 1211)] 0,#[]⟩:=by kernel_rfl
def rP{b:Bool}{w:World}{a0:MV}:c6 (SG b) w cN.fd cN.ns [a0] [] [] [a0,(.int 0)]:=.of [.a 0,.c (.int 0) 1211] rfl rfl λs X _=>FR.dflt oz X rfl (by rfl)<|by rfl
def rQ{b:Bool}{w:World}{a0 a1:MV}:c6 (SG b) w cN.fd cN.ns [a0,a1] [] [] [a0,a1]:=.of [.a 0,.a 1] rfl rfl λs X _ _=>FR.dflt oz X rfl (by rfl)<|by rfl
def rR(P:Params):(K P).lookup 691=some ⟨.type "tuple",none,.seq #[(.int (1) 1220)] 0,#[]⟩:=by kernel_rfl
def qa{b:Bool}{w:World}{a0 a1:MV}:c6 (SG b) w fk.fd fk.ns [a0,a1] [] [] [a0,a1]:=.of [.a 0,.a 1] rfl rfl λs X _ _=>FR.dflt rR X rfl (by rfl)<|by rfl
def jS(P:Params):(K P).lookup 699=some ⟨.type "tuple",none,.seq #[(.int (1) 1229)] 0,#[]⟩:=by kernel_rfl
def pI{b:Bool}{w:World}{a0:MV}:c6 (SG b) w aG.fd aG.ns [a0] [] [] [a0,(.int 1)]:=.of [.a 0,.c (.int 1) 1229] rfl rfl λs X _=>FR.dflt jS X rfl (by rfl)<|by rfl
def pJ{b:Bool}{w:World}{a0 a1:MV}:c6 (SG b) w aG.fd aG.ns [a0,a1] [] [] [a0,a1]:=.of [.a 0,.a 1] rfl rfl λs X _ _=>FR.dflt jS X rfl (by rfl)<|by rfl
def tH{w:World}{lv:Nat}{p:Nat}{v:MV}{H:MH}{Q:QV}{X:MV->MH->Prop}(hb:c6 (SG true) w mR fV [.ref p,v] [] [] [.ref p,v])
  (h:zg (SG true) w tF lv mJ (bW fV [.ref p,v]) H (gP Q) λx _ H'=>X x H'):nW (SG true) w lv 783 [.ref p,v] [] [] H Q X:=
 ZH (fa:=783) (ir:=mJ) (ns:=fV.drop 2) (f2:=682) (C:=1281) (cc:=771) (cda:=782) (st:=(dw 49 0)) (ql:=q "Scanner.__init__") (by kernel_rfl) (by kernel_rfl) (by kernel_rfl) (by kernel_rfl) (by decide) (λh=>h) (λP=>by kernel_rfl) (λP=>{
  fn:=⟨_,_,_,(show(K P).lookup 783=some ⟨(.type "function"),none,(.func<|fnX (q "__init__") (q "Scanner.__init__") (s8<|dw 49 0) (gV<|dw 49 0) (dS<|dw 49 0) [((q "__class__"),771)] .none .none .none (.str (q "yaml.scanner") 1285) none (.ref 782)<|.ref 776),#[]⟩ by kernel_rfl)⟩
  head:=⟨_,rfl,by kernel_rfl⟩
  code:=⟨_,_,_,_,_,_,(show(K P).lookup 782=some ⟨(.type "code"),none,(.fields #[(.str (q "__init__") 1354),(.str (q "Scanner.__init__") 1355),(.str (q "/claim/cut.py") 1356),(.int (306) 0),(.int (2) 0),(.int (0) 0),(.int (0) 0),(.int (3) 0),(.ref 777),(.bool true),(.int (181) 0),(.ref 778),.none,(.ref 779),(.ref 780),(.ref 781),(.int (1360) 0),(.int (306) 0),(.str (q "/claim/cut.py") 1361)]),#[]⟩ by kernel_rfl),rfl,by kernel_rfl⟩
  cell:=⟨_,_,_,(show(K P).lookup 771=some ⟨(.type "cell"),none,(.cell<|some<|.ref 1281),#[]⟩ by kernel_rfl)⟩
  cls:=Dn (show(clsIn (K P) 1281).isSome=true by kernel_rfl)
  sub:=by kernel_rfl
  sup:=by kernel_rfl
  any:=by kernel_rfl
  find:=by kernel_rfl
  typ:=by kernel_rfl
  Of:=by kernel_rfl
  n1:=by kernel_rfl
  n2:=by kernel_rfl
  n3:=by kernel_rfl
  n4:=by kernel_rfl
  top:=by kernel_rfl}) hb h
def qQ{b:Bool}{w:World}{a0 a1:MV}:c6 (SG b) w mR fV [a0,a1] [] [] [a0,a1]:=.of [.a 0,.a 1] rfl rfl λs X _ _=>.of_eq<|by rfl
def mu(P:Params):(K P).lookup 785=some ⟨.type "tuple",none,.seq #[(.ref 784)] 0,#[]⟩:=by kernel_rfl
def kH{b:Bool}{w:World}{a0 a1:MV}:c6 (SG b) w cu.fd cu.ns [a0,a1] [] [] [a0,a1]:=.of [.a 0,.a 1] rfl rfl λs X _ _=>FR.dflt mu X rfl (by rfl)<|by rfl
def gF{b:Bool}{w:World}{a0 b0:MV}:c6 (SG b) w bg.fd bg.ns [a0] [q "style"] [b0] [a0,b0]:=.of [.a 0,.k 0] rfl rfl λs X _ _=>.of_eq<|by rfl
def uR{w:World}{lv:Nat}{p:Nat}{v:MV}{H:MH}{Q:QV}{X:MV->MH->Prop}(hb:c6 (SG true) w ou gi [.ref p,v] [] [] [.ref p,v])
  (h:zg (SG true) w uQ lv nK (bW gi [.ref p,v]) H (gP Q) λx _ H'=>X x H'):nW (SG true) w lv 1312 [.ref p,v] [] [] H Q X:=
 ZH (fa:=1312) (ir:=nK) (ns:=gi.drop 2) (f2:=783) (C:=1521) (cc:=1299) (cda:=1311) (st:=(dw 52 1)) (ql:=q "Parser.__init__") (by kernel_rfl) (by kernel_rfl) (by kernel_rfl) (by kernel_rfl) (by decide) (λh=>h) (λP=>by kernel_rfl) (λP=>{
  fn:=⟨_,_,_,(show(K P).lookup 1312=some ⟨(.type "function"),none,(.func<|fnX (q "__init__") (q "Parser.__init__") (s8<|dw 52 1) (gV<|dw 52 1) (dS<|dw 52 1) [((q "__class__"),1299)] .none .none .none (.str (q "yaml.parser") 2098) none (.ref 1311)<|.ref 1305),#[]⟩ by kernel_rfl)⟩
  head:=⟨_,rfl,by kernel_rfl⟩
  code:=⟨_,_,_,_,_,_,(show(K P).lookup 1311=some ⟨(.type "code"),none,(.fields #[(.str (q "__init__") 2135),(.str (q "Parser.__init__") 2136),(.str (q "/claim/cut.py") 2137),(.int (1151) 0),(.int (2) 0),(.int (0) 0),(.int (0) 0),(.int (3) 0),(.ref 1306),(.bool true),(.int (181) 0),(.ref 1307),.none,(.ref 1308),(.ref 1309),(.ref 1310),(.int (2141) 0),(.int (1151) 0),(.str (q "/claim/cut.py") 2142)]),#[]⟩ by kernel_rfl),rfl,by kernel_rfl⟩
  cell:=⟨_,_,_,(show(K P).lookup 1299=some ⟨(.type "cell"),none,(.cell<|some<|.ref 1521),#[]⟩ by kernel_rfl)⟩
  cls:=Dn (show(clsIn (K P) 1521).isSome=true by kernel_rfl)
  sub:=by kernel_rfl
  sup:=by kernel_rfl
  any:=by kernel_rfl
  find:=by kernel_rfl
  typ:=by kernel_rfl
  Of:=by kernel_rfl
  n1:=by kernel_rfl
  n2:=by kernel_rfl
  n3:=by kernel_rfl
  n4:=by kernel_rfl
  top:=by kernel_rfl}) hb h
def rS{b:Bool}{w:World}{a0 a1:MV}:c6 (SG b) w ou gi [a0,a1] [] [] [a0,a1]:=.of [.a 0,.a 1] rfl rfl λs X _ _=>.of_eq<|by rfl
def oA(P:Params):(K P).lookup 1397=some ⟨.type "tuple",none,.seq #[(.bool false),(.bool false)] 0,#[]⟩:=by kernel_rfl
def fW{b:Bool}{w:World}{a0 b0:MV}:c6 (SG b) w bX.fd bX.ns [a0] [q "block"] [b0] [a0,b0,(.bool false)]:=.of [.a 0,.k 0,.c (.bool false) 0] rfl rfl λs X _ _=>FR.dflt oA X rfl (by rfl)<|by rfl
def zw(P:Params):(K P).lookup 1558=some ⟨.type "function",none,.func cW.fd,#[]⟩:=Pw 79 rfl P
def Se(P:Params):(K P).lookup 1605=some ⟨.type "function",none,.func A6,#[]⟩:=by kernel_rfl
def Sf:xX (SG true) mq eO.ib (gV<|qo 65)=true:=by kernel_rfl
structure P4 where
 ptr:Nat
 idx:Nat
 line:Nat
 col:Nat
structure PS where
 buf:List Nat
 pos:P4
 done:Bool
 tA:Nat
 taken:Nat
 indent:Int
 MI:Nat
 ask:Bool
 cg:Nat
 cur:MV
 oB:MV
 ly:MV
 oE:Nat
 tK:Nat
 state:MV
noncomputable def yd:List Nat:=[60,117,110,105,99,111,100,101,32,115,116,114,105,110,103,62]
def aM(s:PS):List (Nat×MV):=[(0,.str yd),(1,.none),(2,.int 0),(3,.bool true),(4,.str s.buf),(5,.int s.pos.ptr),(6,.none),(7,.none),(8,.none),(9,.int s.pos.idx),(10,.int s.pos.line),(11,.int s.pos.col),(12,.bool s.done),(13,.int 0),(14,.ref s.tA),(15,.int s.taken),(16,.int s.indent),(17,.ref s.MI),(18,.bool s.ask),(19,.ref s.cg),(20,s.cur),(21,s.oB),(22,s.ly),(23,.ref s.oE),(24,.ref s.tK),(25,s.state)]
def au{H:MH}{i:Nat}{o:MO}:(H.put i o).at_ i=some o:=aam rfl
def ao{H:MH}{i j:Nat}{o:MO}(h:j≠i):(H.put i o).at_ j=H.at_ j:=aal h
def fP{H:MH}{i:Nat}{o o':MO}:(H.put i o).put i o'=H.put i o':=by
 unfold MH.put;congr 1;funext j;dsimp only;split<;>rfl
def af{H:MH}{o:MO}:(H.new o).at_ H.n=some o:=aam rfl
def mz{H:MH}{o o':MO}:(H.new o).put H.n o'=H.new o':=by
 unfold MH.put MH.new;congr 1;funext j;dsimp only;split<;>rfl
section
variable{S:aP}{w:World}{f:Fm}{lv:Nat}{X:QX}{Q:QV}{QQ:QF}{QT:Bool->MH->Prop}{QL:List MV->MH->Prop}{QU:Option Int->MH->Prop}{L:Loc}{H:MH}
def eN(h:Q .none H):f5 S w lv .none L H Q X:=h
def eB{b}(h:Q (.bool b) H):f5 S w lv (.bool b) L H Q X:=h
def eI{i}(h:Q (.int i) H):f5 S w lv (.int i) L H Q X:=h
def eS{l}(h:Q (.str l) H):f5 S w lv (.str l) L H Q X:=h
def eC{c}(h:Q (.cls c) H):f5 S w lv (.iV c) L H Q X:=h
def eG{n}(h:Q (.ty n) H):f5 S w lv (.Zf n) L H Q X:=h
def eL{k v}(e:L[k]?=some (some v))(h:Q v H):f5 S w lv (.loc k) L H Q X:=by show rD _ _;rw[e];exact h
def aO{i k c fs u}(o:H.at_ i=some (.inst c fs))(l:fs.lookup k=some u)(h:Q u H):FE S (.ref i) k H Q:=by show iR (H.at_ i) _;rw[o];show(fs.lookup k).casesOn _ _;rw[l];exact h
def aC{i k c fs u}(o:H.at_ i=some (.inst c fs))(l:fs.lookup k=none)(a:S.ca c k=some u)(h:Q u H):FE S (.ref i) k H Q:=by show iR (H.at_ i) _;rw[o];show(fs.lookup k).casesOn _ _;rw[l];show bM (S.ca c k) _;rw[a];exact h
def eA{e k}(h:f5 S w lv e L H (λv H1=>FE S v k H1 Q) X):f5 S w lv (.attr e k) L H Q X:=h
def Vw{i k c fs}{K:Nat->Nat->List (Nat×MV)->Prop}(o:H.at_ i=some (.inst c fs))(h:K i c fs):dX (.ref i) k H K:=by show iR (H.at_ i) _;rw[o];exact h
def pB{α:Type}{o:Option α}{a:α}{k:α->Prop}(e:o=some a)(h:k a):bM o k:=by rw[e];exact h
def eM{o k az kn kws}(h:f5 S w lv o L H (λv H1=>dX v k H1 λi c fs=>fs.lookup k=none/\bM (S.mt c k) λfa=>CQ S w lv az L H1 (λvs H2=>CQ S w lv kws L H2 (λks H3=>bH S w lv fa (.ref i::vs) kn ks H3 Q λx H'=>X x L H') X) X) X):f5 S w lv (.gJ o k az kn kws) L H Q X:=h
def lN(h:QL [] H):CQ S w lv .nil L H QL X:=h
def lC{e r}(h:f5 S w lv e L H (λv H1=>CQ S w lv r L H1 (λvs H2=>QL (v::vs) H2) X) X):CQ S w lv (.cons e r) L H QL X:=h
def eGc{fa az kn kws}(h:CQ S w lv az L H (λvs H2=>CQ S w lv kws L H2 (λks H3=>bH S w lv fa vs kn ks H3 Q λx H'=>X x L H') X) X):f5 S w lv (.uq fa az kn kws) L H Q X:=h
def eMk{c fI az kn kws}(e:S.ini c=some fI)(h:CQ S w lv az L H (λvs H2=>CQ S w lv kws L H2 (λks H3=>bH S w lv fI (.ref H3.n::vs) kn ks (H3.new<|.inst c []) (λv H4=>v=.none/\Q (.ref H3.n) H4) λx H'=>X x L H') X) X):
  f5 S w lv (.make c az kn kws) L H Q X:=(pB e h:bM _ _)
def eBc{b az}(h:CQ S w lv az L H (λvs H1=>Om S b vs H1 Q) X):f5 S w lv (.yI b az) L H Q X:=h
def eK{m o az}(h:f5 S w lv o L H (λv H1=>sE v H1 m.kind/\CQ S w lv az L H1 (λvs H2=>Ad m v vs H2 Q) X) X):f5 S w lv (.su m o az) L H Q X:=h
def eBi{op l r}(h:f5 S w lv l L H (λa H1=>f5 S w lv r L H1 (λb H2=>tw op a b H2 Q) X) X):f5 S w lv (.bin op l r) L H Q X:=h
def eCm{op l r}(h:f5 S w lv l L H (λa H1=>f5 S w lv r L H1 (λb H2=>bM (gx op a b H2) λt=>Q (.bool t) H2) X) X):f5 S w lv (.cmp op l r) L H Q X:=h
def eCh{o1 o2 l m r}(h:f5 S w lv l L H (λa H1=>f5 S w lv m L H1 (λb H2=>bM (gx o1 a b H2) λt=>if t then f5 S w lv r L H2 (λd H5=>bM (gx o2 b d H5) λt=>Q (.bool t) H5) X else Q (.bool false) H2) X) X):f5 S w lv (.chain o1 o2 l m r) L H Q X:=h
def eNt{e}(h:f5 S w lv e L H (λv H1=>kc v H1 λb H2=>Q (.bool<|!b) H2) X):f5 S w lv (.not e) L H Q X:=h
def eIf{c a b}(h:J4 S w lv c L H (λt H1=>if t then f5 S w lv a L H1 Q X else f5 S w lv b L H1 Q X) X):f5 S w lv (.TR c a b) L H Q X:=h
def eSb{e i}(h:f5 S w lv e L H (λv H1=>f5 S w lv i L H1 (λj H2=>qF v j H2 Q) X) X):f5 S w lv (.sub e i) L H Q X:=h
def eSl{e lo hi}(h:f5 S w lv e L H (λv H1=>Tz S w lv lo L H1 (λa H2=>Tz S w lv hi L H2 (λb H3=>AJ v a b H3 Q) X) X) X):f5 S w lv (.slc e lo hi) L H Q X:=h
def oN(h:QU none H):Tz S w lv .no L H QU X:=h
def oY{e}(h:f5 S w lv e L H (λv H1=>j9 v λi=>QU (some i) H1) X):Tz S w lv (.yes e) L H QU X:=h
def eLi{es}(h:CQ S w lv es L H (λvs H1=>vs.length<=dg/\Q (.ref H1.n) (H1.new<|.list vs)) X):f5 S w lv (.list es) L H Q X:=h
def eTu{es}(h:CQ S w lv es L H (λvs H1=>vs.length<=dg/\Q (.tup vs) H1) X):f5 S w lv (.tup es) L H Q X:=h
def eV{op es}(h:Xz S w lv op es L H Q X):f5 S w lv (.Tv op es) L H Q X:=h
def tN{e}(h:J4 S w lv e L H (λb H1=>QT (!b) H1) X):J4 S w lv (.not e) L H QT X:=h
def tC{op l r}(h:f5 S w lv l L H (λa H1=>f5 S w lv r L H1 (λb H2=>bM (gx op a b H2) λt=>QT t H2) X) X):J4 S w lv (.cmp op l r) L H QT X:=h
def cS(c d:Nat):gx .Eq (.str [c]) (.str [d]) H=some (decide<|c=d):=by
 show some ([c]==[d])=_
 by_cases h:c=d
 ·subst h;simp
 ·rw[aad h];simpa using h
def A7{i xs u}(o:H.at_ i=some (.list xs))(h:xs.length<dg/\Q .none (H.put i<|.list<|xs++[u])):Ad .append (.ref i) [u] H Q:=by show gm (H.at_ i) _;rw[o];exact h
def Yr{i j xs ys}(o:H.at_ i=some (.list xs))(p:H.at_ j=some (.list ys))(h:xs.length+ys.length<=dg/\Q .none (H.put i<|.list<|xs++ys)):Ad .extend (.ref i) [.ref j] H Q:=by show gm (H.at_ i) _;rw[o];show gm (H.at_ j) _;rw[p];exact h
def W2{s i xs}(o:H.at_ i=some (.list xs))(h:s=[]/\bM (iz xs) λys=>(ys.map List.length).sum+ys.length<=dg/\Q (.str ys.flatten) H):Ad .join (.str s) [.ref i] H Q:=⟨h.1,by show gm (H.at_ i) _;rw[o];exact h.2⟩
def sS_{l a b}(h:l.length<dg/\Q (.str<|qI l a b) H):AJ (.str l) a b H Q:=h
def uL{i xs}(o:H.at_ i=some (.list xs))(h:QT (!xs.isEmpty) H):kc (.ref i) H QT:=by show iP (H.at_ i) _ _ _ _ _ _;rw[o];exact h
section
variable{P:Prop}[Decidable P]{A B:Prop}
end
end
noncomputable def mC(e:IE):Bool:=if h:e.ctorIdx=4 then IE.loc.elim (motive:=λ_=>Bool) e h λk=>Nat.beq k 0 else false
section
variable(S:aP)(c:Nat)(fs:List<|Nat×MV)(L:Loc)
end
section
variable{S:aP}{w:World}{f:Fm}{lv p c:Nat}{fs:List (Nat×MV)}{X:QX}{Q:QV}{QQ:QF}{QT:Bool->MH->Prop}{QL:List MV->MH->Prop}{L:Loc}{H:MH}
def Iu{e:IE}(h:mC e=true):e=.loc 0:=
 if q:e.ctorIdx=4 then IE.loc.elim (motive:=λe=>mC e=true->e=.loc 0) e q (λk h=>aac IE.loc<|Nat.eq_of_beq_eq_true h) h else aan ((dif_neg q).symm.trans h) aap
end
noncomputable def jw(b:Bool):MV:=if b then .bool true else .none
section
variable{S:aP}{w:World}{f:Fm}{lv:Nat}{X:QX}{Q:QV}{QQ:QF}{QT:Bool->MH->Prop}{QL:List MV->MH->Prop}{L:Loc}{H:MH}
def ZI{i xs}{K:Nat->List MV->Prop}(o:H.at_ i=some (.list xs))(h:K i xs):iZ (.ref i) λj=>gm (H.at_ j) (K j):=by show gm (H.at_ i) _;rw[o];exact h
def itP{i es k u}(o:H.at_ i=some (.pG es))(g:d9 k es=some u)(h:Q u H):qF (.ref i) (.int k) H Q:=by show iP (H.at_ i) _ _ _ _ _ _;rw[o];show bM (d9 k es) _;rw[g];exact h
def ZJ{i es}(o:H.at_ i=some (.cA es))(q:S.quiet=true)(h:Q (.ref H.n)<|H.new<|.list<|es.map λe=>.int e.1):Om S .list [.ref i] H Q:=by show rE (H.at_ i) _;rw[o];exact⟨q,h⟩
def ZK{i es k u}(o:H.at_ i=some (.cA es))(g:d9 k es=some u)(h:Q u H):qF (.ref i) (.int k) H Q:=by show iP (H.at_ i) _ _ _ _ _ _;rw[o];show bM (d9 k es) _;rw[g];exact h
def Vx{i xs}{n:Nat}{u}(o:H.at_ i=some (.list xs))(g:xs[n]?=some u)(h:Q u H):qF (.ref i) (.int (n:Int)) H Q:=by show iP (H.at_ i) _ _ _ _ _ _;rw[o];show bM xs[n]? _;rw[g];exact h
def Ys{i es k}{K:MH->Prop}(o:H.at_ i=some (.cA es))(g:(d9 k es).isSome=true)(h:K<|H.put i<|.cA<|Ej k es):Ax (.ref i) (.int k) H K:=by show rE (H.at_ i) _;rw[o];exact⟨g,h⟩
def seD{i es k v}{K:MH->Prop}(o:H.at_ i=some (.cA es))(h:es.length<jO/\K (H.put i<|.cA<|nR k v es)):vP (.ref i) (.int k) v H K:=by show rE (H.at_ i) _;rw[o];exact h
def seS{i es}{k:List Nat}{v}{K:MH->Prop}(o:H.at_ i=some (.aF es))(h:es.length<jO/\K (H.put i<|.aF<|nR k v es)):vP (.ref i) (.str k) v H K:=by show xG (H.at_ i) _;rw[o];exact h
def Vy{i es k}{K:Bool->Prop}(o:H.at_ i=some (.cA es))(h:K (d9 k es).isSome):bM (gx .In (.int k) (.ref i) H) K:=by show bM (Xi (H.at_ i) k) K;rw[o];exact h
def eBL{j k i c fs fa}(e:L[j]?=some (some<|.ref i))(o:H.at_ i=some (.inst c fs))(l:fs.lookup k=none)(m:S.mt c k=some fa)(h:Q (.fj fa i) H):f5 S w lv (.qn (.loc j) k) L H Q X:=by
 show f5 S w lv (.loc j) L H (λv H1=>dX v k H1 λi c fs=>fs.lookup k=none/\bM (S.mt c k) λfa=>Q (.fj fa i) H1) X
 exact eL e<|Vw o ⟨l,pB m h⟩
def eFL{j k i c fs fa a}(e:L[j]?=some (some<|.ref i))(o:H.at_ i=some (.inst c fs))(l:fs.lookup k=some (.fj fa a))(m:∃c' k',S.mt c' k'=some fa)(h:bH S w lv fa [.ref a] [] [] H Q λx H'=>X x L H'):f5 S w lv (.yG (.loc j) k) L H Q X:=by
 show f5 S w lv (.loc j) L H (λv H1=>dX v k H1 λi c fs=>sD (fs.lookup k) λfa j=>(∃c' k',S.mt c' k'=some fa)/\bH S w lv fa [.ref j] [] [] H1 Q (λx H'=>X x L H')) X
 exact eL e<|Vw o<|by rw[l];exact⟨m,h⟩
def MJ{i ys u}(o:H.at_ i=some (.list<|ys++[u]))(h:Q u<|H.put i<|.list ys):Ad .pop (.ref i) [] H Q:=by show gm (H.at_ i) _;rw[o];exact⟨ys,u,rfl,h⟩
def Yt{i xs u}(o:H.at_ i=some (.list<|u::xs))(h:Q u<|H.put i<|.list xs):Ad .pop (.ref i) [.int 0] H Q:=by show gm (H.at_ i) _;rw[o];exact⟨rfl,_,_,rfl,h⟩
end
abbrev Fs:=List<|Nat×MV
structure En where
 s:Bool
 b:Bool
 f:Fm
 lv:Nat
 p:Nat
 c:Nat
structure Sg where
 A:Fs
 L:Loc
 F:Fs
 fs:Fs
 H:MH
abbrev VQ:=MV->Sg->Prop
abbrev VF:=MF->Sg->Prop
def Sg.loc(σ:Sg):Loc:=σ.A.rec σ.L λkv _ ih=>ih.set kv.1<|some kv.2
def Sg.all(σ:Sg):Fs:=σ.F.rec σ.fs λkv _ ih=>jN kv.1 kv.2 ih
def Sg.lv(σ:Sg)(k:Nat):Option (Option MV):=σ.A.rec σ.L[k]? λkv _ ih=>cond (Nat.beq kv.1 k) (cond (Nat.blt k σ.L.length) (some<|some kv.2) none) ih
def Sg.fl(σ:Sg)(k:Nat):Option MV:=σ.F.rec (σ.fs.lookup k) λkv _ ih=>cond (Nat.beq k kv.1) (some kv.2) ih
noncomputable def Sg.as(σ:Sg)(k:Nat)(v:MV):Sg:=σ.casesOn λA L F fs H=>⟨(k,v)::A,L,F,fs,H⟩
noncomputable def Sg.st(σ:Sg)(k:Nat)(v:MV):Sg:=σ.casesOn λA L F fs H=>⟨A,L,(k,v)::F,fs,H⟩
noncomputable def Sg.bk(σ:Sg)(fs:Fs)(H:MH):Sg:=σ.casesOn λA L _ _ _=>⟨A,L,[],fs,H⟩
def hp(z:En)(σ:Sg):MH:=σ.F.casesOn σ.H λ_ _=>σ.H.put z.p<|.inst z.c σ.all
inductive RS(p c:Nat)(K:Fs->MH->Prop)(H:MH):Prop
 |mk {fs:Fs}:H.at_ p=some (.inst c fs)->K fs H->RS p c K H
inductive RL(p c:Nat)(K:Sg->Prop)(L:Loc)(H:MH):Prop
 |mk {fs:Fs}:H.at_ p=some (.inst c fs)->L[0]?=some (some<|.ref p)->K ⟨[],L,[],fs,H⟩->RL p c K L H
def rr(z:En)(σ:Sg)(K:Sg->Prop)(H:MH):Prop:=@Bool.rec (λ_=>Prop) (K<|σ.bk [] H) (RS z.p z.c (λfs H=>K<|σ.bk fs H) H) z.s
def rl(z:En)(K:Sg->Prop)(L:Loc)(H:MH):Prop:=@Bool.rec (λ_=>Prop) (K ⟨[],L,[],[],H⟩) (RL z.p z.c K L H) z.s
def CW(b:Bool)(lv fa:Nat)(vs:List MV)(kn:List Str)(us:List MV)(H:MH)(Q:QV)(X:MV->MH->Prop):Prop:=∀w,bH (SG b) w lv fa vs kn us H Q X
def SC(lv fa p c:Nat)(vs:List MV)(kn:List Str)(us:List MV)(H:MH)(Q:MV->Fs->MH->Prop)(X:MV->MH->Prop)(b:Bool:=true):Prop:=CW b lv fa (.ref p::vs) kn us H (λv=>RS p c<|Q v) X
def LW(z:En)(c:IE)(b o:IS)(L:Loc)(H:MH)(Q:QF)(X:QX):Prop:=∀w,tD (SG z.b) w z.f z.lv c b o L H Q X
def FW(z:En)(b:IS)(us:List<|Loc->Loc)(L:Loc)(H:MH)(Q:QF):Prop:=∀w,mZ (SG z.b) w z.f z.lv b us L H Q
abbrev TQ:=Bool->Sg->Prop
abbrev AQ:=List MV->Sg->Prop
abbrev OQ:=Option Int->Sg->Prop
structure VX where
 E:En->Sg->VQ->QX->Prop
 T:En->Sg->TQ->QX->Prop
 L:En->Sg->AQ->QX->Prop
 V:BoolOp->En->Sg->VQ->QX->Prop
 B:BoolOp->En->Sg->TQ->QX->Prop
 O:En->Sg->OQ->QX->Prop
def nm(z:En)(σ:Sg)(K:Bool->Nat->Nat->Nat->Sg->MH->Prop):Prop:=z.casesOn λ_ b _ lv p c=>σ.casesOn λA L F fs H=>F.casesOn (K b lv p c ⟨A,L,[],fs,H⟩ H) λkv F=>K b lv p c ⟨A,L,kv::F,fs,H⟩<|H.put p<|.inst c<|Sg.all ⟨A,L,kv::F,fs,H⟩
def EY{z:En}{σ:Sg}{K:Bool->Nat->Nat->Nat->Sg->MH->Prop}(h:nm z σ K):K z.b z.lv z.p z.c σ (hp z σ):=by
 obtain⟨A,L,F,fs,H⟩:=σ
 cases F<;>exact h
def kU(σ:Sg)(Q:VQ):QV:=λu _=>Q u σ
def kX(σ:Sg)(X:QX):MV->MH->Prop:=λx H=>X x σ.loc H
def kB(σ:Sg)(Q:VQ):MV->Fs->MH->Prop:=λv fs H=>Q v<|σ.bk fs H
def kR(z:En)(σ:Sg)(Q:VQ):QV:=λv=>rr z σ<|Q v
def kM(σ:Sg)(Q:TQ):Bool->MH->Prop:=λb _=>Q b σ
def kT(z:En)(Q:TQ):VQ:=λv σ=>kc v (hp z σ)<|kM σ Q
def kO(Q:VQ):TQ:=λt σ=>Q (.bool t) σ
def kP(σ:Sg)(Q:TQ):Bool->Prop:=λt=>Q t σ
noncomputable def VX.t(E:En->Sg->VQ->QX->Prop)(T:En->Sg->TQ->QX->Prop):VX:=⟨E,T,λ_ _ _ _=>False,λ_ _ _ _ _=>False,λ_ _ _ _ _=>False,λ_ _ _ _=>False⟩
def VX.e(E:En->Sg->VQ->QX->Prop):VX:=.t E λz σ Q X=>E z σ (kT z Q) X
noncomputable def VX.o(O:En->Sg->OQ->QX->Prop):VX:=⟨λ_ _ _ _=>False,λ_ _ _ _=>False,λ_ _ _ _=>False,λ_ _ _ _ _=>False,λ_ _ _ _ _=>False,O⟩
def kAt(k:Nat)(z:En)(Q:VQ):VQ:=λv σ=>FE (SG z.b) v k (hp z σ)<|kU σ Q
def Iv(e:IE)(k:Nat)(a:VX):VX:=.e λz σ Q X=>@Bool.rec (λ_=>Prop) (a.E z σ (kAt k z Q) X) ((σ.fl k).casesOn (bM (find3 RV z.c k) λu=>Q u σ) λu=>Q u σ)<|z.s&&mC e
def Dp(e:IE)(k:Nat):VX:=.e λz σ Q X=>@Bool.rec (λ_=>Prop) False ((σ.fl k).casesOn (bM (Ig z.c k) λfa=>Q (.fj fa z.p) σ) λ_=>False)<|z.s&&mC e
def kSc(fa:Nat)(kn:List Str)(vs:List MV)(z:En)(Q:VQ)(X:QX):AQ:=λus σ=>nm z σ λb lv p c σ H=>SC lv fa p c vs kn us H (kB σ Q) (kX σ X) b
def kSa(fa:Nat)(kn:List Str)(ks:VX)(z:En)(Q:VQ)(X:QX):AQ:=λvs σ=>ks.L z σ (kSc fa kn vs z Q X) X
def ZL(fa:Nat)(kn:List Str)(vs:List MV)(z:En)(Q:VQ)(X:QX):AQ:=λus σ=>nm z σ λb lv _ _ σ H=>CW b lv fa vs kn us H (kR z σ Q)<|kX σ X
def kCa(fa:Nat)(kn:List Str)(ks:VX)(z:En)(Q:VQ)(X:QX):AQ:=λvs σ=>ks.L z σ (ZL fa kn vs z Q X) X
def kCi(fa:Nat)(kn:List Str)(i:Nat)(ks:VX)(z:En)(Q:VQ)(X:QX):AQ:=λvs σ=>ks.L z σ (ZL fa kn (.ref i::vs) z Q X) X
def kMo(k:Nat)(kn:List Str)(as ks:VX)(z:En)(Q:VQ)(X:QX):VQ:=λv σ=>dX v k (hp z σ) λi c fs=>fs.lookup k=none/\bM (Ig c k) λfa=>as.L z σ (kCi fa kn i ks z Q X) X
def Dq(e:IE)(k:Nat)(kn:List Str)(a as ks:VX):VX:=.e λz σ Q X=>@Bool.rec (λ_=>Prop) (a.E z σ (kMo k kn as ks z Q X) X) ((σ.fl k).casesOn (bM (Ig z.c k) λfa=>as.L z σ (kSa fa kn ks z Q X) X) λ_=>False)<|z.s&&mC e
def Dr(e:IE)(k:Nat):VX:=.e λz σ Q X=>@Bool.rec (λ_=>Prop) False (sD (σ.fl k) λfa j=>(∃c' k',Ig c' k'=some fa)/\CW z.b z.lv fa [.ref j] [] [] (hp z σ) (kR z σ Q) (kX σ X))<|z.s&&mC e
def Ds(fa:Nat)(kn:List Str)(as ks:VX):VX:=.e λz σ Q X=>as.L z σ (kCa fa kn ks z Q X) X
def kNr(z:En)(σ:Sg)(i:Nat)(Q:VQ):QV:=λv H=>v=.none/\rr z σ (Q<|.ref i) H
def Yu(c fI:Nat)(kn:List Str)(vs:List MV)(z:En)(Q:VQ)(X:QX):AQ:=λus σ=>nm z σ λb lv _ _ σ H=>CW b lv fI (.ref H.n::vs) kn us (H.new<|.inst c []) (kNr z σ H.n Q)<|kX σ X
def kNa(c fI:Nat)(kn:List Str)(ks:VX)(z:En)(Q:VQ)(X:QX):AQ:=λvs σ=>ks.L z σ (Yu c fI kn vs z Q X) X
def Iw(c:Nat)(kn:List Str)(as ks:VX):VX:=.e λz σ Q X=>bM (Ie.lookup c) λfI=>as.L z σ (kNa c fI kn ks z Q X) X
def kNl(c fI:Nat)(z:En)(Q:VQ)(X:QX):AQ:=λvs=>Yu c fI [] vs z Q X []
def Dt(k:Nat)(as:VX):VX:=.e λz σ Q X=>rD (σ.lv k) λv=>yO v λc=>bM (Ie.lookup c) λfI=>as.L z σ (kNl c fI z Q X) X
def kFr(b:BF)(z:En)(σ:Sg)(Q:VQ):QV:=λu H=>b.casesOn (Q u σ) (Q u σ) (Q u σ)<|rr z σ (Q u) H
def kFa(b:BF)(z:En)(Q:VQ):AQ:=λvs σ=>Om (SG z.b) b vs (hp z σ)<|kFr b z σ Q
def Du(b:BF)(as:VX):VX:=.e λz σ Q X=>as.L z σ (kFa b z Q) X
def Yv(m:KM)(z:En)(σ:Sg)(Q:VQ):QV:=λu H=>m.casesOn (rr z σ (Q u) H) (rr z σ (Q u) H) (rr z σ (Q u) H)<|Q u σ
def kKa(m:KM)(v:MV)(z:En)(Q:VQ):AQ:=λvs σ=>Ad m v vs (hp z σ)<|Yv m z σ Q
def kKo(m:KM)(as:VX)(z:En)(Q:VQ)(X:QX):VQ:=λv σ=>sE v (hp z σ) m.kind/\as.L z σ (kKa m v z Q) X
def Dv(m:KM)(a as:VX):VX:=.e λz σ Q X=>a.E z σ (kKo m as z Q X) X
def kBr(op:Operator)(a:MV)(z:En)(Q:VQ):VQ:=λb σ=>tw op a b (hp z σ)<|kU σ Q
def kBl(op:Operator)(r:VX)(z:En)(Q:VQ)(X:QX):VQ:=λa σ=>r.E z σ (kBr op a z Q) X
def Px(op:Operator)(l r:VX):VX:=.e λz σ Q X=>l.E z σ (kBl op r z Q X) X
def ZM(op:CmpOp)(a:MV)(z:En)(Q:TQ):VQ:=λb σ=>bM (gx op a b<|hp z σ)<|kP σ Q
def ZN(op:CmpOp)(r:VX)(z:En)(Q:TQ)(X:QX):VQ:=λa σ=>r.E z σ (ZM op a z Q) X
def Py(op:CmpOp)(l r:VX):VX:=.t (λz σ Q X=>l.E z σ (ZN op r z (kO Q) X) X) λz σ Q X=>l.E z σ (ZN op r z Q X) X
def kHt(op:CmpOp)(b:MV)(r:VX)(z:En)(σ:Sg)(Q:TQ)(X:QX):Bool->Prop:=λt=>@Bool.rec (λ_=>Prop) (Q false σ) (r.E z σ (ZM op b z Q) X) t
def kHm(o1 o2:CmpOp)(a:MV)(r:VX)(z:En)(Q:TQ)(X:QX):VQ:=λb σ=>bM (gx o1 a b<|hp z σ)<|kHt o2 b r z σ Q X
def ZO(o1 o2:CmpOp)(m r:VX)(z:En)(Q:TQ)(X:QX):VQ:=λa σ=>m.E z σ (kHm o1 o2 a r z Q X) X
def Dw(o1 o2:CmpOp)(l m r:VX):VX:=.t (λz σ Q X=>l.E z σ (ZO o1 o2 m r z (kO Q) X) X) λz σ Q X=>l.E z σ (ZO o1 o2 m r z Q X) X
def ZP(Q:TQ):TQ:=λb σ=>Q (!b) σ
def v_not(a:VX):VX:=.t (λz σ Q X=>a.E z σ (kT z<|ZP<|kO Q) X) λz σ Q X=>a.T z σ (ZP Q) X
def kNg(Q:VQ):VQ:=λv σ=>j9 v λi=>Q (.int<|-i) σ
def Pz(a:VX):VX:=.e λz σ Q X=>a.E z σ (kNg Q) X
def kIf(a b:VX)(z:En)(Q:VQ)(X:QX):TQ:=λt σ=>@Bool.rec (λ_=>Prop) (b.E z σ Q X) (a.E z σ Q X) t
def PA(c a b:VX):VX:=.e λz σ Q X=>c.T z σ (kIf a b z Q X) X
def kIr(v:MV)(z:En)(Q:VQ):VQ:=λj σ=>qF v j (hp z σ)<|kU σ Q
def kIl(i:VX)(z:En)(Q:VQ)(X:QX):VQ:=λv σ=>i.E z σ (kIr v z Q) X
def v_sub(a i:VX):VX:=.e λz σ Q X=>a.E z σ (kIl i z Q X) X
def kSl(v:MV)(z:En)(σ:Sg)(Q:VQ):QV:=λu H=>v.casesOn False (λ_=>False) (λ_=>False) (λ_=>Q u σ) (λ_=>rr z σ (Q u) H) (λ_=>False) (λ_ _=>False) (λ_=>False) λ_=>False
def kLh(v:MV)(x:Option Int)(z:En)(Q:VQ):OQ:=λy σ=>AJ v x y (hp z σ)<|kSl v z σ Q
def kLl(v:MV)(hi:VX)(z:En)(Q:VQ)(X:QX):OQ:=λx σ=>hi.O z σ (kLh v x z Q) X
def kLo(lo hi:VX)(z:En)(Q:VQ)(X:QX):VQ:=λv σ=>lo.O z σ (kLl v hi z Q X) X
def PB(a lo hi:VX):VX:=.e λz σ Q X=>a.E z σ (kLo lo hi z Q X) X
def kLs(z:En)(Q:VQ):AQ:=λvs σ=>@Bool.rec (λ_=>Prop) False (rr z σ (Q<|.ref (hp z σ).n)<|(hp z σ).new<|.list vs)<|Nat.ble vs.length 1000
def Iz(es:VX):VX:=.e λz σ Q X=>es.L z σ (kLs z Q) X
def kTu(Q:VQ):AQ:=λvs σ=>@Bool.rec (λ_=>Prop) False (Q (.tup vs) σ)<|Nat.ble vs.length 1000
def PC(es:VX):VX:=.e λz σ Q X=>es.L z σ (kTu Q) X
def PE(o:MO):VX:=.e λz σ Q _=>rr z σ (Q<|.ref (hp z σ).n)<|(hp z σ).new o
noncomputable def PF:VX:=⟨λ_ _ _ _=>False,λ_ _ _ _=>False,λ_ σ Q _=>Q [] σ,λ_ _ _ _ _=>False,λop _ σ Q _=>op.casesOn (Q true σ)<|Q false σ,λ_ _ _ _=>False⟩
def kAc(v:MV)(Q:AQ):AQ:=λvs σ=>Q (v::vs) σ
def kAr(r:VX)(z:En)(Q:AQ)(X:QX):VQ:=λv σ=>r.L z σ (kAc v Q) X
def kVt(op:BoolOp)(r:VX)(v:MV)(z:En)(Q:VQ)(X:QX):TQ:=λb σ=>op.casesOn (@Bool.rec (λ_=>Prop) (Q v σ) (r.V .And z σ Q X) b)<|@Bool.rec (λ_=>Prop) (r.V .Or z σ Q X) (Q v σ) b
def kV(op:BoolOp)(r:VX)(z:En)(Q:VQ)(X:QX):VQ:=λv σ=>kc v (hp z σ)<|kM σ<|kVt op r v z Q X
def kBt(op:BoolOp)(r:VX)(z:En)(Q:TQ)(X:QX):TQ:=λb σ=>op.casesOn (@Bool.rec (λ_=>Prop) (Q false σ) (r.B .And z σ Q X) b)<|@Bool.rec (λ_=>Prop) (r.B .Or z σ Q X) (Q true σ) b
noncomputable def IA(r':IE)(a r:VX):VX:=⟨λ_ _ _ _=>False,λ_ _ _ _=>False,λz σ Q X=>a.E z σ (kAr r z Q X) X,λop z σ Q X=>@Bool.rec (λ_=>Prop) (a.E z σ (kV op r z Q X) X) (a.E z σ Q X)<|Nat.beq r'.ctorIdx 30,λop z σ Q X=>a.T z σ (kBt op r z Q X) X,λ_ _ _ _=>False⟩
def kYe(Q:OQ):VQ:=λv σ=>j9 v λi=>Q (some i) σ
def vx(e:IE):VX:=e.rec (.e λ_ σ Q _=>Q .none σ) (λb=>.e λ_ σ Q _=>Q (.bool b) σ) (λi=>.e λ_ σ Q _=>Q (.int i) σ) (λl=>.e λ_ σ Q _=>Q (.str l) σ) (λk=>.e λ_ σ Q _=>rD (σ.lv k) λv=>Q v σ) (λc=>.e λ_ σ Q _=>Q (.cls c) σ) (λn=>.e λ_ σ Q _=>Q (.ty n) σ)
 Iv (λe k _=>Dp e k) (λe k _ kn _ a as ks=>Dq e k kn a as ks) (λe k _=>Dr e k) (λfa _ kn _ as ks=>Ds fa kn as ks) (λc _ kn _ as ks=>Iw c kn as ks) (λk _ as=>Dt k as) (λb _ as=>Du b as) (λm _ _ a as=>Dv m a as) (λop _ _ l r=>Px op l r) (λop _ _ l r=>Py op l r) (λo1 o2 _ _ _ l m r=>Dw o1 o2 l m r)
 (λop _ es=>.t (es.V op)<|es.B op) (λ_ a=>v_not a) (λ_ a=>Pz a) (λ_ _ _ c a b=>PA c a b) (λ_ _ a i=>v_sub a i) (λ_ _ _ a lo hi=>PB a lo hi) (λ_ es=>Iz es) (λ_ es=>PC es) (PE<|.aF []) (PE<|.cA []) (.e λ_ _ _ _=>False) PF (λ_ r' a r=>IA r' a r) (.o λ_ σ Q _=>Q none σ) (λ_ a=>.o λz σ Q X=>a.E z σ (kYe Q) X)
structure Cx where
 z:En
 Q:VF
 X:QX
abbrev Nx:=Cx->List IS->Sg->Prop
abbrev PQ:=Sg->Prop
def stk(N:Nx)(C:Cx)(rs:List IS):VF:=λmf σ=>mf.casesOn (N C rs σ) (C.Q .brk σ) (C.Q .cont σ) λv=>C.Q (.ret v) σ
def ZQ(C:Cx):VQ:=λv σ=>C.Q (.ret v) σ
def kEx(P:PQ):VQ:=λ_ σ=>P σ
def kAs(k:Nat)(P:PQ):VQ:=λv σ=>@Bool.rec (λ_=>Prop) (P<|σ.as k v) False<|Nat.beq k 0
def IC(k:Nat)(e:IE):Nx->Nx:=λN C rs σ=>(vx e).E C.z σ (kAs k<|N C rs) C.X
def kA2(k j:Nat)(P:PQ):VQ:=λv σ=>@Bool.rec (λ_=>Prop) (P<|(σ.as k v).as j v) False<|Nat.beq (k*j) 0
def Dy(k j:Nat)(e:IE):Nx->Nx:=λN C rs σ=>(vx e).E C.z σ (kA2 k j<|N C rs) C.X
def kA3(k j i:Nat)(P:PQ):VQ:=λv σ=>@Bool.rec (λ_=>Prop) (P<|((σ.as k v).as j v).as i v) False<|Nat.beq (k*j*i) 0
def Dz(k j i:Nat)(e:IE):Nx->Nx:=λN C rs σ=>(vx e).E C.z σ (kA3 k j i<|N C rs) C.X
def PI(ks:List Nat)(vs:List MV)(σ:Sg)(K:Sg->Prop):Prop:=ks.rec (motive:=λ_=>List MV->Sg->Prop) (λvs σ=>vs.casesOn (K σ) λ_ _=>False) (λk _ ih vs σ=>vs.casesOn False λv vs=>@Bool.rec (λ_=>Prop) (ih vs<|σ.as k v) False<|Nat.beq k 0) vs σ
def kA4(ks:List Nat)(P:PQ):VQ:=λv σ=>An v λvs=>PI ks vs σ P
def DA(ks:List Nat)(e:IE):Nx->Nx:=λN C rs σ=>(vx e).E C.z σ (kA4 ks<|N C rs) C.X
def putK(z:En)(k:Nat)(v:MV)(σ:Sg)(K:Sg->Prop):Prop:=@Bool.rec (λ_=>Prop) False (K<|σ.st k v)<|ET z.c k&&Nat.ble σ.all.length 100
def kSe(z:En)(k:Nat)(P:PQ):VQ:=λv σ=>putK z k v σ P
def DB(o:IE)(k:Nat)(e:IE):Nx->Nx:=λN C rs σ=>@Bool.rec (λ_=>Prop) False ((vx e).E C.z σ (kSe C.z k<|N C rs) C.X)<|C.z.s&&mC o
def DC(o i e:IE):Nx->Nx:=λN C rs σ=>(vx e).E C.z σ (λv σ=>(vx o).E C.z σ (λov σ=>(vx i).E C.z σ (λiv σ=>vP ov iv v (hp C.z σ)<|rr C.z σ<|N C rs) C.X) C.X) C.X
def kSu(k:Nat)(σ:Sg)(P:PQ):QV:=λv _=>@Bool.rec (λ_=>Prop) (P<|σ.as k v) False<|Nat.beq k 0
def kAu(k:Nat)(op:Operator)(u:MV)(z:En)(P:PQ):VQ:=λb σ=>tw op u b (hp z σ)<|kSu k σ P
def DE(k:Nat)(op:Operator)(e:IE):Nx->Nx:=λN C rs σ=>rD (σ.lv k) λu=>(vx e).E C.z σ (kAu k op u C.z<|N C rs) C.X
def kSv(z:En)(k:Nat)(σ:Sg)(P:PQ):QV:=λv _=>putK z k v σ P
def kAg(k:Nat)(op:Operator)(u:MV)(z:En)(P:PQ):VQ:=λb σ=>tw op u b (hp z σ)<|kSv z k σ P
def DF(o:IE)(k:Nat)(op:Operator)(e:IE):Nx->Nx:=λN C rs σ=>@Bool.rec (λ_=>Prop) False (bM (σ.fl k) λu=>(vx e).E C.z σ (kAg k op u C.z<|N C rs) C.X)<|C.z.s&&mC o
def ZR(P P':PQ):TQ:=λb σ=>@Bool.rec (λ_=>Prop) (P' σ) (P σ) b
def ID(c:IE)(t e:Nx->Nx):Nx->Nx:=λN C rs σ=>(vx c).T C.z σ (ZR (t N C rs)<|e N C rs) C.X
def kW(z:En)(Q:VF):QF:=λmf=>rl z<|Q mf
def IG(c:IE)(b o:IS):Nx->Nx:=λN C rs σ=>nm C.z σ λ_ _ _ _ σ H=>LW C.z c b o σ.loc H (kW C.z<|stk N C rs) C.X
def DG(k:Nat)(e:IE)(b:IS):Nx->Nx:=λN C rs σ=>(vx e).E C.z σ (λv σ=>iZ v λj=>gm ((hp C.z σ).at_ j) λxs=>FW C.z b (xs.map λv Lc=>Lc.set k<|some v) σ.loc ((hp C.z σ).del j)<|kW C.z<|stk N C rs) C.X
def DH(k:Nat)(e:IE)(b:IS):Nx->Nx:=λN C rs σ=>(vx e).E C.z σ (λv σ=>iZ v λj=>rE ((hp C.z σ).at_ j) λes=>FW C.z b (es.map λe Lc=>Lc.set k<|some<|.int e.1) σ.loc ((hp C.z σ).put j<|.pG es) λmf L H=>H.at_ j=some (.pG es)/\kW C.z (stk N C rs) mf L (H.put j<|.cA es)) C.X
def DI(ks:List Nat)(e:IE)(b:IS):Nx->Nx:=λN C rs σ=>(vx e).E C.z σ (λv σ=>qB v λl=>FW C.z b (pP ks 0 l) σ.loc (hp C.z σ)<|kW C.z<|stk N C rs) C.X
def II(o i:IE):Nx->Nx:=λN C rs σ=>(vx o).E C.z σ (λov σ=>(vx i).E C.z σ (λiv σ=>Ax ov iv (hp C.z σ)<|rr C.z σ<|N C rs) C.X) C.X
def ZS(P:PQ):TQ:=λb σ=>b=true/\P σ
def DJ(i:Nat)(b:IS):Nx->Nx:=λN C rs σ=>∀w Q',(∀mf L H,kW C.z (stk N C rs) mf L H->Q' mf L H)->WW i C.z.lv σ.loc (hp C.z σ) (λqt l fa vs kn ks H Q X=>bH (SG qt) w l fa vs kn ks H Q X) (λL' H' Q' X'=>zg (SG C.z.b) w C.z.f C.z.lv b L' H' Q' X') Q' C.X
noncomputable def DK(r:IS)(rs:List IS):List IS:=cond (Nat.beq r.ctorIdx 24) rs<|r::rs
def Yw(s:IS):Nx->Nx:=s.rec (λN=>N) (λ_ C _ σ=>C.Q .brk σ) (λ_ C _ σ=>C.Q .cont σ) (λe _ C _ σ=>(vx e).E C.z σ (ZQ C) C.X) (λ_ C _ σ=>C.Q (.ret .none) σ) (λe N C rs σ=>(vx e).E C.z σ (kEx<|N C rs) C.X) IC Dy Dz DA DB DC DE DF (λc _ _ t e=>ID c t e) (λc b o _ _=>IG c b o) (λk e b _=>DG k e b) (λk e b _=>DH k e b) (λks e b _=>DI ks e b)
 (λ_ _ b o N C rs σ=>b N ⟨C.z,λmf σ=>mf.casesOn (o N C rs σ) (C.Q .brk σ) (C.Q .cont σ) λv=>C.Q (.ret v) σ,uK⟩ [] σ) II (λe N C rs σ=>(vx e).T C.z σ (ZS<|N C rs) C.X) (λi b _=>DJ i b) (λ_ _ _ _=>False) (λN=>N) λ_ r s _ N C rs σ=>s N C (DK r rs) σ
def run(n:Nat):Nx:=n.rec (λ_ _ _=>False) λ_ N C rs σ=>rs.casesOn (C.Q .next σ) λr rs=>Yw r N C rs σ
section
variable{S:aP}{w:World}{Q Q':QV}{H:MH}{α:Type}{P:Prop}
def rT{v:MV}{K K':Int->Prop}(h:j9 v K)(m:∀a,K a->K' a):j9 v K':=yP (P:=λv=>j9 v K') h m
def Vz{v:MV}{K K':Nat->Prop}(h:yO v K)(m:∀a,K a->K' a):yO v K':=Uj (P:=λv=>yO v K') h m
def Yx{v:MV}{K K':List MV->Prop}(h:An v K)(m:∀a,K a->K' a):An v K':=Qv h λa e h=>e▸m a h
def Sh{k:Int}{K K':Nat->Prop}(h:Ao k K)(m:∀a,K a->K' a):Ao k K':=Kz (P:=λk=>Ao k K') h m
def IJ{o:Option MO}{kI ZT:Nat->List (Nat×MV)->Prop}{kL ZU kF ZV:List MV->Prop}{kS ZW:List (List Nat×MV)->Prop}{kD ZX kP ZY:List (Int×MV)->Prop}(h:iP o kI kL kF kS kD kP)(mI:∀c fs,kI c fs->ZT c fs)(mL:∀x,kL x->ZU x)(mF:∀x,kF x->ZV x)(mS:∀x,kS x->ZW x)(mD:∀x,kD x->ZX x)(mP:∀x,kP x->ZY x):iP o ZT ZU ZV ZW ZX ZY:=
 jl h λa h=>by cases a<;>first|exact mI _ _ h|exact mL _ h|exact mF _ h|exact mS _ h|exact mD _ h|exact mP _ h|exact h
def rU{vs:List MV}{K K':MV->Prop}(h:arg1 vs K)(m:∀v,K v->K' v):arg1 vs K':=nU (P:=λvs=>arg1 vs K') h m
def VA{o:Option MO}{K K':Nat->List (Nat×MV)->Prop}(h:iR o K)(m:∀c fs,K c fs->K' c fs):iR o K':=IJ h m (λ_ h=>h) (λ_ h=>h) (λ_ h=>h) (λ_ h=>h) λ_ h=>h
def VB{o:Option MO}{K K':List (List Nat×MV)->Prop}(h:xG o K)(m:∀x,K x->K' x):xG o K':=IJ h (λ_ _ h=>h) (λ_ h=>h) (λ_ h=>h) m (λ_ h=>h) λ_ h=>h
def VC{v:MV}{k:Nat}(h:FE S v k H Q)(m:∀u,Q u H->Q' u H):FE S v k H Q':=by
 cases v with
 |ref i=>
  exact VA h λc fs h=>by
   cases q:fs.lookup k with
   |none=>rw[q]at h;exact jl h λu=>m u
   |some u=>rw[q]at h;exact m u h
 |cls c=>exact jl h λu=>m u
 |_=>exact h
def A8{op:Operator}{a b:MV}(h:tw op a b H Q)(m:∀u,Q u H->Q' u H):tw op a b H Q':=by
 cases op with
 |Add=>cases a with
  |int x=>exact rT h λy=>m _
  |str x=>exact HF h λy h=>⟨h.1,m _ h.2⟩
  |_=>exact h
 |Sub=>exact rT h λx h=>rT h λy=>m _
 |Mod=>exact rT h λx h=>rT h λy h=>⟨h.1,m _ h.2⟩
 |FloorDiv=>exact rT h λx h=>rT h λy h=>⟨h.1,m _ h.2⟩
 |_=>exact h
def A9{v:MV}{K K':Bool->MH->Prop}(h:kc v H K)(m:∀b,K b H->K' b H):kc v H K':=by
 cases v with
 |str=>exact⟨h.1,m _ h.2⟩
 |tup=>exact⟨h.1,m _ h.2⟩
 |ref i=>exact IJ h (λ_ _ h=>h) (λ_=>m _) (λ_ h=>h) (λ_=>m _) (λ_=>m _) λ_ h=>h
 |_=>first|exact m _ h|exact h
def Si{v i:MV}(h:qF v i H Q)(m:∀u,Q u H->Q' u H):qF v i H Q':=by
 cases v with
 |str l=>exact rT h λk h=>⟨h.1,Sh h.2 λn h=>jl h λc=>m _⟩
 |tup l=>exact rT h λk h=>⟨h.1,Sh h.2 λn h=>jl h λc=>m _⟩
 |ref j=>cases i with
  |int k=>exact IJ h (λ_ _ h=>h) (λ_ h=>Sh h λn h=>jl h λc=>m _) (λ_ h=>h) (λ_ h=>h) (λ_ h=>jl h λc=>m _) λ_ h=>jl h λc=>m _
  |str k=>exact VB h λ_ h=>jl h λc=>m _
  |_=>exact h
 |_=>exact h
def Sj{o i v:MV}{K K':MH->Prop}(h:vP o i v H K)(m:∀H,K H->K' H):vP o i v H K':=tE h λj h=>by
 cases i with
 |int k=>exact HG h λ_ h=>⟨h.1,m _ h.2⟩
 |str k=>exact VB h λ_ h=>⟨h.1,m _ h.2⟩
 |_=>exact h
def Sk{o i:MV}{K K':MH->Prop}(h:Ax o i H K)(m:∀H,K H->K' H):Ax o i H K':=tE h λj h=>rT h λk h=>HG h λ_ h=>⟨h.1,m _ h.2⟩
def VD{b:BF}{vs:List MV}(h:Om S b vs H Q)(m:∀u H1,(b≠.list->H1=H)->Q u H1->Q' u H1):Om S b vs H Q':=by
 cases b with
 |len=>
  exact rU h λv h=>by
   cases v with
   |str=>exact⟨h.1,m _ _ (λ_=>rfl) h.2⟩
   |ref i=>exact IJ h (λ_ _ h=>h) (λ_=>m _ _ λ_=>rfl) (λ_=>m _ _ λ_=>rfl) (λ_ h=>h) (λ_ h=>h) λ_ h=>h
   |_=>exact h
 |int=>exact rU h λv h=>HF h λl h=>⟨h.1,jl h.2 λn=>m _ _ λ_=>rfl⟩
 |isinstance=>
  exact Gq (P:=λvs=>arg2 vs λv d=>QC S v d H Q') h λv d h=>by
   cases v with
   |str l=>exact tyE h λn e h=>e▸⟨h.1,m _ _ (λ_=>rfl) h.2⟩
   |ref i=>exact Vz h λd h=>VA h λc _ h=>jl h λb=>m _ _ λ_=>rfl
   |_=>exact h
 |list=>exact rU h λv h=>tE h λi h=>HG h λes h=>⟨h.1,m _ _ (λq=>aan rfl q) h.2⟩
def VE{k:KM}{v:MV}{vs:List MV}(h:Ad k v vs H Q)(m:∀u H1,(k=.join->H1=H)->Q u H1->Q' u H1):Ad k v vs H Q':=by
 cases k with
 |append=>exact tE h λi h=>rU h λu h=>AM h λxs h=>⟨h.1,m _ _ nofun h.2⟩
 |extend=>exact tE h λi h=>rU h λu h=>tE h λj h=>AM h λxs h=>AM h λys h=>⟨h.1,m _ _ nofun h.2⟩
 |join=>exact HF h λs h=>⟨h.1,rU h.2 λu h=>tE h λi h=>AM h λxs h=>jl h λys h=>⟨h.1,m _ _ (λ_=>rfl) h.2⟩⟩
 |pop=>
  exact tE h λi h=>AM h λxs h=>by
   cases vs with
   |nil=>exact h.elim λys h=>h.elim λu h=>⟨ys,u,h.1,m _ _ nofun h.2⟩
   |cons v r=>cases r with
    |nil=>exact rT h λk h=>⟨h.1,h.2.elim λu h=>h.elim λys h=>⟨u,ys,h.1,m _ _ nofun h.2⟩⟩
    |cons=>exact h
def bH.m{lv fa:Nat}{vs us:List MV}{kn:List Str}{X:MV->MH->Prop}(h:bH S w lv fa vs kn us H Q X)(m:∀u H1,Q u H1->Q' u H1):bH S w lv fa vs kn us H Q' X:=
 h.elim λl h=>⟨l,h.1,λf Lc Γ E r ws ks a v1 v2=>codeAny_mono (h.2 f Lc Γ E r ws ks a v1 v2) λo s z=>by
  cases o with
  |error e=>exact z
  |ok f=>cases f with
   |ret v=>exact z.elim λr' z=>⟨r',z.1,z.2.1,by cases z.2.2 with|mk H' b T j q=>exact⟨H',b,T,j,m _ _ q⟩⟩
   |_=>exact z⟩
def tD.m{f:Fm}{lv:Nat}{c:IE}{b o:IS}{L:Loc}{Q Q':QF}{X:QX}(h:tD S w f lv c b o L H Q X)(m:∀mf L H,Q mf L H->Q' mf L H):tD S w f lv c b o L H Q' X:=
 λ_ _ _ h1 h2 h3 Γ E r a k=>codeAny_mono (h _ _ _ h1 h2 h3 Γ E r a k) λo s z=>by
  cases o with
  |error e=>exact z
  |ok f=>exact z.elim λr' z=>⟨r',z.1,z.2.1,by cases z.2.2 with|mk mf L H' T j q=>exact⟨mf,L,H',T,j,m _ _ _ q⟩⟩
def mY.m{θ:Th}{u:Nat}{bd:List Stmt}(us:List<|Loc->Loc):∀{L:Loc} {H:MH} {Q Q':QF},mY θ u bd us L H Q->(∀mf L H,Q mf L H->Q' mf L H)->mY θ u bd us L H Q':=by
 induction us with
 |nil=>intro L H Q Q' h m;exact m _ _ _ h
 |cons g us ih=>
  intro L H Q Q' h m
  refine AK.mono (Q:=mQ (λL' H'=>mY θ u bd us L' H' Q) Q) h λmf L1 H1 q=>?_
  cases mf with
  |next=>exact ih q m
  |cont=>exact ih q m
  |brk=>exact m _ _ _ q
  |ret v=>exact m _ _ _ q
def mZ.m{f:Fm}{lv:Nat}{b:IS}{us:List (Loc->Loc)}{L:Loc}{Q Q':QF}(h:mZ S w f lv b us L H Q)(m:∀mf L H,Q mf L H->Q' mf L H):mZ S w f lv b us L H Q':=λbd hb=>mY.m us (h bd hb) m
end
def Gd(z:En)(σ:Sg):Prop:=z.s=true->σ.H.at_ z.p=some (.inst z.c σ.fs)/\σ.loc[0]?=some (some<|.ref z.p)
section
variable{w:World}{z:En}{σ:Sg}{α:Type}{P:Prop}
def Sg.len(σ:Sg):σ.loc.length=σ.L.length:=by
 obtain⟨A,L,F,fs,H⟩:=σ
 induction A with
 |nil=>rfl
 |cons a A ih=>exact(List.length_set ..).trans ih
def gG{b:Bool}{A B:Prop}(h:@Bool.rec (λ_=>Prop) B A b)(t:b=true->A->P)(f:b=false->B->P):P:=by cases b<;>first|exact t rfl h|exact f rfl h
def Sg.VG{σ:Sg}{k:Nat}{v:MV}(h:σ.lv k=some (some v)):σ.loc[k]?=some (some v):=by
 obtain⟨A,L,F,fs,H⟩:=σ
 induction A with
 |nil=>exact h
 |cons a A ih=>
  have n:=Sg.len ⟨A,L,F,fs,H⟩
  show((Sg.loc ⟨A,L,F,fs,H⟩).set a.1<|some a.2)[k]?=_
  have h:cond (Nat.beq a.1 k) (cond (Nat.blt k L.length) (some<|some a.2) none) (Sg.lv ⟨A,L,F,fs,H⟩ k)=some (some v):=h
  cases e:Nat.beq a.1 k with
  |true=>
   rw[e]at h
   rw[Nat.eq_of_beq_eq_true e]
   cases e2:Nat.blt k L.length with
   |true=>rw[e2]at h;rw[List.getElem?_set_self<|n▸aai e2];exact h
   |false=>rw[e2]at h;cases h
  |false=>rw[e]at h;rw[List.getElem?_set_ne<|Nat.ne_of_beq_eq_false e];exact ih h
def Sg.Yy{K K':MV->Prop}{k:Nat}(h:rD (σ.lv k) K)(m:∀v,K v->K' v):rD σ.loc[k]? K':=KA h λv e h=>by rw[Sg.VG e];exact m v h
def Sg.zx(σ:Sg)(k:Nat):σ.fl k=σ.all.lookup k:=by
 obtain⟨A,L,F,fs,H⟩:=σ
 induction F with
 |nil=>rfl
 |cons a F ih=>
  show cond (Nat.beq k a.1) (some a.2) (Sg.fl ⟨A,L,F,fs,H⟩ k)=(jN a.1 a.2<|Sg.all ⟨A,L,F,fs,H⟩).lookup k
  cases e:Nat.beq k a.1 with
  |true=>rw[Nat.eq_of_beq_eq_true e,rB];rfl
  |false=>rw[lP _<|Nat.ne_of_beq_eq_false e];exact ih
def mT(g:Gd z σ)(h:z.s=true):(hp z σ).at_ z.p=some (.inst z.c σ.all):=by
 obtain⟨A,L,F,fs,H⟩:=σ
 cases F with
 |nil=>exact(g h).1
 |cons=>exact au
def PJ{k:Nat}{v:MV}:(hp z σ).put z.p (.inst z.c<|jN k v σ.all)=hp z (σ.st k v):=by
 obtain⟨A,L,F,fs,H⟩:=σ
 cases F with
 |nil=>rfl
 |cons=>exact fP
def Gd.bk{fs:Fs}{H:MH}(g:Gd z σ)(o:H.at_ z.p=some (.inst z.c fs)):Gd z (σ.bk fs H):=λh=>⟨o,(g h).2⟩
def qR{K:Sg->Prop}{H:MH}{P:MH->Prop}(h:rr z σ K H)(g:Gd z σ)(k:∀σ1,Gd z σ1->σ1.loc=σ.loc->K σ1->P (hp z σ1)):P H:=
 gG h (λ_ h=>by cases h with|mk o q=>exact k (σ.bk _ H) (g.bk o) rfl q) λe h=>k (σ.bk [] H) (λh=>ff h e) rfl h
def Yz{K:Sg->Prop}{L:Loc}{H:MH}{P:MH->Prop}(h:rl z K L H)(k:∀σ1,Gd z σ1->σ1.loc=L->K σ1->P (hp z σ1)):P H:=
 gG h (λ_ h=>by cases h with|mk o l q=>exact k ⟨[],L,[],_,H⟩ (λ_=>⟨o,l⟩) rfl q) λe h=>k ⟨[],L,[],[],H⟩ (λh=>ff h e) rfl h
abbrev Imp(z:En)(L:Loc)(Q:α->Sg->Prop)(Q':α->MH->Prop):Prop:=∀v σ1,Gd z σ1->σ1.loc=L->Q v σ1->Q' v (hp z σ1)
structure OX(w:World)(e:IE)(x:VX):Prop where
 E:∀{z σ L Q X Q'},x.E z σ Q X->Gd z σ->σ.loc=L->Imp z L Q Q'->f5 (SG z.b) w z.lv e L (hp z σ) Q' X
 T:∀{z σ L Q X Q'},x.T z σ Q X->Gd z σ->σ.loc=L->Imp z L Q Q'->J4 (SG z.b) w z.lv e L (hp z σ) Q' X
 L:∀{z σ L Q X Q'},x.L z σ Q X->Gd z σ->σ.loc=L->Imp z L Q Q'->CQ (SG z.b) w z.lv e L (hp z σ) Q' X
 V:∀{op z σ L Q X Q'},x.V op z σ Q X->Gd z σ->σ.loc=L->Imp z L Q Q'->Xz (SG z.b) w z.lv op e L (hp z σ) Q' X
 B:∀{op z σ L Q X Q'},x.B op z σ Q X->Gd z σ->σ.loc=L->Imp z L Q Q'->(wx (SG z.b) w z.lv e).B op L (hp z σ) Q' X
 O:∀{z σ L Q X Q'},x.O z σ Q X->Gd z σ->σ.loc=L->Imp z L Q Q'->Tz (SG z.b) w z.lv e L (hp z σ) Q' X
abbrev OE(w:World)(e:IE)(F:En->Sg->VQ->QX->Prop):Prop:=∀{z σ L Q X Q'},F z σ Q X->Gd z σ->σ.loc=L->Imp z L Q Q'->f5 (SG z.b) w z.lv e L (hp z σ) Q' X
def ot{e:IE}{F:En->Sg->VQ->QX->Prop}{T:En->Sg->(Bool->Sg->Prop)->QX->Prop}(h:OE w e F)(t:∀{z σ L Q X Q'},T z σ Q X->Gd z σ->σ.loc=L->Imp z L Q Q'->J4 (SG z.b) w z.lv e L (hp z σ) Q' X):OX w e (.t F T):=⟨h,t,λh=>h.elim,λh=>h.elim,λh=>h.elim,λh=>h.elim⟩
def ox{e:IE}{F:En->Sg->VQ->QX->Prop}(h:OE w e F)(t:∀{S w lv L H Q X},f5 S w lv e L H (λv H=>kc v H Q) X->J4 S w lv e L H Q X):OX w e (.e F):=
 ot h λq g l k=>t<|h q g l λv σ1 g1 l1 q=>A9 q λb q=>k b σ1 g1 l1 q
def rV{e:IE}(h:(z.s&&mC e)=true)(k:z.s=true->e=.loc 0->P):P:=k (bl h)<|Iu<|br h
def CW.e{b:Bool}{lv fa:Nat}{vs us:List MV}{kn:List Str}{H:MH}{Q Q':QV}{Y:QX}{L:Loc}(h:CW b lv fa vs kn us H Q λx H=>Y x L H){L':Loc}(l:L=L')(m:∀v H,Q v H->Q' v H):bH (SG b) w lv fa vs kn us H Q' λx H=>Y x L' H:=(l▸h w).m m
variable{e a i r:IE}{x y u:VX}
def Sl{k:Nat}(A:OX w e x):OX w (.attr e k) (Iv e k x):=ox (λ{z σ L Q X Q'} hh g l m=>gG hh (λss h=>rV ss λs qq=>by
 subst qq
 refine eA<|eL (l▸(g s).2) ?_
 rw[σ.zx]at h
 cases q:σ.all.lookup k with
 |none=>rw[q]at h;exact cX h λu e h=>aC (mT g s) q e<|m u σ g l h
 |some u=>rw[q]at h;exact aO (mT g s) q<|m u σ g l h) λ_ h=>eA<|A.E h g l λv σ1 g1 l1 q=>VC q λu q=>m u σ1 g1 l1 q) id
def MK{k:Nat}:OX w (.qn e k) (Dp e k):=ox (λ{z σ L Q X Q'} hh g l m=>gG hh (λss h=>rV ss λs qq=>by
 subst qq
 rw[σ.zx]at h
 cases q:σ.all.lookup k with
 |none=>rw[q]at h;exact cX h λfa e h=>eBL (l▸(g s).2) (mT g s) q e<|m _ σ g l h
 |some u=>rw[q]at h;exact h.elim) λ_ h=>h.elim) id
def ML{k:Nat}{kn:List Str}(A:OX w e x)(B:OX w a y)(C:OX w i u):OX w (.gJ e k a kn i) (Dq e k kn x y u):=ox (λ{z σ L Q X Q'} hh g l m=>gG hh (λss h=>rV ss λs qq=>by
 subst qq
 rw[σ.zx]at h
 cases q:σ.all.lookup k with
 |none=>
  rw[q]at h
  exact cX h λfa e h=>eM (eL (l▸(g s).2) (Vw (mT g s) ⟨q,pB e (B.L (X:=X) h g l λvs σ1 g1 l1 h=>C.L (X:=X) h g1 l1 λus σ2 g2 l2 h=>CW.e (EY h) l2 λv H r=>by
   cases r with|mk o q=>exact m v (σ2.bk _ H) (g2.bk o) l2 q)⟩))
 |some u=>rw[q]at h;exact h.elim) λ_ h=>eM<|A.E h g l λv σ1 g1 l1 h=>WS h λi c fs h=>⟨h.1,jl h.2 λfa h=>B.L h g1 l1 λvs σ2 g2 l2 h=>C.L h g2 l2 λus σ3 g3 l3 h=>CW.e (EY h) l3 λv H r=>qR r g3 λσ4 g4 l4 q=>m v σ4 g4 (l4.trans l3) q⟩) id
def MM{k:Nat}:OX w (.yG e k) (Dr e k):=ox (λ{z σ L Q X Q'} hh g l m=>gG hh (λss h=>rV ss λs qq=>by
 subst qq
 rw[σ.zx]at h
 refine Og h λfa j e h=>eFL (l▸(g s).2) (mT g s) e h.1<|CW.e h.2 l λv H r=>qR r g λσ4 g4 l4 q=>m v σ4 g4 (l4.trans l) q) λ_ h=>h.elim) id
def MN{fa:Nat}{kn:List Str}(B:OX w a y)(C:OX w i u):OX w (.uq fa a kn i) (Ds fa kn y u):=ox (λ{z σ L Q X Q'} h g l m=>eGc<|B.L h g l λvs σ1 g1 l1 h=>C.L h g1 l1 λus σ2 g2 l2 h=>CW.e (EY h) l2 λv H r=>qR r g2 λσ4 g4 l4 q=>m v σ4 g4 (l4.trans l2) q) id
def Sm{c:Nat}{kn:List Str}(B:OX w a y)(C:OX w i u):OX w (.make c a kn i) (Iw c kn y u):=ox (λ{z σ L Q X Q'} h g l m=>cX h λfI e h=>eMk e<|B.L h g l λvs σ1 g1 l1 h=>C.L h g1 l1 λus σ2 g2 l2 h=>CW.e (EY h) l2 λv H r=>⟨r.1,qR r.2 g2 λσ4 g4 l4 q=>m _ σ4 g4 (l4.trans l2) q⟩) id
def MP{k:Nat}(B:OX w a y):OX w (.yH k a) (Dt k y):=ox (λ{z σ L Q X Q'} h g l m=>l▸σ.Yy h λv h=>Vz h λc h=>jl h λfI h=>B.L h g rfl λvs σ2 g2 l2 h=>CW.e (EY<|show Yu c fI [] vs z Q X [] σ2 from h) l2 λv H r=>⟨r.1,qR r.2 g2 λσ4 g4 l4 q=>m _ σ4 g4 (l4.trans<|l2.trans l) q⟩) id
def MQ{b:BF}(B:OX w a y):OX w (.yI b a) (Du b y):=ox (λ{z σ L Q X Q'} h g l m=>eBc (B.L h g l λvs σ1 g1 l1 h=>VD h λu H1 e q=>by
 cases b with
 |list=>exact qR q g1 λσ4 g4 l4 q=>m u σ4 g4 (l4.trans l1) q
 |_=>exact(e nofun).symm▸m u σ1 g1 l1 q)) id
def MR{k:KM}(A:OX w e x)(B:OX w a y):OX w (.su k e a) (Dv k x y):=ox (λ{z σ L Q X Q'} h g l m=>eK (A.E h g l λv σ1 g1 l1 h=>⟨h.1,B.L h.2 g1 l1 λvs σ2 g2 l2 h=>VE h λu H1 e q=>by
 cases k with
 |join=>exact(e rfl).symm▸m u σ2 g2 l2 q
 |_=>exact qR q g2 λσ4 g4 l4 q=>m u σ4 g4 (l4.trans l2) q⟩)) id
def VH{op:Operator}(A:OX w e x)(B:OX w a y):OX w (.bin op e a) (Px op x y):=ox (λh g l m=>eBi<|A.E h g l λv σ1 g1 l1 h=>B.E h g1 l1 λb σ2 g2 l2 h=>A8 h λu q=>m u σ2 g2 l2 q) id
def VI{op:CmpOp}(A:OX w e x)(B:OX w a y):OX w (.cmp op e a) (Py op x y):=ot (λh g l m=>eCm<|A.E h g l λv σ1 g1 l1 h=>B.E h g1 l1 λb σ2 g2 l2 h=>jl h λu q=>m _ σ2 g2 l2 q)
 λh g l m=>tC<|A.E h g l λv σ1 g1 l1 h=>B.E h g1 l1 λb σ2 g2 l2 h=>jl h λu q=>m _ σ2 g2 l2 q
def PK{b:Bool}{A B A' B':Prop}(h:@Bool.rec (λ_=>Prop) B A b)(m:A->A')(n:B->B'):if b then A' else B':=by cases b<;>first|exact m h|exact n h
def MS{o1 o2:CmpOp}(A:OX w e x)(B:OX w a y)(C:OX w i u):OX w (.chain o1 o2 e a i) (Dw o1 o2 x y u):=ot (λh g l m=>eCh<|A.E h g l λv σ1 g1 l1 h=>B.E h g1 l1 λb σ2 g2 l2 h=>jl h λt q=>PK q (λh=>C.E h g2 l2 λd σ3 g3 l3 h=>jl h λt q=>m _ σ3 g3 l3 q) λq=>m _ σ2 g2 l2 q)
 λ{z σ L Q X Q'} h g l m=>(A.E h g l λv σ1 g1 l1 h=>B.E h g1 l1 λb σ2 g2 l2 h=>jl h λt q=>PK q (λh=>C.E h g2 l2 λd σ3 g3 l3 h=>jl h λt q=>m _ σ3 g3 l3 q) λq=>m _ σ2 g2 l2 q:f5 (SG z.b) w z.lv e L (hp z σ) (λx H1=>f5 (SG z.b) w z.lv a L H1 (λb H2=>bM (gx o1 x b H2) λt=>if t then f5 (SG z.b) w z.lv i L H2 (λd H5=>bM (gx o2 b d H5) λt=>Q' t H5) X else Q' false H2) X) X)
def VJ{op:BoolOp}(A:OX w e x):OX w (.Tv op e) (.t (x.V op)<|x.B op):=ot (λh g l m=>eV<|A.V h g l m) λh g l m=>A.B h g l m
def VK(A:OX w e x):OX w (.not e) (v_not x):=ot (λh g l m=>eNt<|A.E h g l λv σ1 g1 l1 h=>A9 h λb q=>m _ σ1 g1 l1 q) λh g l m=>tN<|A.T h g l λb σ1 g1 l1 q=>m _ σ1 g1 l1 q
def VL(A:OX w e x):OX w (.neg e) (Pz x):=ox (λ{z σ L Q X Q'} h g l m=>(A.E h g l λv σ1 g1 l1 h=>rT h λb q=>m _ σ1 g1 l1 q:f5 (SG z.b) w z.lv e L (hp z σ) (λv H1=>j9 v λi=>Q' (.int<|-i) H1) X)) id
def VM(A:OX w e x)(B:OX w a y)(C:OX w i u):OX w (.TR e a i) (PA x y u):=ox (λh g l m=>eIf<|A.T h g l λt σ1 g1 l1 h=>PK h (λh=>B.E h g1 l1 m) λh=>C.E h g1 l1 m) id
def VN(A:OX w e x)(B:OX w a y):OX w (.sub e a) (v_sub x y):=ox (λh g l m=>eSb<|A.E h g l λv σ1 g1 l1 h=>B.E h g1 l1 λb σ2 g2 l2 h=>Si h λu q=>m u σ2 g2 l2 q) id
def VO(A:OX w e x)(B:OX w a y)(C:OX w i u):OX w (.slc e a i) (PB x y u):=ox (λ{z σ L Q X Q'} h g l m=>eSl (A.E h g l λv σ1 g1 l1 h=>B.O h g1 l1 λb σ2 g2 l2 h=>C.O h g2 l2 λc σ3 g3 l3 h=>by
 cases v with
 |str s=>exact sS_ ⟨h.1,m _ σ3 g3 l3 h.2⟩
 |ref i=>
  have h:iP ((hp z σ3).at_ i) _ _ _ _ _ _:=h
  show iP ((hp z σ3).at_ i) _ _ _ _ _ _
  generalize(hp z σ3).at_ i=o at h⊢
  cases o with
  |none=>exact h
  |some o=>cases o with
   |list xs=>exact qR (P:=λH=>Q' (.ref (hp z σ3).n) H) h g3 λσ4 g4 l4 q=>m _ σ4 g4 (l4.trans l3) q
   |s9 xs=>exact qR (P:=λH=>Q' (.ref (hp z σ3).n) H) h g3 λσ4 g4 l4 q=>m _ σ4 g4 (l4.trans l3) q
   |_=>exact h
 |_=>exact h.elim)) id
def Sn(A:OX w e x):OX w (.list e) (Iz x):=ox (λh g l m=>eLi<|A.L h g l λv σ1 g1 l1 h=>gG h (λn h=>⟨av (aai n) (by decide),qR h g1 λσ4 g4 l4 q=>m _ σ4 g4 (l4.trans l1) q⟩) λ_ h=>h.elim) id
def VP(A:OX w e x):OX w (.tup e) (PC x):=ox (λh g l m=>eTu<|A.L h g l λv σ1 g1 l1 h=>gG h (λn h=>⟨av (aai n) (by decide),m _ σ1 g1 l1 h⟩) λ_ h=>h.elim) id
def VS:OX w .nil PF:=⟨λh=>h.elim,λh=>h.elim,λh g l m=>lN<|m _ _ g l h,λh=>h.elim,λ{op _ _ _ _ _ _} h g l m=>by cases op<;>exact m _ _ g l h,λh=>h.elim⟩
def So(A:OX w e x)(B:OX w r y):OX w (.cons e r) (IA r x y):=⟨λh=>h.elim,λh=>h.elim,λh g l m=>lC<|A.E h g l λv σ1 g1 l1 h=>B.L h g1 l1 λvs σ2 g2 l2 h=>m _ σ2 g2 l2 h,
 λ{op z σ L Q X Q'} h g l m=>show cond (Nat.beq r.ctorIdx 30) (f5 (SG z.b) w z.lv e L (hp z σ) Q' X) (f5 (SG z.b) w z.lv e L (hp z σ) (λv H1=>kc v H1 λb H2=>if nZ op b then Q' v H2 else Xz (SG z.b) w z.lv op r L H2 Q' X) X)from by
  cases q:Nat.beq r.ctorIdx 30 with
  |true=>
   have h:@Bool.rec (λ_=>Prop) _ _ (Nat.beq r.ctorIdx 30):=h
   rw[q]at h;exact A.E h g l m
  |false=>
   have h:@Bool.rec (λ_=>Prop) _ _ (Nat.beq r.ctorIdx 30):=h
   rw[q]at h;exact A.E h g l λv σ1 g1 l1 h=>A9 h λb h=>by cases op<;>cases b<;>first|exact m _ σ1 g1 l1 h|exact B.V h g1 l1 m,
 λ{op z σ L Q X Q'} h g l m=>A.T h g l λb σ1 g1 l1 h=>by
  cases op with
  |And=>exact PK h (λh=>B.B h g1 l1 m) λq=>m _ σ1 g1 l1 q
  |Or=>exact PK h (λq=>m _ σ1 g1 l1 q) λh=>B.B h g1 l1 m,λh=>h.elim⟩
def oo{e:IE}{O:En->Sg->(Option Int->Sg->Prop)->QX->Prop}(h:∀{z σ L Q X Q'},O z σ Q X->Gd z σ->σ.loc=L->Imp z L Q Q'->Tz (SG z.b) w z.lv e L (hp z σ) Q' X):OX w e (.o O):=⟨λh=>h.elim,λh=>h.elim,λh=>h.elim,λh=>h.elim,λh=>h.elim,h⟩
def sv(w:World)(e:IE):OX w e (vx e):=e.rec (ox (λh g l m=>eN<|m _ _ g l h) id) (λb=>ox (λh g l m=>eB<|m _ _ g l h) id) (λi=>ox (λh g l m=>eI<|m _ _ g l h) id) (λi=>ox (λh g l m=>eS<|m _ _ g l h) id) (λk=>ox (λ{z σ L Q X Q'} h g l m=>l▸σ.Yy h λv h=>m _ _ g l h) id) (λi=>ox (λh g l m=>eC<|m _ _ g l h) id) (λi=>ox (λh g l m=>eG<|m _ _ g l h) id)
 (λ_ _ A=>Sl A) (λ_ _ _=>MK) (λ_ _ _ _ _ A B C=>ML A B C) (λ_ _ _=>MM) (λ_ _ _ _ A B=>MN A B) (λ_ _ _ _ A B=>Sm A B) (λ_ _ A=>MP A) (λ_ _ A=>MQ A) (λ_ _ _ A B=>MR A B) (λ_ _ _ A B=>VH A B) (λ_ _ _ A B=>VI A B) (λ_ _ _ _ _ A B C=>MS A B C) (λ_ _ A=>VJ A) (λ_ A=>VK A) (λ_ A=>VL A) (λ_ _ _ A B C=>VM A B C) (λ_ _ A B=>VN A B) (λ_ _ _ A B C=>VO A B C) (λ_ A=>Sn A) (λ_ A=>VP A)
 (ox (λ{z σ L Q X Q'} h g l m=>qR (P:=λH=>Q' (.ref (hp z σ).n) H) h g λσ4 g4 l4 q=>m _ σ4 g4 (l4.trans l) q) id) (ox (λ{z σ L Q X Q'} h g l m=>qR (P:=λH=>Q' (.ref (hp z σ).n) H) h g λσ4 g4 l4 q=>m _ σ4 g4 (l4.trans l) q) id) (ox (λh=>h.elim) id) VS (λ_ _ A B=>So A B) (oo λh g l m=>oN<|m _ _ g l h) λ_ A=>oo λh g l m=>oY<|A.E h g l λv σ1 g1 l1 h=>rT h λi q=>m _ σ1 g1 l1 q
end
def IK(z:En)(c:IE)(b o:IS)(Q:QF)(X:QX):VF:=λmf σ=>mf.casesOn (LW z c b o σ.loc (hp z σ) Q X) (Q .next σ.loc<|hp z σ) (LW z c b o σ.loc (hp z σ) Q X) λv=>Q (.ret v) σ.loc<|hp z σ
def turnF(z:En)(b:IS)(us:List<|Loc->Loc)(Q:QF):VF:=λmf σ=>mf.casesOn (FW z b us σ.loc (hp z σ) Q) (Q .next σ.loc<|hp z σ) (FW z b us σ.loc (hp z σ) Q) λv=>Q (.ret v) σ.loc<|hp z σ
def MT(z:En)(Q:QF):VF:=λmf σ=>Q mf σ.loc<|hp z σ
section
variable{w:World}{z:En}{σ:Sg}{P:Prop}{b o s r:IS}{x y N:Nx}{e i c:IE}{rs:List IS}
abbrev MU(z:En)(Q:VF)(Q':QF):Prop:=∀mf σ1,Gd z σ1->Q mf σ1->Q' mf σ1.loc (hp z σ1)
def DL(w:World)(z:En)(X:QX)(Q:QF)(rs:List IS):QF:=rs.rec Q λr _ ih=>qJ (λL H=>wpS (SG z.b) w z.f z.lv r L H ih X) ih
def TH{X:QX}{Q:QF}{mf:MF}{L:Loc}{H:MH}(h:Q mf L H)(n:mf≠.next):DL w z X Q rs mf L H:=by
 induction rs with
 |nil=>exact h
 |cons r rs ih=>cases mf<;>first|exact aan rfl n|exact ih
def ON(w:World)(N:Nx):Prop:=∀{C rs σ Q},N C rs σ->Gd C.z σ->MU C.z C.Q Q->DL w C.z C.X Q rs .next σ.loc (hp C.z σ)
def OS(w:World)(s:IS)(x:Nx):Prop:=∀{C rs σ L Q},x C rs σ->Gd C.z σ->σ.loc=L->MU C.z C.Q Q->wpS (SG C.z.b) w C.z.f C.z.lv s L (hp C.z σ) (DL w C.z C.X Q rs) C.X
def Gd.as{k:Nat}{v:MV}(g:Gd z σ)(n:Nat.beq k 0=false):Gd z (σ.as k v):=λh=>⟨(g h).1,(List.getElem?_set_ne<|Nat.ne_of_beq_eq_false n).trans (g h).2⟩
def Gd.st{k:Nat}{v:MV}(g:Gd z σ):Gd z (σ.st k v):=g
def IL{k:Nat}{v:MV}{K:Sg->Prop}(h:putK z k v σ K)(m:ET z.c k=true->σ.all.length<jO->K (σ.st k v)->P):P:=gG h (λe h=>m (bl e) (H8 (aai<|br e)<|by decide) h) λ_ h=>h.elim
def MW(ks:List Nat){K:Sg->Prop}:∀{vs:List MV} {σ:Sg},PI ks vs σ K->Gd z σ->vs.length=ks.length/\∃σ1,Gd z σ1/\σ1.loc=n7 ks vs σ.loc/\hp z σ1=hp z σ/\K σ1:=by
 induction ks with
 |nil=>
  intro vs σ h g
  cases vs with
  |nil=>exact⟨rfl,σ,g,rfl,rfl,h⟩
  |cons=>exact h.elim
 |cons k ks ih=>
  intro vs σ h g
  cases vs with
  |nil=>exact h.elim
  |cons v vs=>exact gG h (λ_ h=>h.elim) λn h=>have q:=ih h<|g.as n;⟨aac (·+1) q.1,q.2⟩
def Ba{a b:Nat}(h:Nat.beq (a*b) 0=false):Nat.beq a 0=false/\Nat.beq b 0=false:=by
 cases a with
 |zero=>rw[Nat.zero_mul]at h;cases h
 |succ a=>cases b with
  |zero=>cases h
  |succ b=>exact⟨rfl,rfl⟩
def YA(hN:ON w N){C:Cx}{Q:QF}{mf:MF}(h:stk N C rs mf σ)(g:Gd C.z σ)(m:MU C.z C.Q Q):DL w C.z C.X Q rs mf σ.loc (hp C.z σ):=by
 cases mf with
 |next=>exact hN h g m
 |_=>exact TH (m _ _ g h) nofun
def VT{C:Cx}{Q:QF}{mf:MF}{L:Loc}{H:MH}(hN:ON w N)(h:rl C.z (stk N C rs mf) L H)(m:MU C.z C.Q Q):DL w C.z C.X Q rs mf L H:=Yz (P:=DL w C.z C.X Q rs mf L) h λσ1 g1 l1 q=>l1▸YA hN q g1 m
def Sq{x y:Nx->Nx}(A:OS w b<|x N)(B:OS w o<|y N):OS w (.ite c b o) (ID c x y N):=λh g l m=>(sv w c).T h g l λt σ1 g1 l1 h=>PK h (λh=>A h g1 l1 m) λh=>B h g1 l1 m
def Ss:OS w (.ret e) λC _ σ=>(vx e).E C.z σ (ZQ C) C.X:=λh g l m=>(sv w e).E h g l λv σ1 g1 l1 h=>l1▸TH (m _ σ1 g1 h) nofun
def MX(hN:ON w N):OS w (.Qk e) λC rs σ=>(vx e).T C.z σ (ZS<|N C rs) C.X:=λh g l m=>(sv w e).T h g l λb σ1 g1 l1 h=>⟨h.1,l1▸hN h.2 g1 m⟩
variable(hN:ON w N)
include hN
def MY:OS w (.expr e) λC rs σ=>(vx e).E C.z σ (kEx<|N C rs) C.X:=λh g l m=>(sv w e).E h g l λv σ1 g1 l1 h=>l1▸hN h g1 m
def Su{k:Nat}:OS w (.asg k e) (IC k e N):=λh g l m=>(sv w e).E h g l λv σ1 g1 l1 h=>gG h (λ_ h=>h.elim) λn h=>l1▸hN h (g1.as n) m
def MZ{k j:Nat}:OS w (.Kd k j e) (Dy k j e N):=λh g l m=>(sv w e).E h g l λv σ1 g1 l1 h=>gG h (λ_ h=>h.elim) λn h=>l1▸hN h ((g1.as (Ba n).1).as (Ba n).2) m
def M0{k j i:Nat}:OS w (.TU k j i e) (Dz k j i e N):=λh g l m=>(sv w e).E h g l λv σ1 g1 l1 h=>gG h (λ_ h=>h.elim) λn h=>l1▸hN h (((g1.as (Ba (Ba n).1).1).as (Ba (Ba n).1).2).as (Ba n).2) m
def M1{ks:List Nat}:OS w (.Ah ks e) (DA ks e N):=λh g l m=>(sv w e).E h g l λv σ1 g1 l1 h=>Yx h λvs h=>(MW ks h g1).elim λn h=>h.elim λσ2 h=>⟨n,l1▸h.2.1▸h.2.2.1▸hN h.2.2.2 h.1 m⟩
def M3{k:Nat}:OS w (.TV i k e) (DB i k e N):=λ{C rs σ L Q} hh g l m=>gG hh (λss h=>rV ss λs qq=>by
 subst qq
 exact(sv w e).E h g l λv σ1 g1 l1 h=>eL (l1▸(g1 s).2)<|Vw (mT g1 s)<|IL h λt n h=>⟨t,n,PJ▸l1▸hN h g1.st m⟩) λ_ h=>h.elim
def M4{a:IE}:OS w (.sets a i e) (DC a i e N):=λh g l m=>(sv w e).E h g l λv σ1 g1 l1 h=>(sv w a).E h g1 l1 λov σ2 g2 l2 h=>(sv w i).E h g2 l2 λiv σ3 g3 l3 h=>Sj h λH r=>qR r g3 λσ4 g4 l4 q=>l3▸l4▸hN q g4 m
def M5{k:Nat}{op:Operator}:OS w (.rz k op e) (DE k op e N):=λ{C rs σ L Q} h g l m=>(l▸σ.Yy h λu h=>l▸(sv w e).E h g l λv σ1 g1 l1 h=>A8 h λv h=>gG h (λ_ h=>h.elim) λn h=>l1▸hN h (g1.as n) m:rD L[k]? λu=>f5 (SG C.z.b) w C.z.lv e L (hp C.z σ) (λb H1=>tw op u b H1 λv H2=>DL w C.z C.X Q rs .next (L.set k<|some v) H2) C.X)
def M6{k:Nat}{op:Operator}:OS w (.Ec i k op e) (DF i k op e N):=λ{C rs σ L Q} hh g l m=>gG hh (λss h=>rV ss λs qq=>by
 subst qq
 rw[σ.zx]at h
 exact cX h λu eu h=>eL (l▸(g s).2) (Vw (mT g s) (pB eu ((sv w e).E h g l λv σ1 g1 l1 h=>A8 h λv h=>by
  show iR ((hp C.z σ1).at_ C.z.p) _
  rw[mT g1 s]
  exact IL h λt n h=>⟨rfl,t,n,PJ▸l1▸hN h g1.st m⟩)))) λ_ h=>h.elim
def Sv:OS w (.Zh c b o) (IG c b o N):=λ{C rs σ L Q} h g l m=>(tD.m (l▸(EY h:LW C.z c b o σ.loc (hp C.z σ) (kW C.z<|stk N C rs) C.X) w) λmf L1 H1 r=>VT hN r m:tD (SG C.z.b) w C.z.f C.z.lv c b o L (hp C.z σ) (DL w C.z C.X Q rs) C.X)
def M7{k:Nat}:OS w (.forL k e b) (DG k e b N):=λh g l m=>(sv w e).E h g l λv σ1 g1 l1 h=>tE h λj h=>AM h λxs h=>mZ.m (l1▸h w) λmf L1 H1 r=>VT hN r m
def M8{k:Nat}:OS w (.TX k e b) (DH k e b N):=λh g l m=>(sv w e).E h g l λv σ1 g1 l1 h=>tE h λj h=>HG h λxs h=>mZ.m (l1▸h w) λmf L1 H1 r=>⟨r.1,VT hN r.2 m⟩
def M9{ks:List Nat}:OS w (.TY ks e b) (DI ks e b N):=λh g l m=>(sv w e).E h g l λv σ1 g1 l1 h=>HF h λxs h=>mZ.m (l1▸h w) λmf L1 H1 r=>VT hN r m
def Sw{a:IE}:OS w (.del a i) (II a i N):=λh g l m=>(sv w a).E h g l λov σ2 g2 l2 h=>(sv w i).E h g2 l2 λiv σ3 g3 l3 h=>Sk h λH r=>qR r g3 λσ4 g4 l4 q=>l3▸l4▸hN q g4 m
def Na{k:Nat}:OS w (.spec k b) (DJ k b N):=λ{C rs σ L Q} h g l m=>(l▸h w _ λmf L1 H1 r=>VT hN r m:WW k C.z.lv L (hp C.z σ) (λqt l fa vs kn ks H Q X=>bH (SG qt) w l fa vs kn ks H Q X) (λL' H' Q' X'=>zg (SG C.z.b) w C.z.f C.z.lv b L' H' Q' X') (DL w C.z C.X Q rs) C.X)
omit hN
def Sx{X:QX}{Q:QF}:DL w z X Q (DK r rs)=DL w z X Q (r::rs):=by
 unfold DK
 cases h:Nat.beq r.ctorIdx 24 with
 |false=>rfl
 |true=>
  have e:r=.nil:=by cases r<;>first|rfl|cases h
  subst e
  funext mf L H
  cases mf<;>rfl
def Nb(A:OS w s x):OS w (.cons s r) λC rs σ=>x C (DK r rs) σ:=λ{C rs σ L Q} h g l m=>(show wpS (SG C.z.b) w C.z.f C.z.lv s L (hp C.z σ) (DL w C.z C.X Q<|r::rs) C.X from Sx▸A h g l m)
def Sy(A:OS w s x)(B:OS w r y):OS w (.TZ s r) λC rs σ=>x ⟨C.z,λmf σ=>mf.casesOn (y C rs σ) (C.Q .brk σ) (C.Q .cont σ) λv=>C.Q (.ret v) σ,uK⟩ [] σ:=λ{C rs σ L Q} h g l m=>A (Q:=qJ (λL' H'=>wpS (SG C.z.b) w C.z.f C.z.lv r L' H' (DL w C.z C.X Q rs) C.X)<|DL w C.z C.X Q rs) h g l λmf σ1 g1 q=>by
 cases mf with
 |next=>exact B q g1 rfl m
 |_=>exact TH (m _ _ g1 q) nofun
def svN(hN:ON w N)(s:IS):OS w s (Yw s N):=s.rec (motive:=λs=>OS w s<|Yw s N) (λh g l m=>l▸hN h g m) (λh g l m=>l▸TH (m _ _ g h) nofun) (λh g l m=>l▸TH (m _ _ g h) nofun) (λ_=>Ss) (λh g l m=>l▸TH (m _ _ g h) nofun) (λ_=>MY hN) (λ_ _=>Su hN) (λ_ _ _=>MZ hN) (λ_ _ _ _=>M0 hN) (λ_ _=>M1 hN) (λ_ _ _=>M3 hN) (λ_ _ _=>M4 hN) (λ_ _ _=>M5 hN) (λ_ _ _ _=>M6 hN)
 (λ_ _ _ A B=>Sq A B) (λ_ _ _ _ _=>Sv hN) (λ_ _ _ _=>M7 hN) (λ_ _ _ _=>M8 hN) (λ_ _ _ _=>M9 hN) (λ_ _ A B=>Sy A B) (λ_ _=>Sw hN) (λ_=>MX hN) (λ_ _ _=>Na hN) (λh=>h.elim) (λh g l m=>l▸hN h g m) λ_ _ A _=>Nb A
def oF(w:World)(n:Nat):ON w (run n):=by
 induction n with
 |zero=>exact λh=>h.elim
 |succ n ih=>
  intro C rs σ Q h g m
  cases rs with
  |nil=>exact m _ _ g h
  |cons r rs=>exact svN ih r h g rfl m
def LW.turn{L:Loc}{H:MH}{Q:QF}{X:QX}{fs:Fs}(g:Gd z ⟨[],L,[],fs,H⟩)(h:(vx c).T z ⟨[],L,[],fs,H⟩ (ZR (run 400 ⟨z,IK z c b o Q X,X⟩ [b])<|run 400 ⟨z,MT z Q,X⟩ [o]) X):LW z c b o L H Q X:=λw=>
 tD.turn (wQ z.b w) ((sv w c).T h g rfl λt σ1 g1 l1 h=>l1▸PK h (λh=>oF w 400 (Q:=mQ (λL H=>tD (SG z.b) w z.f z.lv c b o L H Q X) Q) h g1 λmf σ2 g2 q=>by
  cases mf with
  |next=>exact q w
  |cont=>exact q w
  |_=>exact q) λh=>oF w 400 h g1 λmf σ2 g2 q=>q)
def FW.nil{L:Loc}{H:MH}{Q:QF}(h:Q .next L H):FW z b [] L H Q:=λw=>mZ.nil h
def FW.cons{u:Loc->Loc}{us:List (Loc->Loc)}{L:Loc}{H:MH}{Q:QF}{fs:Fs}(g:Gd z ⟨[],u L,[],fs,H⟩)(h:run 400 ⟨z,turnF z b us Q,uK⟩ [b] ⟨[],u L,[],fs,H⟩):FW z b (u::us) L H Q:=λw=>
 mZ.cons (wQ z.b w) (oF w 400 (Q:=mQ (λL H=>mZ (SG z.b) w z.f z.lv b us L H Q) Q) h g λmf σ2 g2 q=>by
  cases mf with
  |next=>exact q w
  |cont=>exact q w
  |_=>exact q)
def YB(z:En)(Q:MV->Fs->MH->Prop):VF:=λmf σ=>mf.casesOn (Q .none σ.all<|hp z σ) False False λv=>Q v σ.all<|hp z σ
def VU(z:En)(Q:QV):VF:=λmf σ=>mf.casesOn (Q .none<|hp z σ) False False λv=>Q v<|hp z σ
noncomputable abbrev Ae(f:Fm)(lv c p:Nat)(Q:MV->Fs->MH->Prop)(X:MV->MH->Prop):Cx:=⟨⟨true,true,f,lv,p,c⟩,YB ⟨true,true,f,lv,p,c⟩ Q,λx _ H=>X x H⟩
noncomputable abbrev ZZ(f:Fm)(lv:Nat)(Q:QV)(X:MV->MH->Prop):Cx:=⟨⟨false,true,f,lv,0,0⟩,VU ⟨false,true,f,lv,0,0⟩ Q,λx _ H=>X x H⟩
section
variable{fa p c:Nat}{fd:FuncData}{fm:Fm}{ns:List Str}{ib:IB}{lv n:Nat}{az us dW:List MV}{kn:List Str}{fs:Fs}{H:MH}{X:MV->MH->Prop}
def Z0(cl:Yk fa fd fm ns ib){Q:MV->Fs->MH->Prop}(bd:∀{w},c6 (SG true) w fd ns (.ref p::az) kn us<|.ref p::dW)(o:H.at_ p=some (.inst c fs))(h:run 400 (Ae fm lv c p Q X) [ib] ⟨[],bW ns<|.ref p::dW,[],fs,H⟩):SC (n+(lv+1)) fa p c az kn us H Q X:=λw=>
 ⟨lv,aat ..,cl bd (oF w 400 h (λ_=>⟨o,rfl⟩) λmf σ1 g1 q=>by
  cases mf with
  |next=>exact⟨mT g1 rfl,q⟩
  |ret v=>exact⟨mT g1 rfl,q⟩
  |_=>exact q.elim)⟩
def enW(cl:Yk fa fd fm ns ib){Q:QV}(bd:∀{w},c6 (SG true) w fd ns az kn us dW)(h:run 400 (ZZ fm lv Q X) [ib] ⟨[],bW ns dW,[],[],H⟩):CW true (n+(lv+1)) fa az kn us H Q X:=λw=>
 ⟨lv,aat ..,cl bd (oF w 400 h (λh=>nomatch h) λmf σ1 g1 q=>by
  cases mf with
  |next=>exact q
  |ret v=>exact q
  |_=>exact q.elim)⟩
def SC.sQ{Q:QV}{b:Bool}(h:SC lv fa p c az kn us H (λv _=>Q v) X b):CW b lv fa (.ref p::az) kn us H Q X:=λw=>bH.m (h w) λv H r=>by cases r with|mk o q=>exact q
end
end
noncomputable def hdI(s:IS):IS:=s.casesOn .nil .nil .nil (λ_=>.nil) .nil (λ_=>.nil) (λ_ _=>.nil) (λ_ _ _=>.nil) (λ_ _ _ _=>.nil) (λ_ _=>.nil) (λ_ _ _=>.nil) (λ_ _ _=>.nil) (λ_ _ _=>.nil) (λ_ _ _ _=>.nil) (λ_ _ _=>.nil) (λ_ _ _=>.nil) (λ_ _ _=>.nil) (λ_ _ _=>.nil) (λ_ _ _=>.nil) (λ_ _=>.nil) (λ_ _=>.nil) (λ_=>.nil) (λ_ _=>.nil) .nil .nil λx _=>x
noncomputable def Bb(s:IS):IS:=s.casesOn .nil .nil .nil (λ_=>.nil) .nil (λ_=>.nil) (λ_ _=>.nil) (λ_ _ _=>.nil) (λ_ _ _ _=>.nil) (λ_ _=>.nil) (λ_ _ _=>.nil) (λ_ _ _=>.nil) (λ_ _ _=>.nil) (λ_ _ _ _=>.nil) (λ_ x _=>x) (λ_ x _=>x) (λ_ _ x=>x) (λ_ _ x=>x) (λ_ _ x=>x) (λx _=>x) (λ_ _=>.nil) (λ_=>.nil) (λ_ x=>x) .nil .nil λ_ _=>.nil
noncomputable def YC(s:IS):IS:=s.casesOn .nil .nil .nil (λ_=>.nil) .nil (λ_=>.nil) (λ_ _=>.nil) (λ_ _ _=>.nil) (λ_ _ _ _=>.nil) (λ_ _=>.nil) (λ_ _ _=>.nil) (λ_ _ _=>.nil) (λ_ _ _=>.nil) (λ_ _ _ _=>.nil) (λ_ _ x=>x) (λ_ _ x=>x) (λ_ _ _=>.nil) (λ_ _ _=>.nil) (λ_ _ _=>.nil) (λ_ x=>x) (λ_ _=>.nil) (λ_=>.nil) (λ_ _=>.nil) .nil .nil λ_ _=>.nil
noncomputable def Z1(s:IS):IE:=s.casesOn .nil .nil .nil (λx=>x) .nil (λx=>x) (λ_ x=>x) (λ_ _ _=>.nil) (λ_ _ _ _=>.nil) (λ_ _=>.nil) (λ_ _ _=>.nil) (λ_ _ _=>.nil) (λ_ _ _=>.nil) (λ_ _ _ _=>.nil) (λx _ _=>x) (λx _ _=>x) (λ_ x _=>x) (λ_ x _=>x) (λ_ x _=>x) (λ_ _=>.nil) (λ_ _=>.nil) (λ_=>.nil) (λ_ _=>.nil) .nil .nil λ_ _=>.nil
def fX(s:IS)(n:Nat):IS:=n.rec s λ_ ih=>Sd ih
def oG(s:IS)(n:Nat):IS:=hdI<|fX s n
noncomputable abbrev zP(f:Fm)(lv p:Nat):En:=⟨true,true,f,lv,p,1521⟩
abbrev LP(f:Fm)(lv p:Nat)(s:IS)(L:Loc)(H:MH)(Q:QF)(X:QX):Prop:=LW (zP f lv p) (Z1 s) (Bb s) (YC s) L H Q X
abbrev Z2(f:Fm)(lv p:Nat)(s:IS)(Q:QF)(X:QX):Cx:=⟨zP f lv p,IK (zP f lv p) (Z1 s) (Bb s) (YC s) Q X,X⟩
section
variable{b:Bool}{A B P:Prop}{c k:Nat}
def cT(e:b=true)(h:A):@Bool.rec (λ_=>Prop) B A b:=by rw[e];exact h
def cF(e:b=false)(h:B):@Bool.rec (λ_=>Prop) B A b:=by rw[e];exact h
def nF(e:b=true)(h:B):@Bool.rec (λ_=>Prop) B A (!b):=cF (aac not e) h
def nT(e:b=false)(h:A):@Bool.rec (λ_=>Prop) B A (!b):=cT (aac not e) h
def both(h:A)(g:B):@Bool.rec (λ_=>Prop) B A b:=by cases b<;>assumption
def dT[Decidable P](p:P)(h:A):@Bool.rec (λ_=>Prop) B A (decide P):=cT (aag p) h
def dF[Decidable P](p:¬P)(h:B):@Bool.rec (λ_=>Prop) B A (decide P):=cF (aad p) h
def IM[Decidable P](p:P)(h:B):@Bool.rec (λ_=>Prop) B A (!decide P):=cF (aac not<|aag p) h
def VV[Decidable P](p:¬P)(h:A):@Bool.rec (λ_=>Prop) B A (!decide P):=cT (aac not<|aad p) h
def sEq(e:c=k):([c]==[k])=true:=e▸beq_self_eq_true _
def Z3(n:c≠k):([c]==[k])=false:=beq_eq_false_iff_ne.mpr λe=>n<|List.head_eq_of_cons_eq e
def sT(e:c=k)(h:A):@Bool.rec (λ_=>Prop) B A ([c]==[k]):=cT (sEq e) h
def sF(e:c≠k)(h:B):@Bool.rec (λ_=>Prop) B A ([c]==[k]):=cF (Z3 e) h
def YD(e:c=k)(h:B):@Bool.rec (λ_=>Prop) B A ([c]!=[k]):=cF (aac not<|sEq e) h
def W3(e:c≠k)(h:A):@Bool.rec (λ_=>Prop) B A ([c]!=[k]):=cT (aac not<|Z3 e) h
def rlS{z:En}{fs:Fs}{K:Sg->Prop}{L:Loc}{H:MH}(o:H.at_ z.p=some (.inst z.c fs))(l:L[0]?=some (some<|.ref z.p))(h:K ⟨[],L,[],fs,H⟩)(e:z.s=true:=by rfl):rl z K L H:=cT e ⟨o,l,h⟩
def Sz{z:En}{fs:Fs}{K:Sg->Prop}{L:Loc}{H:MH}(L':Loc)(q:L=L')(o:H.at_ z.p=some (.inst z.c fs))(l:L'[0]?=some (some<|.ref z.p))(h:K ⟨[],L',[],fs,H⟩)(e:z.s=true:=by rfl):rl z K L H:=q▸rlS o l h e
def LW.cast{z:En}{c:IE}{b o:IS}{L L':Loc}{H:MH}{Q:QF}{X:QX}(e:L=L')(h:LW z c b o L' H Q X):LW z c b o L H Q X:=e▸h
end
section
variable{p c lv n:Nat}{az us dW:List MV}{kn:List Str}{fs:Fs}{H:MH}{X:MV->MH->Prop}
def gU(r:FR){Q:MV->Fs->MH->Prop}(hi:(FT[r.i]?,r.np)=(some r,az.length+2))(o:H.at_ p=some (.inst c fs))(h:run 400 (Ae r.fm lv c p Q X) [r.ib] ⟨[],bW r.ns<|.ref p::az,[],fs,H⟩):SC (n+(lv+1)) r.fa p c az [] [] H Q X:=Z0 (Yn r.i<|aac Prod.fst hi) (Yq hi) o h
def wR(r:FR){Q:MV->Fs->MH->Prop}(hi:FT[r.i]?=some r)(bd:∀{w},c6 (SG true) w r.fd r.ns (.ref p::az) kn us<|.ref p::dW)(o:H.at_ p=some (.inst c fs))(h:run 400 (Ae r.fm lv c p Q X) [r.ib] ⟨[],bW r.ns<|.ref p::dW,[],fs,H⟩):SC (n+(lv+1)) r.fa p c az kn us H Q X:=Z0 (Yn r.i hi) bd o h
def tL(r:FR){Q:QV}(hi:(FT[r.i]?,r.np)=(some r,az.length+1))(h:run 400 (ZZ r.fm lv Q X) [r.ib] ⟨[],bW r.ns az,[],[],H⟩):CW true (n+(lv+1)) r.fa az [] [] H Q X:=enW (Yn r.i<|aac Prod.fst hi) (Yq hi) h
end
noncomputable def PS.wp(s:PS)(v:P4):PS:={s with pos:=v}
noncomputable def PS.wa(s:PS)(v:Bool):PS:={s with ask:=v}
noncomputable def PS.wd(s:PS)(v:Bool):PS:={s with done:=v}
noncomputable def PS.wk(s:PS)(v:Nat):PS:={s with taken:=v}
noncomputable def PS.wK(s:PS)(v:Nat):PS:={s with cg:=v}
noncomputable def PS.wc(s:PS)(v:MV):PS:={s with cur:=v}
noncomputable def PS.wy(s:PS)(v:MV):PS:={s with oB:=v}
noncomputable def PS.wg(s:PS)(v:MV):PS:={s with ly:=v}
noncomputable def PS.wq(s:PS)(v:MV):PS:={s with state:=v}
section
variable{A B P:Prop}{a b:Nat}{o:Option MO}{H:MH}{i p n:Nat}{x y:MO}
def xT(e:a=b)(h:A):@Bool.rec (λ_=>Prop) B A ((a:Int)==(b:Int)):=cT (beq_iff_eq.mpr<|aac Int.ofNat e) h
def xF(e:a≠b)(h:B):@Bool.rec (λ_=>Prop) B A ((a:Int)==(b:Int)):=cF (beq_eq_false_iff_ne.mpr λq=>e<|Int.ofNat.inj q) h
def xF'(e:a=b)(h:B):@Bool.rec (λ_=>Prop) B A ((a:Int)!=(b:Int)):=cF (aac not<|beq_iff_eq.mpr<|aac Int.ofNat e) h
def Z4(e:a≠b)(h:A):@Bool.rec (λ_=>Prop) B A ((a:Int)!=(b:Int)):=cT (aac not<|beq_eq_false_iff_ne.mpr λq=>e<|Int.ofNat.inj q) h
def jQ{c:Nat}{fs:Fs}{K:Nat->Fs->Prop}(e:o=some (.inst c fs))(h:K c fs):iR o K:=by rw[e];exact h
def VW{xs:List (Int×MV)}{K:List (Int×MV)->Prop}(e:o=some (.cA xs))(h:K xs):rE o K:=by rw[e];exact h
def YE{xs:List (List Nat×MV)}{K:List (List Nat×MV)->Prop}(e:o=some (.aF xs))(h:K xs):xG o K:=by rw[e];exact h
def oH{o o':MO}{K:MH->Prop}(h:K<|H.new o'):K ((H.new o).put H.n o'):=mz.symm▸h
def VY{j:Nat}{xs:List MV}{Q:QV}(o:H.at_ j=some (.list xs))(h:Q (.int xs.length) H):QA (.ref j) H Q:=by show iP (H.at_ j) _ _ _ _ _ _;rw[o];exact h
def SA{xs:List MV}{kI:Nat->Fs->Prop}{kL kF:List MV->Prop}{kS:List (List Nat×MV)->Prop}{kD kP:List (Int×MV)->Prop}(e:o=some (.list xs))(h:kL xs):iP o kI kL kF kS kD kP:=by rw[e];exact h
def VZ{j:Nat}{t:List Nat}{Q:QV}(o:H.at_ j=some (.list [.str t]))(l:t.length<dg)(h:Q (.str t) H):Ad .join (.str []) [.ref j] H Q:=W2 o ⟨rfl,show(List.map List.length [t]).sum+1<=dg/\Q (.str [t].flatten) H from by rw[show[t].flatten=t from List.append_nil t,show(List.map List.length [t]).sum=t.length from Nat.add_zero _];exact⟨l,h⟩⟩
def putAt(n:p≠i)(e:H.at_ p=some x):(H.put i y).at_ p=some x:=(ao n).trans e
end
structure iQ(H:MH)(p:Nat)(s:PS):Prop where
 obj:H.at_ p=some (.inst 1521<|aM s)
 len:s.buf.length<dg
def pC(n a:Nat):uG n (a:Int)=min a n:=by
 show(max 0<|min (if(a:Int)<0 then(a:Int)+n else(a:Int)) (n:Int)).toNat=min a n
 rw[aal<|Int.not_lt.mpr<|Int.natCast_nonneg a]
 rcases Nat.le_total a n with h|h
 ·rw[Nat.min_eq_left h,Int.min_eq_left<|Int.ofNat_le.mpr h,Int.max_eq_right<|Int.natCast_nonneg a];rfl
 ·rw[Nat.min_eq_right h,Int.min_eq_right<|Int.ofNat_le.mpr h,Int.max_eq_right<|Int.natCast_nonneg n];rfl
def IP{α:Type}(l:List α)(a b:Nat):qI l (some (a:Int)) (some<|(a:Int)+(b:Int))=(l.drop a).take b:=by
 have e1:gE l.length (some (a:Int))=min a l.length:=pC _ _
 have e2:lY l.length (some<|(a:Int)+(b:Int))=min (a+b) l.length:=pC _<|a+b
 unfold qI
 rw[e1,e2]
 rcases Nat.le_total a l.length with h|h
 ·rw[Nat.min_eq_left h]
  rcases Nat.le_total (a+b) l.length with h2|h2
  ·rw[Nat.min_eq_left h2,Nat.add_sub_cancel_left]
  ·rw[Nat.min_eq_right h2,List.take_of_length_le<|Nat.le_of_eq<|List.length_drop ..,List.take_of_length_le<|by rw[List.length_drop];exact Nat.sub_le_of_le_add<|Nat.add_comm a b▸h2]
 ·rw[Nat.min_eq_right h,List.drop_length,List.drop_eq_nil_of_le h,List.take_nil,List.take_nil]
structure FI(p:Nat)(H H':MH):Prop where
 n:H'.n=H.n
 at_:∀a,a≠p->H'.at_ a=H.at_ a
def FI.put{p:Nat}{H:MH}{o:MO}:FI p H (H.put p o):=⟨rfl,λa h=>ao h⟩
def FI.refl{p:Nat}{H:MH}:FI p H H:=⟨rfl,λ_ _=>rfl⟩
def FI.trans{p:Nat}{H H' zy:MH}(a:FI p H H')(b:FI p H' zy):FI p H zy:=⟨b.n.trans a.n,λx h=>(b.at_ x h).trans<|a.at_ x h⟩
noncomputable def g9(q:P4)(c d:Nat):P4:=
 if c∈[10,133,8232,8233]∨(c=13/\d≠10)then⟨q.ptr+1,q.idx+1,q.line+1,0⟩
 else if c≠65279 then⟨q.ptr+1,q.idx+1,q.line,q.col+1⟩else⟨q.ptr+1,q.idx+1,q.line,q.col⟩
noncomputable def fwd(b:List Nat):Nat->P4->P4
 |0,q=>q
 |n+1,q=>fwd b n<|g9 q (b.getD q.ptr 0)<|b.getD (q.ptr+1) 0
def rW(q:P4)(c d:Nat):(g9 q c d).ptr=q.ptr+1:=by unfold g9;split<;>(try split)<;>rfl
def FI.eq{H H':MH}{p:Nat}{s:PS}(h:iQ H' p s)(b:FI p H H'):H'=H.put p (.inst 1521<|aM s):=by
 obtain⟨n,a⟩:=H'
 obtain⟨n',a'⟩:=H
 obtain⟨b1,b2⟩:=b
 unfold MH.put
 simp only at b1 b2
 subst b1
 congr 1
 funext j
 by_cases q:j=p
 ·subst q;rw[aam rfl];exact h.obj
 ·rw[aal q];exact b2 j q
def iQ.put{H:MH}{p:Nat}{s:PS}(h:s.buf.length<dg):iQ (H.put p<|.inst 1521<|aM s) p s:=⟨au,h⟩
section
variable{H H':MH}{p n m i c d:Nat}{s:PS}{Q:MV->Fs->MH->Prop}{X:MV->MH->Prop}
def cY(h:iQ H p s)(hc:s.buf[s.pos.ptr+i]?=some c)(hq:Q (.str [c]) (aM s) H):SC (n+2) 690 p 1521 [.int i] [] [] H Q X:=wR (lv:=1) cN rfl rQ h.obj ⟨h.len,pB hc hq⟩
def aH(h:iQ H p s)(hc:s.buf[s.pos.ptr]?=some c)(hq:Q (.str [c]) (aM s) H):SC (n+2) 690 p 1521 [] [] [] H Q X:=wR (lv:=1) cN rfl rP h.obj ⟨h.len,pB hc hq⟩
def wU{v:MV}(h:iQ H p s)(hq:Q .none (aM s) H):SC (n+2) 727 p 1521 [v] [] [] H Q X:=gU (lv:=1) iW rfl h.obj hq
def cM(h:iQ H p s)(hq:Q (.str<|(s.buf.drop s.pos.ptr).take m) (aM s) H):SC (n+3) 698 p 1521 [.int m] [] [] H Q X:=by
 rw[<-IP]at hq
 exact wR (lv:=2) fk rfl qa h.obj ⟨h.len,both (wU h ⟨h.len,hq⟩) ⟨h.len,hq⟩⟩
abbrev lF:IS:=oG aG.ib 1
def ye{Q:QF}{X:QX}:∀(n:Nat) (s:PS) (H:MH) (ch:Option MV) (i:Int),i=n->iQ H p s->s.pos.ptr+n<s.buf.length->
  (∀H' ch,iQ H' p (s.wp<|fwd s.buf n s.pos)->FI p H H'->Q .next [some<|.ref p,some<|.int (0:Nat),ch] H')->
  LP aG.fm 2 p lF [some<|.ref p,some<|.int i,ch] H Q X:=by
 intro n
 induction n with
 |zero=>
  intro s H ch i e h hl hq
  subst e
  exact LW.turn (λ_=>⟨h.obj,rfl⟩)<|hq H ch h .refl
 |succ n ih=>
  intro s H ch i e h hl hq
  subst e
  have g:∀i,i<s.buf.length->s.buf[i]?=some (s.buf.getD i 0):=λi l=>by rw[List.getD_eq_getElem?_getD,List.getElem?_eq_getElem l];rfl
  have K:∀q',q'=g9 s.pos (s.buf.getD s.pos.ptr 0) (s.buf.getD (s.pos.ptr+1) 0)->∀ch,LP aG.fm 2 p lF [some<|.ref p,some<|.int<|((n+1:Nat):Int)-1,ch] (H.put p<|.inst 1521<|aM<|s.wp q') Q X:=λq' e ch=>
   ih (s.wp q') _ ch _ (by omega) (.put h.len) (by show q'.ptr+n<s.buf.length;rw[e,rW];omega) λH2 ch2 hp2 hb2=>hq H2 ch2 (by rw[e]at hp2;exact hp2)<|FI.put.trans hb2
  refine LW.turn (λ_=>⟨h.obj,rfl⟩) ⟨h.len,pB (g s.pos.ptr<|by omega) ?_⟩
  generalize s.buf.getD s.pos.ptr 0=c at K⊢
  generalize e:s.buf.getD (s.pos.ptr+1) 0=d at K
  have g2:=e▸g (s.pos.ptr+1) (by omega)
  by_cases b1:c∈[10,133,8232,8233]
  ·exact dT b1<|K ⟨s.pos.ptr+1,s.pos.idx+1,s.pos.line+1,0⟩ (by unfold g9;rw[aam<|.inl b1]) _
  ·have e2:¬(c=13/\d≠10)->g9 s.pos c d=if c≠65279 then⟨s.pos.ptr+1,s.pos.idx+1,s.pos.line,s.pos.col+1⟩else⟨s.pos.ptr+1,s.pos.idx+1,s.pos.line,s.pos.col⟩:=λb0=>by unfold g9;rw[aal λq=>q.elim b1 b0]
   refine dF b1 ?_
   by_cases b2:c=13
   ·refine sT b2 ⟨h.len,pB g2 ?_⟩
    by_cases b4:d=10
    ·exact YD b4<|W3 (b2▸by decide)<|K ⟨s.pos.ptr+1,s.pos.idx+1,s.pos.line,s.pos.col+1⟩ (by rw[e2 λq=>q.2 b4,b2];rfl) _
    ·exact W3 b4<|K ⟨s.pos.ptr+1,s.pos.idx+1,s.pos.line+1,0⟩ (by unfold g9;rw[aam<|.inr ⟨b2,b4⟩]) _
   ·refine sF b2 ?_
    by_cases b3:c=65279
    ·exact YD b3<|K ⟨s.pos.ptr+1,s.pos.idx+1,s.pos.line,s.pos.col⟩ (by rw[e2 λq=>b2 q.1,aal λq=>q b3]) _
    ·exact W3 b3<|K ⟨s.pos.ptr+1,s.pos.idx+1,s.pos.line,s.pos.col+1⟩ (by rw[e2 λq=>b2 q.1,aam b3]) _
def uS{L:Loc}(el:L=[some<|.ref p,some<|.int m,none])(h:iQ H p s)(hl:s.pos.ptr+m<s.buf.length)(hq:Q .none (aM<|s.wp<|fwd s.buf m s.pos)<|H.put p<|.inst 1521<|aM<|s.wp<|fwd s.buf m s.pos):run 400 (Ae aG.fm 2 1521 p Q X) [aG.ib] ⟨[],L,[],aM s,H⟩:=by
 subst el
 have fin:∀{Q:QF} {X:QX},_->LP aG.fm 2 p lF [some<|.ref p,some<|.int m,none] H Q X:=λk=>ye m s _ _ _ rfl h hl k
 exact⟨h.len,both (wU h<|fin λH' ch hp hb=>⟨hp.obj,rfl,hb.eq hp▸hq⟩)<|fin λH' ch hp hb=>⟨hp.obj,rfl,hb.eq hp▸hq⟩⟩
def uT(h:iQ H p s)(hl:s.pos.ptr+m<s.buf.length)(hq:Q .none (aM<|s.wp<|fwd s.buf m s.pos)<|H.put p<|.inst 1521<|aM<|s.wp<|fwd s.buf m s.pos):SC (n+3) 706 p 1521 [.int m] [] [] H Q X:=wR (lv:=2) aG rfl pJ h.obj<|uS rfl h hl hq
def jT(h:iQ H p s)(hl:s.pos.ptr+1<s.buf.length)(hq:Q .none (aM<|s.wp<|fwd s.buf 1 s.pos)<|H.put p<|.inst 1521<|aM<|s.wp<|fwd s.buf 1 s.pos):SC (n+3) 706 p 1521 [] [] [] H Q X:=wR (lv:=2) aG rfl pI h.obj<|uS (m:=1) rfl h hl hq
def kJ(b:List Nat)(q:P4):Fs:=[(0,.str yd),(9,.int q.idx),(10,.int q.line),(11,.int q.col),(4,.str b),(5,.int q.ptr)]
def DM{v1 v2 v3 v4 v5 v6:MV}{Q:QV}(hq:Q .none<|H.new<|.inst 53 [(0,v1),(9,v2),(10,v3),(11,v4),(4,v5),(5,v6)]):CW true (n+2) 35 [.ref H.n,v1,v2,v3,v4,v5,v6] [] [] (H.new<|.inst 53 []) Q X:=by
 rw[<-mz (o:=.inst 53 [])]at hq
 exact SC.sQ<|gU (lv:=1) lK rfl af hq
def sR(h:iQ H p s)(l:p≠H.n)(hq:Q (.ref H.n) (aM s)<|H.new<|.inst 53<|kJ s.buf s.pos):SC (n+3) 713 p 1521 [] [] [] H Q X:=gU (lv:=2) fJ rfl h.obj<|DM ⟨rfl,(aal l).trans h.obj,hq⟩
end
def ZB(b:List Nat):Prop:=∃t,b=t++[0]
def lz{b:List Nat}(z:ZB b){i c:Nat}(h:b[i]?=some c)(n:c≠0):i+1<b.length:=by
 obtain⟨t,rfl⟩:=z
 have hl:=(List.getElem?_eq_some_iff.mp h).1
 by_cases q:i<t.length
 ·simp;omega
 ·have:i=t.length:=by simp at hl;omega
  subst this
  simp at h
  exact aan h.symm n
def oJ{H:MH}{p:Nat}{o:MO}(h:H.at_ p=some o):H.put p o=H:=by
 obtain⟨n,a⟩:=H
 unfold MH.put
 congr 1
 funext j
 dsimp only at h⊢
 split
 ·rename_i q;subst q;exact h.symm
 ·rfl
def cZ{b:List Nat}{i c:Nat}(h:b[i]?=some c):b.getD i 0=c:=by rw[List.getD_eq_getElem?_getD,h];rfl
def f9{b:List Nat}{i:Nat}(h:i<b.length):b[i]?=some (b.getD i 0):=by rw[List.getD_eq_getElem?_getD,List.getElem?_eq_getElem h];rfl
def gc(b:List Nat)(q:P4):P4×List Nat:=
 if b.getD q.ptr 0∈[13,10,133]then((if(b.drop q.ptr).take 2=[13,10]then fwd b 2 q else fwd b 1 q),[10])
 else if b.getD q.ptr 0∈[8232,8233]then(fwd b 1 q,[b.getD q.ptr 0])else(q,[])
def take2{b:List Nat}{i:Nat}{x y:Nat}(h:(b.drop i).take 2=[x,y]):b[i]?=some x/\b[i+1]?=some y:=by
 have h1:((b.drop i).take 2)[0]?=some x:=by rw[h];rfl
 have h2:((b.drop i).take 2)[1]?=some y:=by rw[h];rfl
 rw[List.getElem?_take_of_lt (by decide),List.getElem?_drop]at h1 h2
 exact⟨h1,h2⟩
def IQ{b:List Nat}{q:P4}(h:(b.drop q.ptr).take 2=[13,10]):gc b q=(fwd b 2 q,[10]):=by
 unfold gc;rw[aam (by rw[cZ (take2 h).1];decide),aam h]
def SE{b:List Nat}{q:P4}(h:b.getD q.ptr 0∈[13,10,133])(n:(b.drop q.ptr).take 2≠[13,10]):gc b q=(fwd b 1 q,[10]):=by unfold gc;rw[aam h,aal n]
def SH{b:List Nat}{q:P4}(h:b.getD q.ptr 0∉[13,10,133])(n:b.getD q.ptr 0∈[8232,8233]):gc b q=(fwd b 1 q,[b.getD q.ptr 0]):=by unfold gc;rw[aal h,aam n]
def V0{b:List Nat}{q:P4}(h:b.getD q.ptr 0∉[13,10,133])(n:b.getD q.ptr 0∉[8232,8233]):gc b q=(q,[]):=by unfold gc;rw[aal h,aal n]
def PL{b l:List Nat}{i:Nat}(z:ZB b)(h:i<b.length)(m:b.getD i 0∈l)(n:(0∈l)=False):i+1<b.length:=lz z (f9 h) λe=>n▸e▸m
section
variable{a b:List Nat}{A B:Prop}
def Nc(e:a=b)(h:A):@Bool.rec (λ_=>Prop) B A (a==b):=cT (beq_iff_eq.mpr e) h
def V1(e:a=b)(h:B):@Bool.rec (λ_=>Prop) B A (a !=b):=cF (aac not<|beq_iff_eq.mpr e) h
def SI(e:a≠b)(h:A):@Bool.rec (λ_=>Prop) B A (a !=b):=cT (aac not<|beq_eq_false_iff_ne.mpr e) h
def zA(e:a≠b)(h:B):@Bool.rec (λ_=>Prop) B A (a==b):=cF (beq_eq_false_iff_ne.mpr e) h
end
section
variable{H H':MH}{p n m i c d:Nat}{s:PS}{Q:MV->Fs->MH->Prop}{X:MV->MH->Prop}
def pR(h:iQ H p s)(z:ZB s.buf)(hl:s.pos.ptr<s.buf.length){r:P4×List Nat}(e:gc s.buf s.pos=r)(hq:Q (.str r.2) (aM<|s.wp r.1)<|H.put p<|.inst 1521<|aM<|s.wp r.1):SC (n+4) 1278 p 1521 [] [] [] H Q X:=by
 have K:∀q l,gc s.buf s.pos=(q,l)->Q (.str l) (aM<|s.wp q) (H.put p<|.inst 1521<|aM<|s.wp q):=λq l f=>by cases e.symm.trans f;exact hq
 refine gU (lv:=3) dK rfl h.obj<|aH h (f9 hl) ?_
 by_cases b1:s.buf.getD s.pos.ptr 0∈[13,10,133]
 ·refine dT b1<|cM (m:=2) h ?_
  by_cases b2:(s.buf.drop s.pos.ptr).take 2=[13,10]
  ·exact Nc b2<|uT (m:=2) h (lz z (take2 b2).2<|by decide)<|K _ _<|IQ b2
  ·exact zA b2<|jT h (PL z hl b1<|by simp)<|K _ _<|SE b1 b2
 ·refine dF b1 ?_
  by_cases b2:s.buf.getD s.pos.ptr 0∈[8232,8233]
  ·exact dT b2<|jT h (PL z hl b2<|by simp)<|K _ _<|SH b1 b2
  ·exact dF b2<|oJ h.obj▸K _ _ (V0 b1 b2)
end
def take3{b:List Nat}{i:Nat}{x y u:Nat}(h:(b.drop i).take 3=[x,y,u]):b[i]?=some x/\b[i+1]?=some y/\b[i+2]?=some u:=by
 have h1:((b.drop i).take 3)[0]?=some x:=by rw[h];rfl
 have h2:((b.drop i).take 3)[1]?=some y:=by rw[h];rfl
 have h3:((b.drop i).take 3)[2]?=some u:=by rw[h];rfl
 rw[List.getElem?_take_of_lt (by decide),List.getElem?_drop]at h1 h2 h3
 exact⟨h1,h2,h3⟩
noncomputable abbrev pD:List Nat:=[0,32,9,13,10,133,8232,8233]
noncomputable abbrev TJ:List Nat:=[0,32,9,13,10,133,8232,8233,45,63,58,44,91,93,123,125,35,38,42,33,124,62,39,34,37,64,96]
def bE(ch:Nat)(b:List Nat)(q:P4):Bool:=decide (q.col=0)&&decide ((b.drop q.ptr).take 3=[ch,ch,ch])&&decide (b.getD (q.ptr+3) 0∈pD)
def iH(c d:Nat):Bool:=!decide (c∈TJ)||(!decide (d∈pD)&&(decide (c=45)||decide (c∈[63,58])))
section
variable{A B:Prop}{n m:Nat}
def zT(e:n=0)(h:A):@Bool.rec (λ_=>Prop) B A ((n:Int)==0):=cT (beq_iff_eq.mpr<|aac Int.ofNat e) h
def zF(e:n≠0)(h:B):@Bool.rec (λ_=>Prop) B A ((n:Int)==0):=cF (beq_eq_false_iff_ne.mpr λq=>e<|Int.ofNat.inj q) h
def tY{b:Bool}{H:MH}{K:Bool->MH->Prop}(h:K b H):kc (jw b) H K:=by cases b<;>exact h
end
def IT{k:Nat}{b:List Nat}{q:P4}(h:q.col≠0):bE k b q=false:=by unfold bE;rw[aad h];rfl
def IU{k:Nat}{b:List Nat}{q:P4}(h:(b.drop q.ptr).take 3≠[k,k,k]):bE k b q=false:=by unfold bE;rw[aad h,Bool.and_false];rfl
def DN{k:Nat}{b:List Nat}{q:P4}(h:q.col=0)(h1:(b.drop q.ptr).take 3=[k,k,k]):bE k b q=decide (b.getD (q.ptr+3) 0∈pD):=by unfold bE;rw[aag h,aag h1];rfl
section
variable{H H':MH}{p n m i c d:Nat}{s:PS}{Q:MV->Fs->MH->Prop}{X:MV->MH->Prop}
def qb(h:iQ H p s)(hq:Q (jw<|decide<|s.pos.col=0) (aM s) H):SC (n+2) 1051 p 1521 [] [] [] H Q X:=by
 have K:∀b,decide (s.pos.col=0)=b->Q (jw b) (aM s) H:=λb e=>e▸hq
 refine gU (lv:=1) dJ rfl h.obj ?_
 by_cases b0:s.pos.col=0
 ·exact zT b0<|K true<|aag b0
 ·exact zF b0<|K false<|aad b0
def ie(h:iQ H p s)(z:ZB s.buf)(hq:Q (jw<|bE 45 s.buf s.pos) (aM s) H):SC (n+4) 1058 p 1521 [] [] [] H Q X:=by
 have K:∀b,bE 45 s.buf s.pos=b->Q (jw b) (aM s) H:=λb e=>e▸hq
 refine gU (lv:=3) cG rfl h.obj ?_
 by_cases b0:s.pos.col=0
 ·refine zT b0<|cM (m:=3) h ?_
  by_cases b1:(s.buf.drop s.pos.ptr).take 3=[45,45,45]
  ·refine Nc b1<|cY (i:=3) h (f9<|lz z (take3 b1).2.2<|by decide) ?_
   by_cases b2:s.buf.getD (s.pos.ptr+3) 0∈pD
   ·exact dT b2<|K true<|(DN b0 b1).trans<|aag b2
   ·exact dF b2<|K false<|(DN b0 b1).trans<|aad b2
  ·exact zA b1<|K false<|IU b1
 ·exact zF b0<|K false<|IT b0
def iT(h:iQ H p s)(z:ZB s.buf)(hq:Q (jw<|bE 46 s.buf s.pos) (aM s) H):SC (n+4) 1065 p 1521 [] [] [] H Q X:=by
 have K:∀b,bE 46 s.buf s.pos=b->Q (jw b) (aM s) H:=λb e=>e▸hq
 refine gU (lv:=3) cU rfl h.obj ?_
 by_cases b0:s.pos.col=0
 ·refine zT b0<|cM (m:=3) h ?_
  by_cases b1:(s.buf.drop s.pos.ptr).take 3=[46,46,46]
  ·refine Nc b1<|cY (i:=3) h (f9<|lz z (take3 b1).2.2<|by decide) ?_
   by_cases b2:s.buf.getD (s.pos.ptr+3) 0∈pD
   ·exact dT b2<|K true<|(DN b0 b1).trans<|aag b2
   ·exact dF b2<|K false<|(DN b0 b1).trans<|aad b2
  ·exact zA b1<|K false<|IU b1
 ·exact zF b0<|K false<|IT b0
def oK(h:iQ H p s)(hl:s.pos.ptr+1<s.buf.length)(hq:Q (.bool<|decide<|s.buf.getD (s.pos.ptr+1) 0∈pD) (aM s) H):SC (n+4) 1072 p 1521 [] [] [] H Q X:=gU (lv:=3) c7 rfl h.obj<|cY (i:=1) h (f9 hl) hq
def jF(h:iQ H p s)(hl:s.pos.ptr+1<s.buf.length)(hq:Q (.bool<|iH (s.buf.getD s.pos.ptr 0)<|s.buf.getD (s.pos.ptr+1) 0) (aM s) H):SC (n+4) 1093 p 1521 [] [] [] H Q X:=by
 have K:∀b,iH (s.buf.getD s.pos.ptr 0) (s.buf.getD (s.pos.ptr+1) 0)=b->Q (.bool b) (aM s) H:=λb e=>e▸hq
 refine gU (lv:=3) fM rfl h.obj<|aH h (f9<|Nat.lt_of_succ_lt hl) ?_
 unfold iH at K
 by_cases b1:s.buf.getD s.pos.ptr 0∈TJ
 ·refine IM b1<|cY (i:=1) h (f9 hl) ?_
  rw[aag b1]at K
  by_cases b2:s.buf.getD (s.pos.ptr+1) 0∈pD
  ·rw[aag b2]at K
   exact IM b2<|K _ (aac not<|aag b2).symm
  ·refine VV b2 ?_
   rw[aad b2]at K
   by_cases b3:s.buf.getD s.pos.ptr 0=45
   ·exact sT b3<|K _<|by rw[aag b3];exact(sEq b3).symm
   ·exact sF b3<|K _<|by rw[aad b3];rfl
 ·exact VV b1<|K _<|by rw[aad b1];exact(aac not<|aad b1).symm
end
set_option hygiene false in
theorem ak(b:List Nat):∀(n:Nat) (q:P4),(fwd b n q).ptr=q.ptr+n
 |0,q=>rfl
 |n+1,q=>by
  show(fwd b n _).ptr=_
  rw[ak b n,rW];omega
noncomputable def gD(ok:Nat->Bool)(b:List Nat):Nat->P4->P4
 |0,q=>q
 |n+1,q=>if ok (b.getD q.ptr 0)then gD ok b n (fwd b 1 q)else q
theorem oM{ok:Nat->Bool}{b:List Nat}(z:ZB b)(h0:ok 0=false):∀(n:Nat) (q:P4),q.ptr<b.length->(gD ok b n q).ptr<b.length
 |0,q,h=>h
 |n+1,q,h=>by
  unfold gD
  split
  ·rename_i hk
   refine oM z h0 n _ ?_
   rw[ak]
   exact lz z (f9 h) λe=>by rw[e,h0]at hk;cases hk
  ·exact h
def lA{f:Fm}{lv p:Nat}{op:CmpOp}{l:List Nat}{ok:Nat->Bool}{Lc:Loc}{Q:QF}{X:QX}(hs:Lc[0]?=some (some<|.ref p))(hop:∀c H,gx op (.str [c]) (.str l) H=some (ok c))(h0:ok 0=false):
  ∀(n:Nat) (s:PS) (H:MH),iQ H p s->ZB s.buf->s.pos.ptr<s.buf.length->s.buf.length<=s.pos.ptr+n->Q .next Lc (H.put p<|.inst 1521<|aM<|s.wp<|gD ok s.buf n s.pos)->
  LW (zP f (lv+3) p) (.cmp op (.gJ (.loc 0) 55 .nil [] .nil)<|.str l) (.cons (.expr<|.gJ (.loc 0) 75 .nil [] .nil) .nil) .nil Lc H Q X:=by
 intro n
 induction n with
 |zero=>exact λs H h z hl hn hq=>aan hl<|Nat.not_lt.mpr hn
 |succ n ih=>
  intro s H h z hl hn hq
  refine LW.turn (fs:=aM s) (λ_=>⟨h.obj,hs⟩)<|aH h (f9 hl)<|pB (hop _ _) ?_
  unfold gD at hq
  cases hk:ok (s.buf.getD s.pos.ptr 0)with
  |false=>
   rw[hk]at hq
   exact oJ h.obj▸hq
  |true=>
   rw[hk]at hq
   have l1:=lz z (f9 hl) λe=>by rw[e,h0]at hk;cases hk
   refine jT h l1<|ih (s.wp<|fwd s.buf 1 s.pos) _ (.put h.len) z ((ak ..).symm▸l1) ?_<|fP.symm▸hq
   show s.buf.length<=(fwd s.buf 1 s.pos).ptr+n
   rw[ak,Nat.add_assoc,Nat.add_comm 1];exact hn
set_option hygiene false in
def ig{b:List Nat}(z:ZB b){q:P4}(h:q.ptr<b.length):(gc b q).1.ptr<b.length/\((gc b q).2≠[]->q.ptr+1<=(gc b q).1.ptr)/\(gc b q).2.length<=1/\q.ptr<=(gc b q).1.ptr:=by
 unfold gc
 have g:=f9 h
 split
 ·rename_i b1
  have n0:b.getD q.ptr 0≠0:=by intro e;rw[e]at b1;simp at b1
  have l1:=lz z g n0
  split
  ·rename_i b2
   have l2:=lz z (take2 b2).2<|by decide
   refine⟨?_,λ_=>?_,?_,?_⟩
   ·show(fwd b 2 q).ptr<_;rw[ak];exact l2
   ·show _<=(fwd b 2 q).ptr;rw[ak];omega
   ·simp
   ·show _<=(fwd b 2 q).ptr;rw[ak];omega
  ·refine⟨?_,λ_=>?_,?_,?_⟩
   ·show(fwd b 1 q).ptr<_;rw[ak];exact l1
   ·show _<=(fwd b 1 q).ptr;rw[ak];omega
   ·simp
   ·show _<=(fwd b 1 q).ptr;rw[ak];omega
 ·split
  ·rename_i b2
   have n0:b.getD q.ptr 0≠0:=by intro e;rw[e]at b2;simp at b2
   have l1:=lz z g n0
   refine⟨?_,λ_=>?_,?_,?_⟩
   ·show(fwd b 1 q).ptr<_;rw[ak];exact l1
   ·show _<=(fwd b 1 q).ptr;rw[ak];omega
   ·simp
   ·show _<=(fwd b 1 q).ptr;rw[ak];omega
  ·exact⟨h,λe=>aan rfl e,by simp,aaj _⟩
theorem uU{ok:Nat->Bool}{b:List Nat}:∀(n:Nat) (q:P4),q.ptr<=(gD ok b n q).ptr
 |0,q=>aaj _
 |n+1,q=>by
  unfold gD
  split
  ·have:=uU (ok:=ok) (b:=b) n<|fwd b 1 q
   rw[ak]at this;omega
  ·exact aaj _
noncomputable abbrev oQ(c:Nat):Bool:=decide<|c=32
noncomputable abbrev g5(c:Nat):Bool:=!decide (c∈[0,13,10,133,8232,8233])
def bw(b:List Nat)(q:P4):P4:=
 if b.getD (gD oQ b b.length q).ptr 0=35 then gD g5 b b.length (gD oQ b b.length q)else gD oQ b b.length q
noncomputable def dh(b:List Nat):Nat->P4->Bool->P4×Bool
 |0,q,a=>(q,a)
 |n+1,q,a=>if(gc b<|bw b q).2=[]then((gc b<|bw b q).1,a)else dh b n (gc b<|bw b q).1 true
def lB{b:List Nat}(z:ZB b){q:P4}(h:q.ptr<b.length):(bw b q).ptr<b.length/\q.ptr<=(bw b q).ptr:=by
 have h1:=oM (ok:=oQ) z rfl b.length q h
 have h2:=uU (ok:=oQ) (b:=b) b.length q
 unfold bw
 split
 ·exact⟨oM z rfl _ _ h1,av h2<|uU _ _⟩
 ·exact⟨h1,h2⟩
abbrev YF:IS:=oG aA.ib 2
def EZ{p:Nat}{Q:QF}{X:QX}:∀(n:Nat) (s:PS) (H:MH),iQ H p s->ZB s.buf->s.pos.ptr<s.buf.length->s.buf.length<=s.pos.ptr+n->
  Q .next [some<|.ref p,some<|.bool true] (H.put p<|.inst 1521<|aM<|(s.wp<|(dh s.buf n s.pos s.ask).1).wa<|(dh s.buf n s.pos s.ask).2)->
  LP aA.fm 4 p YF [some<|.ref p,some<|.bool false] H Q X:=by
 intro n
 induction n with
 |zero=>exact λs H h z hl hn hq=>aan hl<|Nat.not_lt.mpr hn
 |succ n ih=>
  intro s H h z hl hn hq
  have l1:=oM (ok:=oQ) z rfl s.buf.length s.pos hl
  have h1:iQ (H.put p<|.inst 1521<|aM<|s.wp<|gD oQ s.buf s.buf.length s.pos) p (s.wp<|gD oQ s.buf s.buf.length s.pos):=.put h.len
  have K:∀H1,H1=H.put p (.inst 1521<|aM<|s.wp<|bw s.buf s.pos)->run 398 (Z2 aA.fm 4 p YF Q X) [Sd<|Sd<|Bb YF] ⟨[],[some<|.ref p,some<|.bool false],[],aM<|s.wp<|bw s.buf s.pos,H1⟩:=λH1 e1=>by
   subst e1
   obtain⟨l2,l3⟩:=lB z hl
   obtain⟨f1,f2,f3,f4⟩:=ig z l2
   unfold dh at hq
   generalize hr:gc s.buf (bw s.buf s.pos)=r at hq f1 f2 f3
   obtain⟨q,l⟩:=r
   refine pR (s:=s.wp<|bw s.buf s.pos) (.put h.len) z l2 hr ⟨H8 f3 (by decide),?_⟩
   cases l with
   |nil=>
    rw[aam rfl]at hq
    rw[<-fP (o:=.inst 1521<|aM<|s.wp<|bw s.buf s.pos)]at hq
    exact LW.turn (fs:=aM<|s.wp q) (λ_=>⟨au,rfl⟩) hq
   |cons a l=>
    rw[aal nofun]at hq
    refine ih ((s.wp q).wa true) (((H.put p _).put p _).put p<|.inst 1521<|aM<|(s.wp q).wa true) (.put h.len) z f1 ?_<|by rw[fP,fP,fP];exact hq
    have:=f2<|by simp
    show s.buf.length<=q.ptr+n
    simp only at this;omega
  refine LW.turn (fs:=aM s) (λ_=>⟨h.obj,rfl⟩)<|lA (ok:=oQ) rfl (λc H=>cS c 32) rfl s.buf.length s H h z hl (aat ..) ⟨au,rfl,aH h1 (f9 l1) ?_⟩
  unfold bw at K
  by_cases b1:s.buf.getD (gD oQ s.buf s.buf.length s.pos).ptr 0=35
  ·rw[aam b1]at K
   exact sT b1<|lA (ok:=g5) rfl (λc H=>rfl) rfl s.buf.length _ _ h1 z l1 (aat ..) ⟨au,rfl,K _ fP⟩
  ·rw[aal b1]at K
   exact sF b1<|K _ rfl
def Bc{n p:Nat}{H:MH}{s:PS}{Q:MV->Fs->MH->Prop}{X:MV->MH->Prop}(h:iQ H p s)(z:ZB s.buf)(hl:s.pos.ptr<s.buf.length)(nb:s.buf.getD s.pos.ptr 0≠65279)
  (hq:Q .none (aM<|(s.wp<|(dh s.buf s.buf.length s.pos s.ask).1).wa<|(dh s.buf s.buf.length s.pos s.ask).2)<|H.put p<|.inst 1521<|aM<|(s.wp<|(dh s.buf s.buf.length s.pos s.ask).1).wa<|(dh s.buf s.buf.length s.pos s.ask).2):SC (n+5) 1100 p 1521 [] [] [] H Q X:=by
 have K:run 399 (Ae aA.fm 4 1521 p Q X) [Sd aA.ib] ⟨[],[some<|.ref p,none],[],aM s,H⟩:=EZ s.buf.length s _ h z hl (aat ..) ⟨au,rfl,hq⟩
 refine gU (lv:=4) aA rfl h.obj ?_
 by_cases b0:s.pos.idx=0
 ·exact zT b0<|aH h (f9 hl)<|sF nb K
 ·exact zF b0 K
set_option hygiene false in
structure KS where
 a:Nat
 tn:Nat
 req:Bool
 idx:Nat
 line:Nat
 col:Nat
 mrk:MV
noncomputable def zB(k:KS):List (Nat×MV):=[(44,.int k.tn),(45,.bool k.req),(9,.int k.idx),(10,.int k.line),(11,.int k.col),(46,k.mrk)]
def HW(H:MH):Prop:=∀a o,H.at_ a=some o->a<H.n
def zC(H:MH)(ka:Nat):Option KS->Prop
 |none=>H.at_ ka=some (.cA [])
 |some k=>H.at_ ka=some (.cA [(0,.ref k.a)])/\H.at_ k.a=some (.inst 763<|zB k)
structure PR(H:MH)(p:Nat)(s:PS)(aa:List MV)(k:Option KS):Prop where
 obj:iQ H p s
 z:ZB s.buf
 lt:s.pos.ptr<s.buf.length
 pi:s.pos.ptr=s.pos.idx
 tok:H.at_ s.tA=some (.list aa)
 uV:aa.length<1000
 key:zC H s.cg k
 hw:HW H
structure jx(own:List Nat)(H H':MH):Prop where
 n:H.n<=H'.n
 at_:∀a o,H.at_ a=some o->a∉own->H'.at_ a=some o
def jx.refl{own:List Nat}{H:MH}:jx own H H:=⟨aaj _,λ_ _ h _=>h⟩
def jx.trans{own:List Nat}{H H' zy:MH}(a:jx own H H')(b:jx own H' zy):jx own H zy:=⟨av a.n b.n,λx o h q=>b.at_ x o (a.at_ x o h q) q⟩
def jx.put{own:List Nat}{H:MH}{i:Nat}{o:MO}(h:i∈own):jx own H (H.put i o):=⟨aaj _,λa o' e q=>by
 rw[ao λe=>q<|by rw[e];exact h];exact e⟩
def aL{H:MH}{o:MO}{a:Nat}(h:a≠H.n):(H.new o).at_ a=H.at_ a:=by unfold MH.new;simp[h]
def jx.new{own:List Nat}{H:MH}{o:MO}(hw:HW H):jx own H (H.new o):=⟨Nat.le_succ _,λa o' e _=>by
 rw[aL<|aae<|hw a o' e];exact e⟩
def HW.put{H:MH}{i:Nat}{o o':MO}(hw:HW H)(h:H.at_ i=some o):HW (H.put i o'):=λa x e=>by
 by_cases q:a=i
 ·subst q;exact hw _ _ h
 ·rw[ao q]at e;exact hw _ _ e
def HW.new{H:MH}{o:MO}(hw:HW H):HW (H.new o):=λa x e=>by
 by_cases q:a=H.n
 ·subst q;exact Nat.lt_succ_self _
 ·rw[aL q]at e;exact aaw<|hw _ _ e
def uW{H:MH}{o:MO}{a:Nat}(h:a≠H.n):((H.new o).del H.n).at_ a=H.at_ a:=by
 unfold MH.del;simp only[h,if_false];exact aL h
def HW.uX{H:MH}{o:MO}(hw:HW H):HW ((H.new o).del H.n):=λa x e=>by
 by_cases q:a=H.n
 ·subst q;exact Nat.lt_succ_self _
 ·rw[uW q]at e;exact aaw<|hw _ _ e
def jx.uX{own:List Nat}{H:MH}{o:MO}(hw:HW H):jx own H ((H.new o).del H.n):=⟨Nat.le_succ _,λa o' e _=>by
 rw[uW<|aae<|hw a o' e];exact e⟩
def zC.of{H H':MH}{ka:Nat}{k:Option KS}(h:zC H ka k)(e:∀a o,H.at_ a=some o->a∈[ka]∨(∃c fs,o=.inst c fs/\c=763)->H'.at_ a=some o):zC H' ka k:=by
 cases k with
 |none=>exact e _ _ h<|.inl<|.head _
 |some k=>exact⟨e _ _ h.1<|.inl<|.head _,e _ _ h.2<|.inr ⟨_,_,rfl,rfl⟩⟩
section
variable{H:MH}{p:Nat}{s:PS}{aa:List MV}{k:Option KS}
def PR.IV(R:PR H p s aa k):s.tA≠p:=λe=>by have:=R.tok;rw[e,R.obj.obj]at this;cases this
def PR.wV(R:PR H p s aa k):s.cg≠p:=λe=>by
 have:=R.key
 rw[e]at this
 cases k with
 |none=>have h:H.at_ p=_:=this;rw[R.obj.obj]at h;cases h
 |some k=>have h:=this.1;rw[R.obj.obj]at h;cases h
def PR.DO(R:PR H p s aa k):s.cg≠s.tA:=λe=>by
 have:=R.key
 rw[e]at this
 cases k with
 |none=>have h:H.at_ s.tA=_:=this;rw[R.tok]at h;cases h
 |some k=>have h:=this.1;rw[R.tok]at h;cases h
def PR.nh{s':PS}(R:PR H p s aa k)(e1:s'.buf=s.buf)(e2:s'.tA=s.tA)(e3:s'.cg=s.cg)(l:s'.pos.ptr<s.buf.length)(pi:s'.pos.ptr=s'.pos.idx):PR (H.put p<|.inst 1521<|aM s') p s' aa k where
 obj:=.put (by rw[e1];exact R.obj.len)
 z:=by rw[e1];exact R.z
 lt:=by rw[e1];exact l
 pi:=pi
 tok:=by rw[e2,ao R.IV];exact R.tok
 uV:=R.uV
 key:=by
  rw[e3]
  refine R.key.of λa o h q=>?_
  rw[ao];exact h
  rintro rfl
  rw[R.obj.obj]at h;cases h
  rcases q with q|⟨c,fs,q,rfl⟩
  ·exact R.wV (aaa.mp q).symm
  ·cases q
 hw:=R.hw.put R.obj.obj
def PR.Bd{ah:List MV}(R:PR H p s aa k)(h:ah.length<1000):PR (H.put s.tA<|.list ah) p s ah k where
 obj:=⟨by rw[ao<|Ne.symm R.IV];exact R.obj.obj,R.obj.len⟩
 z:=R.z
 lt:=R.lt
 pi:=R.pi
 tok:=au
 uV:=h
 key:=R.key.of λa o h q=>by
  rw[ao];exact h
  rintro rfl
  rw[R.tok]at h;cases h
  rcases q with q|⟨c,fs,q,rfl⟩
  ·exact R.DO (aaa.mp q).symm
  ·cases q
 hw:=R.hw.put R.tok
def PR.jU(R:PR H p s aa k):∃es,H.at_ s.cg=some (.cA es):=by
 have:=R.key
 cases k with
 |none=>exact⟨_,this⟩
 |some k=>exact⟨_,this.1⟩
def PR.putK{k':Option KS}{es:List (Int×MV)}(R:PR H p s aa k)(h:zC (H.put s.cg<|.cA es) s.cg k'):PR (H.put s.cg<|.cA es) p s aa k' where
 obj:=⟨by rw[ao<|Ne.symm R.wV];exact R.obj.obj,R.obj.len⟩
 z:=R.z
 lt:=R.lt
 pi:=R.pi
 tok:=by rw[ao<|Ne.symm R.DO];exact R.tok
 uV:=R.uV
 key:=h
 hw:=by obtain⟨es,e⟩:=R.jU;exact R.hw.put e
def PR.other{H':MH}(R:PR H p s aa k)(K:jx [] H H')(hw:HW H'):PR H' p s aa k where
 obj:=⟨K.at_ _ _ R.obj.obj (by simp),R.obj.len⟩
 z:=R.z
 lt:=R.lt
 pi:=R.pi
 tok:=K.at_ _ _ R.tok (by simp)
 uV:=R.uV
 key:=R.key.of λa o h _=>K.at_ a o h (by simp)
 hw:=hw
end
noncomputable def stale(q:P4):Option KS->Option KS
 |none=>none
 |some k=>if k.line≠q.line∨(1024:Int)<(q.idx:Int)-k.idx then none else some k
noncomputable abbrev tM(p:Nat)(s:PS):List Nat:=[p,s.tA,s.cg]
def PM{H:MH}{p:Nat}{x y:MO}(hw:HW H)(e:H.at_ p=some x):(H.new y).at_ p=some x:=(aL<|aae<|hw _ _ e).trans e
def Nd{q:P4}{k:KS}(h:k.line≠q.line∨(1024:Int)<(q.idx:Int)-k.idx):stale q (some k)=none:=aam h
def Nf{q:P4}{k:KS}(h:¬(k.line≠q.line∨(1024:Int)<(q.idx:Int)-k.idx)):stale q (some k)=some k:=aal h
section
variable{n p:Nat}{H:MH}{s:PS}{aa:List MV}{k:Option KS}{Q:MV->Fs->MH->Prop}{X:MV->MH->Prop}
def zD(R:PR H p s aa k)(hr:∀ks,k=some ks->ks.req=false)(hq:∀H',PR H' p s aa (stale s.pos k)->jx (tM p s) H H'->Q .none (aM s) H'):SC (n+2) 834 p 1521 [] [] [] H Q X:=by
 refine gU (lv:=1) bA rfl R.obj.obj ?_
 have R1:∀o,PR ((H.new o).del H.n) p s aa k:=λo=>R.other (.uX R.hw) R.hw.uX
 have K1:∀o,jx (tM p s) H ((H.new o).del H.n):=λo=>.uX R.hw
 cases k with
 |none=>exact ZJ R.key rfl ⟨PM R.hw R.obj.obj,ZI af<|FW.nil ⟨(R1 _).obj.obj,rfl,hq _ (R1 _)<|K1 _⟩⟩
 |some ks=>
  refine ZJ R.key.1 rfl ⟨PM R.hw R.obj.obj,ZI af ?_⟩
  have R1:=R1<|.list [.int 0]
  have K1:=K1<|.list [.int 0]
  show FW _ _ _ _ ((H.new<|.list [.int 0]).del H.n) _
  generalize(H.new<|.list [.int 0]).del H.n=H1 at R1 K1⊢
  have fin:=λhn=>hq (H1.put s.cg<|.cA []) ((Nd (q:=s.pos) (k:=ks) hn).symm▸R1.putK (k':=none) au)<|K1.trans<|.put<|by simp
  have keep:=λhn=>hq H1 ((Nf (q:=s.pos) (k:=ks) hn).symm▸R1) K1
  have o2:∀x,(H1.put s.cg x).at_ p=_:=λx=>putAt (Ne.symm R1.wV) R1.obj.obj
  refine FW.cons (fs:=aM s) (λ_=>⟨R1.obj.obj,rfl⟩)<|ZK R1.key.1 rfl<|aO R1.key.2 rfl ?_
  by_cases b1:ks.line=s.pos.line
  ·refine xF' b1<|aO R1.key.2 rfl ?_
   by_cases b2:(1024:Int)<(s.pos.idx:Int)-ks.idx
   ·exact dT b2<|aO R1.key.2 rfl<|cF (hr ks rfl)<|Ys R1.key.1 rfl ⟨o2 _,FW.nil ⟨o2 _,rfl,fin<|.inr b2⟩⟩
   ·exact dF b2 (FW.nil ⟨R1.obj.obj,rfl,keep λh=>h.elim (· b1) b2⟩)
  ·exact Z4 b1<|aO R1.key.2 rfl<|cF (hr ks rfl)<|Ys R1.key.1 rfl ⟨o2 _,FW.nil ⟨o2 _,rfl,fin<|.inl b1⟩⟩
def wW(R:PR H p s aa k)(hr:∀ks,k=some ks->ks.req=false)(hq:∀H',PR H' p s aa none->jx (tM p s) H H'->Q .none (aM s) H'):SC (n+2) 848 p 1521 [] [] [] H Q X:=by
 refine gU (lv:=1) bB rfl R.obj.obj ?_
 cases k with
 |none=>exact Vy R.key<|hq _ R .refl
 |some ks=>exact Vy R.key.1<|ZK R.key.1 rfl<|aO R.key.2 rfl<|cF (hr ks rfl)<|Ys R.key.1 rfl ⟨putAt (Ne.symm R.wV) R.obj.obj,hq _ (R.putK au)<|.put<|by simp⟩
end
noncomputable def PN:Option KS->MV
 |none=>.none
 |some k=>.int k.tn
def YG{H:MH}{j:Nat}{x y:MO}(h:H.at_ j=some y):(H.put j x).put j y=H:=fP.trans<|oJ h
section
variable{n p:Nat}{H:MH}{s:PS}{aa:List MV}{k:Option KS}{Q:MV->Fs->MH->Prop}{X:MV->MH->Prop}
def rX(R:PR H p s aa k)(hq:Q (PN k) (aM s) H):SC (n+2) 827 p 1521 [] [] [] H Q X:=by
 refine gU (lv:=1) bR rfl R.obj.obj ?_
 have fin:∀x y,H.at_ s.cg=some y->((H.put s.cg x).put s.cg y).at_ p=some (.inst 1521<|aM s)/\Q (PN k) (aM s) ((H.put s.cg x).put s.cg y):=λx y h=>by rw[YG h];exact⟨R.obj.obj,hq⟩
 cases k with
 |none=>
  have f:=fin (.pG []) _ R.key
  have hk:H.at_ s.cg=some (.cA []):=R.key
  exact VW hk<|FW.nil ⟨au,f.1,rfl,f.2⟩
 |some ks=>
  have f:=fin (.pG [(0,.ref ks.a)]) _ R.key.1
  have hne:ks.a≠s.cg:=λe=>by have ho:=R.key.2;rw[e,R.key.1]at ho;cases ho
  refine VW R.key.1 ?_
  refine FW.cons (fs:=aM s) (λ_=>⟨putAt (Ne.symm R.wV) R.obj.obj,rfl⟩)<|itP au rfl ?_
  exact aO (putAt hne R.key.2) rfl<|FW.nil ⟨au,f.1,rfl,f.2⟩
def E0{c:Int}(R:PR H p s aa k)(hi:s.indent<=c)(hq:Q .none (aM s) H):SC (n+2) 855 p 1521 [.int c] [] [] H Q X:=
 gU (lv:=1) eH rfl R.obj.obj (LW.turn (fs:=aM s) (λ_=>⟨R.obj.obj,rfl⟩)<|dF (Int.not_lt.mpr hi) ⟨R.obj.obj,rfl,hq⟩)
def mE(R:PR H p s aa k)(hr:∀ks,k=some ks->ks.req=false)(h1:s.done=true->Q (.bool false) (aM s) H)(h2:s.done=false->aa=[]->Q (.bool true) (aM s) H)
  (h3:s.done=false->aa≠[]->∀H',PR H' p s aa (stale s.pos k)->jx (tM p s) H H'->Q (jw (match stale s.pos k with|some ks=>decide (ks.tn=s.taken)|none=>false)) (aM s) H'):SC (n+3) 813 p 1521 [] [] [] H Q X:=by
 refine gU (lv:=2) dz rfl R.obj.obj ?_
 cases hd:s.done with
 |true=>exact cT hd<|h1 hd
 |false=>
  refine cF hd<|uL R.tok ?_
  cases aa with
  |nil=>exact h2 hd rfl
  |cons t ts=>
   refine zD R hr λH1 R1 K1=>rX R1 ?_
   have h3:=h3 hd nofun H1 R1 K1
   cases hs:stale s.pos k with
   |none=>rw[hs]at h3;exact h3
   |some ks=>
    rw[hs]at h3
    have K:∀b,decide (ks.tn=s.taken)=b->Q (jw b) (aM s) H1:=λb e=>e▸h3
    by_cases b:ks.tn=s.taken
    ·exact xT b<|K true<|aag b
    ·exact xF b<|K false<|aad b
end
section
variable{n:Nat}{H:MH}{a1 a2 a3 a4 a5 a6 b0 b1 b2:MV}{Q:QV}{X:MV->MH->Prop}
def IW(hq:Q .none<|H.new<|.inst 763 [(44,a1),(45,a2),(9,a3),(10,a4),(11,a5),(46,a6)]):CW true (n+2) 760 [.ref H.n,a1,a2,a3,a4,a5,a6] [] [] (H.new<|.inst 763 []) Q X:=SC.sQ<|gU (lv:=1) iw rfl af<|oH (o:=.inst 763 []) hq
def qS(hq:Q .none<|H.new<|.inst 179 [(31,a1),(32,a2),(8,b0)]):CW true (n+2) 176 [.ref H.n,a1,a2] [q "encoding"] [b0] (H.new<|.inst 179 []) Q X:=SC.sQ<|wR (lv:=1) bN rfl gR af<|oH (o:=.inst 179 []) hq
def IX(hq:Q .none<|H.new<|.inst 191 [(31,a1),(32,a2)]):CW true (n+2) 111 [.ref H.n,a1,a2] [] [] (H.new<|.inst 191 []) Q X:=SC.sQ<|gU (lv:=1) gK rfl af<|oH (o:=.inst 191 []) hq
def IY(hq:Q .none<|H.new<|.inst 147 [(31,a1),(32,a2)]):CW true (n+2) 111 [.ref H.n,a1,a2] [] [] (H.new<|.inst 147 []) Q X:=SC.sQ<|gU (lv:=1) gK rfl af<|oH (o:=.inst 147 []) hq
def IZ(hq:Q .none<|H.new<|.inst 159 [(31,a1),(32,a2)]):CW true (n+2) 111 [.ref H.n,a1,a2] [] [] (H.new<|.inst 159 []) Q X:=SC.sQ<|gU (lv:=1) gK rfl af<|oH (o:=.inst 159 []) hq
def I8(hq:Q .none<|H.new<|.inst 342 [(33,a1),(31,a2),(32,a3)]):CW true (n+2) 339 [.ref H.n,a1,a2,a3] [] [] (H.new<|.inst 342 []) Q X:=SC.sQ<|gU (lv:=1) gY rfl af<|oH (o:=.inst 342 []) hq
def I9(hq:Q .none<|H.new<|.inst 135 [(0,a1),(33,a2),(31,a3),(32,a4)]):CW true (n+2) 132 [.ref H.n,a1,a2,a3,a4] [] [] (H.new<|.inst 135 []) Q X:=SC.sQ<|gU (lv:=1) fH rfl af<|oH (o:=.inst 135 []) hq
def Ja(hq:Q .none<|H.new<|.inst 400 [(33,a1),(34,a2),(31,a3),(32,a4),(35,.none)]):CW true (n+2) 397 [.ref H.n,a1,a2,a3,a4] [] [] (H.new<|.inst 400 []) Q X:=SC.sQ<|wR (lv:=1) bq rfl m9 af<|oH (o:=.inst 400 []) hq
def Jb(hq:Q .none<|H.new<|.inst 400 [(33,a1),(34,a2),(31,a3),(32,a4),(35,a5)]):CW true (n+2) 397 [.ref H.n,a1,a2,a3,a4,a5] [] [] (H.new<|.inst 400 []) Q X:=SC.sQ<|wR (lv:=1) bq rfl nc af<|oH (o:=.inst 400 []) hq
def qT(hq:Q .none<|H.new<|.inst 501 [(31,a1),(32,a2),(8,b0)]):CW true (n+2) 498 [.ref H.n,a1,a2] [q "encoding"] [b0] (H.new<|.inst 501 []) Q X:=SC.sQ<|wR (lv:=1) bP rfl gS af<|oH (o:=.inst 501 []) hq
def qU(hq:Q .none<|H.new<|.inst 533 [(31,a1),(32,a2),(37,b0),(38,.none),(39,.none)]):CW true (n+2) 530 [.ref H.n,a1,a2] [q "explicit"] [b0] (H.new<|.inst 533 []) Q X:=SC.sQ<|wR (lv:=1) aI rfl gz af<|oH (o:=.inst 533 []) hq
def i8(hq:Q .none<|H.new<|.inst 533 [(31,a1),(32,a2),(37,b0),(38,b1),(39,b2)]):CW true (n+2) 530 [.ref H.n,a1,a2] [q "explicit",q "version",q "tags"] [b0,b1,b2] (H.new<|.inst 533 []) Q X:=SC.sQ<|wR (lv:=1) aI rfl dQ af<|oH (o:=.inst 533 []) hq
def Jc(hq:Q .none<|H.new<|.inst 513 [(31,a1),(32,a2)]):CW true (n+2) 417 [.ref H.n,a1,a2] [] [] (H.new<|.inst 513 []) Q X:=SC.sQ<|wR (lv:=1) gM rfl tG af<|oH (o:=.inst 513 []) hq
def jV(hq:Q .none<|H.new<|.inst 553 [(31,a1),(32,a2),(37,b0)]):CW true (n+2) 550 [.ref H.n,a1,a2] [q "explicit"] [b0] (H.new<|.inst 553 []) Q X:=SC.sQ<|wR (lv:=1) bQ rfl gT af<|oH (o:=.inst 553 []) hq
def Jd(hq:Q .none<|H.new<|.inst 565 [(36,a1),(31,a2),(32,a3)]):CW true (n+2) 446 [.ref H.n,a1,a2,a3] [] [] (H.new<|.inst 565 []) Q X:=SC.sQ<|wR (lv:=1) dZ rfl pH af<|oH (o:=.inst 565 []) hq
def Je(hq:Q .none<|H.new<|.inst 585 [(36,a1),(40,a2),(41,a3),(33,a4),(31,a5),(32,a6),(35,.none)]):CW true (n+2) 582 [.ref H.n,a1,a2,a3,a4,a5,a6] [] [] (H.new<|.inst 585 []) Q X:=SC.sQ<|wR (lv:=1) bu rfl ng af<|oH (o:=.inst 585 []) hq
def oR(hq:Q .none<|H.new<|.inst 585 [(36,a1),(40,a2),(41,a3),(33,a4),(31,a5),(32,a6),(35,b0)]):CW true (n+2) 582 [.ref H.n,a1,a2,a3,a4,a5,a6] [q "style"] [b0] (H.new<|.inst 585 []) Q X:=SC.sQ<|wR (lv:=1) bu rfl ju af<|oH (o:=.inst 585 []) hq
end
set_option hygiene false in
structure Sc(p:Nat)(H:MH)(s:PS)(aa:List MV)(k:Option KS):Prop where
 R:PR H p s aa k
 ind:s.indent=-1
 req:∀ks,k=some ks->ks.req=false
def Sc.obj{p:Nat}{H:MH}{s:PS}{aa:List MV}{k:Option KS}(h:Sc p H s aa k):H.at_ p=some (.inst 1521<|aM s):=h.R.obj.obj
structure yf(s s':PS):Prop where
 buf:s'.buf=s.buf
 tA:s'.tA=s.tA
 MI:s'.MI=s.MI
 cur:s'.cur=s.cur
 oB:s'.oB=s.oB
 ly:s'.ly=s.ly
 oE:s'.oE=s.oE
 tK:s'.tK=s.tK
 state:s'.state=s.state
def yf.refl{s:PS}:yf s s:=⟨rfl,rfl,rfl,rfl,rfl,rfl,rfl,rfl,rfl⟩
def yf.trans{s s' s'':PS}(a:yf s s')(b:yf s' s''):yf s s'':=⟨b.1.trans a.1,b.2.trans a.2,b.3.trans a.3,b.4.trans a.4,b.5.trans a.5,b.6.trans a.6,b.7.trans a.7,b.8.trans a.8,b.9.trans a.9⟩
structure Fr(p:Nat)(s:PS)(H:MH)(s':PS)(H':MH):Prop where
 kp:jx (tM p s) H H'
 same:yf s s'
 kA:s'.cg=s.cg∨H.n<=s'.cg
def Fr.refl{p:Nat}{s:PS}{H:MH}:Fr p s H s H:=⟨.refl,.refl,.inl rfl⟩
def jx.fresh{own own':List Nat}{H H' zy:MH}(hw:HW H)(a:jx own H H')(b:jx own' H' zy)(h:∀x∈own',x∈own∨H.n<=x):jx own H zy:=⟨av a.n b.n,λx o e q=>b.at_ x o (a.at_ x o e q) λm=>by
 rcases h x m with h|h
 ·exact q h
 ·exact Nat.lt_irrefl _<|aas (hw _ _ e) h⟩
def Fr.trans{p:Nat}{s s' s'':PS}{H H' zy:MH}(hw:HW H)(a:Fr p s H s' H')(b:Fr p s' H' s'' zy):Fr p s H s'' zy:=⟨a.kp.fresh hw b.kp (λx m=>by
  simp only[tM,aab,List.not_mem_nil,or_false]at m⊢
  rcases m with m|m|m
  ·exact .inl<|.inl m
  ·exact .inl<|.inr<|.inl<|m.trans a.same.tA
  ·rcases a.kA with h|h
   ·exact .inl<|.inr<|.inr<|m.trans h
   ·exact .inr<|by rw[m];exact h),a.same.trans b.same,by
  rcases b.kA with h|h
  ·rw[h];exact a.kA
  ·exact .inr<|av a.kp.n h⟩
def Fr.inst{p:Nat}{s s':PS}{H H':MH}{aa:List MV}{k:Option KS}(R:PR H p s aa k)(f:Fr p s H s' H'){a c:Nat}{fs:List (Nat×MV)}(h:H.at_ a=some (.inst c fs))(hc:c≠1521):H'.at_ a=some (.inst c fs):=by
 refine f.kp.at_ a _ h λm=>?_
 simp only[tM,aab,List.not_mem_nil,or_false]at m
 rcases m with m|m|m
 ·subst m;rw[R.obj.obj]at h;cases h;exact hc rfl
 ·subst m;rw[R.tok]at h;cases h
 ·obtain⟨es,e⟩:=R.jU;subst m;rw[e]at h;cases h
def gb(H:MH)(v:MV)(b:List Nat)(q:P4):Prop:=∃a,v=.ref a/\H.at_ a=some (.inst 53<|kJ b q)
set_option genCtorIdx false in
inductive DV where
 |other (n:List Nat)
 |mG (a b:Nat)
 |tag (h p:List Nat)
noncomputable def DV.name:DV->List Nat
 |.other n=>n
 |.mG _ _=>[89,65,77,76]
 |.tag _ _=>[84,65,71]
noncomputable def DV.val:DV->MV
 |.other _=>.none
 |.mG a b=>.tup [.int a,.int b]
 |.tag h p=>.tup [.str h,.str p]
set_option genCtorIdx false in
inductive TK where
 |di
 |send
 |dir (v:DV)
 |dH
 |jG
 |alias (v:List Nat)
 |scalar (v:List Nat) (st:Option<|List Nat)
structure Tok where
 k:TK
 a:P4
 z:P4
noncomputable def TL:Option (List Nat)->MV
 |none=>.none
 |some t=>.str t
def uY:TK->MV->MV->MO
 |.di,m1,m2=>.inst 179 [(31,m1),(32,m2),(8,.none)]
 |.send,m1,m2=>.inst 191 [(31,m1),(32,m2)]
 |.dir d,m1,m2=>.inst 135 [(0,.str d.name),(33,d.val),(31,m1),(32,m2)]
 |.dH,m1,m2=>.inst 147 [(31,m1),(32,m2)]
 |.jG,m1,m2=>.inst 159 [(31,m1),(32,m2)]
 |.alias v,m1,m2=>.inst 342 [(33,.str v),(31,m1),(32,m2)]
 |.scalar v st,m1,m2=>.inst 400 [(33,.str v),(34,.bool st.isNone),(31,m1),(32,m2),(35,TL st)]
inductive cj(H:MH)(b:List Nat):MV->Tok->Prop
 |mk {t:Tok} {a:Nat} {m1 m2:MV}:gb H m1 b t.a->gb H m2 b t.z->H.at_ a=some (uY t.k m1 m2)->cj H b (.ref a) t
section
variable{p:Nat}{H:MH}{s:PS}{aa:List MV}{k:Option KS}
def Sc.new{o:MO}(h:Sc p H s aa k):Sc p (H.new o) s aa k:=⟨h.R.other (.new h.R.hw) h.R.hw.new,h.ind,h.req⟩
def Fr.new{o:MO}(h:Sc p H s aa k):Fr p s H s (H.new o):=⟨.new h.R.hw,.refl,.inl rfl⟩
def Sc.Bd{ah:List MV}(h:Sc p H s aa k)(l:ah.length<1000):Sc p (H.put s.tA<|.list ah) s ah k:=⟨h.R.Bd l,h.ind,h.req⟩
def Fr.Bd{o:MO}:Fr p s H s (H.put s.tA o):=⟨.put (by simp),.refl,.inl rfl⟩
def Sc.nh{s':PS}(h:Sc p H s aa k)(m:yf s s')(e:s'.cg=s.cg)(l:s'.pos.ptr<s.buf.length)(pi:s'.pos.ptr=s'.pos.idx)(i:s'.indent=-1):Sc p (H.put p<|.inst 1521<|aM s') s' aa k:=⟨h.R.nh m.buf m.tA e l pi,i,h.req⟩
def Fr.nh{s':PS}{o:MO}(m:yf s s')(e:s'.cg=s.cg):Fr p s H s' (H.put p o):=⟨.put (by simp),m,.inl e⟩
def Sc.keep{H':MH}{ah:List MV}{k':Option KS}(h:Sc p H s aa k)(R:PR H' p s ah k')(r:∀ks,k'=some ks->ks.req=false):Sc p H' s ah k':=⟨R,h.ind,r⟩
def rY{q:P4}(r:∀ks,k=some ks->ks.req=false):∀ks,stale q k=some ks->ks.req=false:=λks h=>by
 cases k with
 |none=>cases h
 |some k=>
  unfold stale at h
  simp only at h
  split at h
  ·cases h
  ·cases h;exact r _ rfl
end
theorem qV(b:List Nat):∀(n:Nat) (q:P4),(fwd b n q).idx=q.idx+n
 |0,q=>rfl
 |n+1,q=>by
  show(fwd b n<|g9 q _ _).idx=_
  rw[qV b n]
  have:∀c d,(g9 q c d).idx=q.idx+1:=λc d=>by unfold g9;split<;>(try split)<;>rfl
  rw[this];omega
def mH{n0:Nat}{H:MH}{p:Nat}{s:PS}{aa:List MV}{k:Option KS}{c:Int}{Q:MV->Fs->MH->Prop}{X:MV->MH->Prop}(h:Sc p H s aa k)(hi:-1<=c)(hq:Q .none (aM s) H):SC (n0+2) 855 p 1521 [.int c] [] [] H Q X:=E0 h.R (by rw[h.ind];exact hi) hq
def PR.pn{H:MH}{p:Nat}{s:PS}{aa:List MV}{k:Option KS}(R:PR H p s aa k):p≠H.n:=aae<|R.hw _ _ R.obj.obj
def Ng{n p:Nat}{H:MH}{s:PS}{aa:List MV}{k:Option KS}{Q:MV->Fs->MH->Prop}{X:MV->MH->Prop}(h:Sc p H s aa k)(hq:∀H' k',Sc p H' s aa k'->Fr p s H s H'->Q .none (aM s) H'):SC (n+4) 841 p 1521 [] [] [] H Q X:=by
 have e:(s.indent==(s.pos.col:Int))=false:=by
  rw[h.ind]
  exact beq_eq_false_iff_ne.mpr nofun
 refine gU (lv:=3) bS rfl h.obj ?_
 cases ha:s.ask with
 |false=>exact cF ha<|hq H k h .refl
 |true=>
  refine cT ha<|wW h.R h.req λH1 R1 K1=>VY R1.tok<|sR R1.obj R1.pn ?_
  have h1:Sc p H1 s aa none:=h.keep R1<|by intro _ e;cases e
  have f1:Fr p s H s H1:=⟨K1,.refl,.inl rfl⟩
  have h2:=h1.new (o:=.inst 53<|kJ s.buf s.pos)
  have f2:=f1.trans h.R.hw<|.new h1 (o:=.inst 53<|kJ s.buf s.pos)
  have K:∀H2 r,r=false->Sc p H2 s aa none->Fr p s H s H2->_:=λH2 r e h2 f2=>by
   have h3:=h2.new (o:=.inst 763<|zB ⟨H2.n,s.taken+aa.length,r,s.pos.idx,s.pos.line,s.pos.col,.ref H1.n⟩)
   have f3:=f2.trans h.R.hw<|.new h2 (o:=.inst 763<|zB ⟨H2.n,s.taken+aa.length,r,s.pos.idx,s.pos.line,s.pos.col,.ref H1.n⟩)
   have hk:(H2.new<|.inst 763<|zB ⟨H2.n,s.taken+aa.length,r,s.pos.idx,s.pos.line,s.pos.col,.ref H1.n⟩).at_ s.cg=some (.cA []):=h3.R.key
   have hn:(H2.new<|.inst 763<|zB ⟨H2.n,s.taken+aa.length,r,s.pos.idx,s.pos.line,s.pos.col,.ref H1.n⟩).at_ H2.n=_:=af
   have n1:H2.n≠s.cg:=λe=>by have q:=hk;rw[<-e]at q;have:=hn.symm.trans q;cases this
   exact And.intro h3.obj (And.intro hk (hq _ (some ⟨H2.n,s.taken+aa.length,r,s.pos.idx,s.pos.line,s.pos.col,.ref H1.n⟩) ⟨h3.R.putK ⟨au,(ao n1).trans hn⟩,h3.ind,λks q=>by cases q;exact e⟩<|f3.trans h.R.hw ⟨.put (by simp),.refl,.inl rfl⟩))
  have K:=K _ _ e h2 f2
  exact IW ⟨rfl,K.1,seD K.2.1 ⟨by decide,putAt (Ne.symm h.R.wV) K.1,K.2.2⟩⟩
section
variable{p:Nat}{H:MH}{s:PS}{aa:List MV}{k:Option KS}
def gb.new{b:List Nat}{q:P4}:gb (H.new<|.inst 53<|kJ b q) (.ref H.n) b q:=⟨_,rfl,af⟩
def gb.up{v:MV}{b:List Nat}{q:P4}{o:MO}(h:gb H v b q)(hw:HW H):gb (H.new o) v b q:=by
 obtain⟨a,rfl,e⟩:=h
 exact⟨a,rfl,by rw[aL<|aae<|hw _ _ e];exact e⟩
def cj.new{b:List Nat}{t:Tok}{m1 m2:MV}(hw:HW H)(h1:gb H m1 b t.a)(h2:gb H m2 b t.z):cj (H.new<|uY t.k m1 m2) b (.ref H.n) t:=⟨h1.up hw,h2.up hw,af⟩
end
structure SF(p:Nat)(s:PS)(H:MH)(s':PS)(H':MH)(aa:List MV)(k:Option KS):Prop where
 sc:Sc p H' s' aa k
 fr:Fr p s H s' H'
 hw:HW H
section
variable{p:Nat}{H H' zy:MH}{s s' s'':PS}{aa ah:List MV}{k k':Option KS}
def SF.refl(h:Sc p H s aa k):SF p s H s H aa k:=⟨h,.refl,h.R.hw⟩
def SF.then(a:SF p s H s' H' aa k)(b:SF p s' H' s'' zy ah k'):SF p s H s'' zy ah k':=⟨b.sc,a.fr.trans a.hw b.fr,a.hw⟩
def SF.new(a:SF p s H s' H' aa k)(o:MO):SF p s H s' (H'.new o) aa k:=a.then ⟨a.sc.new,.new a.sc,a.sc.R.hw⟩
def SF.ask(a:SF p s H s' H' aa k)(b:Bool):SF p s H (s'.wa b) (H'.put p<|.inst 1521<|aM<|s'.wa b) aa k:=a.then ⟨a.sc.nh ⟨rfl,rfl,rfl,rfl,rfl,rfl,rfl,rfl,rfl⟩ rfl a.sc.R.lt a.sc.R.pi a.sc.ind,.nh ⟨rfl,rfl,rfl,rfl,rfl,rfl,rfl,rfl,rfl⟩ rfl,a.sc.R.hw⟩
def SF.end_(a:SF p s H s' H' aa k)(b:Bool):SF p s H (s'.wd b) (H'.put p<|.inst 1521<|aM<|s'.wd b) aa k:=a.then ⟨a.sc.nh ⟨rfl,rfl,rfl,rfl,rfl,rfl,rfl,rfl,rfl⟩ rfl a.sc.R.lt a.sc.R.pi a.sc.ind,.nh ⟨rfl,rfl,rfl,rfl,rfl,rfl,rfl,rfl,rfl⟩ rfl,a.sc.R.hw⟩
def SF.fwd(a:SF p s H s' H' aa k)(n:Nat)(l:s'.pos.ptr+n<s'.buf.length):SF p s H (s'.wp<|fwd s'.buf n s'.pos) (H'.put p<|.inst 1521<|aM<|s'.wp<|fwd s'.buf n s'.pos) aa k:=a.then ⟨a.sc.nh ⟨rfl,rfl,rfl,rfl,rfl,rfl,rfl,rfl,rfl⟩ rfl (show(Mine.fwd s'.buf n s'.pos).ptr<_ from(ak ..).symm▸l) (show(Mine.fwd s'.buf n s'.pos).ptr=(Mine.fwd s'.buf n s'.pos).idx from by rw[ak,qV,a.sc.R.pi]) a.sc.ind,.nh ⟨rfl,rfl,rfl,rfl,rfl,rfl,rfl,rfl,rfl⟩ rfl,a.sc.R.hw⟩
def SF.app(a:SF p s H s' H' aa k)(v:MV)(l:aa.length+1<1000):SF p s H s' (H'.put s'.tA<|.list<|aa++[v]) (aa++[v]) k:=a.then ⟨a.sc.Bd (by simpa using l),.Bd,a.sc.R.hw⟩
end
def yg{n0:Nat}{H H0:MH}{p:Nat}{s s0:PS}{aa:List MV}{k:Option KS}{Q:MV->Fs->MH->Prop}{X:MV->MH->Prop}(a:SF p s0 H0 s H aa k)
  (hq:∀H',SF p s0 H0 s H' aa none->Q .none (aM s) H'):SC (n0+2) 848 p 1521 [] [] [] H Q X:=wW a.sc.R a.sc.req λH1 R1 K1=>hq H1<|a.then ⟨a.sc.keep R1 (by intro _ e;cases e),⟨K1,.refl,.inl rfl⟩,a.sc.R.hw⟩
def E3{n0:Nat}{H H0:MH}{p:Nat}{s s0:PS}{aa:List MV}{k:Option KS}{Q:MV->Fs->MH->Prop}{X:MV->MH->Prop}(a:SF p s0 H0 s H aa k)
  (hq:∀H',SF p s0 H0 s H' aa (stale s.pos k)->Q .none (aM s) H'):SC (n0+2) 834 p 1521 [] [] [] H Q X:=zD a.sc.R a.sc.req λH1 R1 K1=>hq H1<|a.then ⟨a.sc.keep R1<|rY a.sc.req,⟨K1,.refl,.inl rfl⟩,a.sc.R.hw⟩
def uZ{n0:Nat}{H H0:MH}{p:Nat}{s s0:PS}{aa:List MV}{k:Option KS}{Q:MV->Fs->MH->Prop}{X:MV->MH->Prop}(a:SF p s0 H0 s H aa k)
  (hq:∀H' k',SF p s0 H0 s H' aa k'->Q .none (aM s) H'):SC (n0+4) 841 p 1521 [] [] [] H Q X:=Ng a.sc λH1 k1 h1 f1=>hq H1 k1<|a.then ⟨h1,f1,a.sc.R.hw⟩
def Up(H H':MH):Prop:=∀a c fs,H.at_ a=some (.inst c fs)->c≠1521->H'.at_ a=some (.inst c fs)
def Up.refl{H:MH}:Up H H:=λ_ _ _ h _=>h
def Up.trans{H H' zy:MH}(a:Up H H')(b:Up H' zy):Up H zy:=λx c fs h q=>b x c fs (a x c fs h q) q
def Up.mark{H H':MH}(u:Up H H'){v:MV}{b:List Nat}{q:P4}(h:gb H v b q):gb H' v b q:=by
 obtain⟨a,rfl,e⟩:=h
 exact⟨a,rfl,u _ _ _ e<|by decide⟩
def Up.tok{H H':MH}(u:Up H H'){b:List Nat}{v:MV}{t:Tok}(h:cj H b v t):cj H' b v t:=by
 obtain @⟨t,a,m1,m2,h1,h2,e⟩:=h
 refine⟨u.mark h1,u.mark h2,?_⟩
 obtain⟨kk,ta,tz⟩:=t
 cases kk<;>exact u _ _ _ e<|by decide
def Fr.up{p:Nat}{s s':PS}{H H':MH}{aa:List MV}{k:Option KS}(h:Sc p H s aa k)(f:Fr p s H s' H'):Up H H':=λ_ _ _ e q=>f.inst h.R e q
def SF.up{p:Nat}{s s':PS}{H H':MH}{aa ah:List MV}{k k':Option KS}(h:Sc p H s aa k)(a:SF p s H s' H' ah k'):Up H H':=a.fr.up h
def fC{n0:Nat}{H H0:MH}{p:Nat}{s s0:PS}{aa:List MV}{k:Option KS}{Q:MV->Fs->MH->Prop}{X:MV->MH->Prop}(a:SF p s0 H0 s H aa k)
  (hq:∀H' v,SF p s0 H0 s H' aa k->gb H' v s.buf s.pos->SF p s H s H' aa k->Q v (aM s) H'):SC (n0+3) 713 p 1521 [] [] [] H Q X:=
 sR a.sc.R.obj a.sc.R.pn (hq _ _ (a.new _) .new<|(SF.refl a.sc).new _)
def jb{n0:Nat}{H H0:MH}{p n:Nat}{s s0:PS}{aa:List MV}{k:Option KS}{Q:MV->Fs->MH->Prop}{X:MV->MH->Prop}(a:SF p s0 H0 s H aa k)(l:s.pos.ptr+n<s.buf.length)
  (hq:∀s' H',SF p s0 H0 s' H' aa k->s'.pos=fwd s.buf n s.pos->s'.done=s.done->s'.ask=s.ask->SF p s H s' H' aa k->Q .none (aM s') H'):SC (n0+3) 706 p 1521 [.int n] [] [] H Q X:=
 uT a.sc.R.obj l (hq _ _ (a.fwd n l) rfl rfl rfl<|(SF.refl a.sc).fwd n l)
def lE{n0:Nat}{H H0:MH}{p:Nat}{s s0:PS}{aa:List MV}{k:Option KS}{Q:MV->Fs->MH->Prop}{X:MV->MH->Prop}(a:SF p s0 H0 s H aa k)(l:s.pos.ptr+1<s.buf.length)
  (hq:∀s' H',SF p s0 H0 s' H' aa k->s'.pos=fwd s.buf 1 s.pos->s'.done=s.done->s'.ask=s.ask->SF p s H s' H' aa k->Q .none (aM s') H'):SC (n0+3) 706 p 1521 [] [] [] H Q X:=
 jT a.sc.R.obj l (hq _ _ (a.fwd 1 l) rfl rfl rfl<|(SF.refl a.sc).fwd 1 l)
def SF.keys{p:Nat}{H H':MH}{s s':PS}{aa:List MV}{k:Option KS}(a:SF p s H s' H' aa k):SF p s H (s'.wK H'.n) ((H'.new<|.cA []).put p<|.inst 1521<|aM<|s'.wK H'.n) aa none:=by
 have R:=a.sc.R
 have b:SF p s' H' (s'.wK H'.n) ((H'.new<|.cA []).put p<|.inst 1521<|aM<|s'.wK H'.n) aa none:=by
  have np:p≠H'.n:=aae<|R.hw _ _ R.obj.obj
  have nt:s'.tA≠H'.n:=aae<|R.hw _ _ R.tok
  refine⟨⟨⟨.put R.obj.len,R.z,R.lt,R.pi,?_,R.uV,?_,?_⟩,a.sc.ind,by intro _ e;cases e⟩,⟨?_,⟨rfl,rfl,rfl,rfl,rfl,rfl,rfl,rfl,rfl⟩,.inr<|aaj _⟩,R.hw⟩
  ·show((H'.new _).put p _).at_ s'.tA=_
   rw[ao R.IV,aL nt];exact R.tok
  ·show((H'.new _).put p _).at_ H'.n=_
   rw[ao<|Ne.symm np];exact af
  ·exact R.hw.new.put (i:=p)<|by rw[aL np];exact R.obj.obj
  ·exact(jx.new R.hw).trans (.put<|by simp)
 exact a.then b
def rZ{H:MH}{i:Nat}{xs:List MV}(o:H.at_ i=some (.list xs)):sE (.ref i) H .list:=SA o trivial
section
variable{n p:Nat}{H H':MH}{s s':PS}{aa:List MV}{k:Option KS}{Q:MV->Fs->MH->Prop}{X:MV->MH->Prop}
def SF.W4{f:Fm}{lv:Nat}{σ:Sg}{Q:VQ}{v:MV}(a:SF p s H s' H' aa k)(tl:aa.length<900)(h:Q .none<|σ.bk (aM s')<|H'.put s'.tA<|.list<|aa++[v]):Ad .append (.ref s'.tA) [v] H' (Yv .append (zP f lv p) σ Q):=
 A7 a.sc.R.tok ⟨aar tl (by decide),(a.app v<|aas (Nat.succ_lt_succ tl)<|by decide).sc.obj,h⟩
def SF.Nh{f:Fm}{lv:Nat}{σ:Sg}{Q:VQ}{v:MV}(a:SF p s H s' H' aa k)(tl:aa.length<900)(h:Q .none<|σ.bk (aM s')<|H'.put s'.tA<|.list<|aa++[v]):Ad .append (.ref s.tA) [v] H' (Yv .append (zP f lv p) σ Q):=a.fr.same.tA▸a.W4 tl h
def SF.ap(a:SF p s H s' H' aa k)(tl:aa.length<900)(v:MV):SF p s H s' (H'.put s'.tA<|.list<|aa++[v]) (aa++[v]) k:=a.app v<|aas (Nat.succ_lt_succ tl)<|by decide
def qW{c:Nat}{kd:TK}(hc:(c=147/\kd=.dH)∨(c=159/\kd=.jG))(h:Sc p H s aa k)(l:s.pos.ptr+3<s.buf.length)(tl:aa.length<900)
  (hq:∀H' s' v k',SF p s H s' H' (aa++[v]) k'->s'.pos=fwd s.buf 3 s.pos->s'.done=s.done->cj H' s.buf v ⟨kd,s.pos,fwd s.buf 3 s.pos⟩->Q .none (aM s') H'):SC (n+4) 904 p 1521 [.cls c] [] [] H Q X:=by
 refine gU (lv:=3) bT rfl h.obj<|mH h (by decide)<|yg (.refl h) λH1 a1=>fC (a1.ask false) λH3 v3 a3 m3 u3=>jb a3 l λs4 H4 a4 p4 d4 _ u4=>fC a4 λH5 v5 a5 m5 u5=>⟨rZ a5.sc.R.tok,?_⟩
 have m3:=u5.up a4.sc|>.mark (u4.up a3.sc|>.mark m3)
 rw[p4,a4.fr.same.buf]at m5
 have fin:=λ(o:MO) (e:uY kd v3 v5=o)=>hq _ _ _ _ ((a5.new o).ap tl<|.ref H5.n) p4 d4<|(((SF.refl (a5.new o).sc).ap tl _).up (a5.new o).sc).tok<|e▸cj.new (t:=⟨kd,s.pos,fwd s.buf 3 s.pos⟩) a5.sc.R.hw m3 m5
 rcases hc with⟨rfl,rfl⟩|⟨rfl,rfl⟩
 ·exact IY ⟨rfl,(a5.new _).sc.obj,(a5.new _).W4 tl<|fin _ rfl⟩
 ·exact IZ ⟨rfl,(a5.new _).sc.obj,(a5.new _).W4 tl<|fin _ rfl⟩
def u0(h:Sc p H s aa k)(l:s.pos.ptr+3<s.buf.length)(tl:aa.length<900)
  (hq:∀H' s' v k',SF p s H s' H' (aa++[v]) k'->s'.pos=fwd s.buf 3 s.pos->s'.done=s.done->cj H' s.buf v ⟨.dH,s.pos,fwd s.buf 3 s.pos⟩->Q .none (aM s') H'):SC (n+5) 890 p 1521 [] [] [] H Q X:=
 gU (lv:=4) cC rfl h.obj (qW (.inl ⟨rfl,rfl⟩) h l tl hq)
def yh(h:Sc p H s aa k)(l:s.pos.ptr+3<s.buf.length)(tl:aa.length<900)
  (hq:∀H' s' v k',SF p s H s' H' (aa++[v]) k'->s'.pos=fwd s.buf 3 s.pos->s'.done=s.done->cj H' s.buf v ⟨.jG,s.pos,fwd s.buf 3 s.pos⟩->Q .none (aM s') H'):SC (n+5) 897 p 1521 [] [] [] H Q X:=
 gU (lv:=4) cR rfl h.obj (qW (.inr ⟨rfl,rfl⟩) h l tl hq)
def pK(h:Sc p H s aa k)(tl:aa.length<900)
  (hq:∀H' s' v k',SF p s H s' H' (aa++[v]) k'->s'.pos=s.pos->s'.done=true->cj H' s.buf v ⟨.send,s.pos,s.pos⟩->Q .none (aM s') H'):SC (n+5) 876 p 1521 [] [] [] H Q X:=by
 refine gU (lv:=4) dB rfl h.obj<|mH h (by decide)<|yg (.refl h) λH1 a1=>⟨((a1.ask false).new _).sc.obj,fC ((a1.ask false).keys) λH5 v5 a5 m5 u5=>⟨rZ a5.sc.R.tok,IX ⟨rfl,(a5.new _).sc.obj,(a5.new _).W4 tl ?_⟩⟩⟩
 exact hq _ _ _ _ (((a5.new _).ap tl _).end_ true) rfl rfl<|(((SF.refl ((a5.new _).ap tl _).sc).end_ true).up ((a5.new _).ap tl _).sc).tok<|(((SF.refl (a5.new _).sc).ap tl _).up (a5.new _).sc).tok<|cj.new (t:=⟨.send,s.pos,s.pos⟩) a5.sc.R.hw m5 m5
end
def kK{b:List Nat}{i c:Nat}{w r:List Nat}(h:b.drop i=w++c::r):b[i+w.length]?=some c:=by
 rw[<-List.getElem?_drop,h,List.getElem?_append_right<|aaj _,Nat.sub_self];rfl
def bV{b:List Nat}{i c:Nat}{r:List Nat}(h:b.drop i=c::r):b[i]?=some c:=kK (w:=[]) h
def wX{b:List Nat}{i c:Nat}{w r:List Nat}(h:b.drop i=w++c::r):i+w.length<b.length:=by
 have:=kK h
 exact(List.getElem?_eq_some_iff.mp this).1
def wY{b:List Nat}{i:Nat}{w r:List Nat}(h:b.drop i=w++r):(b.drop i).take w.length=w:=by rw[h];simp
def yi{b:List Nat}{i:Nat}{w r:List Nat}(h:b.drop i=w++r):b.drop (i+w.length)=r:=by rw[<-List.drop_drop,h];simp
def yj{b:List Nat}{i c:Nat}{r:List Nat}(h:b.drop i=c::r):b.drop (i+1)=r:=yi (w:=[c]) h
theorem fh(b:List Nat):∀(m n:Nat) (q:P4),fwd b n (fwd b m q)=fwd b (m+n) q
 |0,n,q=>by rw[Nat.zero_add];rfl
 |m+1,n,q=>by rw[Nat.succ_add];exact fh b m n _
def YH{n:Nat}(h:n≠0):(((n:Nat):Int)!=0)=true:=by
 have:(n:Int)≠0:=by omega
 simpa using this
def set_same{α:Type}{L:List α}{i:Nat}{v:α}(h:L[i]?=some v):L.set i v=L:=by
 apply List.ext_getElem?
 intro j
 rw[List.getElem?_set]
 split
 ·rename_i e;subst e
  split
  ·exact h.symm
  ·rename_i q;rw[List.getElem?_eq_none<|by omega]
 ·rfl
def u9{α:Type}{L:List α}{i j:Nat}{v u:α}(h:L[j]?=some u)(ne:i≠j):(L.set i v)[j]?=some u:=(List.getElem?_set_ne ne).trans h
def Be{α:Type}{L:List α}{i:Nat}{v u:α}(h:L[i]?=some u):(L.set i v)[i]?=some v:=List.getElem?_set_self (List.getElem?_eq_some_iff.mp h).1
def qX{o:Option (Option MV)}{v:MV}{K:MV->Prop}(e:o=some (some v))(h:K v):rD o K:=by rw[e];exact h
def YI{n:Nat}(h:n≠0):Nat.beq n 0=false:=by cases n<;>first|exact aan rfl h|rfl
def V2{σ:Sg}{k:Nat}{u v:MV}(h:σ.L[k]?=some (some u)):(σ.as k v).lv k=some (some v):=by
 show cond (Nat.beq k k) (cond (Nat.blt k σ.L.length) (some<|some v) none) (σ.lv k)=_
 rw[Nat.beq_refl,show Nat.blt k σ.L.length=true from Nat.ble_eq.mpr (List.getElem?_eq_some_iff.mp h).1];rfl
section
variable{f:Fm}{lv p li lc n c:Nat}{l r:List Nat}{s:PS}{H:MH}{Q:QF}{X:QX}
def zE{op:CmpOp}{ok:Nat->Bool}(n0:li≠0)(h:iQ H p s)(hop:∀c H,gx op (.str [c]) (.str l) H=some (ok c))(hc:ok c=false):∀(t:List Nat) (n:Nat) (i:Int) (Lc:Loc),i=n->Lc[0]?=some (some<|.ref p)->Lc[li]?=some (some<|.int i)->s.buf.drop (s.pos.ptr+n)=t++c::r->(∀x∈t,ok x=true)->Q .next (Lc.set li<|some<|.int ((n+t.length:Nat):Int)) H->
  LW (zP f (lv+2) p) (.cmp op (.gJ (.loc 0) 55 (.cons (.loc li) .nil) [] .nil)<|.str l) (.cons (.rz li .Add<|.int 1) .nil) .nil Lc H Q X:=by
 intro t
 induction t with
 |nil=>
  intro n i Lc ei h0 hl ht ha hq
  subst ei
  exact LW.turn (fs:=aM s) (λ_=>⟨h.obj,h0⟩)<|qX hl<|cY h (kK ht)<|pB (hop _ _)<|cF hc<|(set_same hl).symm▸hq
 |cons x t ih=>
  intro n i Lc ei h0 hl ht ha hq
  subst ei
  refine LW.turn (fs:=aM s) (λ_=>⟨h.obj,h0⟩)<|qX hl<|cY h (bV ht)<|pB (hop _ _)<|cT (ha x<|.head _)<|qX hl<|cF (YI n0)<|ih (n+1) _ _ rfl (u9 h0 n0) (Be hl) (yj ht) (λy m=>ha y<|.tail _ m) ?_
  rw[show n+1+t.length=n+(x::t).length from Nat.add_right_comm ..]
  exact(List.set_set ..).symm▸hq
noncomputable def jg(c:Nat):Bool:=(decide (48<=c)&&decide (c<=57))||(decide (65<=c)&&decide (c<=90))||(decide (97<=c)&&decide (c<=122))||decide (c∈[45,95])
noncomputable def Z5(l:List Nat)(j:Nat):IE:=.Tv .Or<|.cons (.chain .LtE .LtE (.str [48]) (.loc j)<|.str [57])<|.cons (.chain .LtE .LtE (.str [65]) (.loc j)<|.str [90])<|.cons (.chain .LtE .LtE (.str [97]) (.loc j)<|.str [122])<|.cons (.cmp .In (.loc j)<|.str l) .nil
abbrev alE:Nat->IE:=Z5 [45,95]
def Bf{z:En}{σ:Sg}{a b j:Nat}{r:IE}{Q:TQ}(h:σ.lv j=some (some<|.str [c]))(hq:@Bool.rec (λ_=>Prop) ((vx r).B .Or z σ Q X) (Q true σ)<|decide (a<=c)&&decide (c<=b)):(vx<|.cons (.chain .LtE .LtE (.str [a]) (.loc j)<|.str [b]) r).B .Or z σ Q X:=qX h (show @Bool.rec (λ_=>Prop) ((vx r).B .Or z σ Q X) (@Bool.rec (λ_=>Prop) ((vx r).B .Or z σ Q X) (Q true σ)<|decide<|c<=b) (decide<|a<=c)from by
 cases e1:decide (a<=c)<;>cases e2:decide (c<=b)<;>rw[e1,e2]at hq<;>exact hq)
def yk{z:En}{σ:Sg}{j:Nat}{Q:TQ}(h:σ.lv j=some (some<|.str [c]))(hq:Q ((decide (48<=c)&&decide (c<=57))||(decide (65<=c)&&decide (c<=90))||(decide (97<=c)&&decide (c<=122))||decide (c∈l)) σ):(vx<|Z5 l j).T z σ Q X:=by
 show(vx<|.cons (.chain .LtE .LtE (.str [48]) (.loc j)<|.str [57])<|.cons (.chain .LtE .LtE (.str [65]) (.loc j)<|.str [90])<|.cons (.chain .LtE .LtE (.str [97]) (.loc j)<|.str [122])<|.cons (.cmp .In (.loc j)<|.str l) .nil).B .Or z σ Q X
 refine Bf h ?_
 cases e1:(decide (48<=c)&&decide (c<=57))with
 |true=>rw[e1]at hq;exact hq
 |false=>
  refine Bf h ?_
  cases e2:(decide (65<=c)&&decide (c<=90))with
  |true=>rw[e1,e2]at hq;exact hq
  |false=>
   refine Bf h ?_
   cases e3:(decide (97<=c)&&decide (c<=122))with
   |true=>rw[e1,e2,e3]at hq;exact hq
   |false=>
    rw[e1,e2,e3]at hq
    refine qX h ?_
    cases e4:decide (c∈l)<;>rw[e4]at hq
    ·exact cF e4 hq
    ·exact cT e4 hq
def yl(h:iQ H p s)(n1:li≠0)(n2:lc≠0)(n3:li≠lc)(hc:jg c=false):∀(t:List Nat) (n:Nat) (i:Int) (Lc:Loc) {a:Nat},i=n->Lc[0]?=some (some<|.ref p)->Lc[li]?=some (some<|.int i)->Lc[lc]?=some (some<|.str [a])->s.buf[s.pos.ptr+n]?=some a->s.buf.drop (s.pos.ptr+n)=t++c::r->(∀x∈t,jg x=true)->Q .next ((Lc.set li<|some<|.int ((n+t.length:Nat):Int)).set lc<|some<|.str [c]) H->
  LW (zP f (lv+2) p) (alE lc) (.cons (.rz li .Add<|.int 1)<|.cons (.asg lc<|.gJ (.loc 0) 55 (.cons (.loc li) .nil) [] .nil) .nil) .nil Lc H Q X:=by
 intro t
 induction t with
 |nil=>
  intro n i Lc a ei h0 hl hh hb ht ha hq
  subst ei
  cases aaf ((bV ht).symm.trans hb)
  rw[show n+([]:List Nat).length=n from rfl,set_same hl,set_same hh]at hq
  exact LW.turn (fs:=aM s) (λ_=>⟨h.obj,h0⟩)<|yk hh<|cF hc hq
 |cons x t ih=>
  intro n i Lc a ei h0 hl hh hb ht ha hq
  subst ei
  cases aaf ((bV ht).symm.trans hb)
  have ht':s.buf.drop (s.pos.ptr+(n+1))=t++c::r:=yj ht
  have gg:∃a',s.buf[s.pos.ptr+(n+1)]?=some a':=by
   cases t with
   |nil=>exact⟨_,bV ht'⟩
   |cons y t=>exact⟨_,bV ht'⟩
  obtain⟨a',gg⟩:=gg
  refine LW.turn (fs:=aM s) (λ_=>⟨h.obj,h0⟩)<|yk hh<|cT (ha x<|.head _)<|qX hl<|cF (YI n1)<|qX (V2 hl)<|cY h gg<|cF (YI n2)<|ih (n+1) _ ((Lc.set li _).set lc _) rfl (u9 (u9 h0 n1) n2) (u9 (Be hl)<|Ne.symm n3) (Be<|u9 hh n3) gg ht' (λy m=>ha y<|.tail _ m) ?_
  rw[show n+1+t.length=n+(x::t).length from Nat.add_right_comm ..]
  rw[List.set_comm _ _<|Ne.symm n3,List.set_set,List.set_set]
  exact hq
end
noncomputable abbrev wZ:List Nat:=[0,32,9,13,10,133,8232,8233,63,58,44,93,125,37,64,96]
section
variable{n p c:Nat}{H:MH}{s:PS}{aa:List MV}{k:Option KS}{t r:List Nat}{Q:MV->Fs->MH->Prop}{X:MV->MH->Prop}
def vR(h:Sc p H s aa k)(ht:s.buf.drop s.pos.ptr=42::(t++c::r))(hn:t≠[])(ha:∀x∈t,jg x=true)(hc:c∈wZ)
  (hq:∀H' s' v,SF p s H s' H' aa k->s'.pos=fwd s.buf (1+t.length) s.pos->s'.done=s.done->cj H' s.buf v ⟨.alias t,s.pos,fwd s.buf (1+t.length) s.pos⟩->Q v (aM s') H'):SC (n+4) 1163 p 1521 [.cls 342] [] [] H Q X:=by
 have ac:jg c=false:=(by decide:∀x∈wZ,jg x=false) c hc
 have l1:s.pos.ptr+1<s.buf.length:=by
  have:=wX (w:=42::t) ht
  simp only[List.length_cons]at this
  omega
 refine gU (lv:=3) fN rfl h.obj<|fC (.refl h) λH1 v1 a1 m1 u1=>aH a1.sc.R.obj (bV ht)<|lE a1 l1 λs2 H2 a2 p2 d2 k2 u2=>?_
 have m2:=(u2.up a1.sc).mark m1
 have b2:s2.buf.drop s2.pos.ptr=t++c::r:=by rw[a2.fr.same.buf,p2,ak];exact yj ht
 have l3:=wX b2
 obtain⟨x,g2⟩:∃x,s2.buf[s2.pos.ptr+0]?=some x:=⟨_,List.getElem?_eq_getElem (by have:=l3;omega)⟩
 have tn:t.length≠0:=λe=>hn<|List.length_eq_zero_iff.mp e
 refine cY (i:=0) a2.sc.R.obj g2<|yl a2.sc.R.obj (by decide) (by decide) (by decide) ac t 0 _ _ rfl rfl rfl rfl g2 b2 ha<|Sz [some<|.ref p,some<|.cls 342,some v1,some<|.str [42],some<|.int t.length,some<|.str [c],none,none,some<|.str [97,108,105,97,115]] (by rw[Nat.zero_add];rfl) a2.sc.obj rfl ?_
 refine nF (YH tn)<|cM a2.sc.R.obj ?_
 rw[wY b2]
 refine jb a2 l3 λs3 H3 a3 p3 d3 k3 u3=>?_
 have m3:=(u3.up a2.sc).mark m2
 have b3:s3.buf.drop s3.pos.ptr=c::r:=by rw[a3.fr.same.buf,p3,ak,<-a2.fr.same.buf];exact yi b2
 have e3:s3.pos=fwd s.buf (1+t.length) s.pos:=by rw[p3,a2.fr.same.buf,p2,fh]
 refine aH a3.sc.R.obj (bV b3)<|IM hc<|fC a3 λH4 v4 a4 m4 u4=>I8 ⟨rfl,(a4.new _).sc.obj,?_⟩
 have m3:=(u4.up a3.sc).mark m3
 rw[e3,a3.fr.same.buf]at m4
 exact hq _ _ _ (a4.new _) e3 (d3.trans d2)<|cj.new (t:=⟨.alias t,s.pos,fwd s.buf (1+t.length) s.pos⟩) a4.sc.R.hw m3 m4
def vc(h:Sc p H s aa k)(tl:aa.length<900)(ht:s.buf.drop s.pos.ptr=42::(t++c::r))(hn:t≠[])(ha:∀x∈t,jg x=true)(hc:c∈wZ)
  (hq:∀H' s' v k',SF p s H s' H' (aa++[v]) k'->s'.pos=fwd s.buf (1+t.length) s.pos->s'.done=s.done->cj H' s.buf v ⟨.alias t,s.pos,fwd s.buf (1+t.length) s.pos⟩->Q .none (aM s') H'):SC (n+5) 981 p 1521 [] [] [] H Q X:=
 gU (lv:=4) fK rfl h.obj (uZ (.refl h) λH1 k1 a1=>⟨rZ (a1.ask false).sc.R.tok,vR (a1.ask false).sc ht hn ha hc λH3 s3 v3 a3 p3 d3 t3=>
  a3.Nh tl (hq _ _ _ _ (((a1.ask false).then a3).ap tl v3) p3 d3<|((((SF.refl a3.sc).ap tl v3).up a3.sc).tok t3))⟩)
end
def PR.putL{p:Nat}{H:MH}{s:PS}{aa:List MV}{k:Option KS}(R:PR H p s aa k){i:Nat}{xs:List MV}{o:MO}(h:H.at_ i=some (.list xs))(ne:i≠s.tA):PR (H.put i o) p s aa k:=by
 have e:∀a o',H.at_ a=some o'->(∀xs,o'≠.list xs)->(H.put i o).at_ a=some o':=λa o' q n=>by
  rw[ao];exact q
  rintro rfl;rw[h]at q;cases q;exact n _ rfl
 refine⟨⟨e _ _ R.obj.obj (by intro _ q;cases q),R.obj.len⟩,R.z,R.lt,R.pi,?_,R.uV,?_,R.hw.put h⟩
 ·rw[ao<|Ne.symm ne];exact R.tok
 ·refine R.key.of λa o' q n=>e a o' q λxs he=>?_
  subst he
  rcases n with n|⟨c,fs,n,_⟩
  ·obtain⟨es,ee⟩:=R.jU
   rw[aaa.mp n,ee]at q;cases q
  ·cases n
section
variable{p:Nat}{H H':MH}{s s':PS}{aa ah:List MV}{k k':Option KS}
def SF.lst(h:Sc p H s ah k')(a:SF p s H s' H' aa k){i:Nat}{xs:List MV}(e:H.at_ i=some (.list xs))(ne:i≠s.tA):H'.at_ i=some (.list xs):=by
 refine a.fr.kp.at_ i _ e λm=>?_
 simp only[tM,aab,List.not_mem_nil,or_false]at m
 rcases m with m|m|m
 ·subst m;rw[h.obj]at e;cases e
 ·exact ne m
 ·obtain⟨es,ee⟩:=h.R.jU;subst m;rw[ee]at e;cases e
def SF.putL(a:SF p s H s' H' aa k){i:Nat}{xs:List MV}(h:H'.at_ i=some (.list xs))(l:H.n<=i)(ne:i≠s.tA)(ys:List MV):SF p s H s' (H'.put i<|.list ys) aa k:=
 ⟨⟨a.sc.R.putL h (by rw[a.fr.same.tA];exact ne),a.sc.ind,a.sc.req⟩,⟨a.fr.kp.fresh a.hw (.put (own:=[i])<|.head _) (λx m=>.inr<|by rw[aaa.mp m];exact l),a.fr.same,a.fr.kA⟩,a.hw⟩
def Sc.PO(h:Sc p H s aa k):s.tA<H.n:=h.R.hw _ _ h.R.tok
end
def Up.putL{H:MH}{i:Nat}{xs:List MV}{o:MO}(h:H.at_ i=some (.list xs)):Up H (H.put i o):=λa c fs e _=>by
 rw[ao];exact e
 rintro rfl;rw[h]at e;cases e
noncomputable abbrev ym:List Nat:=[39,34,92,0,32,9,13,10,133,8232,8233]
def SJ{i:Nat}{b:List Nat}{t r:List Nat}(h:b.length<dg)(ht:b.drop i=t++r):t.length<dg:=by
 have:=aac List.length ht
 rw[List.length_drop,List.length_append]at this
 omega
section
variable{n p c d:Nat}{H:MH}{s:PS}{aa:List MV}{k:Option KS}{t r:List Nat}{Q:MV->Fs->MH->Prop}{X:MV->MH->Prop}
def vS{v:MV}(h:Sc p H s aa k)(ht:s.buf.drop s.pos.ptr=t++c::d::r)(hn:t≠[])(ha:∀x∈t,x∉ym)(hc:c=39∨c=34)(hd:d≠39)
  (hq:∀H' s' i,SF p s H s' H' aa k->H.n<=i->H'.at_ i=some (.list [.str t])->s'.pos=fwd s.buf t.length s.pos->s'.done=s.done->Q (.ref i) (aM s') H'):SC (n+4) 1222 p 1521 [.bool<|decide<|c=34,v] [] [] H Q X:=by
 have a1:=(SF.refl h).new<|.list []
 have L1:(H.new<|.list []).at_ H.n=some (.list []):=af
 have nt:H.n≠s.tA:=aav h.PO
 refine gU (lv:=3) bz rfl h.obj ⟨a1.sc.obj,LW.turn (fs:=aM s) (λ_=>⟨a1.sc.obj,rfl⟩) ?_⟩
 refine zE (ok:=λx=>!decide (x∈ym)) (by decide) a1.sc.R.obj (λ_ _=>rfl) (by rcases hc with rfl|rfl<;>rfl) t 0 _ _ rfl rfl rfl ht (λx m=>aac not (aad (ha x m))) (Sz [some (.ref p),some (.bool (decide (c=34))),some v,some (.ref H.n),some (.int t.length),none,none,none] (by rw[Nat.zero_add];rfl) a1.sc.obj rfl ?_)
 refine cT (YH λe=>hn<|List.length_eq_zero_iff.mp e) ⟨rZ L1,cM a1.sc.R.obj ?_⟩
 rw[wY ht]
 have a2:=a1.putL L1 (aaj _) nt [.str t]
 refine A7 L1 ⟨by decide,a2.sc.obj,jb a2 (wX ht) λs3 H3 a3 p3 d3 k3 u3=>?_⟩
 have L3:=u3.lst a2.sc au nt
 have b3:s3.buf.drop s3.pos.ptr=c::d::r:=by rw[a3.fr.same.buf,p3,ak];exact yi ht
 refine aH a3.sc.R.obj (bV b3) ?_
 rcases hc with rfl|rfl
 ·exact cY (i:=1) a3.sc.R.obj (kK (w:=[39]) b3)<|sF hd ⟨a3.sc.obj,rfl,hq _ _ _ a3 (aaj _) L3 p3 d3⟩
 ·exact⟨a3.sc.obj,rfl,hq _ _ _ a3 (aaj _) L3 p3 d3⟩
def yo(h:Sc p H s aa k)(ht:s.buf.drop s.pos.ptr=c::(t++c::d::r))(hn:t≠[])(ha:∀x∈t,x∉ym)(hc:c=39∨c=34)(hd:d≠39)
  (hq:∀H' s' v,SF p s H s' H' aa k->s'.pos=fwd s.buf (t.length+2) s.pos->s'.done=s.done->cj H' s.buf v ⟨.scalar t<|some [c],s.pos,fwd s.buf (t.length+2) s.pos⟩->Q v (aM s') H'):SC (n+5) 1212 p 1521 [.str [c]] [] [] H Q X:=by
 have nt:H.n≠s.tA:=aav h.PO
 have K:run 399 (Ae aV.fm 4 1521 p Q X) [Sd aV.ib] ⟨[(6,.bool<|decide<|c=34)],bW aV.ns [.ref p,.str [c]],[],aM s,H⟩:=by
  have a1:=(SF.refl h).new<|.list []
  have l1:s.pos.ptr+1<s.buf.length:=by
   have:=wX (w:=c::t) ht
   simp only[List.length_cons]at this
   omega
  refine⟨a1.sc.obj,fC a1 λH2 v2 a2 m2 u2=>aH a2.sc.R.obj (bV ht)<|lE a2 l1 λs3 H3 a3 p3 d3 k3 u3=>?_⟩
  have m3:=(u3.up a2.sc).mark m2
  have L3:=u3.lst a2.sc (u2.lst a1.sc af nt) nt
  have b3:s3.buf.drop s3.pos.ptr=t++c::d::r:=by rw[a3.fr.same.buf,p3,ak];exact yj ht
  refine⟨rZ L3,vS a3.sc b3 hn ha hc hd λH4 s4 i a4 l4 L4 p4 d4=>?_⟩
  have m4:=(a4.up a3.sc).mark m3
  have YJ:=a4.lst a3.sc L3<|a3.fr.same.tA▸nt
  have a5:=(a3.then a4).putL YJ (aaj _) nt [.str t]
  have m5:=(Up.putL YJ (o:=.list [.str t])).mark m4
  have b5:s4.buf.drop s4.pos.ptr=c::d::r:=by rw[a4.fr.same.buf,p4,ak];exact yi b3
  refine Yr YJ L4 ⟨(by decide:1<=dg),a5.sc.obj,LW.turn (fs:=aM s4) (λ_=>⟨a5.sc.obj,rfl⟩)<|aH a5.sc.R.obj (bV b5)<|YD rfl ⟨a5.sc.obj,rfl,lE a5 (wX (w:=[c]) b5) λs6 H6 a6 p6 d6 k6 u6=>fC a6 λH7 v7 a7 m7 u7=>⟨trivial,?_⟩⟩⟩
  have m6:=(u7.up a6.sc).mark<|(u6.up a5.sc).mark m5
  have L7:=u7.lst a6.sc (u6.lst a5.sc au<|a5.fr.same.tA▸nt)<|a6.fr.same.tA▸nt
  have e6:s6.pos=fwd s.buf (t.length+2) s.pos:=by
   rw[p6,a5.fr.same.buf,p4,p3,a3.fr.same.buf,fh,fh]
   congr 1;omega
  rw[e6,a6.fr.same.buf]at m7
  exact VZ L7 (SJ h.R.obj.len<|yj ht)<|Jb ⟨rfl,(a7.new _).sc.obj,hq _ _ _ (a7.new _) e6 (d6.trans<|d4.trans d3)<|cj.new (t:=⟨.scalar t<|some [c],s.pos,fwd s.buf (t.length+2) s.pos⟩) a7.sc.R.hw m6 m7⟩
 refine gU (lv:=4) aV rfl h.obj ?_
 rcases hc with rfl|rfl<;>exact K
def pS(h:Sc p H s aa k)(tl:aa.length<900)(ht:s.buf.drop s.pos.ptr=c::(t++c::d::r))(hn:t≠[])(ha:∀x∈t,x∉ym)(hc:c=39∨c=34)(hd:d≠39)
  (hq:∀H' s' v k',SF p s H s' H' (aa++[v]) k'->s'.pos=fwd s.buf (t.length+2) s.pos->s'.done=s.done->cj H' s.buf v ⟨.scalar t<|some [c],s.pos,fwd s.buf (t.length+2) s.pos⟩->Q .none (aM s') H'):SC (n+6) 1037 p 1521 [] [q "style"] [.str [c]] H Q X:=
 wR (lv:=5) bg rfl gF h.obj (uZ (.refl h) λH1 k1 a1=>⟨rZ (a1.ask false).sc.R.tok,yo (a1.ask false).sc ht hn ha hc hd λH3 s3 v3 a3 p3 d3 t3=>
  a3.Nh tl (hq _ _ _ _ (((a1.ask false).then a3).ap tl v3) p3 d3<|(((SF.refl a3.sc).ap tl v3).up a3.sc).tok t3)⟩)
def tO(h:Sc p H s aa k)(tl:aa.length<900)(ht:s.buf.drop s.pos.ptr=39::(t++39::d::r))(hn:t≠[])(ha:∀x∈t,x∉ym)(hd:d≠39)
  (hq:∀H' s' v k',SF p s H s' H' (aa++[v]) k'->s'.pos=fwd s.buf (t.length+2) s.pos->s'.done=s.done->cj H' s.buf v ⟨.scalar t<|some [39],s.pos,fwd s.buf (t.length+2) s.pos⟩->Q .none (aM s') H'):SC (n+7) 1023 p 1521 [] [] [] H Q X:=
 gU (lv:=6) fq rfl h.obj (pS h tl ht hn ha (.inl rfl) hd hq)
def tP(h:Sc p H s aa k)(tl:aa.length<900)(ht:s.buf.drop s.pos.ptr=34::(t++34::d::r))(hn:t≠[])(ha:∀x∈t,x∉ym)(hd:d≠39)
  (hq:∀H' s' v k',SF p s H s' H' (aa++[v]) k'->s'.pos=fwd s.buf (t.length+2) s.pos->s'.done=s.done->cj H' s.buf v ⟨.scalar t<|some [34],s.pos,fwd s.buf (t.length+2) s.pos⟩->Q .none (aM s') H'):SC (n+7) 1030 p 1521 [] [] [] H Q X:=
 gU (lv:=6) fy rfl h.obj (pS h tl ht hn ha (.inr rfl) hd hq)
end
noncomputable abbrev vL:List Nat:=[13,10,133,8232,8233]
def dm(b:List Nat)(i:Nat):Bool:=(decide ((b.drop i).take 3=[45,45,45])||decide ((b.drop i).take 3=[46,46,46]))&&decide (b.getD (i+3) 0∈pD)
noncomputable def dmE:IE:=.Tv .And<|.cons (.Tv .Or<|.cons (.cmp .Eq (.loc 8)<|.str [45,45,45])<|.cons (.cmp .Eq (.loc 8)<|.str [46,46,46]) .nil)<|.cons (.cmp .In (.gJ (.loc 0) 55 (.cons (.int 3) .nil) [] .nil)<|.str [0,32,9,13,10,133,8232,8233]) .nil
def Ni{b:List Nat}{i c:Nat}(e:(b.drop i).take 3=[c,c,c])(h:c=45∨c=46):dm b i=decide (b.getD (i+3) 0∈pD):=by
 unfold dm
 rcases h with rfl|rfl
 ·rw[aag e,Bool.true_or,Bool.true_and]
 ·rw[aag e,Bool.or_true,Bool.true_and]
def YK{b:List Nat}{i:Nat}(h1:(b.drop i).take 3≠[45,45,45])(h2:(b.drop i).take 3≠[46,46,46]):dm b i=false:=by unfold dm;rw[aad h1,aad h2];rfl
def Jf{f:Fm}{lv p:Nat}{A:Fs}{L:Loc}{s:PS}{H:MH}{Q:TQ}{X:QX}(h:iQ H p s)(z:ZB s.buf)(h8:Sg.lv ⟨A,L,[],aM s,H⟩ 8=some (some<|.str<|(s.buf.drop s.pos.ptr).take 3)){b:Bool}(e:dm s.buf s.pos.ptr=b)(hq:Q b ⟨A,L,[],aM s,H⟩):(vx dmE).T (zP f (lv+2) p) ⟨A,L,[],aM s,H⟩ Q X:=by
 have key:∀c,c=45∨c=46->(s.buf.drop s.pos.ptr).take 3=[c,c,c]->s.buf[s.pos.ptr+3]?=some (s.buf.getD (s.pos.ptr+3) 0):=λc n e=>f9<|lz z (take3 e).2.2 (by rcases n with rfl|rfl<;>decide)
 have K:∀d,dm s.buf s.pos.ptr=d->Q d ⟨A,L,[],aM s,H⟩:=λd q=>e.symm.trans q▸hq
 refine qX h8 ?_
 by_cases b1:(s.buf.drop s.pos.ptr).take 3=[45,45,45]
 ·refine Nc b1<|cY (i:=3) h (key 45 (.inl rfl) b1) ?_
  by_cases b3:s.buf.getD (s.pos.ptr+3) 0∈pD
  ·exact dT b3<|K _<|(Ni b1<|.inl rfl).trans<|aag b3
  ·exact dF b3<|K _<|(Ni b1<|.inl rfl).trans<|aad b3
 ·refine zA b1<|qX h8 ?_
  by_cases b2:(s.buf.drop s.pos.ptr).take 3=[46,46,46]
  ·refine Nc b2<|cY (i:=3) h (key 46 (.inr rfl) b2) ?_
   by_cases b3:s.buf.getD (s.pos.ptr+3) 0∈pD
   ·exact dT b3<|K _<|(Ni b2<|.inr rfl).trans<|aag b3
   ·exact dF b3<|K _<|(Ni b2<|.inr rfl).trans<|aad b3
  ·exact zA b2<|K _<|YK b1 b2
def DP(b:List Nat)(q:P4)(h:q.ptr=q.idx):(gc b q).1.ptr=(gc b q).1.idx:=by
 unfold gc
 split
 ·split<;>simp only[ak,qV,h]
 ·split
  ·simp only[ak,qV,h]
  ·exact h
def ug{n p:Nat}{H H0:MH}{s s0:PS}{aa:List MV}{k:Option KS}{Q:MV->Fs->MH->Prop}{X:MV->MH->Prop}(a:SF p s0 H0 s H aa k)
  (hq:∀s' H',SF p s0 H0 s' H' aa k->s'.pos=(gc s.buf s.pos).1->s'.done=s.done->SF p s H s' H' aa k->Q (.str (gc s.buf s.pos).2) (aM s') H'):SC (n+4) 1278 p 1521 [] [] [] H Q X:=by
 have f:=ig a.sc.R.z a.sc.R.lt
 have b:SF p s H (s.wp (gc s.buf s.pos).1) (H.put p<|.inst 1521<|aM<|s.wp (gc s.buf s.pos).1) aa k:=
  ⟨a.sc.nh ⟨rfl,rfl,rfl,rfl,rfl,rfl,rfl,rfl,rfl⟩ rfl f.1 (DP _ _ a.sc.R.pi) a.sc.ind,.nh ⟨rfl,rfl,rfl,rfl,rfl,rfl,rfl,rfl,rfl⟩ rfl,a.sc.R.hw⟩
 exact pR a.sc.R.obj a.sc.R.z a.sc.R.lt rfl<|hq _ _ (a.then b) rfl rfl b
inductive Br(b:List Nat):P4->Option (List<|List Nat)->P4->Prop
 |sp {q q':P4} {r:Option (List<|List Nat)}:b[q.ptr]?=some 32->Br b (fwd b 1 q) r q'->Br b q r q'
 |bar {q:P4} {c:Nat}:b[q.ptr]?=some c->c∈vL->dm b (gc b q).1.ptr=true->Br b q none (gc b q).1
 |nl {q q':P4} {c:Nat} {r:Option (List<|List Nat)}:b[q.ptr]?=some c->c∈vL->dm b (gc b q).1.ptr=false->Br b (gc b q).1 r q'->Br b q (r.map λx=>(gc b q).2::x) q'
 |stop {q:P4} {c:Nat}:b[q.ptr]?=some c->c∉32::vL->Br b q (some []) q
noncomputable def FJ(lb:List Nat)(bs:List<|List Nat):List (List Nat):=(if lb=[10]then(if bs=[]then[[32]]else[])else[lb])++bs
inductive w5(b:List Nat)(q:P4):Option (List<|List Nat)->P4->Prop
 |flat {n c:Nat} {r:List Nat}:b.drop q.ptr=List.replicate n 32++c::r->c≠32->c∉vL->w5 b q (some<|if n=0 then[]else[List.replicate n 32]) (fwd b n q)
 |bar {n c:Nat} {r:List Nat}:b.drop q.ptr=List.replicate n 32++c::r->c≠32->c∈vL->dm b (gc b<|fwd b n q).1.ptr=true->w5 b q none (gc b<|fwd b n q).1
 |brk {n c:Nat} {r:List Nat} {m:Option (List<|List Nat)} {q':P4}:b.drop q.ptr=List.replicate n 32++c::r->c≠32->c∈vL->dm b (gc b<|fwd b n q).1.ptr=false->Br b (gc b<|fwd b n q).1 m q'->w5 b q (m.map λbs=>FJ (gc b<|fwd b n q).2 bs) q'
noncomputable def oS(l:List<|List Nat):MO:=.list<|l.map .str
def Nj(n:Nat)(H:MH)(v:MV):Option (List<|List Nat)->Prop
 |none=>v=.none
 |some cs=>∃i,v=.ref i/\n<=i/\H.at_ i=some (oS cs)
def jH{b:List Nat}(z:ZB b){q:P4}{c:Nat}(g:b[q.ptr]?=some c)(h:c∈vL):q.ptr+1<=(gc b q).1.ptr:=by
 refine(ig z (List.getElem?_eq_some_iff.mp g).1).2.1 ?_
 have e:=cZ g
 unfold gc
 rw[e]
 split
 ·simp
 ·rename_i n
  rw[aam]
  ·simp
  ·exact(by decide:∀x∈vL,¬x∈_->x∈_) c h n
abbrev YL:IS:=oG (Bb<|oG aj.ib 6) 5
def Nk{p iB iC:Nat}{b:List Nat}{H0:MH}{s0:PS}{aa:List MV}{k:Option KS}{v1 v2:MV}{Q:QF}{X:QX}{n:MV}{ws ch lb:List Nat}{xs:List MV}(hB:H0.n<=iB)(YM:iB≠s0.tA)(Nl:iC≠s0.tA)(hBC:iC≠iB){q q':P4}{r:Option (List<|List Nat)}(hr:Br b q r q'):
  ∀(s:PS) (H:MH) (bs:List<|List Nat) (pre:List Nat),SF p s0 H0 s H aa k->s.buf=b->s.pos=q->H.at_ iB=some (oS bs)->H.at_ iC=some (.list xs)->bs.length<=s.pos.ptr->
  (∀s' H' pre',SF p s0 H0 s' H' aa k->s'.pos=q'->s'.done=s.done->H'.at_ iC=some (.list xs)->(∀rs,r=some rs->H'.at_ iB=some (oS<|bs++rs)/\(bs++rs).length<=s'.pos.ptr)->
   Q (r.casesOn (.ret .none) λ_=>.next) [some<|.ref p,some v1,some v2,some<|.ref iC,some n,some<|.str ws,some<|.str ch,some<|.str lb,some<|.str pre',some<|.ref iB] H')->
  LP aj.fm 4 p YL [some<|.ref p,some v1,some v2,some<|.ref iC,some n,some<|.str ws,some<|.str ch,some<|.str lb,some<|.str pre,some<|.ref iB] H Q X:=by
 have line:∀(s:PS) (H:MH) (bs:List<|List Nat) (pre:List Nat) {c d},s.buf[s.pos.ptr]?=some c->c∈vL->dm s.buf (gc s.buf s.pos).1.ptr=d->SF p s0 H0 s H aa k->H.at_ iB=some (oS bs)->H.at_ iC=some (.list xs)->bs.length<=s.pos.ptr->
   (∀s3 H3 pre,SF p s0 H0 s3 H3 aa k->s3.buf=s.buf->s3.pos=(gc s.buf s.pos).1->s3.done=s.done->H3.at_ iB=some (oS<|bs++[(gc s.buf s.pos).2])->H3.at_ iC=some (.list xs)->@Bool.rec (λ_=>Prop) (LP aj.fm 4 p YL [some<|.ref p,some v1,some v2,some<|.ref iC,some n,some<|.str ws,some<|.str ch,some<|.str lb,some<|.str pre,some<|.ref iB] H3 Q X) (Q (.ret .none) [some<|.ref p,some v1,some v2,some<|.ref iC,some n,some<|.str ws,some<|.str ch,some<|.str lb,some<|.str pre,some<|.ref iB] H3) d)->
   LP aj.fm 4 p YL [some<|.ref p,some v1,some v2,some<|.ref iC,some n,some<|.str ws,some<|.str ch,some<|.str lb,some<|.str pre,some<|.ref iB] H Q X:=by
  intro s H bs pre c d g hc hd a LB LC hl hq
  refine LW.turn (fs:=aM s) (λ_=>⟨a.sc.obj,rfl⟩)<|aH a.sc.R.obj g<|dT (.tail _ hc)<|aH a.sc.R.obj g<|sF (λe=>(by decide:32∉vL)<|e▸hc) ⟨rZ (xs:=bs.map .str) LB,ug a λs2 H2 a2 p2 d2 u2=>?_⟩
  have L2:=u2.lst a.sc LB<|a.fr.same.tA▸YM
  have a3:=a2.putL L2 hB YM<|bs.map .str++[.str (gc s.buf s.pos).2]
  have hq:=hq s2 _ ((s2.buf.drop s2.pos.ptr).take 3) a3 u2.fr.same.buf p2 d2 (au.trans<|aac (λl=>some<|MO.list l) (List.map_append (f:=MV.str) (l₁:=bs) (l₂:=[_])).symm)<|(ao hBC).trans<|u2.lst a.sc LC<|a.fr.same.tA▸Nl
  refine A7 L2 ⟨?_,a3.sc.obj,cM (m:=3) a3.sc.R.obj<|Jf a3.sc.R.obj a3.sc.R.z rfl (b:=d) (by rw[u2.fr.same.buf,p2];exact hd) ?_⟩
  ·rw[List.length_map];exact H8 hl<|aar a.sc.R.lt a.sc.R.obj.len
  ·cases d<;>exact hq
 induction hr with
 |@sp q q' r g hr ih=>
  intro s H bs pre a eb eq LB LC hl hq
  have g:s.buf[s.pos.ptr]?=some 32:=eb.symm▸eq.symm▸g
  refine LW.turn (fs:=aM s) (λ_=>⟨a.sc.obj,rfl⟩)<|aH a.sc.R.obj g<|aH a.sc.R.obj g<|lE a (lz a.sc.R.z g<|by decide) λs2 H2 a2 p2 d2 k2 u2=>?_
  exact ih s2 H2 bs pre a2 (u2.fr.same.buf.trans eb) (p2.trans<|by rw[eb,eq]) (u2.lst a.sc LB<|a.fr.same.tA▸YM) (u2.lst a.sc LC<|a.fr.same.tA▸Nl) (by rw[p2,ak];exact Nat.le_succ_of_le hl) λs' H' pre' a' p' d'=>hq s' H' pre' a' p'<|d'.trans d2
 |@bar q c g hc hd=>
  intro s H bs pre a eb eq LB LC hl hq
  exact line s H bs pre (d:=true) (by rw[eb,eq];exact g) hc (by rw[eb,eq];exact hd) a LB LC hl λs3 H3 pr a3 b3 p3 d3 B3 C3=>hq s3 H3 pr a3 (p3.trans<|by rw[eb,eq]) d3 C3 nofun
 |@nl q q' c r g hc hd hr ih=>
  intro s H bs pre a eb eq LB LC hl hq
  have g:s.buf[s.pos.ptr]?=some c:=eb.symm▸eq.symm▸g
  have e2:gc b q=gc s.buf s.pos:=by rw[eb,eq]
  refine line s H bs pre (d:=false) g hc (by rw[eb,eq];exact hd) a LB LC hl λs3 H3 pr a3 b3 p3 d3 B3 C3=>ih s3 H3 _ _ a3 (b3.trans eb) (p3.trans<|by rw[e2]) B3 C3 ?_ λs' H' pre' a' p' d' c' rs'=>?_
  ·rw[p3,List.length_append,List.length_singleton];exact av (aau hl)<|jH a.sc.R.z g hc
  ·have hq:=hq s' H' pre' a' p' (d'.trans d3) c'
   cases r with
   |none=>exact hq nofun
   |some rs=>exact hq λrs2 e=>aaf e▸(by have:=rs' rs rfl;rw[List.append_assoc]at this;rw[e2];exact this)
 |@stop q c g hc=>
  intro s H bs pre a eb eq LB LC hl hq
  exact LW.turn (fs:=aM s) (λ_=>⟨a.sc.obj,rfl⟩)<|aH a.sc.R.obj (by rw[eb,eq];exact g)<|dF hc<|hq s H pre a eq rfl LC λrs e=>aaf e▸((List.append_nil bs).symm▸⟨LB,hl⟩)
noncomputable def gap(lb:List Nat)(bs:List<|List Nat):List (List Nat):=if lb=[10]then(if bs=[]then[[32]]else[])else[lb]
def SK{lb:List Nat}{bs:List (List Nat)}:(gap lb bs).length<=1:=by
 unfold gap
 split
 ·split<;>simp
 ·simp
abbrev Jg:IS:=aj.ib
def vd{n m c p:Nat}{rs:List Nat}{H:MH}{s:PS}{aa:List MV}{k:Option KS}{v2:MV}{Q:MV->Fs->MH->Prop}{X:MV->MH->Prop}(h:Sc p H s aa k)(ht:s.buf.drop s.pos.ptr=List.replicate m 32++c::rs)(h32:c≠32)
  (K:∀s2 H2,SF p s H s2 H2 aa k->s2.pos=fwd s.buf m s.pos->s2.done=s.done->H2.at_ H.n=some (.list [])->m<dg->run 394 (Ae aj.fm 4 1521 p Q X) [fX Jg 6] ⟨[(6,.str [c]),(5,.str<|List.replicate m 32)],[some<|.ref p,some<|.int 0,some v2,some<|.ref H.n,some<|.int m,none,none,none,none,none],[],aM s2,H2⟩):SC (n+5) 1250 p 1521 [.int 0,v2] [] [] H Q X:=by
 have a1:=(SF.refl h).new<|.list []
 have YN:=wX ht
 have hk:=wY ht
 have g1:=kK ht
 rw[List.length_replicate]at YN hk g1
 refine gU (lv:=4) aj rfl h.obj ⟨a1.sc.obj,zE (ok:=λx=>decide<|x∈[32]) (by decide) a1.sc.R.obj (λ_ _=>rfl) (aad λe=>h32<|aaa.mp e) (List.replicate m 32) 0 _ _ rfl rfl rfl ht (λx e=>aag<|aaa.mpr<|List.eq_of_mem_replicate e)<|Sz [some<|.ref p,some<|.int 0,some v2,some<|.ref H.n,some<|.int m,none,none,none,none,none] (by rw[Nat.zero_add,List.length_replicate];rfl) a1.sc.obj rfl<|cM (m:=m) a1.sc.R.obj ?_⟩
 rw[hk]
 exact jb a1 YN λs2 H2 a2 p2 d2 k2 u2=>aH a2.sc.R.obj (by rw[a2.fr.same.buf,p2,ak];exact g1)<|K s2 H2 a2 p2 d2 (u2.lst a1.sc (af (o:=.list []))<|aav h.PO)<|aar (H8 (aat _ _) YN) h.R.obj.len
section
variable{n m c p:Nat}{rs:List Nat}{H:MH}{s:PS}{aa:List MV}{k:Option KS}{v2:MV}{Q:MV->Fs->MH->Prop}{X:MV->MH->Prop}
def Nm{s6:PS}{H6:MH}{i m:Nat}{ws c lb pre:List Nat}{bs:List (List Nat)}(nt:H.n≠s.tA)(ne:i≠H.n)(a6:SF p s H s6 H6 aa k)(C6:H6.at_ H.n=some (.list []))(B6:H6.at_ i=some (oS bs))(l6:bs.length<=s6.pos.ptr)
  (hq:∀H' v,SF p s H s6 H' aa k->Nj H.n H' v (some<|FJ lb bs)->Q v (aM s6) H'):
  run 388 (Ae aj.fm 4 1521 p Q X) [fX (Bb<|oG Jg 6) 6,fX Jg 7] ⟨[],[some<|.ref p,some<|.int 0,some v2,some<|.ref H.n,some<|.int m,some<|.str ws,some<|.str c,some<|.str lb,some<|.str pre,some<|.ref i],[],aM s6,H6⟩:=by
 have K:∀H7,SF p s H s6 H7 aa k->H7.at_ H.n=some (.list<|(gap lb bs).map .str)->H7.at_ i=some (.list<|bs.map .str)->run 387 (Ae aj.fm 4 1521 p Q X) [fX (Bb<|oG Jg 6) 7,fX Jg 7] ⟨[],[some<|.ref p,some<|.int 0,some v2,some<|.ref H.n,some<|.int m,some<|.str ws,some<|.str c,some<|.str lb,some<|.str pre,some<|.ref i],[],aM s6,H7⟩:=λH7 a7 C7 B7=>by
  have a8:=a7.putL C7 (aaj _) nt<|(gap lb bs).map .str++bs.map .str
  refine⟨rZ C7,Yr C7 B7 ⟨?_,a8.sc.obj,hq _ _ a8 ⟨_,rfl,aaj _,au.trans<|by rw[<-List.map_append];rfl⟩⟩⟩
  rw[List.length_map,List.length_map]
  exact av (Nat.add_le_add SK l6)<|av (Nat.add_comm 1 _▸a6.sc.R.lt)<|Nat.le_of_lt a6.sc.R.obj.len
 have P:∀x,gap lb bs=[x]->_:=λx e=>K (H6.put H.n<|.list [.str x]) (a6.putL C6 (aaj _) nt [.str x]) (by rw[au,e];rfl)<|(ao ne).trans B6
 by_cases b1:lb=[10]
 ·refine V1 b1<|uL B6 ?_
  cases bs with
  |nil=>exact⟨rZ C6,A7 C6 ⟨by decide,(a6.putL C6 (aaj _) nt [.str [32]]).sc.obj,P [32]<|aam b1⟩⟩
  |cons x xs=>exact K _ a6 (by rw[show gap lb (x::xs)=[]from aam b1];exact C6) B6
 ·exact SI b1 ⟨rZ C6,A7 C6 ⟨by decide,(a6.putL C6 (aaj _) nt [.str lb]).sc.obj,P lb<|aal b1⟩⟩
def tQ{r:Option (List<|List Nat)}{q':P4}(h:Sc p H s aa k)(hr:w5 s.buf s.pos r q')(hq:∀H' s' v,SF p s H s' H' aa k->s'.pos=q'->s'.done=s.done->Nj H.n H' v r->Q v (aM s') H'):SC (n+5) 1250 p 1521 [.int 0,v2] [] [] H Q X:=by
 have nt:H.n≠s.tA:=aav h.PO
 cases hr with
 |@flat m c r1 e1 e2 e3=>
  refine vd h e1 e2 λs2 H2 a2 p2 d2 L2 lm=>dF e3 ⟨(List.length_replicate (n:=m) (a:=32)).symm▸lm,?_⟩
  cases m with
  |zero=>exact hq _ _ _ a2 p2 d2 ⟨_,rfl,aaj _,L2⟩
  |succ m=>
   have a3:=a2.putL L2 (aaj _) nt [.str<|List.replicate (m+1) 32]
   exact⟨rZ L2,A7 L2 ⟨by decide,a3.sc.obj,hq _ _ _ a3 p2 d2 ⟨_,rfl,aaj _,au⟩⟩⟩
 |bar e1 e2 e3 e4=>
  refine vd h e1 e2 λs2 H2 a2 p2 d2 L2 lm=>dT e3<|ug a2 λs3 H3 a3 p3 d3 u3=>?_
  rw[a2.fr.same.buf,p2]at p3
  exact cM (m:=3) (a3.ask true).sc.R.obj<|Jf (s:=s3.wa true) (a3.ask true).sc.R.obj (a3.ask true).sc.R.z rfl (b:=true) (by show dm s3.buf s3.pos.ptr=_;rw[a3.fr.same.buf,p3,e4])<|hq _ _ _ (a3.ask true) p3 (d3.trans d2) rfl
 |@brk m c r1 bo q' e1 e2 e3 e4 e5=>
  refine vd h e1 e2 λs2 H2 a2 p2 d2 L2 lm=>dT e3<|ug a2 λs3 H3 a3 p3 d3 u3=>?_
  have b2:gc s2.buf s2.pos=gc s.buf (fwd s.buf m s.pos):=by rw[a2.fr.same.buf,p2]
  rw[b2]at p3
  have L4:=((SF.refl a3.sc).ask true).lst a3.sc (u3.lst a2.sc L2<|a2.fr.same.tA▸nt)<|a3.fr.same.tA▸nt
  have a4:=a3.ask true
  refine cM (m:=3) a4.sc.R.obj<|Jf (s:=s3.wa true) a4.sc.R.obj a4.sc.R.z rfl (b:=false) (by show dm s3.buf s3.pos.ptr=_;rw[a3.fr.same.buf,p3,e4]) ?_
  have hB:=a4.fr.kp.n
  have ne5:=aae<|a4.sc.R.hw _ _ L4
  refine⟨(a4.new<|.list []).sc.obj,Nk hB (aav<|aas h.PO hB) nt ne5 e5 (s3.wa true) _ [] _ (a4.new<|.list []) a4.fr.same.buf p3 af ((aL ne5).trans L4) (Nat.zero_le _) λs6 H6 pre a6 p6 d6 C6 R6=>?_⟩
  have hq:=λH' v a=>hq H' s6 v a p6<|d6.trans<|d3.trans d2
  cases bo with
  |none=>exact⟨a6.sc.obj,rfl,hq _ _ a6 rfl⟩
  |some bs=>exact⟨a6.sc.obj,rfl,Nm nt (Ne.symm ne5) a6 C6 (R6 bs rfl).1 (R6 bs rfl).2<|b2.symm▸hq⟩
end
structure Bg(b:List Nat)(q:P4)(w:List Nat):Prop where
 ex:∃c r,b.drop q.ptr=w++c::r/\c∈pD
 ne:w≠[]
 hd:w.head?≠some 35
 all:∀x∈w,x∉pD/\x≠58
inductive yp(b:List Nat):P4->List Nat->P4->P4->Prop
 |stop {q q':P4} {w:List Nat} {sp:Option (List<|List Nat)}:Bg b q w->w5 b (fwd b w.length q) sp q'->(sp=none∨sp=some []∨b[q'.ptr]?=some 35)->yp b q w (fwd b w.length q) q'
 |eof {q q':P4} {w:List Nat} {sp:List (List Nat)}:Bg b q w->w5 b (fwd b w.length q) (some sp) q'->sp≠[]->b[q'.ptr]?=some 0->yp b q w (fwd b w.length q) q'
 |more {q q1 q' qe:P4} {w v:List Nat} {sp:List (List Nat)}:Bg b q w->w5 b (fwd b w.length q) (some sp) q1->sp≠[]->yp b q1 v qe q'->yp b q (w++sp.flatten++v) qe q'
def Bg.first{b:List Nat}{q:P4}{w:List Nat}(h:Bg b q w):∃c,b[q.ptr]?=some c/\c≠35:=by
 obtain⟨⟨c,r,e,m⟩,n,d,a⟩:=h
 cases w with
 |nil=>exact aan rfl n
 |cons x t=>exact⟨x,bV e,λe=>d<|by rw[e];rfl⟩
def yp.first{b:List Nat}{q qe q':P4}{v:List Nat}(h:yp b q v qe q'):∃c,b[q.ptr]?=some c/\c≠35:=by
 cases h with
 |stop h _ _=>exact h.first
 |eof h _ _ _=>exact h.first
 |more h _ _ _=>exact h.first
def W5{a p p1 q x:Nat}(h:a+p1<=q)(k:p+1<=p1)(hx:x<=1):x+a+p<=q:=by omega
abbrev Z6(bs:List<|List Nat)(p q:Nat):Prop:=bs.length+p<=q/\(bs.map List.length).sum+p<=q
def Br.size{b:List Nat}(z:ZB b){q q':P4}{r:Option (List<|List Nat)}(h:Br b q r q'):∀bs,r=some bs->Z6 bs q.ptr q'.ptr:=by
 induction h with
 |@sp q q' r g _ ih=>
  intro bs e
  have k:=ih bs e
  rw[ak]at k
  exact⟨av (Nat.add_le_add_left (Nat.le_succ _) _) k.1,av (Nat.add_le_add_left (Nat.le_succ _) _) k.2⟩
 |bar=>exact λ_ e=>nomatch e
 |@nl q q' c r g hc hd hr ih=>
  intro bs e
  cases r with
  |none=>cases e
  |some rs=>
   cases e
   have h1:=ih rs rfl
   have h2:=jH z g hc
   exact⟨by rw[List.length_cons,Nat.add_comm rs.length];exact W5 h1.1 h2<|aaj 1,W5 h1.2 h2 (ig z (List.getElem?_eq_some_iff.mp g).1).2.2.1⟩
 |stop=>
  intro bs e
  cases e
  exact⟨Nat.le_of_eq<|Nat.zero_add _,Nat.le_of_eq<|Nat.zero_add _⟩
def SM{lb:List Nat}{ms:List (List Nat)}(h:lb.length<=1):(FJ lb ms).length<=1+ms.length/\((FJ lb ms).map List.length).sum<=1+(ms.map List.length).sum:=by
 unfold FJ
 rw[List.length_append,List.map_append,List.sum_append]
 have k:∀l:List<|List Nat,l.length<=1->(l.map List.length).sum<=1->l.length+ms.length<=1+ms.length/\(l.map List.length).sum+(ms.map List.length).sum<=1+(ms.map List.length).sum:=λl a b=>⟨Nat.add_le_add_right a _,Nat.add_le_add_right b _⟩
 split
 ·split
  ·exact k _ (aaj 1)<|aaj 1
  ·exact k _ (Nat.zero_le 1)<|Nat.zero_le 1
 ·exact k _ (aaj 1) h
def w5.size{b:List Nat}(z:ZB b){q q':P4}{r:Option (List<|List Nat)}(h:w5 b q r q'):∀bs,r=some bs->Z6 bs q.ptr q'.ptr:=by
 cases h with
 |@flat n c r g h1 h2=>
  intro bs e
  cases e
  rw[ak]
  split
  ·exact⟨Nat.zero_add _▸aah ..,Nat.zero_add _▸aah ..⟩
  ·rename_i n0
   have e:([List.replicate n 32].map List.length).sum=n:=(Nat.add_zero _).trans List.length_replicate
   exact⟨Nat.add_comm 1 q.ptr▸Nat.add_le_add_left (Nat.pos_of_ne_zero n0) _,by rw[e,Nat.add_comm];exact aaj _⟩
 |bar=>exact λ_ e=>nomatch e
 |@brk n c r m q' g h1 h2 h3 h4=>
  intro bs e
  cases m with
  |none=>cases e
  |some ms=>
   cases e
   have g':=kK g
   rw[List.length_replicate]at g'
   have g2:b[(fwd b n q).ptr]?=some c:=by rw[ak];exact g'
   have t1:=Br.size z h4 ms rfl
   have t2:=jH z g2 h2
   have t4:=SM (ms:=ms) (ig z (List.getElem?_eq_some_iff.mp g2).1).2.2.1
   rw[ak]at t2
   have t2:=av (aau<|aah q.ptr n) t2
   exact⟨av (Nat.add_le_add_right t4.1 _)<|W5 t1.1 t2<|aaj 1,av (Nat.add_le_add_right t4.2 _)<|W5 t1.2 t2<|aaj 1⟩
def qY(l:List<|List Nat):iz (l.map .str)=some l:=by
 induction l with
 |nil=>rfl
 |cons a l ih=>show(iz<|l.map .str).map (a::·)=_;rw[ih];rfl
abbrev W6:IS:=oG aX.ib 5
def w6{p:Nat}{s:PS}{H:MH}{Q:QF}{X:QX}{v1 v2 v3 v4 v5:Option MV}(h:iQ H p s){c:Nat}{r:List Nat}(hc:c∈pD)(t:List Nat):∀(n:Nat) (i:Int) (v7:Option MV),i=n->s.buf.drop (s.pos.ptr+n)=t++c::r->(∀x∈t,x∉pD/\x≠58)->Q .next [some<|.ref p,v1,v2,v3,v4,v5,some<|.int ((n+t.length:Nat):Int),some<|.str [c]] H->
  LP aX.fm 5 p (oG (Bb W6) 2) [some<|.ref p,v1,v2,v3,v4,v5,some<|.int i,v7] H Q X:=by
 induction t with
 |nil=>
  intro n i v7 ei ht ha hq
  subst ei
  exact LW.turn (fs:=aM s) (λ_=>⟨h.obj,rfl⟩)<|cY h (bV ht)<|dT hc hq
 |cons x t ih=>
  intro n i v7 ei ht ha hq
  subst ei
  refine LW.turn (fs:=aM s) (λ_=>⟨h.obj,rfl⟩)<|cY h (bV ht)<|dF (ha x<|.head _).1<|sF (ha x<|.head _).2<|ih (n+1) _ _ rfl (yj ht) (λy m=>ha y<|.tail _ m) ?_
  rw[show n+1+t.length=n+(x::t).length from Nat.add_right_comm ..]
  exact hq
noncomputable def w7(r:Option<|List<|List Nat)(c:Nat):Bool:=match r with
 |none=>true
 |some []=>true
 |some (_::_)=>decide<|c=35
def qc{p iC iS:Nat}{H0:MH}{s0:PS}{aa:List MV}{k:Option KS}{v2:MV}{v3 v6 v7:Option MV}{Q:QF}{X:QX}(hC:H0.n<=iC)(Nl:iC≠s0.tA)(hS':iS≠s0.tA){q':P4}{wd:List Nat}{r:Option (List<|List Nat)}{s:PS}{H:MH}{cs sp:List (List Nat)}(hb:s.buf.length<2000)
  (hw:Bg s.buf s.pos wd)(hr:w5 s.buf (fwd s.buf wd.length s.pos) r q')(a:SF p s0 H0 s H aa k)(LC:H.at_ iC=some (oS cs))(LS:H.at_ iS=some (oS sp))(hl:cs.length+sp.length<=s.pos.ptr)
  (hq:∀s' H' v3 v5 v7,SF p s0 H0 s' H' aa k->Up H H'->s'.buf=s.buf->s'.pos=q'->s'.done=s.done->gb H' v3 s.buf (fwd s.buf wd.length s.pos)->H'.at_ iC=some (oS<|cs++sp++[wd])->Nj H0.n H' v5 r->
   @Bool.rec (λ_=>Prop) (LP aX.fm 5 p W6 [some<|.ref p,some<|.ref iC,some v2,some v3,some<|.int 0,some v5,some<|.int (wd.length:Nat),some v7] H' Q X) (Q .next [some<|.ref p,some<|.ref iC,some v2,some v3,some<|.int 0,some v5,some<|.int (wd.length:Nat),some v7] H') (w7 r<|s.buf.getD q'.ptr 0)):
  LP aX.fm 5 p W6 [some<|.ref p,some<|.ref iC,some v2,v3,some<|.int 0,some<|.ref iS,v6,v7] H Q X:=by
 obtain⟨c,g,n35⟩:=hw.first
 obtain⟨⟨c',r',e,m⟩,n,d,al⟩:=id hw
 have u2:=(SF.refl a.sc).ask false
 have a2:=a.ask false
 have C2:=u2.lst a.sc LC<|a.fr.same.tA▸Nl
 have a3:=a2.putL C2 hC Nl<|cs.map .str++sp.map .str
 have a4:=a3.putL au hC Nl<|cs.map .str++sp.map .str++[.str wd]
 have Z7:=aar a.sc.R.lt hb
 have big:∀{n},n<2000->n<dg:=λh=>aar h<|by decide
 refine LW.turn (fs:=aM s) (λ_=>⟨a.sc.obj,rfl⟩)<|aH a.sc.R.obj g<|sF n35<|w6 a.sc.R.obj m wd 0 _ _ rfl e al<|Sz [some<|.ref p,some<|.ref iC,some v2,v3,some<|.int 0,some<|.ref iS,some<|.int wd.length,some<|.str [c']] (by rw[Nat.zero_add]) a.sc.obj rfl<|zF (λe=>n<|List.length_eq_zero_iff.mp e) ⟨rZ C2,Yr C2 (u2.lst a.sc LS<|a.fr.same.tA▸hS') ⟨?_,a3.sc.obj,rZ au,cM (m:=wd.length) a3.sc.R.obj ?_⟩⟩
 ·rw[List.length_map,List.length_map];exact Nat.le_of_lt<|big<|H8 hl Z7
 rw[show((s.wa false).buf.drop (s.wa false).pos.ptr).take wd.length=wd from wY e]
 refine A7 au ⟨?_,a4.sc.obj,jb a4 (wX e) λs5 H5 a5 p5 d5 k5 u5=>fC a5 λH6 v6 a6 m6 u6=>?_⟩
 ·rw[List.length_append,List.length_map,List.length_map];exact big<|H8 hl Z7
 have b5:s5.buf=s.buf:=u5.fr.same.buf
 have C6:=u6.lst a5.sc (u5.lst a4.sc au<|a4.fr.same.tA▸Nl)<|a5.fr.same.tA▸Nl
 rw[b5,p5]at m6
 refine tQ a6.sc (by rw[b5,p5];exact hr) λH7 s7 v7 a7 p7 d7 z7=>?_
 have b7:s7.buf=s.buf:=a7.fr.same.buf.trans b5
 have a8:=a6.then a7
 have z8:Nj H0.n H7 v7 r:=by
  cases r with
  |none=>exact z7
  |some bs=>exact z7.elim λi z=>⟨i,z.1,av a6.fr.kp.n z.2.1,z.2.2⟩
 have U8:Up H H7:=((((u2.up a.sc).trans<|Up.putL C2).trans<|Up.putL au).trans<|(u5.up a4.sc).trans<|u6.up a5.sc).trans<|a7.up a6.sc
 have hq:=hq s7 H7 v6 v7 (.str [c']) a8 U8 b7 p7 (d7.trans d5) ((a7.up a6.sc).mark m6) ((a7.lst a6.sc C6<|a6.fr.same.tA▸Nl).trans<|by rw[<-List.map_append,<-List.map_singleton (f:=MV.str),<-List.map_append];rfl) z8
 have g7:=f9 a8.sc.R.lt
 cases r with
 |none=>
  cases z7
  exact hq
 |some bs=>
  obtain⟨i,rfl,_,L7⟩:=z7
  refine uL L7 ?_
  cases bs with
  |nil=>exact hq
  |cons b0 bs=>
   refine aH a8.sc.R.obj g7 ?_
   rw[p7,b7]
   by_cases c35:s.buf.getD q'.ptr 0=35
   ·rw[show w7 (some<|b0::bs) (s.buf.getD q'.ptr 0)=true from aag c35]at hq
    exact sT c35 hq
   ·rw[show w7 (some<|b0::bs) (s.buf.getD q'.ptr 0)=false from aad c35]at hq
    exact sF c35 hq
def Br.le{b:List Nat}(z:ZB b){q q':P4}{r:Option (List<|List Nat)}(h:Br b q r q'):q.ptr<=q'.ptr:=by
 induction h with
 |@sp q q' r g _ ih=>rw[ak]at ih;omega
 |@bar q c g hc hd=>have:=jH z g hc;omega
 |@nl q q' c r g hc hd hr ih=>have:=jH z g hc;omega
 |stop=>exact aaj _
def w5.after{b:List Nat}(z:ZB b){q q':P4}{n:Nat}{r:Option (List<|List Nat)}(hr:w5 b (fwd b n q) r q'):q.ptr+n<=q'.ptr:=by
 cases hr with
 |flat e _ _=>rw[ak,ak];exact aah ..
 |bar e _ c _=>
  have g:=kK e
  have:=jH z (q:=fwd b _<|fwd b n q) (by rw[ak];rwa[List.length_replicate]at g) c
  rw[ak,ak]at this
  omega
 |brk e _ cc _ br=>
  have g:=kK e
  have:=jH z (q:=fwd b _<|fwd b n q) (by rw[ak];rwa[List.length_replicate]at g) cc
  rw[ak,ak]at this
  have h2:=Br.le z br
  omega
structure V3(cs sp:List<|List Nat)(n:Nat):Prop where
 l:cs.length+sp.length<=n
 c:((cs++sp).map List.length).sum<=n
def V3.more{cs sp r:List (List Nat)}{wd:List Nat}{n m:Nat}(h:V3 cs sp n)(n0:wd≠[])(l1:r.length+(n+wd.length)<=m)(l2:(r.map List.length).sum+(n+wd.length)<=m):V3 (cs++sp++[wd]) r m:=by
 have h1:=h.l
 have h2:=h.c
 have:wd.length≠0:=λe=>n0<|List.length_eq_zero_iff.mp e
 constructor
 ·simp only[List.length_append,List.length_singleton];omega
 ·simp only[List.map_append,List.sum_append,List.map_cons,List.map_nil,List.sum_cons,List.sum_nil]at h2⊢;omega
def Bj{p iC:Nat}{b:List Nat}{H0:MH}{s0:PS}{aa:List MV}{k:Option KS}{v2:MV}{Q:QF}{X:QX}(hC:H0.n<=iC)(ht0:s0.tA<H0.n)(hb:b.length<2000)(zb:ZB b){q q' qe:P4}{v:List Nat}(hp:yp b q v qe q'):
  ∀(s:PS) (H:MH) (cs sp:List<|List Nat) (iS:Nat) (v3 v6 v7:Option MV),SF p s0 H0 s H aa k->s.buf=b->s.pos=q->H.at_ iC=some (oS cs)->H.at_ iS=some (oS sp)->H0.n<=iS->V3 cs sp q.ptr->
  (∀s' H' v3 v5 v6 v7 cs',SF p s0 H0 s' H' aa k->Up H H'->s'.pos=q'->s'.done=s.done->gb H' v3 b qe->H'.at_ iC=some (oS cs')->cs'.flatten=(cs++sp).flatten++v->V3 cs' [] q'.ptr->Q .next [some<|.ref p,some<|.ref iC,some v2,some v3,some<|.int 0,some v5,some v6,some v7] H')->
  LP aX.fm 5 p W6 [some<|.ref p,some<|.ref iC,some v2,v3,some<|.int 0,some<|.ref iS,v6,v7] H Q X:=by
 have nt:∀{i},H0.n<=i->i≠s0.tA:=λh=>aav<|aas ht0 h
 have flat:∀(cs sp:List<|List Nat) (wd:List Nat),(cs++sp++[wd]).flatten=(cs++sp).flatten++wd:=λcs sp wd=>by rw[List.flatten_append,List.flatten_singleton]
 induction hp with
 |@stop q q' wd r hw hr hs=>
  intro s H cs sp iS v3 v6 v7 a eb eq LC LS hS F hq
  have es:w7 r (b.getD q'.ptr 0)=true:=by
   rcases hs with rfl|rfl|e
   ·rfl
   ·rfl
   ·rw[cZ e]
    cases r with
    |none=>rfl
    |some r=>cases r<;>rfl
  exact qc hC (nt hC) (nt hS) (by rw[eb];exact hb) (by rw[eb,eq];exact hw) (by rw[eb,eq];exact hr) a LC LS (by rw[eq];exact F.l) λs' H' v3 v5 v7 a' U' b' p' d' m' C' z'=>cT (by rw[eb];exact es)<|hq s' H' v3 v5 _ v7 _ a' U' p' d' (by rw[eb,eq]at m';exact m') C' (flat ..)<|F.more hw.ne (by rw[List.length_nil,Nat.zero_add];exact hr.after zb)<|by rw[List.map_nil,List.sum_nil,Nat.zero_add];exact hr.after zb
 |@eof q q' wd r hw hr hs g0=>
  intro s H cs sp iS v3 v6 v7 a eb eq LC LS hS F hq
  have es:w7 (some r) (b.getD q'.ptr 0)=false:=by
   rw[cZ g0]
   cases r with
   |nil=>exact aan rfl hs
   |cons _ _=>rfl
  refine qc hC (nt hC) (nt hS) (by rw[eb];exact hb) (by rw[eb,eq];exact hw) (by rw[eb,eq];exact hr) a LC LS (by rw[eq];exact F.l) λs' H' v3 v5 v7 a' U' b' p' d' m' C' z'=>cF (by rw[eb];exact es) ?_
  have g1:s'.buf[s'.pos.ptr]?=some 0:=by rw[b',eb,p'];exact g0
  have g2:s'.buf.drop (s'.pos.ptr+0)=[]++0::s'.buf.drop (s'.pos.ptr+1):=(List.drop_eq_getElem_cons (List.getElem?_eq_some_iff.mp g1).1).trans<|by rw[(List.getElem?_eq_some_iff.mp g1).2];rfl
  refine LW.turn (fs:=aM s') (λ_=>⟨a'.sc.obj,rfl⟩)<|aH a'.sc.R.obj g1<|w6 a'.sc.R.obj (c:=0) (by decide) [] 0 _ _ rfl g2 nofun<|Sz [some<|.ref p,some<|.ref iC,some v2,some v3,some<|.int 0,some v5,some<|.int 0,some<|.str [0]] rfl a'.sc.obj rfl ?_
  exact hq s' H' v3 v5 _ _ _ a' U' p' d' (by rw[eb,eq]at m';exact m') C' (flat ..)<|F.more hw.ne (by rw[List.length_nil,Nat.zero_add];exact hr.after zb)<|by rw[List.map_nil,List.sum_nil,Nat.zero_add];exact hr.after zb
 |@more q q1 q' qe wd v r hw hr hs hp ih=>
  intro s H cs sp iS v3 v6 v7 a eb eq LC LS hS F hq
  obtain⟨c,g,n35⟩:=hp.first
  have es:w7 (some r) (b.getD q1.ptr 0)=false:=by
   rw[cZ g]
   cases r with
   |nil=>exact aan rfl hs
   |cons _ _=>exact aad n35
  have hlt:=w5.size zb hr r rfl
  rw[ak]at hlt
  refine qc hC (nt hC) (nt hS) (by rw[eb];exact hb) (by rw[eb,eq];exact hw) (by rw[eb,eq];exact hr) a LC LS (by rw[eq];exact F.l) λs' H' v3 v5 v7 a' U' b' p' d' m' C' z'=>cF (by rw[eb];exact es) ?_
  obtain⟨i,rfl,hi,Li⟩:=z'
  refine ih s' H' (cs++sp++[wd]) r i _ _ _ a' (b'.trans eb) p' C' Li hi (F.more hw.ne hlt.1 hlt.2) λs2 H2 v3 v5 v6 v7 cs' a2 U2 p2 d2 m2 C2 e2 F2=>hq s2 H2 v3 v5 v6 v7 cs' a2 (U'.trans U2) p2 (d2.trans d') m2 C2 ?_ F2
  rw[e2,List.flatten_append,flat,List.append_assoc,List.append_assoc,List.append_assoc]
section
variable{n p:Nat}{H:MH}{s:PS}{aa:List MV}{k:Option KS}{v:List Nat}{qe q':P4}{Q:MV->Fs->MH->Prop}{X:MV->MH->Prop}
def vU(h:Sc p H s aa k)(hb:s.buf.length<2000)(hp:yp s.buf s.pos v qe q')
  (hq:∀H' s' u,SF p s H s' H' aa k->s'.pos=q'->s'.done=s.done->cj H' s.buf u ⟨.scalar v none,s.pos,qe⟩->Q u (aM s') H'):SC (n+6) 1243 p 1521 [] [] [] H Q X:=by
 have a1:=(SF.refl h).new<|.list []
 refine gU (lv:=5) aX rfl h.obj ⟨a1.sc.obj,fC a1 λH2 v2 a2 m2 u2=>?_⟩
 have L2:=u2.lst a1.sc (af (o:=.list []))<|aav h.PO
 have a3:=a2.new<|.list []
 have in1:s.indent+1=0:=by rw[h.ind];rfl
 refine⟨a3.sc.obj,LW.cast (show([some<|.ref p,some<|.ref H.n,some v2,some v2,some<|.int<|s.indent+1,some<|.ref H2.n,none,none]:Loc)=[some<|.ref p,some<|.ref H.n,some v2,some v2,some<|.int 0,some<|.ref H2.n,none,none]from by rw[in1])<|Bj (aaj _) h.PO hb h.R.z hp s _ [] [] H2.n _ _ _ a3 rfl rfl ((aL<|aae<|a2.sc.R.hw _ _ L2).trans L2) af a2.fr.kp.n ⟨Nat.zero_le _,Nat.zero_le _⟩ λs4 H4 v3 v5 v6 v7 cs a4 U4 p4 d4 m4 L4 e4 F4=>⟨a4.sc.obj,rfl,trivial,W2 L4 ⟨rfl,?_⟩⟩⟩
 have lt4:=a4.sc.R.lt
 rw[a4.fr.same.buf,p4]at lt4
 rw[qY]
 have F1:=F4.l
 have F2:=F4.c
 rw[List.append_nil]at F2
 refine⟨av (Nat.add_le_add F2 F1) (by have:dg=1000000:=rfl;rw[this];omega),Ja ⟨rfl,(a4.new _).sc.obj,?_⟩⟩
 rw[List.nil_append,List.flatten_nil,List.nil_append]at e4
 rw[e4]
 exact hq _ _ _ (a4.new _) p4 d4<|cj.new (t:=⟨.scalar v none,s.pos,qe⟩) a4.sc.R.hw (U4.mark<|m2.up a2.sc.R.hw) m4
def ve(h:Sc p H s aa k)(hb:s.buf.length<2000)(tl:aa.length<900)(hp:yp s.buf s.pos v qe q')
  (hq:∀H' s' u k',SF p s H s' H' (aa++[u]) k'->s'.pos=q'->s'.done=s.done->cj H' s.buf u ⟨.scalar v none,s.pos,qe⟩->Q .none (aM s') H'):SC (n+7) 1044 p 1521 [] [] [] H Q X:=
 gU (lv:=6) fL rfl h.obj (uZ (.refl h) λH1 k1 a1=>⟨rZ (a1.ask false).sc.R.tok,vU (a1.ask false).sc hb hp λH3 s3 v3 a3 p3 d3 t3=>
  a3.Nh tl (hq _ _ _ _ (((a1.ask false).then a3).ap tl v3) p3 d3<|(((SF.refl a3.sc).ap tl v3).up a3.sc).tok t3)⟩)
end
theorem qZ{ok:Nat->Bool}{b:List Nat}:∀(t:List Nat) (n:Nat) (q:P4) {c:Nat} {r:List Nat},b.drop q.ptr=t++c::r->(∀x∈t,ok x=true)->ok c=false->t.length<n->gD ok b n q=fwd b t.length q
 |[],n+1,q,c,r,h,a,hc,l=>by
  unfold gD
  rw[cZ<|bV h,hc];rfl
 |x::t,n+1,q,c,r,h,a,hc,l=>by
  unfold gD
  rw[cZ<|bV h,a x<|.head _,aam rfl]
  rw[qZ t n (fwd b 1 q) (c:=c) (r:=r) (by rw[ak];exact yj h) (λy m=>a y<|.tail _ m) hc (by simp only[List.length_cons]at l;omega),fh,List.length_cons,Nat.add_comm]
def uh{f:Fm}{lv p:Nat}{op:CmpOp}{l:List Nat}{ok:Nat->Bool}{Lc:Loc}{Q:QF}{X:QX}{H H0:MH}{s s0:PS}{aa:List MV}{k:Option KS}(a:SF p s0 H0 s H aa k)(hs:Lc[0]?=some (some<|.ref p))(hop:∀c H,gx op (.str [c]) (.str l) H=some (ok c))(h0:ok 0=false)
  {t r:List Nat}{c:Nat}(ht:s.buf.drop s.pos.ptr=t++c::r)(ha:∀x∈t,ok x=true)(hc:ok c=false)
  (hq:∀s' H',SF p s0 H0 s' H' aa k->s'.pos=fwd s.buf t.length s.pos->s'.done=s.done->SF p s H s' H' aa k->Q .next Lc H'):
  LW (zP f (lv+3) p) (.cmp op (.gJ (.loc 0) 55 .nil [] .nil)<|.str l) (.cons (.expr<|.gJ (.loc 0) 75 .nil [] .nil) .nil) .nil Lc H Q X:=by
 have lt:=wX ht
 refine lA hs hop h0 s.buf.length s H a.sc.R.obj a.sc.R.z a.sc.R.lt (aat ..) ?_
 rw[qZ t s.buf.length s.pos ht ha hc<|H8 (aat ..) lt]
 exact hq _ _ (a.fwd t.length lt) rfl rfl<|(SF.refl a.sc).fwd t.length lt
noncomputable abbrev iU:List Nat:=[0,32,13,10,133,8232,8233]
noncomputable abbrev oU:List Nat:=[0,13,10,133,8232,8233]
def Nn{d:Nat}(h1:48<=d)(h2:d<=57):PySem.intText? (aW [d])=some ((d-48:Nat):Int):=by
 exact(by decide+kernel:∀d,d<58->48<=d->PySem.intText? (aW [d])=some ((d-48:Nat):Int)) d (Nat.lt_succ_of_le h2) h1
def YO{A B:Prop}{a b c:Nat}(h:c<a∨b<c)(k:B):@Bool.rec (λ_=>Prop) B (@Bool.rec (λ_=>Prop) B A<|decide<|c<=b) (decide<|a<=c):=by
 rcases h with h|h
 ·exact dF (Nat.not_le.mpr h) k
 ·rw[aad<|Nat.not_le.mpr h]
  exact both k k
section
variable{n p:Nat}{H H0:MH}{s s0:PS}{aa:List MV}{k:Option KS}{d c x y:Nat}{r h:List Nat}{v u:MV}{Q:MV->Fs->MH->Prop}{X:MV->MH->Prop}
def oV(a:SF p s0 H0 s H aa k)(ht:s.buf.drop s.pos.ptr=d::c::r)(h1:48<=d)(h2:d<=57)(hc:c<48∨57<c)
  (hq:∀s' H',SF p s0 H0 s' H' aa k->s'.pos=fwd s.buf 1 s.pos->s'.done=s.done->SF p s H s' H' aa k->Q (.int ((d-48:Nat):Int)) (aM s') H'):SC (n+4) 1128 p 1521 [v] [] [] H Q X:=by
 have o:=a.sc.R.obj
 have e5:(s.buf.drop s.pos.ptr).take 1=[d]:=by rw[ht];rfl
 refine gU (lv:=3) bD rfl a.sc.obj<|aH o (bV ht)<|dT h1<|IM h2<|LW.turn (fs:=aM s) (λ_=>⟨o.obj,rfl⟩)<|cY (i:=0) o (bV ht)<|dT h1<|dT h2<|LW.turn (fs:=aM s) (λ_=>⟨o.obj,rfl⟩)<|cY (i:=1) o (kK (w:=[d]) ht)<|YO hc ⟨o.obj,rfl,cM (m:=1) o ?_⟩
 rw[e5]
 exact⟨(by decide:1<=600),pB (Nn h1 h2)<|jb (n:=1) a (wX (w:=[d]) ht) λs2 H2 a2 p2 d2 k2 u2=>hq _ _ a2 p2 d2 u2⟩
def vV(a:SF p s0 H0 s H aa k)(ht:s.buf.drop s.pos.ptr=32::x::46::y::c::r)(h1:48<=x/\x<=57)(h2:48<=y/\y<=57)(hc:c∈iU)
  (hq:∀s' H',SF p s0 H0 s' H' aa k->s'.pos=fwd s.buf 4 s.pos->s'.done=s.done->SF p s H s' H' aa k->Q (.tup [.int ((x-48:Nat):Int),.int ((y-48:Nat):Int)]) (aM s') H'):SC (n+5) 1121 p 1521 [v] [] [] H Q X:=by
 have hc':c<48∨57<c:=(by decide:∀c∈iU,c<48∨57<c) c hc
 refine gU (lv:=4) bI rfl a.sc.obj<|uh (ok:=oQ) (SF.refl a.sc) rfl (λc H=>cS c 32) rfl (t:=[32]) (c:=x) ht (by decide) (aad λe=>by rw[e]at h1;exact aan h1.1<|by decide) λs1 H1 a1 p1 d1 u1=>⟨a1.sc.obj,rfl,?_⟩
 have t1:s1.buf.drop s1.pos.ptr=x::46::y::c::r:=by rw[a1.fr.same.buf,p1,ak];exact yi (w:=[32]) ht
 refine oV a1 t1 h1.1 h1.2 (.inl<|by decide) λs2 H2 a2 p2 d2 u2=>?_
 have t2:s2.buf.drop s2.pos.ptr=46::y::c::r:=by rw[u2.fr.same.buf,p2,ak];exact yi (w:=[x]) t1
 refine aH a2.sc.R.obj (bV t2)<|lE a2 (wX (w:=[46]) t2) λs3 H3 a3 p3 d3 k3 u3=>?_
 have t3:s3.buf.drop s3.pos.ptr=y::c::r:=by rw[u3.fr.same.buf,p3,ak];exact yi (w:=[46]) t2
 refine oV a3 t3 h2.1 h2.2 hc' λs4 H4 a4 p4 d4 u4=>?_
 have t4:s4.buf.drop s4.pos.ptr=c::r:=by rw[u4.fr.same.buf,p4,ak];exact yi (w:=[y]) t3
 refine aH a4.sc.R.obj (bV t4)<|IM hc<|hq s4 H4 (a.then a4) ?_ (d4.trans<|d3.trans<|d2.trans d1) a4
 rw[p4,a3.fr.same.buf,p3,a2.fr.same.buf,p2,a1.fr.same.buf,p1,fh,fh,fh];rfl
noncomputable def TM(l:List Nat)(c:Nat):Bool:=(decide (48<=c)&&decide (c<=57))||(decide (65<=c)&&decide (c<=90))||(decide (97<=c)&&decide (c<=122))||decide (c∈l)
noncomputable abbrev zG:List Nat:=[45,59,47,63,58,64,38,61,43,36,44,95,46,33,126,42,39,40,41,91,93,37]
def vW(a:SF p s0 H0 s H aa k)(ht:s.buf.drop s.pos.ptr=h++32::r)(hh:h=[33]∨∃x,h=[33,x,33]/\jg x=true)
  (hq:∀s' H',SF p s0 H0 s' H' aa k->s'.pos=fwd s.buf h.length s.pos->s'.done=s.done->SF p s H s' H' aa k->Q (.str h) (aM s') H'):SC (n+4) 1257 p 1521 [u,v] [] [] H Q X:=by
 have o:=a.sc.R.obj
 have hk:=wY ht
 rcases hh with rfl|⟨x,rfl,hx⟩
 ·refine gU (lv:=3) cy rfl a.sc.obj<|aH o (bV ht)<|cY (i:=1) o (kK (w:=[33]) ht)<|cM (m:=1) o ?_
  rw[show(s.buf.drop s.pos.ptr).take 1=[33]from hk]
  exact jb (n:=1) a (wX (w:=[33]) ht) λs2 H2 a2 p2 d2 k2 u2=>hq _ _ a2 p2 d2 u2
 ·have n32:x≠32:=λe=>by rw[e]at hx;exact aan hx<|by decide
  refine gU (lv:=3) cy rfl a.sc.obj<|aH o (bV ht)<|cY (i:=1) o (kK (w:=[33]) ht)<|W3 n32<|yl o (by decide) (by decide) (by decide) (c:=33) (by decide) [x] 1 _ _ rfl rfl rfl rfl (kK (w:=[33]) ht) (yi (w:=[33]) ht) (λy m=>aaa.mp m▸hx)<|Sz [some<|.ref p,some u,some v,some<|.str [33],some<|.int 2,none] rfl o.obj rfl<|cM (m:=3) o ?_
  rw[show(s.buf.drop s.pos.ptr).take 3=[33,x,33]from hk]
  exact jb (n:=3) a (wX (w:=[33,x,33]) ht) λs2 H2 a2 p2 d2 k2 u2=>hq _ _ a2 p2 d2 u2
def q4(a:SF p s0 H0 s H aa k)(ht:s.buf.drop s.pos.ptr=h++32::r)(hh:h=[33]∨∃x,h=[33,x,33]/\jg x=true)
  (hq:∀s' H',SF p s0 H0 s' H' aa k->s'.pos=fwd s.buf h.length s.pos->s'.done=s.done->SF p s H s' H' aa k->Q (.str h) (aM s') H'):SC (n+5) 1142 p 1521 [v] [] [] H Q X:=
 gU (lv:=4) bJ rfl a.sc.obj (vW a ht hh λs2 H2 a2 p2 d2 u2=>aH a2.sc.R.obj (c:=32) (by rw[u2.fr.same.buf,p2,ak];exact kK ht)<|hq _ _ a2 p2 d2 u2)
end
def q6{ok:Nat->Bool}{b:List Nat}(n:Nat):∀q:P4,q.ptr=q.idx->(gD ok b n q).ptr=(gD ok b n q).idx:=by
 induction n with
 |zero=>intro q h;exact h
 |succ n ih=>
  intro q h
  unfold gD
  split
  ·exact ih _<|by rw[ak,qV,h]
  ·exact h
def w9{b:List Nat}{q:P4}(h:q.ptr=q.idx):(bw b q).ptr=(bw b q).idx:=by
 unfold bw
 split
 ·exact q6 _ _<|q6 _ _ h
 ·exact q6 _ _ h
def SF.wpos{p:Nat}{H H0:MH}{s s0:PS}{aa:List MV}{k:Option KS}(a:SF p s0 H0 s H aa k){q:P4}(l:q.ptr<s.buf.length)(pi:q.ptr=q.idx):SF p s0 H0 (s.wp q) (H.put p<|.inst 1521<|aM<|s.wp q) aa k:=
 a.then ⟨a.sc.nh ⟨rfl,rfl,rfl,rfl,rfl,rfl,rfl,rfl,rfl⟩ rfl l pi a.sc.ind,.nh ⟨rfl,rfl,rfl,rfl,rfl,rfl,rfl,rfl,rfl⟩ rfl,a.sc.R.hw⟩
section
variable{n p:Nat}{H H0:MH}{s s0:PS}{aa:List MV}{k:Option KS}{c x:Nat}{r h t:List Nat}{v u:MV}{Q:MV->Fs->MH->Prop}{X:MV->MH->Prop}
def Bl(a:SF p s0 H0 s H aa k)(ht:s.buf.drop s.pos.ptr=x::c::r)(hx:TM zG x=true)(hx':x≠37)(hc:c∈iU)
  (hq:∀s' H',SF p s0 H0 s' H' aa k->s'.pos=fwd s.buf 1 s.pos->s'.done=s.done->SF p s H s' H' aa k->Q (.str [x]) (aM s') H'):SC (n+4) 1264 p 1521 [u,v] [] [] H Q X:=by
 have a1:=(SF.refl a.sc).new<|.list []
 have L1:(H.new<|.list []).at_ H.n=some (.list []):=af
 have nt:H.n≠s.tA:=aav a.sc.PO
 have hc':TM zG c=false:=(by decide:∀y∈iU,TM zG y=false) c hc
 have o:=a1.sc.R.obj
 have a2:=a1.putL L1 (aaj _) nt [.str [x]]
 refine gU (lv:=3) fz rfl a.sc.obj ⟨o.obj,cY (i:=0) o (bV ht)<|LW.turn (fs:=aM s) (λ_=>⟨o.obj,rfl⟩)<|yk (l:=zG) (j:=5) rfl<|cT hx<|sF hx'<|cY (i:=1) o (kK (w:=[x]) ht)<|LW.turn (fs:=aM s) (λ_=>⟨o.obj,rfl⟩)<|yk (l:=zG) (j:=5) rfl<|cF hc' ⟨o.obj,rfl,rZ L1,cM (m:=1) o ?_⟩⟩
 rw[show(s.buf.drop s.pos.ptr).take 1=[x] by rw[ht];rfl]
 exact A7 L1 ⟨by decide,a2.sc.obj,jb (n:=1) a2 (wX (w:=[x]) ht) λs3 H3 a3 p3 d3 k3 u3=>uL (u3.lst a2.sc au nt) ⟨trivial,VZ (u3.lst a2.sc au nt) (by decide:1<dg)<|hq _ _ (a.then a3) p3 d3 a3⟩⟩
def q7(a:SF p s0 H0 s H aa k)(ht:s.buf.drop s.pos.ptr=x::c::r)(hx:TM zG x=true)(hx':x≠37)(hc:c∈iU)
  (hq:∀s' H',SF p s0 H0 s' H' aa k->s'.pos=fwd s.buf 1 s.pos->s'.done=s.done->SF p s H s' H' aa k->Q (.str [x]) (aM s') H'):SC (n+5) 1149 p 1521 [v] [] [] H Q X:=
 gU (lv:=4) bK rfl a.sc.obj (Bl a ht hx hx' hc λs2 H2 a2 p2 d2 u2=>aH a2.sc.R.obj (c:=c) (by rw[u2.fr.same.buf,p2,ak];exact kK (w:=[x]) ht)<|IM hc<|hq _ _ a2 p2 d2 u2)
def yq(a:SF p s0 H0 s H aa k)(ht:s.buf.drop s.pos.ptr=32::(h++32::x::c::r))(hh:h=[33]∨∃x,h=[33,x,33]/\jg x=true)(hx:TM zG x=true)(hx':x≠37)(hx2:x≠32)(hc:c∈iU)
  (hq:∀s' H',SF p s0 H0 s' H' aa k->s'.pos=fwd s.buf (h.length+3) s.pos->s'.done=s.done->SF p s H s' H' aa k->Q (.tup [.str h,.str [x]]) (aM s') H'):SC (n+6) 1135 p 1521 [v] [] [] H Q X:=by
 obtain⟨t,eh⟩:∃t,h=33::t:=by rcases hh with rfl|⟨x,rfl,_⟩<;>exact⟨_,rfl⟩
 refine gU (lv:=5) bU rfl a.sc.obj<|uh (ok:=oQ) (SF.refl a.sc) rfl (λc H=>cS c 32) rfl (t:=[32]) (c:=33) (r:=t++32::x::c::r) (by rw[ht,eh];rfl) (by decide) (by decide) λs1 H1 a1 p1 d1 u1=>⟨a1.sc.obj,rfl,?_⟩
 have t1:s1.buf.drop s1.pos.ptr=h++32::x::c::r:=by rw[a1.fr.same.buf,p1,ak];exact yi (w:=[32]) ht
 refine q4 a1 t1 hh λs2 H2 a2 p2 d2 u2=>?_
 have t2:s2.buf.drop s2.pos.ptr=32::x::c::r:=by rw[u2.fr.same.buf,p2,ak];exact yi t1
 refine uh (ok:=oQ) a2 rfl (λc H=>cS c 32) rfl (t:=[32]) t2 (by decide) (aad hx2) λs3 H3 a3 p3 d3 u3=>⟨a3.sc.obj,rfl,?_⟩
 have t3:s3.buf.drop s3.pos.ptr=x::c::r:=by rw[u3.fr.same.buf,p3,ak];exact yi (w:=[32]) t2
 refine q7 a3 t3 hx hx' hc λs4 H4 a4 p4 d4 u4=>hq s4 H4 (a.then a4) ?_ (d4.trans<|d3.trans<|d2.trans d1) a4
 rw[p4,a3.fr.same.buf,p3,a2.fr.same.buf,p2,a1.fr.same.buf,p1,fh,fh,fh]
 congr 1;simp only[List.length_singleton];omega
def Bm(a:SF p s0 H0 s H aa k)(hc:s.buf.getD (bw s.buf s.pos).ptr 0∈oU)
  (hq:∀s' H',SF p s0 H0 s' H' aa k->s'.pos=(gc s.buf<|bw s.buf s.pos).1->s'.done=s.done->SF p s H s' H' aa k->Q .none (aM s') H'):SC (n+5) 1156 p 1521 [v] [] [] H Q X:=by
 have z:=a.sc.R.z
 have l1:=oM (ok:=oQ) z rfl s.buf.length s.pos a.sc.R.lt
 have l2:=(lB z a.sc.R.lt).1
 have a1:=(SF.refl a.sc).wpos l1<|q6 _ _ a.sc.R.pi
 have a2:=(SF.refl a.sc).wpos l2<|w9 a.sc.R.pi
 have K:∀H1,H1=H.put p (.inst 1521<|aM<|s.wp<|bw s.buf s.pos)->run 398 (Ae aJ.fm 4 1521 p Q X) [fX aJ.ib 2] ⟨[],[some<|.ref p,some v,none],[],aM<|s.wp<|bw s.buf s.pos,H1⟩:=λH1 e=>by
  subst e
  exact aH a2.sc.R.obj (f9 l2)<|IM hc<|ug a2 λs3 H3 a3 p3 d3 u3=>hq _ _ (a.then a3) p3 d3 a3
 refine gU (lv:=4) aJ rfl a.sc.obj<|lA (ok:=oQ) rfl (λc H=>cS c 32) rfl s.buf.length s H a.sc.R.obj z a.sc.R.lt (aat ..) ⟨au,rfl,aH a1.sc.R.obj (f9 l1) ?_⟩
 unfold bw at K
 by_cases b1:s.buf.getD (gD oQ s.buf s.buf.length s.pos).ptr 0=35
 ·rw[aam b1]at K
  exact sT b1<|lA (ok:=g5) rfl (λc H=>rfl) rfl s.buf.length _ _ a1.sc.R.obj z l1 (aat ..) ⟨au,rfl,K _ fP⟩
 ·rw[aal b1]at K
  exact sF b1<|K _ rfl
def zH(a:SF p s0 H0 s H aa k)(ht:s.buf.drop s.pos.ptr=t++c::r)(hn:t≠[])(ha:∀x∈t,jg x=true)(hc:c∈iU)
  (hq:∀s' H',SF p s0 H0 s' H' aa k->s'.pos=fwd s.buf t.length s.pos->s'.done=s.done->SF p s H s' H' aa k->Q (.str t) (aM s') H'):SC (n+4) 1114 p 1521 [v] [] [] H Q X:=by
 have o:=a.sc.R.obj
 obtain⟨x,g⟩:∃x,s.buf[s.pos.ptr+0]?=some x:=⟨_,List.getElem?_eq_getElem<|H8 (aah _ _)<|wX ht⟩
 refine gU (lv:=3) cH rfl a.sc.obj<|cY (i:=0) o g<|yl o (by decide) (by decide) (by decide) ((by decide:∀x∈iU,jg x=false) c hc) t 0 _ _ rfl rfl rfl rfl g ht ha<|Sz [some<|.ref p,some v,some<|.int t.length,some<|.str [c],none] (by rw[Nat.zero_add];rfl) o.obj rfl<|nF (YH λe=>hn<|List.length_eq_zero_iff.mp e)<|cM o ?_
 rw[wY ht]
 exact jb a (wX ht) λs3 H3 a3 p3 d3 k3 u3=>aH a3.sc.R.obj (c:=c) (by rw[u3.fr.same.buf,p3,ak];exact kK ht)<|IM hc<|hq _ _ a3 p3 d3 u3
end
inductive Dir(b:List Nat)(q:P4):DV->P4->P4->Prop
 |mG {x y c:Nat} {r:List Nat}:b.drop q.ptr=37::89::65::77::76::32::x::46::y::c::r->48<=x/\x<=57->48<=y/\y<=57->c∈iU->Dir b q (.mG (x-48)<|y-48) (fwd b 9 q) (fwd b 9 q)
 |tag {h r:List Nat} {x c:Nat}:b.drop q.ptr=37::84::65::71::32::(h++32::x::c::r)->(h=[33]∨∃x,h=[33,x,33]/\jg x=true)->TM zG x=true->x≠37->x≠32->c∈iU->Dir b q (.tag h [x]) (fwd b (h.length+7) q) (fwd b (h.length+7) q)
 |other {n t r:List Nat} {c:Nat}:b.drop q.ptr=37::(n++32::(t++c::r))->n≠[]->(∀x∈n,jg x=true)->n≠[89,65,77,76]->n≠[84,65,71]->(∀x∈t,g5 x=true)->g5 c=false->Dir b q (.other n) (fwd b (n.length+1) q) (fwd b (n.length+2+t.length) q)
abbrev V4:IS:=aR.ib
section
variable{n p c:Nat}{H:MH}{s:PS}{aa:List MV}{k:Option KS}{d:DV}{e m:P4}{t r:List Nat}{Q:MV->Fs->MH->Prop}{X:MV->MH->Prop}
def r7(h:Sc p H s aa k)(ht:s.buf.drop s.pos.ptr=37::(t++c::r))(hn:t≠[])(ha:∀x∈t,jg x=true)(hc:c∈iU)
  (K:∀s3 H3 v1,SF p s H s3 H3 aa k->s3.buf=s.buf->s3.pos=fwd s.buf (t.length+1) s.pos->s3.done=s.done->gb H3 v1 s.buf s.pos->run 397 (Ae aR.fm 6 1521 p Q X) [fX V4 3] ⟨[(2,.str t),(1,v1)],bW aR.ns [.ref p],[],aM s3,H3⟩):SC (n+7) 1107 p 1521 [] [] [] H Q X:=by
 refine gU (lv:=6) aR rfl h.obj<|fC (.refl h) λH1 v1 a1 m1 u1=>lE a1 ?_ λs2 H2 a2 p2 d2 k2 u2=>zH a2 (by rw[a2.fr.same.buf,p2,ak];exact yj ht) hn ha hc λs3 H3 a3 p3 d3 u3=>K s3 H3 v1 a3 a3.fr.same.buf (by rw[p3,a2.fr.same.buf,p2,fh,Nat.add_comm]) (d3.trans d2)<|(u3.up a2.sc).mark<|(u2.up a1.sc).mark m1
 have:=wX (w:=37::t) ht
 simp only[List.length_cons]at this
 omega
def vf{s4:PS}{H4:MH}{v1 v5:MV}{A:Fs}{L:Loc}(hc:s.buf.getD (bw s.buf m).ptr 0∈oU)(a4:SF p s H s4 H4 aa k)(p4:s4.pos=m)(d4:s4.done=s.done)(m1:gb H4 v1 s.buf s.pos)(m5:gb H4 v5 s.buf e)
  (hq:∀H' s' u,SF p s H s' H' aa k->s'.pos=(gc s.buf<|bw s.buf m).1->s'.done=s.done->cj H' s.buf u ⟨.dir d,s.pos,e⟩->Q u (aM s') H')
  (e1:Sg.lv ⟨A,L,[],aM s4,H4⟩ 1=some (some v1))(e2:Sg.lv ⟨A,L,[],aM s4,H4⟩ 2=some (some<|.str d.name))(e3:Sg.lv ⟨A,L,[],aM s4,H4⟩ 3=some (some d.val))(e4:Sg.lv ⟨A,L,[],aM s4,H4⟩ 4=some (some v5)):
  run 394 (Ae aR.fm 6 1521 p Q X) [fX V4 5] ⟨A,L,[],aM s4,H4⟩:=by
 have b4:s4.buf=s.buf:=a4.fr.same.buf
 refine qX e1<|Bm a4 (by rw[b4,p4];exact hc) λs5 H5 a5 p5 d5 u5=>qX e2<|qX e3<|qX e1<|qX e4<|I9 ⟨rfl,(a5.new _).sc.obj,?_⟩
 rw[b4,p4]at p5
 exact hq _ _ _ (a5.new _) p5 (d5.trans d4)<|cj.new (t:=⟨.dir d,s.pos,e⟩) a5.sc.R.hw ((u5.up a4.sc).mark m1)<|(u5.up a4.sc).mark m5
def q8(h:Sc p H s aa k)(hd:Dir s.buf s.pos d e m)(hc:s.buf.getD (bw s.buf m).ptr 0∈oU)
  (hq:∀H' s' u,SF p s H s' H' aa k->s'.pos=(gc s.buf<|bw s.buf m).1->s'.done=s.done->cj H' s.buf u ⟨.dir d,s.pos,e⟩->Q u (aM s') H'):SC (n+7) 1107 p 1521 [] [] [] H Q X:=by
 cases hd with
 |@mG x y c0 r0 hh h1 h2 h3=>
  refine r7 (t:=[89,65,77,76]) h hh (by decide) (by decide) (c:=32) (by decide) λs3 H3 v1 a3 b3 p3 d3 m1=>vV a3 (by rw[b3,p3,ak];exact yi (w:=[37,89,65,77,76]) hh) h1 h2 h3 λs4 H4 a4 p4 d4 u4=>fC a4 λH5 v5 a5 m5 u5=>?_
  have e4:s4.pos=fwd s.buf 9 s.pos:=by rw[p4,b3,p3,fh];rfl
  rw[a4.fr.same.buf,e4]at m5
  exact vf hc a5 e4 (d4.trans d3) ((u5.up a4.sc).mark<|(u4.up a3.sc).mark m1) m5 hq rfl rfl rfl rfl
 |@tag h0 r0 x c0 hh h1 h2 h3 h4 h5=>
  refine r7 (t:=[84,65,71]) h hh (by decide) (by decide) (c:=32) (by decide) λs3 H3 v1 a3 b3 p3 d3 m1=>yq a3 (by rw[b3,p3,ak];exact yi (w:=[37,84,65,71]) hh) h1 h2 h3 h4 h5 λs4 H4 a4 p4 d4 u4=>fC a4 λH5 v5 a5 m5 u5=>?_
  have e4:s4.pos=fwd s.buf (h0.length+7) s.pos:=by rw[p4,b3,p3,fh];congr 1;simp only[List.length_cons,List.length_nil];omega
  rw[a4.fr.same.buf,e4]at m5
  exact vf hc a5 e4 (d4.trans d3) ((u5.up a4.sc).mark<|(u4.up a3.sc).mark m1) m5 hq rfl rfl rfl rfl
 |@other t0 t r0 c0 hh h1 h2 h3 h4 h5 h6=>
  refine r7 (t:=t0) h hh h1 h2 (c:=32) (by decide) λs3 H3 v1 a3 b3 p3 d3 m1=>zA h3<|zA h4<|fC a3 λH4 v4 a4 m4 u4=>uh (ok:=g5) a4 rfl (λc H=>rfl) rfl (t:=32::t) (r:=r0) (by rw[b3,p3,ak];exact yi (w:=37::t0) hh) (λx m=>by rcases aab.mp m with rfl|m;rfl;exact h5 x m) h6 λs5 H5 a5 p5 d5 u5=>⟨a5.sc.obj,rfl,?_⟩
  rw[b3,p3]at m4
  exact vf hc a5 (by rw[p5,b3,p3,fh];congr 1;simp only[List.length_cons];omega) (d5.trans d3) ((u5.up a4.sc).mark<|(u4.up a3.sc).mark m1) ((u5.up a4.sc).mark m4) hq rfl rfl rfl rfl
def qd(h:Sc p H s aa k)(tl:aa.length<900)(hd:Dir s.buf s.pos d e m)(hc:s.buf.getD (bw s.buf m).ptr 0∈oU)
  (hq:∀H' s' u k',SF p s H s' H' (aa++[u]) k'->s'.pos=(gc s.buf<|bw s.buf m).1->s'.done=s.done->cj H' s.buf u ⟨.dir d,s.pos,e⟩->Q .none (aM s') H'):SC (n+8) 883 p 1521 [] [] [] H Q X:=
 gU (lv:=7) dI rfl h.obj (mH h (by decide) (yg (.refl h) λH1 a1=>⟨rZ (a1.ask false).sc.R.tok,q8 (a1.ask false).sc hd hc λH3 s3 v3 a3 p3 d3 t3=>
  a3.Nh tl (hq _ _ _ _ (((a1.ask false).then a3).ap tl v3) p3 d3<|(((SF.refl a3.sc).ap tl v3).up a3.sc).tok t3)⟩))
end
def Bo(b:List Nat):∀(n:Nat) (q:P4) (x y:Bool),(dh b n q x).1=(dh b n q y).1
 |0,q,x,y=>rfl
 |n+1,q,x,y=>by
  unfold dh
  split
  ·rfl
  ·rfl
def tR(b:List Nat)(q:P4):P4:=(dh b b.length q true).1
theorem xd{b:List Nat}(z:ZB b):∀(n:Nat) (q:P4) (x:Bool),q.ptr<b.length->q.ptr=q.idx->(dh b n q x).1.ptr<b.length/\(dh b n q x).1.ptr=(dh b n q x).1.idx
 |0,q,x,l,e=>⟨l,e⟩
 |n+1,q,x,l,e=>by
  have f:=ig z (lB z l).1
  have i:=DP b (bw b q)<|w9 e
  unfold dh
  split
  ·exact⟨f.1,i⟩
  ·exact xd z n _ true f.1 i
inductive xe(b:List Nat)(q:P4):Tok->P4->Bool->Prop
 |stop:b[q.ptr]?=some 0->xe b q ⟨.send,q,q⟩ q true
 |dir {d:DV} {e m:P4}:q.col=0->Dir b q d e m->b.getD (bw b m).ptr 0∈oU->xe b q ⟨.dir d,q,e⟩ (gc b<|bw b m).1 false
 |dH:bE 45 b q=true->xe b q ⟨.dH,q,fwd b 3 q⟩ (fwd b 3 q) false
 |jG:bE 46 b q=true->xe b q ⟨.jG,q,fwd b 3 q⟩ (fwd b 3 q) false
 |alias {t r:List Nat} {c:Nat}:b.drop q.ptr=42::(t++c::r)->t≠[]->(∀x∈t,jg x=true)->c∈wZ->xe b q ⟨.alias t,q,fwd b (1+t.length) q⟩ (fwd b (1+t.length) q) false
 |quoted {t r:List Nat} {c d:Nat}:b.drop q.ptr=c::(t++c::d::r)->t≠[]->(∀x∈t,x∉ym)->(c=39∨c=34)->d≠39->xe b q ⟨.scalar t<|some [c],q,fwd b (t.length+2) q⟩ (fwd b (t.length+2) q) false
 |plain {v:List Nat} {e q':P4} {c:Nat}:b[q.ptr]?=some c->c∉[63,58]->iH c (b.getD (q.ptr+1) 0)=true->bE 45 b q=false->bE 46 b q=false->yp b q v e q'->xe b q ⟨.scalar v none,q,e⟩ q' false
def um{b:List Nat}(z:ZB b){q:P4}{c:Nat}(h:bE c b q=true)(n:c≠0):b[q.ptr]?=some c/\q.ptr+3<b.length:=by
 unfold bE at h
 simp only[Bool.and_eq_true,decide_eq_true_eq]at h
 have t:=take3 h.1.2
 exact⟨t.1,by have:=lz z t.2.2 n;omega⟩
def Dir.first{b:List Nat}{q e m:P4}{d:DV}(h:Dir b q d e m):b[q.ptr]?=some 37:=by
 cases h with
 |mG e _ _ _=>exact bV e
 |tag e _ _ _ _ _=>exact bV e
 |other e _ _ _ _ _ _=>exact bV e
section
variable{n p:Nat}{H H0:MH}{s s0:PS}{aa:List MV}{k:Option KS}{t:Tok}{q':P4}{dn:Bool}{Q:MV->Fs->MH->Prop}{X:MV->MH->Prop}
def Jh(a:SF p s0 H0 s H aa k)(nb:∀x∈s.buf,x≠65279)
  (hq:∀s' H',SF p s0 H0 s' H' aa k->s'.pos=tR s.buf s.pos->s'.done=s.done->SF p s H s' H' aa k->Q .none (aM s') H'):SC (n+5) 1100 p 1521 [] [] [] H Q X:=by
 refine Bc a.sc.R.obj a.sc.R.z a.sc.R.lt (nb _<|List.mem_of_getElem?<|f9 a.sc.R.lt) ?_
 have ok:=xd a.sc.R.z s.buf.length s.pos s.ask a.sc.R.lt a.sc.R.pi
 have b:SF p s H ((s.wp (dh s.buf s.buf.length s.pos s.ask).1).wa (dh s.buf s.buf.length s.pos s.ask).2) (H.put p<|.inst 1521<|aM<|(s.wp (dh s.buf s.buf.length s.pos s.ask).1).wa (dh s.buf s.buf.length s.pos s.ask).2) aa k:=
  ⟨a.sc.nh ⟨rfl,rfl,rfl,rfl,rfl,rfl,rfl,rfl,rfl⟩ rfl ok.1 ok.2 a.sc.ind,.nh ⟨rfl,rfl,rfl,rfl,rfl,rfl,rfl,rfl,rfl⟩ rfl,a.sc.R.hw⟩
 exact hq _ _ (a.then b) (Bo _ _ _ _ _) rfl b
def Bp(h:Sc p H s aa k)(nb:∀x∈s.buf,x≠65279)
  (K:∀s1 H1 k1,SF p s H s1 H1 aa k1->s1.buf=s.buf->s1.pos=tR s.buf s.pos->s1.done=s.done->run 397 (Ae aT.fm 8 1521 p Q X) [fX aT.ib 3] ⟨[],bW aT.ns [.ref p],[],aM s1,H1⟩):SC (n+9) 820 p 1521 [] [] [] H Q X:=
 gU (lv:=8) aT rfl h.obj (Jh (.refl h) nb λs1 H1 a1 p1 d1 u1=>E3 a1 λH2 a2=>mH a2.sc (Int.le_trans (by decide:(-1:Int)<=0)<|Int.natCast_nonneg _)<|K s1 H2 _ a2 a2.fr.same.buf p1 d1)
def vX(h:Sc p H s aa k)(tl:aa.length<900)(hb:s.buf.length<2000)(nb:∀x∈s.buf,x≠65279)(ha:xe s.buf (tR s.buf s.pos) t q' dn)(hd:s.done=false)
  (hq:∀H' s' u k',SF p s H s' H' (aa++[u]) k'->s'.pos=q'->s'.done=dn->cj H' s.buf u t->Q .none (aM s') H'):SC (n+9) 820 p 1521 [] [] [] H Q X:=by
 refine Bp h nb λs1 H1 k1 a b p d=>?_
 have ha:xe s1.buf s1.pos t q' dn:=by rw[b,p];exact ha
 have hq:∀H' s' u k',SF _ s1 H1 s' H' (aa++[u]) k'->s'.pos=q'->s'.done=dn->cj H' s1.buf u t->Q .none (aM s') H':=λH' s' u k' a' e1 e2 e3=>hq _ _ _ _ (a.then a') e1 e2<|b▸e3
 have hb:s1.buf.length<2000:=b▸hb
 have hd:s1.done=false:=d.trans hd
 clear nb b p d
 cases ha with
 |stop g=>exact aH (c:=0) a.sc.R.obj g<|pK a.sc tl λH' s' v k' a' p' d' t'=>hq _ _ _ _ a' p' d' t'
 |dir hc Np hm=>exact aH (c:=37) a.sc.R.obj Np.first<|qb a.sc.R.obj<|tY<|dT hc<|qd a.sc tl Np hm λH' s' v k' a' p' d' t'=>hq _ _ _ _ a' p' (d'.trans hd) t'
 |dH hm=>exact aH a.sc.R.obj (um a.sc.R.z hm<|by decide).1<|ie a.sc.R.obj a.sc.R.z<|tY<|cT hm<|u0 a.sc (um a.sc.R.z hm<|by decide).2 tl λH' s' v k' a' p' d' t'=>hq _ _ _ _ a' p' (d'.trans hd) t'
 |jG hm=>exact aH a.sc.R.obj (um a.sc.R.z hm<|by decide).1<|iT a.sc.R.obj a.sc.R.z<|tY<|cT hm<|yh a.sc (um a.sc.R.z hm<|by decide).2 tl λH' s' v k' a' p' d' t'=>hq _ _ _ _ a' p' (d'.trans hd) t'
 |alias ht hn hal hc=>exact aH (c:=42) a.sc.R.obj (bV ht)<|vc a.sc tl ht hn hal hc λH' s' v k' a' p' d' t'=>hq _ _ _ _ a' p' (d'.trans hd) t'
 |@quoted t r c d ht hn hal hc hd'=>
  refine aH (c:=c) a.sc.R.obj (bV ht) ?_
  rcases hc with rfl|rfl
  ·exact tO a.sc tl ht hn hal hd' λH' s' v k' a' p' d' t'=>hq _ _ _ _ a' p' (d'.trans hd) t'
  ·exact tP a.sc tl ht hn hal hd' λH' s' v k' a' p' d' t'=>hq _ _ _ _ a' p' (d'.trans hd) t'
 |@plain v e q' c g h1 h2 h3 h4 hp=>
  have n0:c≠0:=λe=>by
   rw[e,iH,show(decide (0=45)||decide (0∈[63,58]))=false from rfl,Bool.and_false]at h2
   cases h2
  have l1:=lz a.sc.R.z g n0
  have F:∀{m:Nat},SC (m+7) 1044 _ 1521 [] [] [] H1 Q X:=ve a.sc hb tl hp λH' s' v k' a' p' d' t'=>hq _ _ _ _ a' p' (d'.trans hd) t'
  have P:iH (s1.buf.getD s1.pos.ptr 0) (s1.buf.getD (s1.pos.ptr+1) 0)=true:=by rw[cZ g];exact h2
  refine aH a.sc.R.obj g ?_
  by_cases c45:c=45
  ·subst c45
   have hw:s1.buf.getD (s1.pos.ptr+1) 0∉pD:=λm=>by
    rw[iH,aag m]at h2
    cases h2
   exact ie a.sc.R.obj a.sc.R.z<|tY<|cF h3<|oK a.sc.R.obj l1<|dF hw<|jF a.sc.R.obj l1<|cT P F
  ·by_cases c46:c=46
   ·subst c46
    exact iT a.sc.R.obj a.sc.R.z<|tY<|cF h4<|jF a.sc.R.obj l1<|cT P F
   ·have hL:∀x∈TJ,c≠x:=λx m e=>by
     rw[<-e]at m
     rw[iH,aag m,aad c45,aad h1,Bool.or_false,Bool.and_false]at h2
     cases h2
    exact sF (hL _<|by decide)<|sF (hL _<|by decide)<|sF c45<|sF c46<|sF (hL _<|by decide)<|sF (hL _<|by decide)<|sF (hL _<|by decide)<|sF (hL _<|by decide)<|sF (hL _<|by decide)<|sF c45<|sF (hL _<|by decide)<|sF (hL _<|by decide)<|sF (hL _<|by decide)<|sF (hL _<|by decide)<|sF (hL _<|by decide)<|sF (hL _<|by decide)<|sF (hL _<|by decide)<|sF (hL _<|by decide)<|sF (hL _<|by decide)<|jF a.sc.R.obj l1<|cT P F
end
inductive fU(b:List Nat):P4->Bool->List Tok->Prop
 |nil {q:P4}:fU b q true []
 |cons {q q':P4} {t:Tok} {dn:Bool} {r:List Tok}:xe b (tR b q) t q' dn->fU b q' dn r->fU b q false (t::r)
inductive jh{α β:Type}(R:α->β->Prop):List α->List β->Prop
 |nil:jh R [] []
 |cons {a:α} {b:β} {l:List α} {m:List β}:R a b->jh R l m->jh R (a::l) (b::m)
def jh.imp{α β:Type}{R S:α->β->Prop}(h:∀a b,R a b->S a b){l:List α}{m:List β}(k:jh R l m):jh S l m:=by
 induction k with
 |nil=>exact .nil
 |cons a _ ih=>exact .cons (h _ _ a) ih
def jh.snoc{α β:Type}{R:α->β->Prop}{a:α}{b:β}(h:R a b){l:List α}{m:List β}(k:jh R l m):jh R (l++[a]) (m++[b]):=by
 induction k with
 |nil=>exact .cons h .nil
 |cons a _ ih=>exact .cons a ih
def jh.len{α β:Type}{R:α->β->Prop}{l:List α}{m:List β}(k:jh R l m):l.length=m.length:=by
 induction k with
 |nil=>rfl
 |cons _ _ ih=>exact aac Nat.succ ih
def Ready(s:PS)(aa:List MV)(k:Option KS):Prop:=s.done=true∨(aa≠[]/\match stale s.pos k with|some ks=>ks.tn≠s.taken|none=>True)
def zI(q:P4)(k:Option KS):stale q (stale q k)=stale q k:=by
 cases k with
 |none=>rfl
 |some k=>
  have e:stale q (some k)=if k.line≠q.line∨(1024:Int)<(q.idx:Int)-k.idx then none else some k:=rfl
  by_cases h:k.line≠q.line∨(1024:Int)<(q.idx:Int)-k.idx
  ·rw[e,aam h];rfl
  ·rw[e,aal h];exact e.trans<|aal h
noncomputable def TK.cl:TK->Nat
 |.di=>179|.send=>191|.dir _=>135|.dH=>147|.jG=>159|.alias _=>342|.scalar _ _=>400
noncomputable def TK.ids:TK->List Nat
 |.di=>[60,115,116,114,101,97,109,32,115,116,97,114,116,62]
 |.send=>[60,115,116,114,101,97,109,32,101,110,100,62]
 |.dir _=>[60,100,105,114,101,99,116,105,118,101,62]
 |.dH=>[60,100,111,99,117,109,101,110,116,32,115,116,97,114,116,62]
 |.jG=>[60,100,111,99,117,109,101,110,116,32,101,110,100,62]
 |.alias _=>[60,97,108,105,97,115,62]
 |.scalar _ _=>[60,115,99,97,108,97,114,62]
def TK.fs:TK->MV->MV->List (Nat×MV)
 |.di,m1,m2=>[(31,m1),(32,m2),(8,.none)]
 |.send,m1,m2=>[(31,m1),(32,m2)]
 |.dir d,m1,m2=>[(0,.str d.name),(33,d.val),(31,m1),(32,m2)]
 |.dH,m1,m2=>[(31,m1),(32,m2)]
 |.jG,m1,m2=>[(31,m1),(32,m2)]
 |.alias v,m1,m2=>[(33,.str v),(31,m1),(32,m2)]
 |.scalar v st,m1,m2=>[(33,.str v),(34,.bool st.isNone),(31,m1),(32,m2),(35,TL st)]
def iI(k:TK)(m1 m2:MV):uY k m1 m2=.inst k.cl (k.fs m1 m2):=by cases k<;>rfl
def zJ(k:TK)(m1 m2:MV):(k.fs m1 m2).lookup 31=some m1:=by cases k<;>rfl
def PT(k:TK)(m1 m2:MV):(k.fs m1 m2).lookup 32=some m2:=by cases k<;>rfl
def PU(k:TK)(m1 m2:MV):(k.fs m1 m2).lookup 50=none:=by cases k<;>rfl
def PW(k:TK):find3 RV k.cl 50=some (.str k.ids):=by cases k<;>rfl
structure TS(p:Nat)(H:MH)(s:PS)(aa:List MV)(k:Option KS)(ts:List Tok):Prop where
 sc:Sc p H s aa k
 ex:∃qs r,jh (cj H s.buf) aa qs/\ts=qs++r/\fU s.buf s.pos s.done r
 len:ts.length<900
 hb:s.buf.length<2000
 nb:∀x∈s.buf,x≠65279
def fU.inv{b:List Nat}{q:P4}{dn:Bool}{t:Tok}{r:List Tok}(h:fU b q dn<|t::r):dn=false/\∃q' Ji,xe b (tR b q) t q' Ji/\fU b q' Ji r:=by
 cases h with
 |cons a r=>exact⟨rfl,_,_,a,r⟩
def fU.fin{b:List Nat}{q:P4}{dn:Bool}(h:fU b q dn []):dn=true:=by
 cases h;rfl
noncomputable abbrev Bq:IE:=.gJ (.loc 0) 48 .nil [] .nil
noncomputable abbrev Bs:IS:=.cons (.expr<|.gJ (.loc 0) 49 .nil [] .nil) .nil
def xh{f:Fm}{p:Nat}{H0:MH}{s0:PS}{Lc:Loc}{Q:QF}{X:QX}(hL:Lc[0]?=some (some<|.ref p))(hb:s0.buf.length<2000)(nb:∀x∈s0.buf,x≠65279)(ts:List Tok)(len:ts.length<900)
  (hq:∀s' H' ah k',SF p s0 H0 s' H' ah k'->TS p H' s' ah k' ts->Ready s' ah k'->Q .next Lc H')(r:List Tok):∀(s:PS) (H:MH) (aa:List MV) (k:Option KS) (qs:List Tok),SF p s0 H0 s H aa k->jh (cj H s0.buf) aa qs->ts=qs++r->fU s0.buf s.pos s.done r->
  LW (zP f 9 p) Bq Bs .nil Lc H Q X:=by
 have mk:∀{s H aa k qs r},SF p s0 H0 s H aa k->jh (cj H s0.buf) aa qs->ts=qs++r->fU s0.buf s.pos s.done r->TS p H s aa k ts:=λ{s _ _ _ qs r} a hall e hs=>⟨a.sc,⟨qs,r,by rw[a.fr.same.buf];exact hall,e,by rw[a.fr.same.buf];exact hs⟩,len,by rw[a.fr.same.buf];exact hb,by rw[a.fr.same.buf];exact nb⟩
 induction r with
 |nil=>
  intro s H aa k qs a hall e hs
  have ff:s.done=false->False:=λh=>nomatch h.symm.trans hs.fin
  exact LW.turn (fs:=aM s) (λ_=>⟨a.sc.obj,hL⟩)<|mE a.sc.R a.sc.req (λ_=>hq s H aa k a (mk a hall e hs)<|.inl hs.fin) (λh=>(ff h).elim) λh=>(ff h).elim
 |cons t r ih=>
  intro s H aa k qs a hall e hs
  obtain⟨hd,q',dn,hat,hr⟩:=hs.inv
  have tl:aa.length<900:=by
   have:=aac List.length e
   rw[List.length_append]at this
   rw[hall.len];omega
  have more:∀H1 k1,SF p s0 H0 s H1 aa k1->jh (cj H1 s0.buf) aa qs->run 400 ⟨zP f 9 p,IK (zP f 9 p) Bq Bs .nil Q X,X⟩ [Bs] ⟨[],Lc,[],aM s,H1⟩:=λH1 k1 a1 DR=>by
   refine vX a1.sc tl (by rw[a1.fr.same.buf];exact hb) (by rw[a1.fr.same.buf];exact nb) (by rw[a1.fr.same.buf];exact hat) hd λH2 s2 u k2 a2 p2 d2 t2=>?_
   rw[a1.fr.same.buf]at t2
   exact ih s2 H2 (aa++[u]) k2 (qs++[t]) (a1.then a2) ((DR.imp λv t=>(a2.up a1.sc).tok).snoc t2) (by rw[e,List.append_assoc];rfl)<|by rw[p2,d2];exact hr
  refine LW.turn (fs:=aM s) (λ_=>⟨a.sc.obj,hL⟩)<|mE a.sc.R a.sc.req (λh=>nomatch h.symm.trans hd) (λ_ _=>more H k a hall) λ_ hn H1 R1 K1=>tY ?_
  have a1:SF p s0 H0 s H1 aa (stale s.pos k):=a.then ⟨a.sc.keep R1<|rY a.sc.req,⟨K1,.refl,.inl rfl⟩,a.sc.R.hw⟩
  have DR:jh (cj H1 s0.buf) aa qs:=hall.imp λv t=>(Fr.up a.sc ⟨K1,.refl,.inl rfl⟩).tok
  have stop:(match stale s.pos k with|some ks=>ks.tn≠s.taken|none=>True)->Q .next Lc H1:=λhz=>hq s H1 aa _ a1 (mk a1 DR e hs)<|.inr ⟨hn,by rw[zI];exact hz⟩
  have more:=more H1 _ a1 DR
  cases hk:stale s.pos k with
  |none=>
   rw[hk]at stop
   exact stop trivial
  |some ks=>
   rw[hk]at stop
   by_cases hz:ks.tn=s.taken
   ·exact dT hz more
   ·exact dF hz<|stop hz
def TS.head{p:Nat}{H:MH}{s:PS}{aa:List MV}{k:Option KS}{t:Tok}{ts:List Tok}(T:TS p H s aa k<|t::ts)(r:Ready s aa k):∃v vs qs r,aa=v::vs/\cj H s.buf v t/\jh (cj H s.buf) vs qs/\ts=qs++r/\fU s.buf s.pos s.done r:=by
 obtain⟨qs,r',hall,e,hs⟩:=T.ex
 cases hall with
 |nil=>
  rcases r with h|h
  ·rw[h]at hs;cases hs;cases e
  ·exact aan rfl h.1
 |cons a b=>
  cases e
  exact⟨_,_,_,_,rfl,a,b,rfl,hs⟩
def Nq(k:List Nat)(cs:List<|List Nat):cs.any (λx=>x==k)=decide (k∈cs):=by
 induction cs with
 |nil=>rfl
 |cons c cs ih=>
  rw[List.any_cons,ih,show(c==k)=decide (c=k)from by by_cases h:c=k<;>simp[h]]
  by_cases h:c=k
  ·subst h;rw[aag rfl,aag<|show c∈c::cs from .head _];rfl
  ·rw[aad h,Bool.false_or]
   by_cases m:k∈cs
   ·rw[aag m,aag<|.tail _ m]
   ·rw[aad m,aad (λz=>by rcases aab.mp z with e|e;exact h e.symm;exact m e)]
def V5{k:List Nat}{cs:List (List Nat)}{H:MH}:gx .In (.str k) (.tup<|cs.map .str) H=some (decide<|k∈cs):=by
 show(iz<|cs.map .str).map (λys=>ys.any (·==k))=_
 rw[qY,Option.map_some,Nq]
section
variable{n p:Nat}{H H0 H':MH}{s s0 s':PS}{aa:List MV}{k:Option KS}{t:Tok}{ts:List Tok}{cs:List (List Nat)}{Q:MV->Fs->MH->Prop}{X:MV->MH->Prop}
def aK(a:SF p s0 H0 s H aa k)(T:TS p H s aa k<|t::ts)(hc:cs≠[])(hl:cs.length<100)
  (hq:∀s' H' ah k',SF p s0 H0 s' H' ah k'->TS p H' s' ah k' (t::ts)->Ready s' ah k'->SF p s H s' H' ah k'->Q (.bool<|decide<|t.k.ids∈cs) (aM s') H'):SC (n+10) 792 p 1521 [.tup<|cs.map .str] [] [] H Q X:=by
 obtain⟨qs,r,hall,e,hs⟩:=T.ex
 have ne:(cs.map MV.str).isEmpty=false:=by cases cs with|nil=>exact aan rfl hc|cons _ _=>rfl
 refine wR (lv:=9) cu rfl kH a.sc.obj<|xh rfl T.hb T.nb (t::ts) T.len (λs1 H1 jI k1 a1 T1 R1=>?_) r s H aa k qs (SF.refl a.sc) hall e hs
 obtain⟨v,vs,qs1,r1,rfl,@⟨_,i,m1,m2,_,_,ho⟩,-,-,-⟩:=T1.head R1
 rw[iI]at ho
 have K:∀b,decide (t.k.ids∈cs)=b->Q (.bool b) (aM s1) H1:=λb e=>e▸hq s1 H1 _ k1 (a.then a1) T1 R1 a1
 refine⟨a1.sc.obj,rfl,uL a1.sc.R.tok ⟨by rw[List.length_map];exact aar hl (by decide),cF (by rw[ne];rfl)<|Vx (n:=0) a1.sc.R.tok rfl<|aC ho (PU ..) (PW _)<|pB V5 ?_⟩⟩
 by_cases hm:t.k.ids∈cs
 ·exact dT hm<|K _<|aag hm
 ·exact dF hm<|K _<|aad hm
def eU(a:SF p s0 H0 s H aa k)(T:TS p H s aa k<|t::ts)
  (hq:∀s' H' ah k' v,SF p s0 H0 s' H' ah k'->TS p H' s' ah k' (t::ts)->Ready s' ah k'->SF p s H s' H' ah k'->cj H' s.buf v t->Q v (aM s') H'):SC (n+10) 799 p 1521 [] [] [] H Q X:=by
 obtain⟨qs,r,hall,e,hs⟩:=T.ex
 refine gU (lv:=9) f6 rfl a.sc.obj<|xh rfl T.hb T.nb (t::ts) T.len (λs1 H1 jI k1 a1 T1 R1=>?_) r s H aa k qs (SF.refl a.sc) hall e hs
 obtain⟨v,vs,qs1,r1,rfl,ht,-,-,-⟩:=T1.head R1
 rw[a1.fr.same.buf]at ht
 exact⟨a1.sc.obj,rfl,uL a1.sc.R.tok<|Vx (n:=0) a1.sc.R.tok rfl<|hq s1 H1 _ k1 v (a.then a1) T1 R1 a1 ht⟩
def SF.take(a:SF p s H s' H' aa k):SF p s H (s'.wk<|s'.taken+1) (H'.put p<|.inst 1521<|aM<|s'.wk<|s'.taken+1) aa k:=
 a.then ⟨a.sc.nh ⟨rfl,rfl,rfl,rfl,rfl,rfl,rfl,rfl,rfl⟩ rfl a.sc.R.lt a.sc.R.pi a.sc.ind,.nh ⟨rfl,rfl,rfl,rfl,rfl,rfl,rfl,rfl,rfl⟩ rfl,a.sc.R.hw⟩
def SF.Z8(a:SF p s H s' H' aa k){vs:List MV}(l:vs.length<1000):SF p s H s' (H'.put s'.tA<|.list vs) vs k:=a.then ⟨a.sc.Bd l,.Bd,a.sc.R.hw⟩
def Bt{f:Fm}{Lc:Loc}{Q:QF}{X:QX}{b:IS}(hL:Lc[0]?=some (some<|.ref p))(a:SF p s0 H0 s H aa k)(T:TS p H s aa k ts)(R:Ready s aa k)
  (hq:∀H' k',SF p s0 H0 s H' aa k'->TS p H' s aa k' ts->SF p s H s H' aa k'->Q .next Lc H'):LW (zP f 9 p) Bq b .nil Lc H Q X:=by
 have nd:s.done=false->aa≠[]/\match stale s.pos k with|some ks=>ks.tn≠s.taken|none=>True:=λh=>R.elim (λe=>nomatch h.symm.trans e) id
 refine LW.turn (fs:=aM s) (λ_=>⟨a.sc.obj,hL⟩)<|mE a.sc.R a.sc.req (λ_=>hq H k a T<|SF.refl a.sc) (λh e=>aan e (nd h).1) λhd hn H1 R1 K1=>tY ?_
 have b1:SF p s H s H1 aa (stale s.pos k):=⟨a.sc.keep R1<|rY a.sc.req,⟨K1,.refl,.inl rfl⟩,a.sc.R.hw⟩
 obtain⟨qs,r,hall,e,hs⟩:=T.ex
 have fin:=hq H1 _ (a.then b1) ⟨b1.sc,⟨qs,r,hall.imp λv t=>(b1.up a.sc).tok,e,hs⟩,T.len,T.hb,T.nb⟩ b1
 have hz:=(nd hd).2
 cases hk:stale s.pos k with
 |none=>exact fin
 |some ks=>rw[hk]at hz;exact dF hz fin
def eE(a:SF p s0 H0 s H aa k)(T:TS p H s aa k<|t::ts)(R:Ready s aa k)
  (hq:∀s' H' ah k' v,SF p s0 H0 s' H' ah k'->TS p H' s' ah k' ts->SF p s H s' H' ah k'->cj H' s.buf v t->Q v (aM s') H'):SC (n+10) 806 p 1521 [] [] [] H Q X:=by
 obtain⟨v,vs,-,-,rfl,-⟩:=T.head R
 refine gU (lv:=9) gh rfl a.sc.obj<|Bt rfl (SF.refl a.sc) T R λH1 k1 a1 T1 _=>?_
 have l:vs.length<1000:=Nat.lt_of_succ_lt a1.sc.R.uV
 have a3:=a1.take.Z8 l
 refine⟨a1.sc.obj,rfl,uL a1.sc.R.tok ⟨rZ a1.take.sc.R.tok,Yt a1.take.sc.R.tok ⟨a3.sc.obj,?_⟩⟩⟩
 have u:Up H1 _:=(((SF.refl a1.sc).take).up a1.sc).trans<|((SF.refl a1.take.sc).Z8 l).up a1.take.sc
 obtain⟨qs,r,hall,e,hs⟩:=T1.ex
 cases hall with
 |cons ht hall=>
  cases e
  exact hq _ _ vs k1 v (a.then a3) ⟨a3.sc,⟨_,r,hall.imp λv t=>u.tok,rfl,hs⟩,Nat.lt_of_succ_lt T.len,T.hb,T.nb⟩ a3<|u.tok ht
end
set_option genCtorIdx false in
inductive EK where
 |di
 |send
 |dH (ex:Bool) (Nr:Option<|Nat×Nat) (tags:Option<|List<|List Nat×List Nat)
 |jG (ex:Bool)
 |alias (v:List Nat)
 |scalar (v:List Nat) (pl:Bool) (st:Option<|List Nat)
structure vM where
 k:EK
 a:P4
 z:P4
noncomputable def tS:Option (Nat×Nat)->MV
 |none=>.none
 |some (a,b)=>.tup [.int a,.int b]
noncomputable def mU(es:List<|List Nat×List Nat):MO:=.aF<|es.map λe=>(e.1,.str e.2)
def fQ(H:MH)(v:MV):Option (List<|List Nat×List Nat)->Prop
 |none=>v=.none
 |some es=>∃d,v=.ref d/\H.at_ d=some (mU es)
def lG:EK->MV->MV->MV->MO
 |.di,m1,m2,_=>.inst 501 [(31,m1),(32,m2),(8,.none)]
 |.send,m1,m2,_=>.inst 513 [(31,m1),(32,m2)]
 |.dH ex Nr _,m1,m2,tv=>.inst 533 [(31,m1),(32,m2),(37,.bool ex),(38,tS Nr),(39,tv)]
 |.jG ex,m1,m2,_=>.inst 553 [(31,m1),(32,m2),(37,.bool ex)]
 |.alias v,m1,m2,_=>.inst 565 [(36,.str v),(31,m1),(32,m2)]
 |.scalar v pl st,m1,m2,_=>.inst 585 [(36,.none),(40,.none),(41,.tup [.bool pl,.bool !pl]),(33,.str v),(31,m1),(32,m2),(35,TL st)]
noncomputable def EK.tags:EK->Option (List<|List Nat×List Nat)
 |.dH _ _ t=>t
 |_=>none
def jn(H:MH)(b:List Nat)(v:MV)(e:vM):Prop:=∃i m1 m2 tv,v=.ref i/\gb H m1 b e.a/\gb H m2 b e.z/\fQ H tv e.k.tags/\H.at_ i=some (lG e.k m1 m2 tv)
def fQ.new{H:MH}{v:MV}{t:Option (List<|List Nat×List Nat)}{o:MO}(h:fQ H v t)(hw:HW H):fQ (H.new o) v t:=by
 cases t with
 |none=>exact h
 |some es=>
  obtain⟨d,rfl,e⟩:=h
  exact⟨d,rfl,by rw[aL<|aae<|hw _ _ e];exact e⟩
def jn.new{H:MH}{b:List Nat}{e:vM}{m1 m2 tv:MV}(hw:HW H)(h1:gb H m1 b e.a)(h2:gb H m2 b e.z)(h3:fQ H tv e.k.tags):jn (H.new<|lG e.k m1 m2 tv) b (.ref H.n) e:=⟨_,m1,m2,tv,rfl,h1.up hw,h2.up hw,h3.new hw,af⟩
def vg(H H':MH):Prop:=∀d es,H.at_ d=some (.aF es)->H'.at_ d=some (.aF es)
def vg.putL{H:MH}{i:Nat}{xs:List MV}{o:MO}(h:H.at_ i=some (.list xs)):vg H (H.put i o):=λd es e=>by
 rw[ao];exact e
 rintro rfl;rw[h]at e;cases e
def jn.up{H H':MH}{b:List Nat}{v:MV}{e:vM}(h:jn H b v e)(u:Up H H')(d:vg H H'):jn H' b v e:=by
 obtain⟨i,m1,m2,tv,rfl,h1,h2,h3,h4⟩:=h
 refine⟨i,m1,m2,tv,rfl,u.mark h1,u.mark h2,?_,?_⟩
 ·cases ht:e.k.tags with
  |none=>rw[ht]at h3;exact h3
  |some es=>rw[ht]at h3;obtain⟨x,rfl,hx⟩:=h3;exact⟨x,rfl,d _ _ hx⟩
 ·obtain⟨k,a,z⟩:=e
  cases k<;>exact u _ _ _ h4<|by decide
noncomputable abbrev Jj(p:Nat)(s:PS):List Nat:=[p,s.tA,s.cg,s.oE]
structure PG(p:Nat)(s0:PS)(H0:MH)(s:PS)(H:MH)(aa:List MV)(k:Option KS)(ts:List Tok)(sts:List MV):Prop where
 T:TS p H s aa k ts
 st:H.at_ s.oE=some (.list sts)
 rI:H.at_ s.tK=some (.list [])
 n1:s.oE≠s.tA
 n2:s.tK≠s.tA
 n3:s.tK≠s.oE
 kp:jx (Jj p s0) H0 H
 up:Up H0 H
 e1:s.buf=s0.buf
 e2:s.tA=s0.tA
 e3:s.oE=s0.oE
 e4:s.tK=s0.tK
 kA:s.cg=s0.cg∨H0.n<=s.cg
 hw:HW H0
section
variable{p:Nat}{s0 s s':PS}{H0 H H':MH}{aa ah:List MV}{k k':Option KS}{ts ts':List Tok}{sts:List MV}
def PG.sf(G:PG p s0 H0 s H aa k ts sts):SF p s H s H aa k:=SF.refl G.T.sc
def PG.xj(G:PG p s0 H0 s H aa k ts sts):HW H:=G.T.sc.R.hw
def DT{xs:List MV}{i:Nat}(h:Sc p H s aa k)(e:H.at_ i=some (.list xs))(ne:i≠s.tA):i∉tM p s:=λm=>by
 simp only[tM,aab,List.not_mem_nil,or_false]at m
 rcases m with m|m|m
 ·subst m;rw[h.obj]at e;cases e
 ·exact ne m
 ·obtain⟨es,ee⟩:=h.R.jU;subst m;rw[ee]at e;cases e
def PG.step(G:PG p s0 H0 s H aa k ts sts)(a:SF p s H s' H' ah k')(T:TS p H' s' ah k' ts'):PG p s0 H0 s' H' ah k' ts' sts where
 T:=T
 st:=by rw[a.fr.same.oE];exact a.fr.kp.at_ _ _ G.st (DT G.T.sc G.st G.n1)
 rI:=by rw[a.fr.same.tK];exact a.fr.kp.at_ _ _ G.rI (DT G.T.sc G.rI G.n2)
 n1:=by rw[a.fr.same.oE,a.fr.same.tA];exact G.n1
 n2:=by rw[a.fr.same.tK,a.fr.same.tA];exact G.n2
 n3:=by rw[a.fr.same.tK,a.fr.same.oE];exact G.n3
 kp:=G.kp.fresh G.hw a.fr.kp λx m=>by
  simp only[Jj,tM,aab,List.not_mem_nil,or_false]at m⊢
  rcases m with m|m|m
  ·exact .inl<|.inl m
  ·exact .inl<|.inr<|.inl<|m.trans G.e2
  ·rcases G.kA with h|h
   ·exact .inl<|.inr<|.inr<|.inl<|m.trans h
   ·exact .inr (by rw[m];exact h)
 up:=G.up.trans (a.up G.T.sc)
 e1:=a.fr.same.buf.trans G.e1
 e2:=a.fr.same.tA.trans G.e2
 e3:=a.fr.same.oE.trans G.e3
 e4:=a.fr.same.tK.trans G.e4
 kA:=by
  rcases a.fr.kA with h|h
  ·rw[h];exact G.kA
  ·exact .inr (av G.kp.n h)
 hw:=G.hw
def TS.up{H':MH}(T:TS p H s aa k ts)(sc:Sc p H' s aa k)(u:Up H H'):TS p H' s aa k ts:=by
 obtain⟨qs,r,hall,e,hs⟩:=T.ex
 exact⟨sc,⟨qs,r,hall.imp λv t=>u.tok,e,hs⟩,T.len,T.hb,T.nb⟩
def Up.new{H:MH}{o:MO}(hw:HW H):Up H (H.new o):=λa c fs e _=>by rw[aL<|aae<|hw _ _ e];exact e
def PG.new(G:PG p s0 H0 s H aa k ts sts)(o:MO):PG p s0 H0 s (H.new o) aa k ts sts where
 T:=G.T.up G.T.sc.new (.new G.xj)
 st:=by rw[aL<|aae<|G.xj _ _ G.st];exact G.st
 rI:=by rw[aL<|aae<|G.xj _ _ G.rI];exact G.rI
 n1:=G.n1
 n2:=G.n2
 n3:=G.n3
 kp:=G.kp.trans (.new G.xj)
 up:=G.up.trans (.new G.xj)
 e1:=G.e1
 e2:=G.e2
 e3:=G.e3
 e4:=G.e4
 kA:=G.kA
 hw:=G.hw
structure W7(s s':PS):Prop where
 buf:s'.buf=s.buf
 pos:s'.pos=s.pos
 done:s'.done=s.done
 tA:s'.tA=s.tA
 indent:s'.indent=s.indent
 cg:s'.cg=s.cg
 oE:s'.oE=s.oE
 tK:s'.tK=s.tK
def DU{xs:List MV}{i:Nat}{o:MO}(h:H.at_ p=some (.inst 1521<|aM s))(e:H.at_ i=some (.list xs)):(H.put p o).at_ i=some (.list xs):=(ao λq=>by rw[q,h]at e;cases e).trans e
def Up.self{o:MO}(h:H.at_ p=some (.inst 1521<|aM s)):Up H (H.put p o):=λa c fs e n=>(ao λq=>by rw[q,h]at e;cases e;exact n rfl).trans e
def vg.self{o:MO}(h:H.at_ p=some (.inst 1521<|aM s)):vg H (H.put p o):=λd es e=>(ao λq=>by rw[q,h]at e;cases e).trans e
def PG.fld(G:PG p s0 H0 s H aa k ts sts)(e:W7 s s'):PG p s0 H0 s' (H.put p<|.inst 1521<|aM s') aa k ts sts:=by
 have sc:Sc p (H.put p<|.inst 1521<|aM s') s' aa k:=⟨G.T.sc.R.nh e.buf e.tA e.cg (by rw[e.pos];exact G.T.sc.R.lt) (by rw[e.pos];exact G.T.sc.R.pi),e.indent.trans G.T.sc.ind,G.T.sc.req⟩
 have u:Up H (H.put p<|.inst 1521<|aM s'):=.self G.T.sc.obj
 obtain⟨qs,r,hall,e',hs⟩:=G.T.ex
 exact⟨⟨sc,⟨qs,r,by rw[e.buf];exact hall.imp λv t=>u.tok,e',by rw[e.buf,e.pos,e.done];exact hs⟩,G.T.len,by rw[e.buf];exact G.T.hb,by rw[e.buf];exact G.T.nb⟩,by rw[e.oE];exact DU G.T.sc.obj G.st,by rw[e.tK];exact DU G.T.sc.obj G.rI,by rw[e.oE,e.tA];exact G.n1,by rw[e.tK,e.tA];exact G.n2,by rw[e.tK,e.oE];exact G.n3,G.kp.trans<|.put<|.head _,G.up.trans u,e.buf.trans G.e1,e.tA.trans G.e2,e.oE.trans G.e3,e.tK.trans G.e4,by rw[e.cg];exact G.kA,G.hw⟩
def PG.stk(G:PG p s0 H0 s H aa k ts sts)(kN:List MV):PG p s0 H0 s (H.put s.oE<|.list kN) aa k ts kN:=
 ⟨G.T.up ⟨G.T.sc.R.putL G.st G.n1,G.T.sc.ind,G.T.sc.req⟩<|.putL G.st,au,(ao G.n3).trans G.rI,G.n1,G.n2,G.n3,G.kp.trans (.put<|by rw[G.e3];simp),G.up.trans<|.putL G.st,G.e1,G.e2,G.e3,G.e4,G.kA,G.hw⟩
def PG.obj(G:PG p s0 H0 s H aa k ts sts):H.at_ p=some (.inst 1521<|aM s):=G.T.sc.obj
end
def Z9:3<=dg:=aai<|by rfl
def YQ:4<=dg:=aai<|by rfl
noncomputable abbrev gv:List Nat:=[60,100,105,114,101,99,116,105,118,101,62]
noncomputable abbrev aZ:List Nat:=[60,100,111,99,117,109,101,110,116,32,115,116,97,114,116,62]
noncomputable abbrev eZ:List Nat:=[60,100,111,99,117,109,101,110,116,32,101,110,100,62]
noncomputable abbrev ck:List Nat:=[60,115,116,114,101,97,109,32,101,110,100,62]
noncomputable abbrev Bu:List Nat:=[60,97,108,105,97,115,62]
noncomputable abbrev Nt:List Nat:=[60,97,110,99,104,111,114,62]
noncomputable abbrev YR:List Nat:=[60,116,97,103,62]
noncomputable abbrev Nu:List Nat:=[60,115,99,97,108,97,114,62]
section
variable{n p:Nat}{H H0:MH}{s s0:PS}{aa:List MV}{k:Option KS}{t:Tok}{ts:List Tok}{sts:List MV}{Q:MV->Fs->MH->Prop}{X:MV->MH->Prop}
def Jk{m:MV}(G:PG p s0 H0 s H aa k ts sts)(hq:Q (.ref H.n) (aM s)<|H.new<|lG (.scalar [] true none) m m .none):SC (n+3) 1518 p 1521 [m] [] [] H Q X:=
 gU (lv:=2) cJ rfl G.obj (Je ⟨rfl,(G.new _).obj,hq⟩)
def PG.W8(G:PG p s0 H0 s H aa k ts sts){s':PS}{e:vM}{b:List Nat}{m1 m2 tv:MV}(f:W7 s s')(h1:gb H m1 b e.a)(h2:gb H m2 b e.z)(h3:fQ H tv e.k.tags):PG p s0 H0 s' ((H.new<|lG e.k m1 m2 tv).put p<|.inst 1521<|aM s') aa k ts sts/\jn ((H.new<|lG e.k m1 m2 tv).put p<|.inst 1521<|aM s') b (.ref H.n) e:=
 ⟨(G.new _).fld f,(jn.new G.xj h1 h2 h3).up (.self (G.new _).obj)<|.self (G.new _).obj⟩
def W7.q{v:MV}:W7 s (s.wq v):=⟨rfl,rfl,rfl,rfl,rfl,rfl,rfl,rfl⟩
def tT(G:PG p s0 H0 s H aa k (t::ts) sts)(R:Ready s aa k)(ht:t.k=.di)
  (hq:∀s' H' ah k' v,PG p s0 H0 s' H' ah k' ts sts->s'.state=.fj 1347 p->jn H' s.buf v ⟨.di,t.a,t.z⟩->Q v (aM s') H'):SC (n+11) 1340 p 1521 [] [] [] H Q X:=by
 refine gU (lv:=10) c8 rfl G.obj<|eE G.sf G.T R λs1 H1 jI k1 v1 a1 T1 b1 t1=>?_
 have G1:=G.step a1 T1
 obtain @⟨_,i,m1,m2,h1,h2,ho⟩:=t1
 rw[ht]at ho
 have E:=G1.W8 (e:=⟨.di,t.a,t.z⟩) (.q (v:=.fj 1347 p)) h1 h2 rfl
 exact aO ho rfl<|aO ho rfl<|aO ho rfl<|qT ⟨rfl,(G1.new _).obj,hq _ _ _ _ _ E.1 rfl E.2⟩
def mV(G:PG p s0 H0 s H aa k (t::ts) sts)
  (hq:∀s' H' ah k' v,PG p s0 H0 s' H' ah k' (if t.k.ids=eZ then ts else t::ts) sts->s'.state=.fj 1354 p->jn H' s.buf v ⟨.jG<|decide<|t.k.ids=eZ,t.a,if t.k.ids=eZ then t.z else t.a⟩->Q v (aM s') H'):SC (n+11) 1361 p 1521 [] [] [] H Q X:=by
 refine gU (lv:=10) c9 rfl G.obj<|eU G.sf G.T λs1 H1 jI k1 v1 a1 T1 R1 b1 t1=>?_
 have G1:=G.step a1 T1
 obtain @⟨_,i,m1,m2,h1,h2,ho⟩:=t1
 rw[iI]at ho
 refine aO ho (zJ ..)<|aK (cs:=[eZ]) G1.sf T1 nofun (by decide) λs2 H2 iJ k2 a2 T2 R2 b2=>?_
 have G2:=G1.step a2 T2
 have eb:s2.buf=s.buf:=b2.fr.same.buf.trans b1.fr.same.buf
 have h1:=(b2.up T1.sc).mark h1
 by_cases he:t.k.ids=eZ
 ·rw[aam he,aam he,aag he]at hq
  refine dT (aaa.mpr he)<|eE G2.sf T2 R2 λs3 H3 Jl k3 v3 a3 T3 b3 t3=>?_
  have G3:=G2.step a3 T3
  obtain @⟨_,j,m3,m4,h3,h4,ho⟩:=t3
  rw[iI]at ho
  rw[eb]at h4
  have E:=G3.W8 (e:=⟨.jG true,t.a,t.z⟩) (.q (v:=.fj 1354 p)) ((b3.up T2.sc).mark h1) h4 rfl
  exact aO ho (PT ..)<|jV ⟨rfl,(G3.new _).obj,hq _ _ _ _ _ E.1 rfl E.2⟩
 ·rw[aal he,aal he,aad he]at hq
  have E:=G2.W8 (e:=⟨.jG false,t.a,t.a⟩) (.q (v:=.fj 1354 p)) h1 h1 rfl
  exact dF (λm=>he<|aaa.mp m)<|jV ⟨rfl,(G2.new _).obj,hq _ _ _ _ _ E.1 rfl E.2⟩
end
noncomputable def q9:TK->Option EK
 |.alias v=>some<|.alias v
 |.scalar v st=>some<|.scalar v st.isNone st
 |_=>none
section
variable{n p:Nat}{H H0:MH}{s s0:PS}{aa:List MV}{k:Option KS}{a z:P4}{v:List Nat}{ts:List Tok}{sts:List MV}{st:MV}{Q:MV->Fs->MH->Prop}{X:MV->MH->Prop}
def PG.pop(G:PG p s0 H0 s H aa k ts<|sts++[st]){e:vM}{b:List Nat}{m1 m2 tv:MV}(h1:gb H m1 b e.a)(h2:gb H m2 b e.z)(h3:fQ H tv e.k.tags):((H.new<|lG e.k m1 m2 tv).put s.oE<|.list sts).at_ p=some (.inst 1521<|aM s)/\PG p s0 H0 (s.wq st) (((H.new<|lG e.k m1 m2 tv).put s.oE<|.list sts).put p<|.inst 1521<|aM<|s.wq st) aa k ts sts/\jn (((H.new<|lG e.k m1 m2 tv).put s.oE<|.list sts).put p<|.inst 1521<|aM<|s.wq st) b (.ref H.n) e:=
 have G1:=(G.new<|lG e.k m1 m2 tv).stk sts
 ⟨G1.obj,G1.fld .q,((jn.new G.xj h1 h2 h3).up (.putL (G.new _).st)<|.putL (G.new _).st).up (.self G1.obj)<|.self G1.obj⟩
def Bv(G:PG p s0 H0 s H aa k (⟨.alias v,a,z⟩::ts)<|sts++[st])
  (hq:∀s' H' ah k' u,PG p s0 H0 s' H' ah k' ts sts->s'.state=st->jn H' s.buf u ⟨.alias v,a,z⟩->Q u (aM s') H'):SC (n+11) 1404 p 1521 [] [q "block"] [.bool true] H Q X:=by
 refine wR (lv:=10) bX rfl fW G.obj<|aK (cs:=[Bu]) G.sf G.T nofun (by decide) λs1 H1 jI k1 a1 T1 R1 b1=>?_
 refine(eE (G.step a1 T1).sf T1 R1 λs2 H2 iJ k2 v2 a2 T2 b2 t2=>?_)
 have G2:=(G.step a1 T1).step a2 T2
 obtain @⟨_,i,m1,m2,h1,h2,ho⟩:=t2
 rw[b1.fr.same.buf]at h1 h2
 have E:=G2.pop (e:=⟨.alias v,a,z⟩) h1 h2 rfl
 exact aO ho rfl<|aO ho rfl<|aO ho rfl<|Jd ⟨rfl,(G2.new _).obj,rZ (G2.new _).st,MJ (G2.new _).st ⟨E.1,hq _ _ _ _ _ E.2.1 rfl E.2.2⟩⟩
def zK{y:Option (List Nat)}(G:PG p s0 H0 s H aa k (⟨.scalar v y,a,z⟩::ts)<|sts++[st])
  (hq:∀s' H' ah k' u,PG p s0 H0 s' H' ah k' ts sts->s'.state=st->jn H' s.buf u ⟨.scalar v y.isNone y,a,z⟩->Q u (aM s') H'):SC (n+11) 1404 p 1521 [] [q "block"] [.bool true] H Q X:=by
 refine wR (lv:=10) bX rfl fW G.obj<|aK (cs:=[Bu]) G.sf G.T nofun (by decide) λs1 H1 jI k1 a1 T1 R1 b1=>?_
 refine(aK (cs:=[Nt]) (SF.refl T1.sc) T1 nofun (by decide) λs2 H2 iJ k2 a2 T2 R2 b2=>?_)
 refine(aK (cs:=[YR]) (SF.refl T2.sc) T2 nofun (by decide) λs3 H3 Jl k3 a3 T3 R3 b3=>?_)
 refine(eU (SF.refl T3.sc) T3 λs4 H4 Jm k4 v4 a4 T4 R4 b4 t4=>?_)
 obtain @⟨_,i,m1,m2,h1,h2,ho⟩:=t4
 refine aO ho rfl<|aK (cs:=[Nu]) (SF.refl T4.sc) T4 nofun (by decide) λs5 H5 PX k5 a5 T5 R5 b5=>?_
 refine(eE (((((G.step a1 T1).step a2 T2).step a3 T3).step a4 T4).step a5 T5).sf T5 R5 λs6 H6 V6 k6 v6 a6 T6 b6 t6=>?_)
 have G6:=(((((G.step a1 T1).step a2 T2).step a3 T3).step a4 T4).step a5 T5).step a6 T6
 have e3:=a3.fr.same.buf.trans<|a2.fr.same.buf.trans a1.fr.same.buf
 have h1:=(b6.up T5.sc).mark<|(b5.up T4.sc).mark<|e3▸h1
 obtain @⟨_,j,m3,m4,h3,h4,ho⟩:=t6
 have E:=G6.pop (e:=⟨.scalar v y.isNone y,a,z⟩) h1 ((a5.fr.same.buf.trans<|a4.fr.same.buf.trans e3)▸h4) rfl
 have K:=hq _ _ _ _ _ E.2.1 rfl E.2.2
 cases y with
 |none=>exact aO ho rfl<|aO ho rfl<|aO ho rfl<|aO ho rfl<|oR ⟨rfl,(G6.new _).obj,rZ (G6.new _).st,MJ (G6.new _).st ⟨E.1,K⟩⟩
 |some x=>exact aO ho rfl<|aO ho rfl<|aO ho rfl<|aO ho rfl<|oR ⟨rfl,(G6.new _).obj,rZ (G6.new _).st,MJ (G6.new _).st ⟨E.1,K⟩⟩
def vY{t:Tok}{e:EK}(G:PG p s0 H0 s H aa k (t::ts)<|sts++[st])(he:q9 t.k=some e)
  (hq:∀s' H' ah k' u,PG p s0 H0 s' H' ah k' ts sts->s'.state=st->jn H' s.buf u ⟨e,t.a,t.z⟩->Q u (aM s') H'):SC (n+11) 1404 p 1521 [] [q "block"] [.bool true] H Q X:=by
 obtain⟨tk,a,z⟩:=t
 cases tk with
 |alias v=>cases he;exact Bv G hq
 |scalar v y=>cases he;exact zK G hq
 |_=>cases he
end
section
variable{n p:Nat}{H H0:MH}{s s0:PS}{aa:List MV}{k:Option KS}{t:Tok}{ts:List Tok}{sts:List MV}{st:MV}{Q:MV->Fs->MH->Prop}{X:MV->MH->Prop}
def pT{e:EK}(G:PG p s0 H0 s H aa k (t::ts)<|sts++[st])(he:q9 t.k=some e)
  (hq:∀s' H' ah k' u,PG p s0 H0 s' H' ah k' ts sts->s'.state=st->jn H' s.buf u ⟨e,t.a,t.z⟩->Q u (aM s') H'):SC (n+12) 1382 p 1521 [] [] [] H Q X:=
 gU (lv:=11) dM rfl G.obj (vY G he hq)
def vh(G:PG p s0 H0 s H aa k (t::ts)<|sts++[st])
  (h1:t.k.ids∈[gv,aZ,eZ,ck]->∀s' H' ah k' u,PG p s0 H0 s' H' ah k' (t::ts) sts->s'.state=st->jn H' s.buf u ⟨.scalar [] true none,t.a,t.a⟩->Q u (aM s') H')
  (h2:t.k.ids∉[gv,aZ,eZ,ck]->∃e,q9 t.k=some e/\∀s' H' ah k' u,PG p s0 H0 s' H' ah k' ts sts->s'.state=st->jn H' s.buf u ⟨e,t.a,t.z⟩->Q u (aM s') H'):SC (n+13) 1368 p 1521 [] [] [] H Q X:=by
 refine gU (lv:=12) cz rfl G.obj<|aK (cs:=[gv,aZ,eZ,ck]) G.sf G.T nofun (by decide) λs1 H1 jI k1 a1 T1 R1 b1=>?_
 have G1:=G.step a1 T1
 have eb:=b1.fr.same.buf
 by_cases hm:t.k.ids∈[gv,aZ,eZ,ck]
 ·refine dT hm<|eU G1.sf T1 λs2 H2 iJ k2 v2 a2 T2 R2 b2 t2=>?_
  have G2:=G1.step a2 T2
  obtain @⟨_,i,m1,m2,hm1,hm2,ho⟩:=t2
  rw[iI]at ho
  rw[eb]at hm1
  have E:=G2.pop (e:=⟨.scalar [] true none,t.a,t.a⟩) hm1 hm1 rfl
  exact aO ho (zJ ..)<|Jk G2 ⟨rZ (G2.new _).st,MJ (G2.new _).st ⟨E.1,h1 hm _ _ _ _ _ E.2.1 rfl E.2.2⟩⟩
 ·obtain⟨e,he,h2⟩:=h2 hm
  exact dF hm<|pT G1 he λs' H' ah k' v a b c=>h2 _ _ _ _ _ a b<|eb▸c
end
def PR.putD{p:Nat}{H:MH}{s:PS}{aa:List MV}{k:Option KS}(R:PR H p s aa k){i:Nat}{xs:List (List Nat×MV)}{o:MO}(h:H.at_ i=some (.aF xs)):PR (H.put i o) p s aa k:=by
 have e:∀a o',H.at_ a=some o'->(∀xs,o'≠.aF xs)->(H.put i o).at_ a=some o':=λa o' q n=>by
  rw[ao];exact q
  rintro rfl;rw[h]at q;cases q;exact n _ rfl
 refine⟨⟨e _ _ R.obj.obj (by intro _ q;cases q),R.obj.len⟩,R.z,R.lt,R.pi,e _ _ R.tok (by intro _ q;cases q),R.uV,?_,R.hw.put h⟩
 refine R.key.of λa o' q n=>e a o' q λxs he=>?_
 subst he
 rcases n with n|⟨c,fs,n,_⟩
 ·obtain⟨es,ee⟩:=R.jU
  rw[aaa.mp n,ee]at q;cases q
 ·cases n
section
variable{p:Nat}{s0 s s':PS}{H0 H H':MH}{aa ah:List MV}{k k':Option KS}{ts ts':List Tok}{sts:List MV}
def yr{o o':MO}{i d:Nat}{es:List (List Nat×MV)}(h:H.at_ d=some (.aF es))(e:H.at_ i=some o)(n:(MO.aF es)≠o):(H.put d o').at_ i=some o:=(ao λq=>n<|aaf<|h.symm.trans<|(aac H.at_ q).symm.trans e).trans e
def PG.dict(G:PG p s0 H0 s H aa k ts sts){d:Nat}{es:List (List Nat×MV)}(h:H.at_ d=some (.aF es))(l:H0.n<=d)(es':List<|List Nat×MV):PG p s0 H0 s (H.put d<|.aF es') aa k ts sts:=
 have u:Up H (H.put d<|.aF es'):=λ_ _ _ e _=>yr h e nofun
 ⟨G.T.up ⟨G.T.sc.R.putD h,G.T.sc.ind,G.T.sc.req⟩ u,yr h G.st nofun,yr h G.rI nofun,G.n1,G.n2,G.n3,G.kp.fresh G.hw (.put (own:=[d])<|.head _) λx m=>.inr<|aaa.mp m▸l,G.up.trans u,G.e1,G.e2,G.e3,G.e4,G.kA,G.hw⟩
def SF.dct(h:Sc p H s aa k)(a:SF p s H s' H' ah k'){d:Nat}{es:List (List Nat×MV)}(e:H.at_ d=some (.aF es)):H'.at_ d=some (.aF es):=by
 refine a.fr.kp.at_ _ _ e λm=>?_
 simp only[tM,aab,List.not_mem_nil,or_false]at m
 rcases m with m|m|m
 ·subst m;rw[h.obj]at e;cases e
 ·subst m;rw[h.R.tok]at e;cases e
 ·obtain⟨es,ee⟩:=h.R.jU;subst m;rw[ee]at e;cases e
end
abbrev fE:=List<|List Nat×List Nat
noncomputable def Jo(tg:fE):List (List Nat×MV):=tg.map λe=>(e.1,.str e.2)
theorem jz(h:List Nat):∀tg:fE,(d9 h<|Jo tg).isSome=decide (h∈tg.map (·.1))
 |[]=>rfl
 |t::tg=>by
  by_cases e:t.1=h
  ·rw[show d9 h (Jo<|t::tg)=some (.str t.2)from aac (Option.map Prod.snd)<|List.find?_cons_of_pos<|aag e]
   exact(aag<|e▸List.Mem.head _).symm
  ·rw[show d9 h (Jo<|t::tg)=d9 h (Jo tg)from aac (Option.map Prod.snd)<|List.find?_cons_of_neg λz=>e<|aaq z,jz h tg]
   exact decide_eq_decide.mpr ⟨.tail _,λz=>(aab.mp z).elim (λq=>aan q.symm e) id⟩
def xm{h v:List Nat}{tg:fE}(n:h∉tg.map (·.1)):nR h (.str v) (Jo tg)=Jo (tg++[(h,v)]):=by
 unfold nR
 rw[aal]
 ·exact(List.map_append (l₁:=tg) (l₂:=[(h,v)])).symm
 ·intro z
  obtain⟨x,m,e⟩:=List.any_eq_true.mp z
  obtain⟨y,my,rfl⟩:=List.mem_map.mp m
  exact n<|List.mem_map.mpr ⟨y,my,aaq e⟩
def E4{v:MV}{d:Nat}{es:List (List Nat×MV)}{h:List Nat}{H:MH}{K:Bool->Prop}(e:v=.ref d)(o:H.at_ d=some (.aF es))(c:K (d9 h es).isSome):bM (gx .In (.str h) v H) K:=by
 rw[e]
 show bM ((H.at_ d).casesOn _ _) K
 rw[o]
 exact c
def V7{v x:MV}{d:Nat}{es:List (List Nat×MV)}{h:List Nat}{H:MH}{K:MH->Prop}(e:v=.ref d)(o:H.at_ d=some (.aF es))(c:es.length<jO/\K (H.put d<|.aF<|nR h x es)):vP v (.str h) x H K:=e▸seS o c
inductive PD:Option (Nat×Nat)->fE->List Tok->Except P4 (Option (Nat×Nat)×fE×List Tok)->Prop
 |stop {v:Option (Nat×Nat)} {tg:fE} {t:Tok} {ts:List Tok}:t.k.ids≠gv->PD v tg (t::ts) (.ok (v,tg,t::ts))
 |twice {a b:Nat} {x:Nat×Nat} {tg:fE} {q z:P4} {ts:List Tok}:PD (some x) tg (⟨.dir<|.mG a b,q,z⟩::ts)<|.error q
 |foreign {a b:Nat} {tg:fE} {q z:P4} {ts:List Tok}:a≠1->PD none tg (⟨.dir<|.mG a b,q,z⟩::ts) (.error q)
 |mG {b:Nat} {tg:fE} {q z:P4} {ts:List Tok} {r:Except P4 (Option (Nat×Nat)×fE×List Tok)}:PD (some (1,b)) tg ts r->PD none tg (⟨.dir<|.mG 1 b,q,z⟩::ts) r
 |again {h u:List Nat} {v:Option (Nat×Nat)} {tg:fE} {q z:P4} {ts:List Tok}:h∈tg.map (·.1)->(reprText<|aW h).length<=100000->PD v tg (⟨.dir<|.tag h u,q,z⟩::ts) (.error q)
 |tag {h u:List Nat} {v:Option (Nat×Nat)} {tg:fE} {q z:P4} {ts:List Tok} {r:Except P4 (Option (Nat×Nat)×fE×List Tok)}:h∉tg.map (·.1)->PD v (tg++[(h,u)]) ts r->PD v tg (⟨.dir<|.tag h u,q,z⟩::ts) r
 |other {n:List Nat} {v:Option (Nat×Nat)} {tg:fE} {q z:P4} {ts:List Tok} {r:Except P4 (Option (Nat×Nat)×fE×List Tok)}:n≠[89,65,77,76]->n≠[84,65,71]->PD v tg ts r->PD v tg (⟨.dir<|.other n,q,z⟩::ts) r
abbrev YS:IS:=oG aD.ib 2
abbrev LPD(p:Nat)(L:Loc)(H:MH)(Q:QF)(X:QX):Prop:=LP aD.fm 10 p YS L H Q X
section
variable{p d:Nat}{H H0:MH}{s s0:PS}{aa:List MV}{k:Option KS}{sts:List MV}{L:Loc}{Q:QF}{X:QX}{ts:List Tok}
def r8{v:DV}{a z:P4}(hL:L[0]?=some (some<|.ref p))(G:PG p s0 H0 s H aa k (⟨.dir v,a,z⟩::ts) sts)
  (K:∀s2 H2 iJ k2 i m1 m2,PG p s0 H0 s2 H2 iJ k2 ts sts->s2.oB=s.oB->s2.ly=s.ly->(∀d es,H.at_ d=some (.aF es)->H2.at_ d=some (.aF es))->gb H2 m1 s0.buf a->H2.at_ i=some (uY (.dir v) m1 m2)->run 399 (Z2 aD.fm 10 p YS Q X) [fX (Bb YS) 1] ⟨[(2,.ref i)],L,[],aM s2,H2⟩):LPD p L H Q X:=by
 refine LW.turn (fs:=aM s) (λ_=>⟨G.obj,hL⟩)<|aK (cs:=[gv]) G.sf G.T nofun (by decide) λs1 H1 jI k1 a1 T1 R1 b1=>eE (G.step a1 T1).sf T1 R1 λs2 H2 iJ k2 v2 a2 T2 b2 t2=>?_
 have G1:=G.step a1 T1
 obtain @⟨_,i,m1,m2,h1,h2,ho⟩:=t2
 exact K _ _ _ _ i m1 m2 (G1.step a2 T2) (a2.fr.same.oB.trans a1.fr.same.oB) (a2.fr.same.ly.trans a1.fr.same.ly) (λd es e=>a2.dct T1.sc<|a1.dct G.T.sc e) (G1.e1▸h1) ho
def SN(p:Nat)(s0:PS)(H0:MH)(d:Nat)(sts:List MV)(Q:QF)(X:QX)(r:Except P4<|Option (Nat×Nat)×fE×List Tok):Prop:=
 r.casesOn (λq=>∀s' H' ah k' ts' m L',PG p s0 H0 s' H' ah k' ts' sts->gb H' m s0.buf q->X m L' H') λx=>∀s' H' ah k' o2 o4 o5 o6 o7,PG p s0 H0 s' H' ah k' x.2.2 sts->s'.oB=tS x.1->s'.ly=.ref d->H'.at_ d=some (mU x.2.1)->x.2.1.length<100->Q .next [some<|.ref p,none,o2,none,o4,o5,o6,o7] H'
def Nv(hd0:H0.n<=d){v0:Option (Nat×Nat)}{YT:fE}{SO:List Tok}{r:Except P4 (Option (Nat×Nat)×fE×List Tok)}(hp:PD v0 YT SO r):
  ∀(s:PS) (H:MH) (aa:List MV) (k:Option KS) (o2 o4 o5 o6 o7:Option MV),PG p s0 H0 s H aa k SO sts->s.oB=tS v0->s.ly=.ref d->H.at_ d=some (mU YT)->YT.length+SO.length<100->
  SN p s0 H0 d sts Q X r->LPD p [some<|.ref p,none,o2,none,o4,o5,o6,o7] H Q X:=by
 induction hp with
 |@stop v tg t ts hn=>
  exact λs H aa k o2 o4 o5 o6 o7 G hy ht hD hl hq=>LW.turn (fs:=aM s) (λ_=>⟨G.obj,rfl⟩)<|aK (cs:=[gv]) G.sf G.T nofun (by decide) λs1 H1 jI k1 a1 T1 R1 b1=>dF (λm=>hn<|aaa.mp m)<|hq _ _ _ _ _ _ _ _ _ (G.step a1 T1) (b1.fr.same.oB.trans hy) (b1.fr.same.ly.trans ht) (b1.dct G.T.sc hD)<|H8 (aah ..) hl
 |@twice a b x tg q z ts=>
  exact λs H aa k o2 o4 o5 o6 o7 G hy ht hD hl hq=>r8 rfl G λs2 H2 iJ k2 i m1 m2 G2 ey et ed h1 ho=>aO ho rfl<|pB (show gx .IsNot s2.oB .none H2=some true from by rw[ey,hy];rfl) λw Q' m=>⟨_,_,_,_,rfl,ho,rfl,hq _ _ _ _ _ _ _ G2 h1⟩
 |@foreign a b tg q z ts hn=>
  exact λs H aa k o2 o4 o5 o6 o7 G hy ht hD hl hq=>r8 rfl G λs2 H2 iJ k2 i m1 m2 G2 ey et ed h1 ho=>aO ho rfl<|pB (show gx .IsNot s2.oB .none H2=some false from by rw[ey,hy];rfl)<|aO ho rfl<|Z4 (b:=1) hn λw Q' m=>⟨_,_,_,_,rfl,ho,rfl,hq _ _ _ _ _ _ _ G2 h1⟩
 |@mG b tg q z ts r hp ih=>
  exact λs H aa k o2 o4 o5 o6 o7 G hy ht hD hl hq=>r8 rfl G λs2 H2 iJ k2 i m1 m2 G2 ey et ed h1 ho=>aO ho rfl<|pB (show gx .IsNot s2.oB .none H2=some false from by rw[ey,hy];rfl)<|aO ho rfl<|aO ho rfl<|ih (s2.wy (DV.mG 1 b).val) _ _ _ _ _ _ _ _ (G2.fld ⟨rfl,rfl,rfl,rfl,rfl,rfl,rfl,rfl⟩) rfl (et.trans ht) (vg.self G2.obj _ _<|ed _ _ hD) (Nat.lt_of_succ_lt hl) hq
 |@again h u v tg q z ts hm hrt=>
  exact λs H aa k o2 o4 o5 o6 o7 G hy ht hD hl hq=>r8 rfl G λs2 H2 iJ k2 i m1 m2 G2 ey et ed h1 ho=>aO ho rfl<|aO ho rfl<|aO ho rfl<|E4 (et.trans ht) (ed _ _ hD)<|cT ((jz h tg).trans<|aag hm) λw Q' m=>⟨_,_,_,_,rfl,ho,rfl,⟨_,rfl,hrt⟩,hq _ _ _ _ _ _ _ G2 h1⟩
 |@tag h u v tg q z ts r hm hp ih=>
  refine λs H aa k o2 o4 o5 o6 o7 G hy ht hD hl hq=>r8 rfl G λs2 H2 iJ k2 i m1 m2 G2 ey et ed h1 ho=>aO ho rfl<|aO ho rfl<|aO ho rfl<|E4 (et.trans ht) (ed _ _ hD)<|cF ((jz h tg).trans<|aad hm) ?_
  have G3:=G2.dict (ed _ _ hD) hd0<|Jo<|tg++[(h,u)]
  have l1:tg.length<900:=H8 (aah ..)<|aar hl<|by decide
  have K:=ih s2 _ iJ k2 (some<|.ref i) o4 o5 (some<|.str h) (some<|.str u) G3 (ey.trans hy) (et.trans ht) au (by rw[List.length_append];exact H8 (Nat.le_of_eq<|Nat.succ_add ..) hl) hq
  exact V7 (et.trans ht) (ed _ _ hD) ⟨by rw[List.length_map];exact l1,(xm hm)▸⟨G3.obj,K⟩⟩
 |@other n v tg q z ts r h89 h84 hp ih=>
  exact λs H aa k o2 o4 o5 o6 o7 G hy ht hD hl hq=>r8 rfl G λs2 H2 iJ k2 i m1 m2 G2 ey et ed h1 ho=>aO ho rfl<|zA h89<|aO ho rfl<|zA h84<|ih s2 H2 _ _ _ _ _ _ _ G2 (ey.trans hy) (et.trans ht) (ed _ _ hD) (Nat.lt_of_succ_lt hl) hq
end
noncomputable def gA(tg:fE):Option fE:=tg.casesOn none λ_ _=>some tg
def W9{v:MV}{d:Nat}{es:List (List Nat×MV)}{H:MH}{K:Bool->MH->Prop}(e:v=.ref d)(o:H.at_ d=some (.aF es))(h:K (!es.isEmpty) H):kc v H K:=by
 rw[e]
 show iP (H.at_ d) _ _ _ _ _ _
 rw[o]
 exact h
def V8:1<8:=by decide
section
variable{n p:Nat}{H H0:MH}{s s0:PS}{aa:List MV}{k:Option KS}{ts:List Tok}{sts:List MV}{Q:MV->Fs->MH->Prop}{X:MV->MH->Prop}
def Ny{d:Nat}{v:Option (Nat×Nat)}{tg:fE}{o2 o4 o5 o6 o7:Option MV}(G:PG p s0 H0 s H aa k ts sts)(l0:H0.n<=d)(hy:s.oB=tS v)(ht:s.ly=.ref d)(hD:H.at_ d=some (mU tg))(hl:tg.length<100)
  (hq:∀H' u,PG p s0 H0 s H' aa k ts sts->fQ H' u (gA tg)->Q (.tup [tS v,u]) (aM s) H'):run 397 (Ae aD.fm 10 1521 p Q X) [fX aD.ib 3] ⟨[],[some<|.ref p,none,o2,none,o4,o5,o6,o7],[],aM s,H⟩:=by
 have l:(Jo tg).length<100:=by rw[Jo,List.length_map];exact hl
 have hq:∀H' u,PG p s0 H0 s H' aa k ts sts->fQ H' u (gA tg)->Q (.tup [s.oB,u]) (aM s) H':=λH' u G T=>hy▸hq H' u G T
 cases tg with
 |nil=>
  have G1:=G.dict hD l0<|uf [] ue
  exact W9 ht hD λw Q' m=>⟨p,_,d,_,rfl,V8,G.obj,rfl,aac some ht,hD,l,m .next _ _ ⟨G1.obj,rfl,hq _ _ G1 rfl⟩⟩
 |cons t tg=>
  have G1:=G.new<|mU<|t::tg
  have h5:(H.new<|mU<|t::tg).at_ d=some (mU<|t::tg):=(aL<|aae<|G.xj _ _ hD).trans hD
  have G2:=G1.dict h5 l0<|uf (Jo<|t::tg) ue
  exact W9 ht hD λw Q' m=>⟨p,_,_,d,_,_,rfl,G.obj,rfl,aac some ht,hD,l,m .next _ _ ⟨G1.obj,rfl,λw Q' m=>⟨p,_,d,_,rfl,V8,G1.obj,rfl,aac some ht,h5,l,m .next _ _ ⟨G2.obj,rfl,hq _ _ G2 ⟨H.n,rfl,(ao<|aav<|G.xj _ _ hD).trans af⟩⟩⟩⟩⟩
def ni{r:Except P4 (Option (Nat×Nat)×fE×List Tok)}(G:PG p s0 H0 s H aa k ts sts)(hp:PD none [] ts r)(hl:ts.length<100)
  (hq:r.casesOn (motive:=λ_=>Prop) (λq=>∀H' m,(∃s' ah k' ts',PG p s0 H0 s' H' ah k' ts' sts)->gb H' m s0.buf q->X m H') λx=>∀s' H' ah k' u,PG p s0 H0 s' H' ah k' x.2.2 sts->fQ H' u (gA x.2.1)->Q (.tup [tS x.1,u]) (aM s') H'):SC (n+11) 1375 p 1521 [] [] [] H Q X:=by
 have G1:=G.fld (s':=s.wy .none) ⟨rfl,rfl,rfl,rfl,rfl,rfl,rfl,rfl⟩
 have G2:=G1.new<|.aF []
 have G3:=G2.fld (s':=(s.wy .none).wg<|.ref (H.put p<|.inst 1521<|aM<|s.wy .none).n) ⟨rfl,rfl,rfl,rfl,rfl,rfl,rfl,rfl⟩
 refine gU (lv:=10) aD rfl G.obj ⟨G2.obj,Nv G1.kp.n hp _ _ _ _ none none none none none G3 rfl rfl (vg.self G2.obj _ _ af) (H8 (Nat.le_of_eq<|Nat.zero_add _) hl) ?_⟩
 cases r with
 |error q=>exact λs' H' ah k' ts' m L' G' h=>hq H' m ⟨s',ah,k',ts',G'⟩ h
 |ok x=>exact λs4 H4 Jm k4 o2 o4 o5 o6 o7 G4 hy ht hD hl4=>⟨G4.obj,rfl,Ny G4 G1.kp.n hy ht hD hl4 λH' u G' T=>hq s4 H' Jm k4 u G' T⟩
end
section
variable{p:Nat}{s0 s s':PS}{H0 H H':MH}{aa ah:List MV}{k k':Option KS}{ts ts':List Tok}{sts kN:List MV}
def PG.refl(G:PG p s0 H0 s H aa k ts sts):PG p s H s H aa k ts sts:=⟨G.T,G.st,G.rI,G.n1,G.n2,G.n3,.refl,.refl,rfl,rfl,rfl,rfl,.inl rfl,G.xj⟩
def PG.trans(G:PG p s0 H0 s H aa k ts sts)(G':PG p s H s' H' ah k' ts' kN):PG p s0 H0 s' H' ah k' ts' kN:=⟨G'.T,G'.st,G'.rI,G'.n1,G'.n2,G'.n3,G.kp.fresh G.hw G'.kp (λx m=>by
  simp only[Jj,aab,List.not_mem_nil,or_false]at m⊢
  rcases m with m|m|m|m
  ·exact .inl<|.inl m
  ·exact .inl<|.inr<|.inl<|m.trans G.e2
  ·rcases G.kA with h|h
   ·exact .inl<|.inr<|.inr<|.inl<|m.trans h
   ·exact .inr<|by rw[m];exact h
  ·exact .inl<|.inr<|.inr<|.inr<|m.trans G.e3),G.up.trans G'.up,G'.e1.trans G.e1,G'.e2.trans G.e2,G'.e3.trans G.e3,G'.e4.trans G.e4,by
  rcases G'.kA with h|h
  ·rw[h];exact G.kA
  ·exact .inr<|av G.kp.n h,G.hw⟩
def fQ.sf{v:MV}{t:Option (List<|List Nat×List Nat)}(h:fQ H v t)(sc:Sc p H s aa k)(a:SF p s H s' H' ah k'):fQ H' v t:=by
 cases t with
 |none=>exact h
 |some es=>obtain⟨d,rfl,e⟩:=h;exact⟨d,rfl,a.dct sc e⟩
end
inductive DS:List Tok->Except P4 (vM×Bool×List Tok)->Prop
 |skip {t:Tok} {ts:List Tok} {r:Except P4 (vM×Bool×List Tok)}:t.k.ids=eZ->DS ts r->DS (t::ts) r
 |send {t:Tok} {ts:List Tok}:t.k=.send->DS (t::ts) (.ok (⟨.send,t.a,t.z⟩,false,ts))
 |err {t:Tok} {ts:List Tok} {q:P4}:t.k.ids≠eZ->t.k.ids≠ck->PD none [] (t::ts) (.error q)->DS (t::ts) (.error q)
 |r9 {t t2:Tok} {ts r:List Tok} {v:Option (Nat×Nat)} {tg:fE}:t.k.ids≠eZ->t.k.ids≠ck->PD none [] (t::ts) (.ok (v,tg,t2::r))->t2.k.ids≠aZ->DS (t::ts) (.error t2.a)
 |doc {t t2:Tok} {ts r:List Tok} {v:Option (Nat×Nat)} {tg:fE}:t.k.ids≠eZ->t.k.ids≠ck->PD none [] (t::ts) (.ok (v,tg,t2::r))->t2.k.ids=aZ->DS (t::ts) (.ok (⟨.dH true v<|gA tg,t.a,t2.z⟩,true,r))
noncomputable def Nz(p:Nat)(b:Bool):MV:=b.casesOn .none<|.fj 1368 p
noncomputable def Jp(p:Nat)(b:Bool):List MV:=b.casesOn [] [.fj 1361 p]
def qf(p:Nat)(s0:PS)(H0:MH)(r:Except P4<|vM×Bool×List Tok)(Q:MV->Fs->MH->Prop)(X:MV->MH->Prop):Prop:=
 r.casesOn (λq=>∀H' m,(∃s' ah k' ts',PG p s0 H0 s' H' ah k' ts' [])->gb H' m s0.buf q->X m H') λx=>∀s' H' ah k' v,PG p s0 H0 s' H' ah k' x.2.2 (Jp p x.2.1)->s'.state=Nz p x.2.1->jn H' s0.buf v x.1->Q v (aM s') H'
abbrev lDS:IS:=oG ay.ib 0
section
variable{n p:Nat}{s s0:PS}{H H0:MH}{aa:List MV}{k:Option KS}{t:Tok}{ts:List Tok}{r:Except P4 (vM×Bool×List Tok)}
def PG.psh{sts:List MV}(G:PG p s0 H0 s H aa k ts sts){e:vM}{b:List Nat}{m1 m2 tv:MV}(h1:gb H m1 b e.a)(h2:gb H m2 b e.z)(h3:fQ H tv e.k.tags)(kN:List MV)(st:MV):((H.new<|lG e.k m1 m2 tv).put s.oE<|.list kN).at_ p=some (.inst 1521<|aM s)/\PG p s0 H0 (s.wq st) (((H.new<|lG e.k m1 m2 tv).put s.oE<|.list kN).put p<|.inst 1521<|aM<|s.wq st) aa k ts kN/\jn (((H.new<|lG e.k m1 m2 tv).put s.oE<|.list kN).put p<|.inst 1521<|aM<|s.wq st) b (.ref H.n) e:=
 have G1:=(G.new<|lG e.k m1 m2 tv).stk kN
 ⟨G1.obj,G1.fld .q,((jn.new G.xj h1 h2 h3).up (.putL (G.new _).st)<|.putL (G.new _).st).up (.self G1.obj)<|.self G1.obj⟩
section
variable{Q:MV->Fs->MH->Prop}{X:MV->MH->Prop}
abbrev SP(p:Nat)(s:PS)(H:MH)(Q:MV->Fs->MH->Prop)(X:MV->MH->Prop):Prop:=run 399 (Ae ay.fm 11 1521 p Q X) [fX ay.ib 1] ⟨[],[some<|.ref p,none,none,none,none,none,none],[],aM s,H⟩
def SQ(G:PG p s0 H0 s H aa k (t::ts) [])(hk:t.k=.send)(hq:qf p s0 H0 (.ok (⟨.send,t.a,t.z⟩,false,ts)) Q X):SP p s H Q X:=by
 refine aK (cs:=[ck]) G.sf G.T nofun (by decide) λs1 H1 jI k1 a1 T1 R1 b1=>?_
 have G1:=G.step a1 T1
 refine IM (by rw[hk];exact .head _)<|eE G1.sf T1 R1 λs2 H2 iJ k2 v2 a2 T2 b2 t2=>?_
 have G2:=G1.step a2 T2
 obtain @⟨_,i,m1,m2,h1,h2,ho⟩:=t2
 rw[hk]at ho
 rw[G1.e1]at h1 h2
 have E:=G2.W8 (e:=⟨.send,t.a,t.z⟩) (.q (v:=.none)) h1 h2 rfl
 exact aO ho rfl<|aO ho rfl<|Jc ⟨rfl,(G2.new _).obj,uL (G2.new _).st ⟨rfl,uL (G2.new _).rI ⟨rfl,hq _ _ _ _ _ E.1 rfl E.2⟩⟩⟩
def yt(G:PG p s0 H0 s H aa k (t::ts) [])(hS:t.k.ids≠ck)(hl:ts.length<99){pr:Except P4 (Option (Nat×Nat)×fE×List Tok)}(hp:PD none [] (t::ts) pr)
  (hX:∀q,pr=.error q->qf p s0 H0 (.error q) Q X)(hok:∀x,pr=.ok x->∃v tg t2 V9,x=(v,tg,t2::V9)/\(t2.k.ids≠aZ->qf p s0 H0 (.error t2.a) Q X)/\(t2.k.ids=aZ->qf p s0 H0 (.ok (⟨.dH true v<|gA tg,t.a,t2.z⟩,true,V9)) Q X)):SP p s H Q X:=by
 refine aK (cs:=[ck]) G.sf G.T nofun (by decide) λs1 H1 jI k1 a1 T1 R1 b1=>?_
 have G1:=G.step a1 T1
 refine VV (λm=>hS<|aaa.mp m)<|eU G1.sf T1 λs2 H2 iJ k2 v2 a2 T2 R2 b2 t2=>?_
 have G2:=G1.step a2 T2
 obtain @⟨_,i,m1,m2,h1,-,ho⟩:=t2
 rw[iI]at ho
 rw[G1.e1]at h1
 refine aO ho (zJ ..)<|ni G2.refl hp (Nat.succ_lt_succ hl) ?_
 cases pr with
 |error q=>exact λH3 m ⟨s',ah,k',ts',G3⟩ h3=>hX q rfl H3 m ⟨s',ah,k',ts',G2.trans G3⟩<|G2.e1▸h3
 |ok x=>
  obtain⟨v,tg,t2,V9,rfl,hn,hq⟩:=hok x rfl
  intro s3 H3 Jl k3 tv G3 h3
  have h1:=G3.up.mark h1
  have G3:=G2.trans G3
  refine aK (cs:=[aZ]) G3.sf G3.T nofun (by decide) λs4 H4 Jm k4 a4 T4 R4 b4=>?_
  have G4:=G3.step a4 T4
  by_cases he:t2.k.ids=aZ
  ·refine IM (aaa.mpr he)<|eE G4.sf T4 R4 λs5 H5 PX k5 v5 a5 T5 b5 t5=>?_
   have G5:=G4.step a5 T5
   obtain @⟨_,j,m5,m6,-,h6,ho⟩:=t5
   rw[iI]at ho
   rw[G4.e1]at h6
   have E:=G5.psh (e:=⟨.dH true v<|gA tg,t.a,t2.z⟩) ((b5.up T4.sc).mark<|(b4.up G3.T.sc).mark h1) h6 ((h3.sf G3.T.sc b4).sf T4.sc b5) [.fj 1361 p]<|.fj 1368 p
   exact aO ho (PT ..)<|i8 ⟨rfl,(G5.new _).obj,rZ (G5.new _).st,A7 (G5.new _).st ⟨by decide,E.1,hq he _ _ _ _ _ E.2.1 rfl E.2.2⟩⟩
  ·refine VV (λm=>he<|aaa.mp m) λw Q' m=>⟨p,_,rfl,G4.obj,rfl,(eU G4.sf T4 λs5 H5 PX k5 v5 a5 T5 R5 b5 t5=>?_).sQ w⟩
   have G5:=G4.step a5 T5
   obtain @⟨_,i5,m5,m5',h5,-,ho5⟩:=t5
   rw[iI]at ho5
   refine⟨⟨_,_,_,_,rfl,ho5,PU ..,PW t2.k⟩,⟨_,G5.obj,rfl⟩,(eU G5.sf T5 λs6 H6 V6 k6 v6 a6 T6 R6 b6 t6=>?_).sQ w⟩
   have G6:=G5.step a6 T6
   obtain @⟨_,i6,m6,m6',h6,-,ho6⟩:=t6
   rw[iI]at ho6
   exact⟨_,_,_,_,rfl,ho6,zJ ..,hn he _ _ ⟨_,_,_,_,G6⟩<|G5.e1▸h6⟩
def Wa(G:PG p s0 H0 s H aa k (t::ts) [])(hl:ts.length<99)(hd:DS (t::ts) r)(hn:t.k.ids≠eZ)(hq:qf p s0 H0 r Q X):SP p s H Q X:=by
 cases hd with
 |skip h _=>exact aan h hn
 |send h=>exact SQ G h hq
 |err _ h hp=>exact yt G h hl hp (λq e=>Except.error.inj e▸hq) nofun
 |@r9 _ t2 _ r2 v tg _ h hp hne=>exact yt G h hl hp nofun λx e=>⟨v,tg,t2,r2,(Except.ok.inj e).symm,λ_=>hq,λe=>aan e hne⟩
 |@doc _ t2 _ r2 v tg _ h hp heq=>exact yt G h hl hp nofun λx e=>⟨v,tg,t2,r2,(Except.ok.inj e).symm,λe=>aan heq e,λ_=>hq⟩
end
def E5{L:Loc}{Q:QF}{X:QX}(hL:L[0]?=some (some<|.ref p)){SO:List Tok}(hd:DS SO r):
  ∀(s:PS) (H:MH) (aa:List MV) (k:Option KS),PG p s0 H0 s H aa k SO []->SO.length<100->
  (∀s' H' ah k' t ts,PG p s0 H0 s' H' ah k' (t::ts) []->ts.length<99->DS (t::ts) r->t.k.ids≠eZ->H'.at_ p=some (.inst 1521<|aM s')->Q .next L H')->
  LP ay.fm 11 p lDS L H Q X:=by
 have stop:∀{t:Tok} {ts:List Tok},DS (t::ts) r->t.k.ids≠eZ->∀(s:PS) (H:MH) (aa:List MV) (k:Option KS),PG p s0 H0 s H aa k (t::ts) []->(t::ts).length<100->
  (∀s' H' ah k' t ts,PG p s0 H0 s' H' ah k' (t::ts) []->ts.length<99->DS (t::ts) r->t.k.ids≠eZ->H'.at_ p=some (.inst 1521<|aM s')->Q .next L H')->
  LP ay.fm 11 p lDS L H Q X:=λhd hn s H aa k G hl hq=>
  LW.turn (fs:=aM s) (λ_=>⟨G.obj,hL⟩) (aK (cs:=[eZ]) G.sf G.T nofun (by decide) λs1 H1 jI k1 a1 T1 R1 b1=>dF (λm=>hn<|aaa.mp m)<|hq _ _ _ _ _ _ (G.step a1 T1) (Nat.lt_of_succ_lt_succ hl) hd hn (G.step a1 T1).obj)
 induction hd with
 |@skip t ts r hE hd ih=>
  exact λs H aa k G hl hq=>LW.turn (fs:=aM s) (λ_=>⟨G.obj,hL⟩)<|aK (cs:=[eZ]) G.sf G.T nofun (by decide) λs1 H1 jI k1 a1 T1 R1 b1=>dT (aaa.mpr hE)<|eE (G.step a1 T1).sf T1 R1 λs2 H2 iJ k2 v2 a2 T2 b2 t2=>ih stop s2 H2 iJ k2 ((G.step a1 T1).step a2 T2) (Nat.lt_of_succ_lt hl) hq
 |send h=>exact stop (.send h)<|by rw[h];decide
 |err h1 h2 h3=>exact stop (.err h1 h2 h3) h1
 |r9 h1 h2 h3 h4=>exact stop (.r9 h1 h2 h3 h4) h1
 |doc h1 h2 h3 h4=>exact stop (.doc h1 h2 h3 h4) h1
def jW{Q:MV->Fs->MH->Prop}{X:MV->MH->Prop}(G:PG p s0 H0 s H aa k ts [])(hl:ts.length<100)(hd:DS ts r)(hq:qf p s0 H0 r Q X):SC (n+12) 1354 p 1521 [] [] [] H Q X:=
 gU (lv:=11) ay rfl G.obj (E5 rfl hd s H aa k G hl λs1 H1 jI k1 t ts G1 l1 hd hn o=>⟨o,rfl,Wa G1 l1 hd hn hq⟩)
end
inductive Mode where
 |first|implicit|block|qg|content|start
noncomputable def Mode.fa:Mode->Nat
 |.first=>1340|.implicit=>1347|.block=>1382|.qg=>1361|.content=>1368|.start=>1354
noncomputable def Bw(p:Nat):Option Mode->List MV
 |some .block=>[.fj 1361 p]
 |some .content=>[.fj 1361 p]
 |_=>[]
def stM(p:Nat):Option Mode->MV
 |none=>.none
 |some m=>.fj m.fa p
abbrev Res:=Except P4<|vM×Option Mode×List Tok
noncomputable def xo:Except P4 (vM×Bool×List Tok)->Res
 |.ok (e,b,r)=>.ok (e,if b then some .content else none,r)
 |.error q=>.error q
inductive yF:Mode->List Tok->Res->Prop
 |first {t:Tok} {ts:List Tok}:t.k=.di->yF .first (t::ts) (.ok (⟨.di,t.a,t.z⟩,some .implicit,ts))
 |bare {t:Tok} {ts:List Tok}:t.k.ids∉[gv,aZ,ck]->yF .implicit (t::ts) (.ok (⟨.dH false none none,t.a,t.a⟩,some .block,t::ts))
 |open_ {t:Tok} {ts:List Tok} {r:Except P4 (vM×Bool×List Tok)}:t.k.ids∈[gv,aZ,ck]->DS (t::ts) r->yF .implicit (t::ts) (xo r)
 |start {ts:List Tok} {r:Except P4 (vM×Bool×List Tok)}:DS ts r->yF .start ts (xo r)
 |block {t:Tok} {ts:List Tok} {e:EK}:q9 t.k=some e->yF .block (t::ts) (.ok (⟨e,t.a,t.z⟩,some .qg,ts))
 |empty {t:Tok} {ts:List Tok}:t.k.ids∈[gv,aZ,eZ,ck]->yF .content (t::ts) (.ok (⟨.scalar [] true none,t.a,t.a⟩,some .qg,t::ts))
 |node {t:Tok} {ts:List Tok} {e:EK}:t.k.ids∉[gv,aZ,eZ,ck]->q9 t.k=some e->yF .content (t::ts) (.ok (⟨e,t.a,t.z⟩,some .qg,ts))
 |ended {t:Tok} {ts:List Tok}:t.k.ids=eZ->yF .qg (t::ts) (.ok (⟨.jG true,t.a,t.z⟩,some .start,ts))
 |close {t:Tok} {ts:List Tok}:t.k.ids≠eZ->yF .qg (t::ts) (.ok (⟨.jG false,t.a,t.a⟩,some .start,t::ts))
def Wb(p:Nat)(s0:PS)(H0:MH)(r:Res)(Q:MV->Fs->MH->Prop)(X:MV->MH->Prop):Prop:=
 r.casesOn (λq=>∀H' m,(∃s' ah k' ts',PG p s0 H0 s' H' ah k' ts' [])->gb H' m s0.buf q->X m H') λx=>∀s' H' ah k' v,PG p s0 H0 s' H' ah k' x.2.2 (Bw p x.2.1)->s'.state=stM p x.2.1->jn H' s0.buf v x.1->Q v (aM s') H'
def meI{v:MV}{fa j:Nat}{K:Nat->Nat->Prop}(e:v=.fj fa j)(h:K fa j):sD (some v) K:=e▸h
def Wc{v:MV}{fa j:Nat}{H:MH}{K:Bool->MH->Prop}(e:v=.fj fa j)(h:K true H):kc v H K:=e▸h
def Wd{v:MV}{H:MH}{K:Bool->MH->Prop}(e:v=.none)(h:K false H):kc v H K:=e▸h
def We{v:MV}{H:MH}{K:Bool->Prop}(e:v=.none)(h:K true):bM (gx .Is v .none H) K:=by rw[e];exact h
section
variable{n p:Nat}{H H0:MH}{s s0:PS}{aa:List MV}{k:Option KS}{t:Tok}{ts:List Tok}{m:Mode}{r:Res}{Q:MV->Fs->MH->Prop}{X:MV->MH->Prop}
def Wb.ds{r:Except P4 (vM×Bool×List Tok)}(h:Wb p s0 H0 (xo r) Q X):qf p s0 H0 r Q X:=by
 cases r with
 |error q=>exact h
 |ok r=>
  obtain⟨e,b,ts⟩:=r
  cases b<;>exact h
def NB(G:PG p s0 H0 s H aa k (t::ts) [])(hn:t.k.ids∉[gv,aZ,ck])(hq:Wb p s0 H0 (.ok (⟨.dH false none none,t.a,t.a⟩,some .block,t::ts)) Q X):SC (n+13) 1347 p 1521 [] [] [] H Q X:=by
 refine gU (lv:=12) aQ rfl G.obj<|aK (cs:=[gv,aZ,ck]) G.sf G.T nofun (by decide) λs1 H1 jI k1 a1 T1 R1 b1=>?_
 have G2:=(G.step a1 T1).fld (s':=s1.wg<|.cls 1304) ⟨rfl,rfl,rfl,rfl,rfl,rfl,rfl,rfl⟩
 refine VV hn<|eU G2.sf G2.T λs3 H3 Jl k3 v3 a3 T3 R3 b3 t3=>?_
 have G3:=G2.step a3 T3
 obtain @⟨_,i,m1,m2,h1,-,ho⟩:=t3
 rw[iI]at ho
 rw[G2.e1]at h1
 have E:=G3.psh (e:=⟨.dH false none none,t.a,t.a⟩) h1 h1 rfl [.fj 1361 p]<|.fj 1382 p
 exact aO ho (zJ ..)<|qU ⟨rfl,(G3.new _).obj,rZ (G3.new _).st,A7 (G3.new _).st ⟨by decide,E.1,hq _ _ _ _ _ E.2.1 rfl E.2.2⟩⟩
def NC{r:Except P4 (vM×Bool×List Tok)}(G:PG p s0 H0 s H aa k (t::ts) [])(hl:(t::ts).length<100)(hm:t.k.ids∈[gv,aZ,ck])(hd:DS (t::ts) r)(hq:Wb p s0 H0 (xo r) Q X):SC (n+13) 1347 p 1521 [] [] [] H Q X:=by
 refine gU (lv:=12) aQ rfl G.obj<|aK (cs:=[gv,aZ,ck]) G.sf G.T nofun (by decide) λs1 H1 jI k1 a1 T1 R1 b1=>?_
 exact IM hm<|jW (G.step a1 T1) hl hd hq.ds
def Jq(G:PG p s0 H0 s H aa k ts<|Bw p<|some m)(hl:ts.length<100)(hr:m=.first->Ready s aa k)(hs:yF m ts r)(hq:Wb p s0 H0 r Q X):SC 13 m.fa p 1521 [] [] [] H Q X:=by
 have hb:=G.e1
 cases hs with
 |first ht=>exact tT G (hr rfl) ht λs' H' ah k' v a b c=>hq _ _ _ _ _ a b<|hb▸c
 |bare h=>exact NB G h hq
 |open_ h1 h2=>exact NC G hl h1 h2 hq
 |start h=>exact jW G hl h hq.ds
 |block h=>exact pT (sts:=[]) G h λs' H' ah k' v a b c=>hq _ _ _ _ _ a b<|hb▸c
 |empty h=>exact vh (sts:=[]) G (λ_ s' H' ah k' v a b c=>hq _ _ _ _ _ a b<|hb▸c) λn=>aan h n
 |node h1 h2=>exact vh (sts:=[]) G (λn=>aan n h1) λ_=>⟨_,h2,λs' H' ah k' v a b c=>hq _ _ _ _ _ a b<|hb▸c⟩
 |@ended t ts h=>
  refine mV G λs' H' ah k' v a b c=>?_
  rw[aam h]at a
  rw[aam h,aag h,hb]at c
  exact hq _ _ _ _ _ a b c
 |@close t ts h=>
  refine mV G λs' H' ah k' v a b c=>?_
  rw[aal h]at a
  rw[aal h,aad h,hb]at c
  exact hq _ _ _ _ _ a b c
def ND(m:Mode):∃c' k',Ig c' k'=some m.fa:=by
 cases m
 ·exact⟨1521,94,rfl⟩
 ·exact⟨1521,96,rfl⟩
 ·exact⟨1521,101,rfl⟩
 ·exact⟨1521,100,rfl⟩
 ·exact⟨1521,104,rfl⟩
 ·exact⟨1521,102,rfl⟩
def SV(p:Nat)(s0:PS)(H0:MH)(r:Res)(Q:MV->Fs->MH->Prop)(X:MV->MH->Prop):Prop:=
 r.casesOn (λq=>∀H' m,(∃s' ah k' ts',PG p s0 H0 s' H' ah k' ts' [])->gb H' m s0.buf q->X m H') λx=>∀s' H' ah k' v,PG p s0 H0 s' H' ah k' x.2.2 (Bw p x.2.1)->s'.state=stM p x.2.1->s'.cur=.none->jn H' s0.buf v x.1->Q v (aM s') H'
def ri(G:PG p s0 H0 s H aa k ts<|Bw p<|some m)(hl:ts.length<100)(hr:m=.first->Ready s aa k)(hs:yF m ts r)
  (hst:s.state=.fj m.fa p)(qi:s.cur=.none)(hq:SV p s0 H0 r Q X):SC (n+14) 1333 p 1521 [] [] [] H Q X:=by
 refine gU (lv:=13) fc rfl G.obj<|We (H:=H) qi<|Wc hst<|meI hst ⟨ND m,Jq G hl hr hs ?_⟩
 cases r with
 |error q=>exact hq
 |ok x=>
  intro s' H' ah k' v G' SW E'
  exact hq _ _ _ _ _ (G'.fld (s':=s'.wc .none) ⟨rfl,rfl,rfl,rfl,rfl,rfl,rfl,rfl⟩) SW rfl<|E'.up (.self G'.obj)<|.self G'.obj
def se{sts:List MV}(G:PG p s0 H0 s H aa k ts sts)(hst:s.state=.none)(qi:s.cur=.none)
  (hq:∀s' H' ah k',PG p s0 H0 s' H' ah k' ts sts->s'.cur=.none->s'.state=.none->Q .none (aM s') H'):SC (n+14) 1333 p 1521 [] [] [] H Q X:=by
 have K:=hq (s.wc .none) _ _ _ (G.fld ⟨rfl,rfl,rfl,rfl,rfl,rfl,rfl,rfl⟩) rfl hst
 refine gU (lv:=13) fc rfl G.obj<|We (H:=H) qi<|Wd hst ?_
 have e:=qi
 exact(show∀v,v=.none->Q v (aM<|s.wc .none) _ from λv e=>e▸K) _ qi
end
noncomputable def FN(c:Nat):Bool:=decide (c∈[9,10,13,133])||(decide (32<=c)&&decide (c<=126))||(decide (160<=c)&&decide (c<=55295))
section
variable{n p:Nat}{H:MH}{Q:MV->Fs->MH->Prop}{X:MV->MH->Prop}
def tV{c:Nat}{Q:QV}(h:FN c=true)(hq:Q (.bool true) H):CW true (n+2) 668 [.str [c]] [] [] H Q X:=by
 refine tL (lv:=1) jj rfl ?_
 have K:∀b,b=true->Q (.bool b) H:=λb e=>e▸hq
 by_cases m:c∈[9,10,13,133]
 ·exact dT m<|K _<|aag m
 ·unfold FN at h
  rw[aad m,Bool.false_or]at h
  refine dF m ?_
  by_cases a:32<=c
  ·by_cases b:c<=126
   ·exact dT a<|dT b<|K _<|aag b
   ·rw[aad b,Bool.and_false,Bool.false_or,Bool.and_eq_true]at h
    exact dT a<|dF b<|dT (aaq h.1)<|dT (aaq h.2)<|K _ h.2
  ·rw[aad a,Bool.false_and,Bool.false_or,Bool.and_eq_true]at h
   exact dF a<|dT (aaq h.1)<|dT (aaq h.2)<|K _ h.2
theorem zM{fs:Fs}{Q:QF}{v:MV}(o:H.at_ p=some (.inst 1521 fs)):∀(l:List Nat) (i:Nat) (o2 o3 o4:Option MV),(∀c∈l,FN c=true)->(∀o2 o3,Q .next [some<|.ref p,some v,o2,o3,o4] H)->
  FW (zP bG.fm 2 p) (Bb<|oG bG.ib 0) (pP [2,3] i l) [some<|.ref p,some v,o2,o3,o4] H Q
 |[],i,o2,o3,o4,h,hq=>FW.nil<|hq _ _
 |c::l,i,o2,o3,o4,h,hq=>FW.cons (fs:=fs) (λ_=>⟨o,rfl⟩)<|tV (h c<|.head _) ⟨o,zM o l (i+1) _ _ _ (λx m=>h x<|.tail _ m) hq⟩
def qj{fs:Fs}{l:List Nat}(o:H.at_ p=some (.inst 1521 fs))(h:∀c∈l,FN c=true)(hq:Q .none fs H):SC (n+3) 720 p 1521 [.str l] [] [] H Q X:=
 gU (lv:=2) bG rfl o (zM o l 0 _ _ _ h λo2 o3=>⟨o,rfl,hq⟩)
abbrev SY(b:List Nat):Fs:=[(0,.str yd),(1,.none),(2,.int 0),(3,.bool true),(4,.str b),(5,.int 0),(6,.none),(7,.none),(8,.none),(9,.int 0),(10,.int 0),(11,.int 0)]
def vj{l:List Nat}(h:∀c∈l,FN c=true)(hl:l.length<2000)(hq:Q .none (SY<|l++[0])<|H.new<|.inst 1521<|SY<|l++[0]):SC (n+4) 682 H.n 1521 [.str l] [] [] (H.new<|.inst 1521 []) Q X:=by
 have K:Q .none (SY<|l++[0]) (((H.new<|.inst 1521 []).put H.n<|.inst 1521<|SY []).put H.n<|.inst 1521<|SY<|l++[0]):=by rw[mz,mz];exact hq
 exact gU (lv:=3) jC rfl af ⟨rfl,qj (fs:=SY []) au h ⟨by rw[List.length_singleton];exact aas (Nat.add_lt_add_right hl 1) (aai<|by rfl),K⟩⟩
end
structure IN(H:MH)(fs:Fs)(H':MH):Prop where
 obj:H'.at_ H.n=some (.inst 1521 fs)
 old:∀a o,H.at_ a=some o->H'.at_ a=some o
 hw:HW H'
 n:H.n<H'.n
section
variable{H H':MH}{fs f2:Fs}{o:MO}{a:Nat}
def IN.start(hw:HW H)(fs:Fs):IN H fs (H.new<|.inst 1521 fs):=⟨af,λa o h=>(aL<|aae<|hw _ _ h).trans h,hw.new,Nat.lt_succ_self _⟩
def IN.vZ(I:IN H fs H'){y x:MO}(ne:a≠H.n)(e:H'.at_ a=some x):(H'.put H.n y).at_ a=some x:=(ao ne).trans e
def IN.J6(I:IN H fs H'){y x:MO}(ne:a≠H.n)(e:H'.at_ a=some x):((H'.put H.n y).new o).at_ a=some x:=(aL (H:=H'.put H.n y)<|aae<|I.hw _ _ e).trans<|I.vZ ne e
def IN.ne(I:IN H fs H'){xs:MO}(e:H'.at_ a=some xs)(n:MO.inst 1521 fs≠xs):a≠H.n:=λq=>n<|aaf<|I.obj.symm.trans<|(aac H'.at_ q).symm.trans e
def IN.set(I:IN H fs H')(hw:HW H):IN H f2 (H'.put H.n<|.inst 1521 f2):=⟨au,λa o h=>I.vZ (aae<|hw _ _ h)<|I.old a o h,I.hw.put I.obj,I.n⟩
def IN.new(I:IN H fs H'):IN H fs (H'.new o):=⟨(aL<|aae I.n).trans I.obj,λa x h=>(aL<|aae<|I.hw _ _<|I.old a x h).trans<|I.old a x h,I.hw.new,aaw I.n⟩
def IN.pn(I:IN H fs H')(hw:HW H):IN H f2 ((H'.put H.n<|.inst 1521 f2).new o):=(I.set hw).new
def IN.up(I:IN H fs H'){y:MO}:Up H' (H'.put H.n y):=λa c fs e n=>I.vZ (I.ne e λq=>by cases q;exact n rfl) e
def IN.up'(I:IN H fs H'){y:MO}:Up H' ((H'.put H.n y).new o):=λa c fs e n=>I.J6 (I.ne e λq=>by cases q;exact n rfl) e
def IN.putL(I:IN H fs H'){i:Nat}{xs ys:List MV}(hi:H'.at_ i=some (.list xs))(l:H.n<=i)(hw:HW H):IN H fs (H'.put i<|.list ys):=
 ⟨(ao (I.ne hi nofun).symm).trans I.obj,λa o h=>(ao<|aae<|aas (hw _ _ h) l).trans<|I.old a o h,I.hw.put hi,I.n⟩
end
noncomputable def rj:P4:=⟨0,0,0,0⟩
def PY(b:List Nat)(tA iA kA tg oE tK p:Nat):PS:=⟨b,rj,false,tA,0,-1,iA,true,kA,.none,.none,.ref tg,oE,tK,.fj 1340 p⟩
abbrev pf(n:Nat)(b:List Nat)(tA iA kA tg oE tK:Nat):Fs:=(aM<|PY b tA iA kA tg oE tK 0).take n
section
variable{n tA:Nat}{b:List Nat}{H H':MH}{Q:MV->Fs->MH->Prop}{X:MV->MH->Prop}
def zN(I:IN H (pf 15 b tA 0 0 0 0 0) H')(hq:Q (.ref H'.n) (pf 15 b tA 0 0 0 0 0)<|H'.new<|.inst 53<|kJ b rj):SC (n+3) 713 H.n 1521 [] [] [] H' Q X:=
 gU (lv:=2) fJ rfl I.obj (DM ⟨rfl,I.new.obj,hq⟩)
def pL(I:IN H (pf 15 b tA 0 0 0 0 0) H')(hw:HW H)(ht:H'.at_ tA=some (.list []))(lt:H.n<=tA)
  (hq:∀H2 v,IN H (pf 15 b tA 0 0 0 0 0) H2->H2.at_ tA=some (.list [v])->cj H2 b v ⟨.di,rj,rj⟩->Q .none (pf 15 b tA 0 0 0 0 0) H2):SC (n+4) 869 H.n 1521 [] [] [] H' Q X:=by
 have I1:IN H (pf 15 b tA 0 0 0 0 0) (H'.new<|.inst 53<|kJ b rj):=I.new
 have t1:(H'.new<|.inst 53<|kJ b rj).at_ tA=some (.list []):=(aL<|aae<|I.hw _ _ ht).trans ht
 have I2:IN H (pf 15 b tA 0 0 0 0 0) ((H'.new<|.inst 53<|kJ b rj).new<|uY .di (.ref H'.n)<|.ref H'.n):=I1.new
 have t2:((H'.new<|.inst 53<|kJ b rj).new<|uY .di (.ref H'.n)<|.ref H'.n).at_ tA=some (.list []):=(aL<|aae<|I1.hw _ _ t1).trans t1
 have k2:=cj.new (t:=⟨.di,rj,rj⟩) I1.hw (.new (H:=H'))<|.new (H:=H')
 exact gU (lv:=3) cQ rfl I.obj<|zN I ⟨rZ t1,qS ⟨rfl,I2.obj,A7 t2 ⟨by decide,(I2.putL t2 lt hw).obj,hq _ _ (I2.putL t2 lt hw) au<|(Up.putL t2).tok k2⟩⟩⟩
def enP{fa p c lv:Nat}{fm:Fm}{ns:List Str}{ib:IB}{v:MV}{fs:Fs}(cl:∀{w:World} {Q:QV},zg (SG true) w fm lv ib (bW ns [.ref p,v]) H (gP Q) (λx _ H'=>X x H')->nW (SG true) w lv fa [.ref p,v] [] [] H Q X)(o:H.at_ p=some (.inst c fs))(h:run 400 (Ae fm lv c p Q X) [ib] ⟨[],bW ns [.ref p,v],[],fs,H⟩):SC (n+(lv+1)) fa p c [v] [] [] H Q X:=λw=>
 ⟨lv,aat ..,cl (oF w 400 h (λ_=>⟨o,rfl⟩) λmf σ1 g1 q=>by
  cases mf with
  |next=>exact⟨mT g1 rfl,q⟩
  |ret v=>exact⟨mT g1 rfl,q⟩
  |_=>exact q.elim)⟩
def tW{l:List Nat}(hw:HW H)(h:∀c∈l,FN c=true)(hl:l.length<2000)
  (hq:∀H2 tA iA kA v,IN H (pf 20 (l++[0]) tA iA kA 0 0 0) H2->H2.at_ tA=some (.list [v])->cj H2 (l++[0]) v ⟨.di,rj,rj⟩->H2.at_ kA=some (.cA [])->H.n<=tA->H.n<=kA->Q .none (pf 20 (l++[0]) tA iA kA 0 0 0) H2):SC (n+5) 783 H.n 1521 [.str l] [] [] (H.new<|.inst 1521 []) Q X:=by
 have I1:=IN.start hw<|SY<|l++[0]
 have I2:=I1.pn (f2:=pf 14 (l++[0]) 0 0 0 0 0 0) (o:=.list []) hw
 have I3:=I2.set (f2:=pf 15 (l++[0]) (H.n+1) 0 0 0 0 0) hw
 have t2:=(I2.vZ (y:=.inst 1521<|pf 15 (l++[0]) (H.n+1) 0 0 0 0 0) (Nat.succ_ne_self _) af)
 refine enP (lv:=4) (tH qQ) af λw Q' m=>⟨_,_,_,rfl,rfl,af,(vj h hl<|m .next _ _ ⟨I1.obj,rfl,I2.obj,pL I3 hw t2 (Nat.le_succ _) λH2 v I4 t4 k4=>?_⟩).sQ w⟩
 have I5:=I4.pn (f2:=pf 17 (l++[0]) (H.n+1) 0 0 0 0 0) (o:=.list []) hw
 have n4:=I4.ne t4 nofun
 have I6:=I5.pn (f2:=pf 19 (l++[0]) (H.n+1) H2.n 0 0 0 0) (o:=.cA []) hw
 have I7:=I6.set (f2:=pf 20 (l++[0]) (H.n+1) H2.n (H2.n+1) 0 0 0) hw
 have k6:H.n<H2.n+1:=aaw I4.n
 exact⟨I5.obj,I6.obj,hq _ _ _ _ v I7 (I6.vZ n4<|I5.J6 n4<|I4.J6 n4 t4) (I6.up.tok<|I5.up'.tok<|I4.up'.tok k4) (I6.vZ (aav k6) af) (Nat.le_succ _)<|Nat.le_of_lt k6⟩
def vm{l:List Nat}{r:List Tok}{Q:QV}(hw:HW H)(h:∀c∈l,FN c=true)(hl:l.length<1999)(hs:fU (l++[0]) rj false r)(hr:r.length+1<900)
  (hq:∀H2 s v,PG H.n s H2 s H2 [v] none (⟨.di,rj,rj⟩::r) []->s.state=.fj 1340 H.n->s.cur=.none->Ready s [v] none->s.buf=l++[0]->(∀a o,H.at_ a=some o->H2.at_ a=some o)->H.n<H2.n->H.n<=s.tA->H.n<=s.cg->H.n<=s.oE->Q .none H2):CW true (n+6) 1312 [.ref H.n,.str l] [] [] (H.new<|.inst 1521 []) Q X:=by
 refine SC.sQ<|enP (lv:=5) (uR rS) af λw Q' m=>⟨_,_,_,rfl,rfl,af,(tW hw h (aaw hl) λHs tA iA kA v Is ts ks tkA ltA YU=>m .next _ _ ?_).sQ w⟩
 have nA:=Is.ne ts nofun
 have nk:=Is.ne tkA nofun
 have lt:H.n<Hs.n:=Is.n
 have I1:=Is.pn (f2:=pf 22 (l++[0]) tA iA kA 0 0 0) (o:=.aF []) hw
 have I2:=I1.pn (f2:=pf 23 (l++[0]) tA iA kA Hs.n 0 0) (o:=.list []) hw
 have I3:=I2.pn (f2:=pf 24 (l++[0]) tA iA kA Hs.n (Hs.n+1) 0) (o:=.list []) hw
 have I4:=I3.set (f2:=aM<|PY (l++[0]) tA iA kA Hs.n (Hs.n+1) (Hs.n+2) H.n) hw
 have t4:=I3.vZ (y:=.inst 1521<|aM<|PY (l++[0]) tA iA kA Hs.n (Hs.n+1) (Hs.n+2) H.n) nA<|I2.J6 (y:=.inst 1521<|pf 24 (l++[0]) tA iA kA Hs.n (Hs.n+1) 0) (o:=.list []) nA<|I1.J6 (y:=.inst 1521<|pf 23 (l++[0]) tA iA kA Hs.n 0 0) (o:=.list []) nA<|Is.J6 (y:=.inst 1521<|pf 22 (l++[0]) tA iA kA 0 0 0) (o:=.aF []) nA ts
 have d4:=I3.vZ (y:=.inst 1521<|aM<|PY (l++[0]) tA iA kA Hs.n (Hs.n+1) (Hs.n+2) H.n) nk<|I2.J6 (y:=.inst 1521<|pf 24 (l++[0]) tA iA kA Hs.n (Hs.n+1) 0) (o:=.list []) nk<|I1.J6 (y:=.inst 1521<|pf 23 (l++[0]) tA iA kA Hs.n 0 0) (o:=.list []) nk<|Is.J6 (y:=.inst 1521<|pf 22 (l++[0]) tA iA kA 0 0 0) (o:=.aF []) nk tkA
 have s1:H.n<Hs.n+1:=aaw lt
 have s4:=I3.vZ (y:=.inst 1521<|aM<|PY (l++[0]) tA iA kA Hs.n (Hs.n+1) (Hs.n+2) H.n) (aav s1)<|I2.J6 (y:=.inst 1521<|pf 24 (l++[0]) tA iA kA Hs.n (Hs.n+1) 0) (o:=.list []) (aav s1) af
 have m4:=I3.vZ (y:=.inst 1521<|aM<|PY (l++[0]) tA iA kA Hs.n (Hs.n+1) (Hs.n+2) H.n) (aav<|aaw s1) af
 have k4:=I3.up (y:=.inst 1521<|aM<|PY (l++[0]) tA iA kA Hs.n (Hs.n+1) (Hs.n+2) H.n)|>.tok (I2.up'.tok<|I1.up'.tok<|Is.up'.tok ks)
 have la:tA<Hs.n:=Is.hw _ _ ts
 have hlb:(l++[0]).length<2000:=by rw[List.length_append];exact Nat.succ_lt_succ hl
 have hnb:∀x∈l++[0],x≠65279:=λx m=>(List.mem_append.mp m).elim (λm e=>aan (h _<|e▸m)<|by decide) λm e=>aan ((aaa.mp m).symm.trans e)<|by decide
 refine⟨Is.obj,rfl,I1.obj,I2.obj,I3.obj,hq _ (PY (l++[0]) tA iA kA Hs.n (Hs.n+1) (Hs.n+2) H.n) v ?_ rfl rfl (.inr ⟨nofun,trivial⟩) rfl I4.old I4.n ltA YU<|Nat.le_of_lt s1⟩
 exact⟨⟨⟨⟨⟨I4.obj,aas hlb<|aai<|by rfl⟩,⟨l,rfl⟩,(show 0<(l++[0]).length from by rw[List.length_append];exact Nat.succ_pos _),rfl,t4,aai (by rfl),d4,I4.hw⟩,rfl,nofun⟩,⟨[⟨.di,rj,rj⟩],r,.cons k4 .nil,rfl,hs⟩,hr,hlb,hnb⟩,s4,m4,aav<|aaw la,aav<|aaw<|aaw la,Nat.succ_ne_self _,.refl,.refl,rfl,rfl,rfl,rfl,.inl rfl,I4.hw⟩
end
abbrev Pt:=Nat×Nat×Nat
noncomputable def aq(q:P4):Pt:=(q.idx,q.line,q.col)
noncomputable def nq(q:Pt):MV:=.tup [.int q.1,.int q.2.1,.int q.2.2]
set_option genCtorIdx false in
inductive Due where
 |stream (a z:Pt)
 |c5 (a z:Pt)
 |document (ex:Bool) (Nr:Option<|Nat×Nat) (tags:Option fE) (a z:Pt)
 |aY (ex:Bool) (a z:Pt)
 |value (v:List Nat) (pl:Bool) (st:Option<|List Nat) (a z:Pt)
 |alias (v:List Nat) (a z:Pt)
 |refused (a:Pt)
noncomputable def Wf:List Nat:=[121,101,115]
noncomputable def noW:List Nat:=[110,111]
def vn(b:Bool):MV:=.str<|if b then Wf else noW
noncomputable def Due.tags:Due->Option fE
 |.document _ _ t _ _=>t
 |_=>none
def yu:Due->MV->MV
 |.stream a z,_=>.tup [.str [115,116,114,101,97,109],nq a,nq z]
 |.c5 a z,_=>.tup [.str [115,116,114,101,97,109,32,101,110,100],nq a,nq z]
 |.document ex Nr _ a z,tv=>.tup [.str [100,111,99,117,109,101,110,116],vn ex,tS Nr,tv,nq a,nq z]
 |.aY ex a z,_=>.tup [.str [100,111,99,117,109,101,110,116,32,101,110,100],vn ex,nq a,nq z]
 |.value v pl st a z,_=>.tup [.str [118,97,108,117,101],.none,.none,.tup [vn pl,vn !pl],.str v,TL st,nq a,nq z]
 |.alias v a z,_=>.tup [.str [97,108,105,97,115],.str v,nq a,nq z]
 |.refused a,_=>.tup [.str oq,nq a]
def fY(H:MH)(v:MV)(d:Due):Prop:=∃tv,fQ H tv d.tags/\v=yu d tv
def sU:vM->Due
 |⟨.di,a,z⟩=>.stream (aq a)<|aq z
 |⟨.send,a,z⟩=>.c5 (aq a)<|aq z
 |⟨.dH ex Nr tags,a,z⟩=>.document ex Nr tags (aq a)<|aq z
 |⟨.jG ex,a,z⟩=>.aY ex (aq a)<|aq z
 |⟨.alias v,a,z⟩=>.alias v (aq a)<|aq z
 |⟨.scalar v pl st,a,z⟩=>.value v pl st (aq a)<|aq z
section
variable{n:Nat}{H:MH}{b:List Nat}{v:MV}{Q:QV}{X:MV->MH->Prop}
def cB{q:P4}(h:gb H v b q)(hq:Q (nq<|aq q) H):CW true (n+2) 1558 [v] [] [] H Q X:=by
 obtain⟨i,rfl,ho⟩:=h
 exact tL (lv:=1) cW rfl<|aO ho rfl<|aO ho rfl<|aO ho rfl hq
def jX{b:Bool}(hq:Q (vn b) H):CW true (n+2) 1551 [.bool b] [] [] H Q X:=
 tL (lv:=1) nD rfl (by cases b<;>exact hq)
def zO{e:vM}(h:jn H b v e)(hq:∀u,fY H u (sU e)->Q u H):CW true (n+3) 1565 [v] [] [] H Q X:=by
 obtain⟨i,m1,m2,tv,rfl,h1,h2,h3,ho⟩:=h
 obtain⟨k,a,z⟩:=e
 refine tL (lv:=2) nG rfl ?_
 cases k with
 |di=>exact aO ho rfl<|cB h1<|aO ho rfl<|cB h2<|jQ ho<|jQ ho<|jQ ho<|jQ ho<|jQ ho<|hq _ ⟨_,h3,rfl⟩
 |send=>exact aO ho rfl<|cB h1<|aO ho rfl<|cB h2<|jQ ho<|jQ ho<|jQ ho<|jQ ho<|jQ ho<|jQ ho<|hq _ ⟨_,h3,rfl⟩
 |dH ex Nr tags=>exact aO ho rfl<|cB h1<|aO ho rfl<|cB h2<|jQ ho<|jQ ho<|jQ ho<|aO ho rfl<|jX<|aO ho rfl<|aO ho rfl<|hq _ ⟨_,h3,rfl⟩
 |jG ex=>exact aO ho rfl<|cB h1<|aO ho rfl<|cB h2<|jQ ho<|jQ ho<|jQ ho<|jQ ho<|aO ho rfl<|jX<|hq _ ⟨_,h3,rfl⟩
 |alias t=>exact aO ho rfl<|cB h1<|aO ho rfl<|cB h2<|jQ ho<|jQ ho<|aO ho rfl<|hq _ ⟨_,h3,rfl⟩
 |scalar t pl st=>exact aO ho rfl<|cB h1<|aO ho rfl<|cB h2<|jQ ho<|aO ho rfl ⟨Z9,jX<|aO ho rfl ⟨Z9,jX<|aO ho rfl<|aO ho rfl<|aO ho rfl<|aO ho rfl<|hq _ ⟨_,h3,rfl⟩⟩⟩
end
inductive dj:Option Mode->List Tok->List Due->Prop
 |stop {ts:List Tok}:dj none ts []
 |more {m:Mode} {ts ts':List Tok} {e:vM} {m':Option Mode} {ds:List Due}:yF m ts (.ok (e,m',ts'))->dj m' ts' ds->dj (some m) ts (sU e::ds)
 |refused {m:Mode} {ts:List Tok} {q:P4}:yF m ts (.error q)->dj (some m) ts [.refused<|aq q]
def fY.keep{H H':MH}{v:MV}{d:Due}(h:fY H v d)(u:vg H H'):fY H' v d:=by
 obtain⟨tv,t,e⟩:=h
 refine⟨tv,?_,e⟩
 cases ht:d.tags with
 |none=>rw[ht]at t;exact t
 |some es=>rw[ht]at t;obtain⟨x,rfl,hx⟩:=t;exact⟨x,rfl,u _ _ hx⟩
section
variable{p g n0:Nat}{s s':PS}{H H':MH}{aa ah:List MV}{k k':Option KS}{ts ts':List Tok}{sts kN gs:List MV}{dn:List Due}
structure Jr(p g n0:Nat)(s:PS)(H:MH)(aa:List MV)(k:Option KS)(ts:List Tok)(sts:List MV)(gs:List MV)(dn:List Due):Prop where
 G:PG p s H s H aa k ts sts
 got:H.at_ g=some (.list gs)
 NF:jh (fY H) gs dn
 n1:g≠s.tA
 n2:g≠s.oE
 n3:g≠s.tK
 lo:∀a∈Jj p s,n0<=a
 lg:n0<=g
 ln:n0<=H.n
def PG.no4(G:PG p s H s H aa k ts sts){a:Nat}{o:MO}(e:H.at_ a=some o)(h:∀fs,o≠.inst 1521 fs)(n1:a≠s.tA)(n2:a≠s.oE)(n3:∀es,o≠.cA es):a∉Jj p s:=λm=>by
 rcases aab.mp m with q|m
 ·exact h _<|aaf<|e.symm.trans<|(aac H.at_ q).trans G.obj
 ·rcases aab.mp m with q|m
  ·exact n1 q
  ·rcases aab.mp m with q|m
   ·obtain⟨es,ee⟩:=G.T.sc.R.jU
    exact n3 es<|aaf<|e.symm.trans<|(aac H.at_ q).trans ee
   ·exact n2<|aaa.mp m
def PG.own(G:PG p s H s' H' ah k' ts' kN)(G0:PG p s H s H aa k ts sts):vg H H':=λd es e=>G.kp.at_ _ _ e<|G0.no4 e nofun (λq=>by have:=(aac H.at_ q).symm.trans e;rw[G0.T.sc.R.tok]at this;cases this) (λq=>by have:=(aac H.at_ q).symm.trans e;rw[G0.st]at this;cases this) nofun
def Jr.step(I:Jr p g n0 s H aa k ts sts gs dn)(G:PG p s H s' H' ah k' ts' kN):Jr p g n0 s' H' ah k' ts' kN gs dn/\(∀a o,a<n0->H.at_ a=some o->H'.at_ a=some o):=by
 refine⟨⟨G.refl,G.kp.at_ _ _ I.got<|I.G.no4 I.got nofun I.n1 I.n2 nofun,I.NF.imp λv d h=>h.keep<|G.own I.G,by rw[G.e2];exact I.n1,by rw[G.e3];exact I.n2,by rw[G.e4];exact I.n3,λa m=>?_,I.lg,av I.ln G.kp.n⟩,λa o l e=>G.kp.at_ _ _ e λm=>Nat.not_le_of_lt l<|I.lo a m⟩
 rcases aab.mp m with q|m
 ·exact I.lo _<|q▸.head _
 ·rcases aab.mp m with q|m
  ·exact I.lo _<|.tail _<|(q.trans G.e2)▸.head _
  ·rcases aab.mp m with q|m
   ·rcases G.kA with h|h
    ·exact I.lo _<|.tail _<|.tail _<|(q.trans h)▸.head _
    ·exact av I.ln<|q▸h
   ·exact I.lo _<|.tail _<|.tail _<|.tail _<|((aaa.mp m).trans G.e3)▸.head _
def Jr.app(I:Jr p g n0 s H aa k ts sts gs dn){u:MV}{d:Due}(h:fY H u d):Jr p g n0 s (H.put g<|.list<|gs++[u]) aa k ts sts (gs++[u]) (dn++[d]):=
 have ud:vg H (H.put g<|.list<|gs++[u]):=.putL I.got
 have sc:Sc p (H.put g<|.list<|gs++[u]) s aa k:=⟨I.G.T.sc.R.putL I.got I.n1,I.G.T.sc.ind,I.G.T.sc.req⟩
 ⟨⟨I.G.T.up sc<|.putL I.got,(ao<|Ne.symm I.n2).trans I.G.st,(ao<|Ne.symm I.n3).trans I.G.rI,I.G.n1,I.G.n2,I.G.n3,.refl,.refl,rfl,rfl,rfl,rfl,.inl rfl,sc.R.hw⟩,au,(I.NF.imp λv d h=>h.keep ud).snoc<|h.keep ud,I.n1,I.n2,I.n3,I.lo,I.lg,I.ln⟩
end
def jn.Wg{H:MH}{b:List Nat}{v:MV}{e:vM}(h:jn H b v e):∃i,v=.ref i:=h.elim λi h=>h.elim λ_ h=>h.elim λ_ h=>h.elim λ_ h=>⟨i,h.1⟩
def PD.len{v:Option (Nat×Nat)}{tg:fE}{ts:List Tok}{r:Except P4 (Option (Nat×Nat)×fE×List Tok)}(h:PD v tg ts r):∀v' Af ts',r=.ok (v',Af,ts')->ts'.length<=ts.length:=by
 induction h with
 |stop=>intro v' Af ts' e;cases e;exact aaj _
 |twice=>intro v' Af ts' e;cases e
 |foreign=>intro v' Af ts' e;cases e
 |again=>intro v' Af ts' e;cases e
 |mG _ ih=>intro v' Af ts' e;exact Nat.le_succ_of_le<|ih _ _ _ e
 |tag _ _ ih=>intro v' Af ts' e;exact Nat.le_succ_of_le<|ih _ _ _ e
 |other _ _ _ ih=>intro v' Af ts' e;exact Nat.le_succ_of_le<|ih _ _ _ e
def DS.len{ts:List Tok}{r:Except P4 (vM×Bool×List Tok)}(h:DS ts r):∀e b ts',r=.ok (e,b,ts')->ts'.length<=ts.length:=by
 induction h with
 |skip _ _ ih=>intro e b ts' q;exact Nat.le_succ_of_le<|ih _ _ _ q
 |send=>intro e b ts' q;cases q;exact Nat.le_succ _
 |err=>intro e b ts' q;cases q
 |r9=>intro e b ts' q;cases q
 |doc _ _ hp _=>
  intro e b ts' q;cases q
  have:=hp.len _ _ _ rfl
  simp only[List.length_cons]at this⊢
  omega
def yF.post{m:Mode}{ts:List Tok}{r:Res}(h:yF m ts r):∀e m' ts',r=.ok (e,m',ts')->ts'.length<=ts.length/\m'≠some .first:=by
 have hd:∀{ts:List Tok} {r:Except P4 (vM×Bool×List Tok)},DS ts r->∀e m' ts',xo r=.ok (e,m',ts')->ts'.length<=ts.length/\m'≠some .first:=by
  intro ts r h e m' ts' q
  cases r with
  |error=>cases q
  |ok r=>
   obtain⟨e1,b,t1⟩:=r
   cases q
   exact⟨h.len _ _ _ rfl,by cases b<;>simp⟩
 cases h with
 |first=>intro e m' ts' q;cases q;exact⟨Nat.le_succ _,by simp⟩
 |bare=>intro e m' ts' q;cases q;exact⟨aaj _,by simp⟩
 |open_ _ h=>exact hd h
 |start h=>exact hd h
 |block=>intro e m' ts' q;cases q;exact⟨Nat.le_succ _,by simp⟩
 |empty=>intro e m' ts' q;cases q;exact⟨aaj _,by simp⟩
 |node=>intro e m' ts' q;cases q;exact⟨Nat.le_succ _,by simp⟩
 |ended=>intro e m' ts' q;cases q;exact⟨Nat.le_succ _,by simp⟩
 |close=>intro e m' ts' q;cases q;exact⟨aaj _,by simp⟩
structure tX(k:Nat)(L L':Loc):Prop where
 len:L'.length=L.length
 at_:∀j,j≠k->L'[j]?=L[j]?
def tX.refl{k:Nat}{L:Loc}:tX k L L:=⟨rfl,λ_ _=>rfl⟩
def tX.set{k:Nat}{L L':Loc}(o:tX k L L')(v:Option MV):tX k L (L'.set k v):=⟨by rw[List.length_set];exact o.len,λj h=>by rw[List.getElem?_set_ne<|Ne.symm h];exact o.at_ j h⟩
set_option maxHeartbeats 4000000 in
def S1{o:Option (Option MV)}{v:MV}{K:MV->Prop}(e:o=some (some v))(h:K v):rD o K:=by rw[e];exact h
def oiI{i k c:Nat}{fs:Fs}{H:MH}{K:Nat->Nat->Fs->Prop}(o:H.at_ i=some (.inst c fs))(h:K i c fs):dX (.ref i) k H K:=jQ o h
noncomputable abbrev zW(f:Fm)(lv:Nat):En:=⟨false,true,f,lv,0,0⟩
noncomputable abbrev Wh:IE:=.cmp .IsNot (.loc 21) .none
noncomputable abbrev Wi:IB:=(.cons (.expr<|.su .append (.loc 16)<|.cons (.uq 1565 (.cons (.loc 21) .nil) [] .nil) .nil)<|.cons (.asg 21<|.gJ (.loc 15) 107 .nil [] .nil) .nil)
def NG{f:Fm}{p g n0:Nat}{Q:QF}{X:QX}{L0:Loc}(hlen:21<L0.length)(TA:L0[15]?=some (some<|.ref p))(h16:L0[16]?=some (some<|.ref g)){mo:Option Mode}{ts:List Tok}{ds:List Due}(ht:dj mo ts ds):
  ∀(s:PS) (H:MH) (aa:List MV) (k:Option KS) (gs:List MV) (dn:List Due) (Q1:QV) (X1:MV->MH->Prop),Jr p g n0 s H aa k ts (Bw p mo) gs dn->s.cur=.none->s.state=stM p mo->ts.length<100->gs.length+ds.length<500->(mo=some .first->Ready s aa k)->
  (∀v H',(∀L',tX 21 L0 L'->L'[21]?=some (some v)->LW (zW f 14) Wh Wi .nil L' H' Q X)->Q1 v H')->
  (∀m H',(∀L',tX 21 L0 L'->X m L' H')->X1 m H')->
  (∀L' s' H' ah k' ts' kN gs',tX 21 L0 L'->Jr p g n0 s' H' ah k' ts' kN gs' (dn++ds)->(∀a o,a<n0->H.at_ a=some o->H'.at_ a=some o)->Q .next L' H')->
  (∀L' q s' H' ah k' ts' kN gs' Ji m,tX 21 L0 L'->dn++ds=Ji++[.refused<|aq q]->Jr p g n0 s' H' ah k' ts' kN gs' Ji->(∀a o,a<n0->H.at_ a=some o->H'.at_ a=some o)->gb H' m s.buf q->X m L' H')->
  CW true 14 1333 [.ref p] [] [] H Q1 X1:=by
 induction ht with
 |@stop ts=>
  refine λs H aa k gs dn Q1 X1 I qi hst hts hgs hr K1 K2 hQ hX=>(se (n:=0) I.G hst qi λs' H' ah k' G' _ _=>K1 _ _ λL' o e=>?_).sQ
  obtain⟨I',old⟩:=I.step G'
  exact LW.turn (fs:=[]) nofun<|S1 e<|hQ _ _ _ _ _ _ _ _ o ((List.append_nil dn).symm▸I') old
 |@more m ts ts' e m' ds hs ht ih=>
  refine λs H aa k gs dn Q1 X1 I qi hst hts hgs hr K1 K2 hQ hX=>(ri (n:=0) I.G hts (λe=>hr<|e▸rfl) hs hst qi λs' H' ah k' v G' SW Wj hv=>K1 _ _ λL' o el=>?_).sQ
  obtain⟨I',old⟩:=I.step G'
  obtain⟨i,rfl⟩:=hv.Wg
  obtain⟨q1,q2⟩:=hs.post _ _ _ rfl
  have e15:L'[15]?=some (some<|.ref p):=(o.at_ 15<|by decide).trans TA
  have e16:L'[16]?=some (some<|.ref g):=(o.at_ 16<|by decide).trans h16
  refine LW.turn (fs:=[]) nofun<|S1 el<|S1 e16 ⟨rZ I'.got,S1 el<|zO hv λu hu=>A7 I'.got ⟨H8 (aah _ _) (aas hgs<|aai (n:=500)<|by rfl),S1 e15<|oiI (I'.app hu).G.obj ⟨rfl,?_⟩⟩⟩
  refine ih s' _ ah k' (gs++[u]) (dn++[sU e]) _ _ (I'.app hu) Wj SW (H8 q1 hts) (by rw[List.length_append];exact(Nat.add_right_comm gs.length 1 ds.length).symm▸hgs) (λz=>aan z q2) (λv H3 h=>h _ (o.set _)<|List.getElem?_set_self<|show 21<L'.length from by rw[o.len];exact hlen) (λm H3 h=>h _ o) (λL' s2 H3 iJ k2 V9 YV gs2 o I3 E6=>?_) λL' q s2 H3 iJ k2 V9 YV gs2 dn2 m2 o e3 I3 E6 h3=>?_
  ·exact hQ _ _ _ _ _ _ _ _ o (by rw[List.append_assoc]at I3;exact I3) λa o l e=>E6 a o l<|(ao<|aae<|aas l I.lg).trans<|old a o l e
  ·exact hX _ _ _ _ _ _ _ _ _ _ _ o (by rw[<-e3,List.append_assoc];rfl) I3 (λa o l e=>E6 a o l<|(ao<|aae<|aas l I.lg).trans<|old a o l e)<|G'.e1▸h3
 |@refused m ts q hs=>
  exact λs H aa k gs dn Q1 X1 I qi hst hts hgs hr K1 K2 hQ hX=>(ri (n:=0) (Q:=λv _=>Q1 v) I.G hts (λe=>hr<|e▸rfl) hs hst qi λH' m' ⟨s',ah,k',ts',G'⟩ h'=>K2 _ _ λL' o=>hX L' q _ _ _ _ _ _ _ dn m' o rfl (I.step G').1 (I.step G').2 h').sQ
section
variable{H H':MH}{n:Nat}{l m:List MV}
def E7{q:Pt}(t:jm H (n+1) l m):jm H (n+1) (nq q::l) (nq q::m):=.tup (.flat trivial<|.flat trivial<|.flat trivial .nil) t
def Xa{b:Bool}(t:jm H n l m):jm H n (vn b::l) (vn b::m):=.flat trivial t
def dqV{v:Option (Nat×Nat)}(t:jm H (n+1) l m):jm H (n+1) (tS v::l) (tS v::m):=by
 cases v with
 |none=>exact .flat trivial t
 |some x=>exact .tup (.flat trivial<|.flat trivial .nil) t
def dqS{v:Option (List Nat)}(t:jm H n l m):jm H n (TL v::l) (TL v::m):=by cases v<;>exact .flat trivial t
def dqT{a b:MV}{t:Option fE}(h1:fQ H a t)(h2:fQ H b t)(r:jm H n l m):jm H n (a::l) (b::m):=by
 cases t with
 |none=>cases h1;cases h2;exact .flat trivial r
 |some es=>
  obtain⟨i,rfl,hi⟩:=h1
  obtain⟨j,rfl,hj⟩:=h2
  exact .dict hi hj r
def fY.eq{a b:MV}{d:Due}(h1:fY H a d)(h2:fY H b d)(t:jm H (n+3) l m):jm H (n+3) (a::l) (b::m):=by
 obtain⟨t1,x1,rfl⟩:=h1
 obtain⟨t2,x2,rfl⟩:=h2
 cases d with
 |stream a z=>exact .tup (.flat trivial<|E7<|E7 .nil) t
 |c5 a z=>exact .tup (.flat trivial<|E7<|E7 .nil) t
 |document ex Nr tags a z=>exact .tup (.flat trivial<|Xa<|dqV<|dqT x1 x2<|E7<|E7 .nil) t
 |aY ex a z=>exact .tup (.flat trivial<|Xa<|E7<|E7 .nil) t
 |value v pl st a z=>exact .tup (.flat trivial<|.flat trivial<|.flat trivial<|.tup (Xa<|Xa .nil)<|.flat trivial<|dqS<|E7<|E7 .nil) t
 |alias v a z=>exact .tup (.flat trivial<|.flat trivial<|E7<|E7 .nil) t
 |refused a=>exact .tup (.flat trivial<|E7 .nil) t
def NH{xs ys:List MV}{ds:List Due}(h:jh (fY H) xs ds):jh (fY H) ys ds->jm H (n+3) xs ys:=by
 induction h generalizing ys with
 |nil=>
  intro k
  cases k
  exact .nil
 |cons a _ ih=>
  intro k
  cases k with
  |cons b s=>exact a.eq b<|ih s
def vp(n:Nat)(H H':MH):Prop:=∀a o,a<n->H.at_ a=some o->H'.at_ a=some o
def fY.below{v:MV}{d:Due}(h:fY H v d)(hw:HW H)(u:vp H.n H H'):fY H' v d:=h.keep λd es e=>u d _ (hw _ _ e) e
end
def yw:xX (SG false) cW.fm cW.ib (gV<|qo 58)=true:=by kernel_rfl
def yx{H:MH}{v:MV}{b:List Nat}{q:P4}{Q:QV}{X:MV->MH->Prop}(h:gb H v b q)(hq:Q (nq<|aq q) H):CW false 14 1558 [v] [] [] H Q X:=by
 obtain⟨i,rfl,ho⟩:=h
 have K:run 400 ⟨⟨false,false,cW.fm,1,0,0⟩,VU ⟨false,false,cW.fm,1,0,0⟩ Q,λx _ H=>X x H⟩ [cW.ib] ⟨[],bW cW.ns [.ref i],[],[],H⟩:=aO (S:=SG false) ho rfl<|aO (S:=SG false) ho rfl<|aO (S:=SG false) ho rfl hq
 exact λw=>⟨1,by decide,nW.Ir (S:=SG false) (zw w.params) (by kernel_rfl) (by kernel_rfl) (wQ false w) yw (by decide) (Yq (r:=cW) rfl) (oF w 400 K nofun λmf σ1 g1 q=>by
  cases mf with
  |next=>exact q
  |ret v=>exact q
  |_=>exact q.elim)⟩
abbrev zL:En:=zW mq 14
def Bk(s:IS)(L:Loc)(H:MH)(Q:QF)(X:QX):Prop:=∀w,zg (SG true) w mq 14 s L H Q X
def fZ{s:IS}{L:Loc}{H:MH}{Q:QF}{X:QX}(h:run 400 ⟨zL,MT zL Q,X⟩ [s] ⟨[],L,[],[],H⟩):Bk s L H Q X:=λw=>oF w 400 h nofun λmf σ1 _ q=>q
section
variable{H:MH}{L:Loc}{l b:List Nat}{j g p:Nat}{ys gs:List MV}{ds:List Due}{r:List Tok}{Q:QF}{X:QX}
abbrev Js:IS:=fX eO.ib 17
def NI{n0:Nat}{s:PS}{v:MV}(k1:L[15]?=some (some<|.ref p))(k2:L[16]?=some (some<|.ref g))(hL:L.length=29)(I:Jr p g n0 s H [v] none (⟨.di,rj,rj⟩::r) (Bw p<|some .first) [] [])(qi:s.cur=.none)(hst:s.state=.fj 1340 p)(R:Ready s [v] none)(hr:r.length<90)(hds:ds.length<400)(ht:dj (some .first) (⟨.di,rj,rj⟩::r) ds)
  (a1:∀L' H' gs,tX 21 L L'->H'.at_ g=some (.list gs)->jh (fY H') gs ds->vp n0 H H'->Q .next L' H')
  (a2:∀L' H' gs Ji m q,tX 21 L L'->H'.at_ g=some (.list gs)->jh (fY H') gs Ji->ds=Ji++[.refused<|aq q]->gb H' m s.buf q->vp n0 H H'->HW H'->X m L' H'):Bk (Bb<|oG Js 2) L H Q X:=by
 refine fZ<|S1 k1<|oiI I.G.obj ⟨rfl,?_⟩
 refine NG (by rw[hL];decide) k1 k2 ht s H [v] none [] [] _ _ I qi hst (H8 (Nat.succ_le_of_lt hr)<|by decide) (by rw[List.length_nil,Nat.zero_add];exact aar hds<|by decide) (λ_=>R) (λv H' h=>h _ (tX.refl.set _)<|List.getElem?_set_self<|show 21<L.length from by rw[hL];decide) (λm H' h=>h _ .refl) (λL' s' H' ah k' ts' kN gs' o I' b'=>?_) λL' q s' H' ah k' ts' kN gs' Ji m o e' I' b' h'=>?_
 ·exact a1 L' H' gs' o I'.got I'.NF b'
 ·exact a2 L' H' gs' Ji m q o I'.got I'.NF e' h' b' I'.G.hw
def NJ(hw:HW H)(hL:L.length=29)(h1:L[1]?=some (some<|.str l))(h2:L[2]?=some (some<|.ref j))(hj:H.at_ j=some (.list ys))(hd:jh (fY H) ys ds)(hp:∀c∈l,FN c=true)(hl:l.length<1999)
  (hs:fU (l++[0]) rj false r)(hr:r.length<90)(hds:ds.length<400)(ht:dj (some .first) (⟨.di,rj,rj⟩::r) ds)(hq:∀L' H',Q (.ret<|.bool true) L' H'):Bk Js L H Q X:=by
 refine fZ<|S1 h1<|vm hw hp hl hs (aar (Nat.succ_lt_succ hr)<|by decide) λH2 s v G hst qi R eb old lt l1 l2 l3=>⟨rfl,λw Q1 m1=>?_⟩
 have ltj:j<H.n:=hw _ _ hj
 have I:Jr H.n H2.n H.n s (H2.new<|.list []) [v] none (⟨.di,rj,rj⟩::r) (Bw H.n<|some .first) [] []:=
  ⟨(G.new<|.list []).refl,af,.nil,aav<|G.xj _ _ G.T.sc.R.tok,aav<|G.xj _ _ G.st,aav<|G.xj _ _ G.rI,λa m=>by
   rcases aab.mp m with q|m
   ·exact Nat.le_of_eq q.symm
   ·rcases aab.mp m with q|m
    ·exact q▸l1
    ·rcases aab.mp m with q|m
     ·exact q▸l2
     ·exact aaa.mp m▸l3,Nat.le_of_lt lt,Nat.le_of_lt<|aaw lt⟩
 have E6:vp H.n H (H2.new<|.list []):=λa o _ e=>(aL<|aae<|G.xj _ _<|old a o e).trans<|old a o e
 have k1:((L.set 15<|some<|.ref H.n).set 16<|some<|.ref H2.n)[15]?=some (some<|.ref H.n):=(List.getElem?_set_ne<|by decide).trans<|List.getElem?_set_self<|by rw[hL];decide
 have k2:((L.set 15<|some<|.ref H.n).set 16<|some<|.ref H2.n)[16]?=some (some<|.ref H2.n):=List.getElem?_set_self<|by rw[List.length_set,hL];decide
 have k3:((L.set 15<|some<|.ref H.n).set 16<|some<|.ref H2.n)[2]?=some (some<|.ref j):=((List.getElem?_set_ne<|by decide).trans<|List.getElem?_set_ne<|by decide).trans h2
 have k4:((L.set 15<|some<|.ref H.n).set 16<|some<|.ref H2.n).length=29:=by rw[List.length_set,List.length_set];exact hL
 have fin:∀L' H' gs,L'[16]?=some (some<|.ref H2.n)->L'[2]?=some (some<|.ref j)->H'.at_ H2.n=some (.list gs)->jh (fY H') gs ds->vp H.n H H'->Q1 .next L' H':=λL' H' gs e1 e2 e3 e4 e5=>
  m1 .next L' H' λw Q2 m2=>⟨H2.n,j,gs,ys,e1,e2,e3,e5 _ _ ltj hj,NH e4<|hd.imp λv d x=>x.below hw e5,m2 _ _ _<|hq _ _⟩
 refine NI (n0:=H.n) k1 k2 k4 I qi hst R hr hds ht (λL' H' gs o e3 e4 e5=>⟨rfl,fin L' H' gs ((o.at_ 16<|by decide).trans k2) ((o.at_ 2<|by decide).trans k3) e3 e4 λa o l e=>e5 a o l<|E6 a o l e⟩) (λL' H' gs Ji m q o e3 e4 e6 e7 e5 xj=>?_) w
 have nn:∀i o,H'.at_ i=some o->(H'.new<|.exc 1293 m).at_ i=some o:=λi o e=>(aL<|aae<|xj _ _ e).trans e
 have e1:L'[16]?=some (some<|.ref H2.n):=(o.at_ 16<|by decide).trans k2
 have lgs:gs.length<400:=H8 (by rw[e4.len,e6,List.length_append];exact aah ..) hds
 refine⟨H2.n,gs,e1,e3,xj _ _ e3,by rw[o.len,k4];decide,yx (e7.elim λa h=>⟨a,h.1,nn _ _ h.2⟩) ⟨gs,nn _ _ e3,aas lgs (aai<|by rfl),?_⟩ w⟩
 have ud:vg (H'.new<|.exc 1293 m) ((H'.new<|.exc 1293 m).put H2.n<|.list<|gs++[.tup [.str oq,nq<|aq q]]):=.putL<|nn _ _ e3
 refine fin _ _ (gs++[.tup [.str oq,nq<|aq q]]) ((List.getElem?_set_ne<|by decide).trans e1) ((List.getElem?_set_ne<|by decide).trans<|(o.at_ 2<|by decide).trans k3) au ?_ λa o l e=>(ao<|aae<|aar l lt).trans<|nn _ _<|e5 a o l<|E6 a o l e
 rw[e6]
 exact(e4.imp λv d x=>fY.keep (x.keep λi es e=>nn _ _ e) ud).snoc ⟨.none,rfl,rfl⟩
end
inductive iK where
 |start|open_|plain|done|ahead|ended
 deriving DecidableEq
noncomputable def iK.w:iK->List Nat
 |.start=>[115,116,97,114,116]
 |.open_=>[111,112,101,110]
 |.plain=>[112,108,97,105,110]
 |.done=>[100,111,110,101]
 |.ahead=>[97,104,101,97,100]
 |.ended=>[101,110,100,101,100]
inductive eF where
 |plain|marker|directive|stop|blank|quoted|iM|alias
 deriving DecidableEq
noncomputable def eF.w:eF->List Nat
 |.plain=>[112,108,97,105,110]
 |.marker=>[109,97,114,107,101,114]
 |.directive=>[100,105,114,101,99,116,105,118,101]
 |.stop=>[115,116,111,112]
 |.blank=>[98,108,97,110,107]
 |.quoted=>[113,117,111,116,101,100]
 |.iM=>[114,101,109,97,114,107]
 |.alias=>[97,108,105,97,115]
structure gH where
 txt:List Nat
 sort:eF
 place:Nat
 body:List Nat
 bf:Bool
noncomputable def DW:List gH:=[
 ⟨[119],.plain,0,[119],false⟩,
 ⟨[45,45,45],.marker,3,[],false⟩,
 ⟨[32,32,118,32,117],.plain,2,[118,32,117],false⟩,
 ⟨[37,89,65,77,76,32,49,46,49],.directive,0,[37,89,65,77,76,32,49,46,49],false⟩,
 ⟨[46,46,46],.stop,0,[],false⟩,
 ⟨[],.blank,0,[],false⟩,
 ⟨[45,45,45,32,119],.marker,4,[119],false⟩,
 ⟨[39,113,39],.quoted,0,[39,113,39],false⟩,
 ⟨[35,32,114],.iM,0,[],true⟩,
 ⟨[37,84,65,71,32,33,101,33,32,120],.directive,0,[37,84,65,71,32,33,101,33,32,120],false⟩,
 ⟨[45,45,45,120],.plain,0,[45,45,45,120],false⟩,
 ⟨[46,46,46,46],.plain,0,[46,46,46,46],false⟩,
 ⟨[32,45,45,45],.plain,1,[45,45,45],false⟩,
 ⟨[45,45,45,32,39,112,39,32,35,32,114],.marker,4,[39,112,39],true⟩,
 ⟨[32,42,120],.alias,1,[42,120],false⟩,
 ⟨[46,46,46,32,35,32,114],.stop,0,[],true⟩,
 ⟨[32,32],.blank,0,[],false⟩,
 ⟨[37,122,32,45,45,45],.directive,0,[37,122,32,45,45,45],false⟩,
 ⟨[119,32,35,32,114],.plain,0,[119],true⟩,
 ⟨[45,45,45,32,35,32,114],.marker,4,[],true⟩,
 ⟨[32,46,46,46],.plain,1,[46,46,46],false⟩,
 ⟨[45,45,45,32,32,45,45,45],.marker,5,[45,45,45],false⟩,
 ⟨[34,112,34,32,35,32,114],.quoted,0,[34,112,34],true⟩,
 ⟨[37,89,65,77,76,32,49,46,51,32,35,32,114],.directive,0,[37,89,65,77,76,32,49,46,51],true⟩,
 ⟨[32,35,45,45,45],.iM,0,[],true⟩,
 ⟨[45,45],.plain,0,[45,45],false⟩,
 ⟨[37,84,65,71,32,33,32,121],.directive,0,[37,84,65,71,32,33,32,121],false⟩,
 ⟨[45,45,45,32,46,46,46],.marker,4,[46,46,46],false⟩,
 ⟨[45,45,45,35,120],.plain,0,[45,45,45,35,120],false⟩,
 ⟨[37,89,65,77,76,32,50,46,48],.directive,0,[37,89,65,77,76,32,50,46,48],false⟩]
noncomputable def pU:List (List Nat):=[[10],[13,10],[8232],[13],[133],[8233]]
def vq(i:Nat):gH:=DW.getD i ⟨[],.blank,0,[],false⟩
inductive Bx where
 |foreign
 |version (a b:Nat)
 |other
 |tag (h p:List Nat)
noncomputable def sj(body:List Nat):Bx:=
 if body=[37,89,65,77,76,32,49,46,49]then .version 1 1
 else if body=[37,89,65,77,76,32,49,46,51]then .version 1 3
 else if body=[37,89,65,77,76,32,50,46,48]then .foreign
 else if body=[37,84,65,71,32,33,101,33,32,120]then .tag [33,101,33] [120]
 else if body=[37,84,65,71,32,33,32,121]then .tag [33] [121]
 else .other
structure LS where
 text:List Nat
 due:List Due
 state:iK
 refused:Option Pt
 version:Option (Nat×Nat)
 tags:fE
 opened:Pt
 value:List Nat
 start:Pt
 stop:Pt
 aE:List (List Nat)
 line:Nat
 finish:Pt
noncomputable def aN(q:Pt)(n:Nat):Pt:=(q.1+n,q.2.1,q.2.2+n)
noncomputable def E8:LS:=⟨[],[.stream (0,0,0) (0,0,0)],.start,none,none,[],(0,0,0),[],(0,0,0),(0,0,0),[],0,(0,0,0)⟩
noncomputable def S2(st:iK):Bool:=st.casesOn true true true false false false
def fits(st:iK)(so:eF):Bool:=so.casesOn (S2 st) true true (st.casesOn false true true true false true) true (S2 st) true<|S2 st
def pick(σ:LS)(n:Nat):gH:=if !fits σ.state (vq<|n%30).sort&&(decide (0<n%7)||decide (σ.state=.start))then vq 1 else vq<|n%30
def bZ(σ:LS)(n:Nat)(row:List Nat):List Nat:=
 if pU.getD ((n/30+σ.line)%6) []=[10]/\row=[]/\σ.text.getLast?=some 13 then[133]else pU.getD ((n/30+σ.line)%6) []
noncomputable def qk(σ:LS):Due:=.value σ.value true none σ.start σ.stop
noncomputable def fold(aE:List<|List Nat):List Nat:=aE.casesOn [] λg gs=>if g=[10]then gs.casesOn [32] λ_ _=>gs.flatten else g++gs.flatten
def closed(body:List Nat)(a:Pt):Due:=body.casesOn (.alias [] a a) λc t=>if c=42 then .alias t a (aN a<|t.length+1)else .value (t.take<|t.length-1) false (some [c]) a<|aN a<|t.length+1
def NK(σ:LS)(spot:Pt):LS:=if σ.state=.plain then{σ with due:=σ.due++[qk σ],state:=.done}else if σ.state=.open_ then{σ with due:=σ.due++[.value [] true none spot spot],state:=.done}else σ
def Jt(σ:LS)(spot:Pt):LS:=if σ.state=.ahead then{σ with refused:=some spot}else if σ.state=.done then{σ with due:=σ.due++[.aY true spot<|aN spot 3],state:=.ended}else σ
noncomputable def Ju(σ:LS)(spot:Pt):LS:=if σ.state=.done then{σ with due:=σ.due++[.aY false spot spot]}else σ
noncomputable def E9(σ:LS)(spot:Pt):LS:=if σ.state=.ahead then σ else{σ with version:=none,tags:=[],opened:=spot,state:=.ahead}
def PZ(σ:LS)(so:eF)(spot:Pt):LS:=if so=.stop then Jt σ spot else E9 (Ju σ spot) spot
noncomputable def rq(σ:LS)(l:Bx)(spot:Pt):LS:=l.casesOn {σ with refused:=some spot} (λa b=>if σ.version.isSome then{σ with refused:=some spot}else{σ with version:=some (a,b)}) σ λh p=>if h∈σ.tags.map (·.1)then{σ with refused:=some spot}else{σ with tags:=σ.tags++[(h,p)]}
def TN(σ:LS)(so:eF)(body:List Nat)(spot:Pt):LS:=if so=.directive then rq σ (sj body) spot else σ
def TP(σ:LS)(so:eF)(spot:Pt):LS:=if so=.marker then{σ with due:=σ.due++[.document true σ.version (gA σ.tags) σ.opened<|aN spot 3],state:=.open_}else σ
def DX(σ:LS)(so:eF)(body:List Nat)(spot:Pt):LS:=TP (TN (PZ (NK σ spot) so spot) so body spot) so spot
noncomputable def P0(σ:LS)(here:Pt):LS:=if σ.state=.start then{σ with due:=σ.due++[.document false none none here here]}else σ
def J7(σ:LS)(body:List Nat)(here:Pt):LS:=body.casesOn {σ with value:=body,start:=here} λc _=>if c∈[39,34,42]then{σ with value:=body,start:=here,due:=σ.due++[closed body here],state:=.done}else{σ with value:=body,start:=here,state:=.plain}
def NL(σ:LS)(body:List Nat)(here:Pt):LS:=if σ.state=.plain then{σ with value:=σ.value++fold σ.aE++body}
  else if σ.state=.start∨σ.state=.open_ then J7 (P0 σ here) body here
  else{σ with due:=if σ.state=.done then σ.due++[.aY false here here]else σ.due,refused:=some here}
def DY(σ:LS)(bf:Bool):LS:=if σ.state=.plain/\bf=true then{σ with due:=σ.due++[qk σ],state:=.done}else σ
def bx(σ:LS)(body:List Nat)(bf:Bool)(here:Pt):LS:=DY {NL {σ with stop:=aN here body.length} body here with aE:=[]} bf
noncomputable def pV(e:List Nat):List Nat:=if e=[8232]∨e=[8233]then e else[10]
noncomputable def fR(σ:LS)(r:gH):eF:=if r.sort=.directive/\σ.state=.plain then .plain else r.sort
noncomputable def fD(σ:LS):Pt:=(σ.text.length,σ.line,0)
noncomputable def r1(σ:LS)(r:gH)(e:List Nat):LS:={σ with text:=σ.text++r.txt++e,line:=σ.line+1}
def r2(σ:LS)(so:eF):LS:=if so=.iM/\σ.state=.plain then{σ with due:=σ.due++[qk σ],state:=.done}else σ
def r3(σ:LS)(so:eF)(body:List Nat)(spot:Pt):LS:=if so=.marker∨so=.stop∨so=.directive then DX σ so body spot else σ
def r4(σ:LS)(so:eF)(body:List Nat)(bf:Bool)(here:Pt):LS:=if so=.plain∨so=.quoted∨so=.alias∨(so=.marker/\body≠[])then bx σ body bf here else σ
def fG(σ:LS)(r:gH)(e:List Nat):LS:=r4 (r3 (r2 (r1 σ r e)<|fR σ r) (fR σ r) r.body<|fD σ) (fR σ r) r.body r.bf<|aN (fD σ) r.place
def dR(σ:LS)(n:Nat):LS:=fG σ (pick σ n)<|bZ σ n (pick σ n).txt
def eW(σ:LS)(e:List Nat):LS:={σ with aE:=σ.aE++[pV e],finish:=(σ.text.length,σ.line,0)}
abbrev Last:=Option<|List Nat×Pt×List Nat
def nu(ns:List Nat):LS->Last->LS×Last:=ns.rec (λσ l=>(σ,l)) λm _ ih σ _=>if(dR σ m).refused.isSome=true then(dR σ m,some (bZ σ m (pick σ m).txt,fD σ,(pick σ m).txt))else ih (eW (dR σ m)<|bZ σ m (pick σ m).txt)<|some (bZ σ m (pick σ m).txt,fD σ,(pick σ m).txt)
def tZ(odd:Bool)(σ:LS)(l:Last):LS:=l.casesOn σ λx=>if σ.refused.isSome=false/\odd=true/\0<σ.line then{σ with text:=σ.text.take<|σ.text.length-x.1.length,finish:=aN x.2.1 x.2.2.length}else σ
def t7(σ:LS)(f:Pt):List Due:=σ.state.casesOn [.c5 f f] [.value [] true none f f,.aY false f f,.c5 f f] [qk σ,.aY false f f,.c5 f f] [.aY false f f,.c5 f f] [.refused f] [.c5 f f]
def v8(σ:LS):List Due:=σ.refused.casesOn (t7 σ σ.finish) λq=>[.refused q]
section
variable{n:Nat}{H:MH}{Q:QV}{X:MV->MH->Prop}
def t8{m:Nat}(h:m<1000):m<dg:=aas h<|aai (n:=1000)<|by rfl
def i9{q:Pt}{m:Nat}(hq:Q (nq<|aN q m) H):CW true (n+2) 1572 [nq q,.int m] [] [] H Q X:=
 tL (lv:=1) j4 rfl ⟨YQ,⟨YQ,⟨YQ,hq⟩⟩⟩
def gB{v:List Nat}{a z:Pt}(hq:Q (yu (.value v true none a z) .none) H):CW true (n+2) 1586 [.str v,nq a,nq z] [] [] H Q X:=
 tL (lv:=1) lO rfl hq
def NO(hq:Q (.ref H.n)<|H.new<|.list<|pU.map .str):CW true (n+2) 1530 [] [] [] H Q X:=
 tL (lv:=1) nB rfl hq
def S3(r:gH):MV:=.tup [.str r.txt,.str r.sort.w,.int r.place,.str r.body,.bool r.bf]
def DZ(hq:Q (.ref H.n)<|H.new<|.list<|DW.map S3):CW true (n+2) 1537 [] [] [] H Q X:=
 tL (lv:=1) nC rfl hq
def v9(hq:Q (.ref H.n)<|H.new<|.aF gZ):CW true (n+2) 1544 [] [] [] H Q X:=
 tL (lv:=1) iy rfl λw Q' m=>m _ _ _ hq
def xq{α:Type}(c:α)(t:List α):qI (c::t) (some 1) none=t:=by
 have h1:gE (c::t).length (some 1)=1:=(pC _ 1).trans<|Nat.min_eq_left<|aau<|Nat.zero_le _
 show((c::t).drop<|gE (c::t).length<|some 1).take ((c::t).length-gE (c::t).length (some 1))=_
 rw[h1]
 exact List.take_length
def NP(c:Nat)(t:List Nat):qI (c::t) (some 1) (some (t.length:Int))=t.take (t.length-1):=by
 cases t with
 |nil=>rfl
 |cons x t=>
  have:=IP (c::x::t) 1 t.length
  rw[show((1:Nat):Int)+(t.length:Int)=(((x::t).length:Nat):Int)from aac Int.ofNat<|Nat.add_comm 1 t.length]at this
  exact this
def NQ{st:iK}{so:eF}(hq:Q (.bool<|fits st so) H):CW true (n+2) 1600 [.str st.w,.str so.w] [] [] H Q X:=
 tL (lv:=1) nJ rfl (by
  cases so with
  |blank=>exact hq
  |iM=>exact hq
  |marker=>exact hq
  |directive=>exact hq
  |_=>cases st<;>exact hq)
def By{g0:List Nat}(h:g0=[10]):fold [g0]=[32]:=aam h
def BA{g0 c:List Nat}{t:List (List Nat)}(h:g0=[10]):fold (g0::c::t)=(c::t).flatten:=aam h
def BB{g0:List Nat}{gs:List (List Nat)}(h:g0≠[10]):fold (g0::gs)=(g0::gs).flatten:=aal h
def slI{i:Nat}{xs:List MV}{a b:Option Int}(o:H.at_ i=some (.list xs))(h:Q (.ref H.n)<|H.new<|.list<|qI xs a b):AJ (.ref i) a b H Q:=by
 show iP (H.at_ i) _ _ _ _ _ _
 rw[o]
 exact h
def NR{g:Nat}{aE:List (List Nat)}(hg:H.at_ g=some (oS aE))(hn:aE≠[])(hl:(aE.map List.length).sum+aE.length<=10000)(hq:∀H',H'=H∨H'=H.new (oS aE.tail)->Q (.str<|fold aE) H'):CW true (n+2) 1593 [.ref g] [] [] H Q X:=by
 have hb:(aE.map List.length).sum+aE.length<=dg:=av hl<|aai<|by rfl
 cases aE with
 |nil=>exact aan rfl hn
 |cons g0 gs=>
  refine tL (lv:=1) nH rfl<|Vx (n:=0) hg rfl ?_
  by_cases h:g0=[10]
  ·refine V1 h<|VY hg ?_
   cases gs with
   |nil=>exact By h▸hq H (.inl rfl)
   |cons c t=>
    have K:=BA h▸hq _ (.inr rfl)
    have s1:qI ((g0::c::t).map MV.str) (some 1) none=(c::t).map MV.str:=xq _ _
    refine⟨trivial,slI hg ?_⟩
    rw[s1]
    exact W2 af ⟨rfl,pB (qY<|c::t) ⟨av (Nat.add_le_add (aat ..)<|Nat.le_succ _) hb,K⟩⟩
  ·exact SI h ⟨trivial,W2 hg ⟨rfl,pB (qY<|g0::gs) ⟨hb,BB h▸hq H (.inl rfl)⟩⟩⟩
def vv{c:Nat}{t:List Nat}{a:Pt}(h:c=42):closed (c::t) a=.alias t a (aN a<|t.length+1):=aam h
def vz{c:Nat}{t:List Nat}{a:Pt}(h:c≠42):closed (c::t) a=.value (t.take<|t.length-1) false (some [c]) a (aN a<|t.length+1):=aal h
def Fb{body:List Nat}{a:Pt}(hn:body≠[])(hl:body.length<1000)(hq:Q (yu (closed body a) .none) H):CW true (n+3) 1579 [.str body,nq a] [] [] H Q X:=by
 cases body with
 |nil=>exact aan rfl hn
 |cons c t=>
  refine tL (lv:=2) j5 rfl ⟨t8 hl,i9 ⟨t8 hl,?_⟩⟩
  by_cases h:c=42
  ·rw[vv h]at hq
   refine sT h ⟨t8 hl,?_⟩
   rw[xq]
   exact hq
  ·rw[vz h]at hq
   refine sF h ⟨t8 hl,t8 hl,?_⟩
   rw[show((c::t).length:Int)-1=(t.length:Int)from Int.add_sub_cancel (t.length:Int) 1,NP]
   exact⟨t8 hl,hq⟩
end
def jr{a r:IS}{L:Loc}{H:MH}{Q:QF}{X:QX}(h:∀K:QF,(∀L' H',Bk r L' H' Q X->K .next L' H')->Bk a L H K X):Bk (.cons a r) L H Q X:=λw=>h (qJ (λL H=>wpS (SG true) w mq 14 r L H Q X) Q) (λL' H' b=>b w) w
def Fc{c:IE}{A B:IS}{L:Loc}{H:MH}{Q:QF}{X:QX}(h:(vx c).T zL ⟨[],L,[],[],H⟩ (λt σ=>@Bool.rec (λ_=>Prop) (Bk B σ.loc (hp zL σ) Q X) (Bk A σ.loc (hp zL σ) Q X) t) X):Bk (.ite c A B) L H Q X:=λw=>
 (sv w c).T h nofun rfl λt σ1 g1 l1 h=>
  have h:@Bool.rec (λ_=>Prop) (Bk B σ1.loc (hp zL σ1) Q X) (Bk A σ1.loc (hp zL σ1) Q X) t:=h
  PK (l1▸h) (λh=>h w) λh=>h w
def Xb{L:Loc}{H:MH}{Q:QF}{X:QX}(h:Q .next L H):Bk .nil L H Q X:=λw=>h
def D0{s s0:iK}(c:s=s0):(s.w==s0.w)=true:=c▸beq_self_eq_true _
def stN{s s0:iK}(c:s≠s0):(s.w==s0.w)=false:=by cases s<;>cases s0<;>first|rfl|exact aan rfl c
def FP{s s0:eF}(c:s=s0):(s.w==s0.w)=true:=c▸beq_self_eq_true _
def P1{s s0:eF}(c:s≠s0):(s.w==s0.w)=false:=by cases s<;>cases s0<;>first|rfl|exact aan rfl c
def Wk(o:Option Pt):MV:=o.casesOn .none nq
structure LX where
 n:Option MV
 e:Option MV
 spot:Option MV
 here:Option MV
 row:Option MV
 sort:Option MV
 place:Option MV
 body:Option MV
 bf:Option MV
 told:Option MV
 given:Option MV
abbrev iu(j d g t:Nat)(σ:LS)(x:LX):Loc:=[some<|.ref j,some<|.str σ.text,some<|.ref d,some<|.str σ.state.w,some<|Wk σ.refused,some<|tS σ.version,some<|.ref t,some<|nq σ.opened,some<|.str σ.value,some<|nq σ.start,some<|nq σ.stop,some<|.ref g,some<|.int (σ.line:Nat),some<|nq σ.finish,x.n,none,none,none,x.e,x.spot,x.here,none,x.row,x.sort,x.place,x.body,x.bf,x.told,x.given]
def pF{H:MH}{t a:Nat}{o:MO}(h:(H.del t).at_ a=some o):a≠t/\H.at_ a=some o:=by
 by_cases n:a=t
 ·have h:(if a=t then none else H.at_ a)=some o:=h
  rw[aam n]at h
  cases h
 ·exact⟨n,(aal n:(if a=t then none else H.at_ a)=_)▸h⟩
def sq{H:MH}{t a:Nat}(h:a≠t):(H.del t).at_ a=H.at_ a:=aal h
def vg.del{H H':MH}{t:Nat}(h:∀d es,d≠t->H.at_ d=some (.aF es)->H'.at_ d=some (.aF es)):vg (H.del t) (H'.del t):=λd es e=>(sq (pF e).1).trans<|h d es (pF e).1 (pF e).2
def vg.Wl{H:MH}{t:Nat}:vg (H.del t) H:=λd es e=>(pF e).2
structure LH(H:MH)(st:iK)(due:List Due)(aE:List<|List Nat)(tags:fE)(j d g t:Nat)(xs:List Int):Prop where
 hw:HW H
 J8:H.at_ j=some (.s9<|xs.map .int)
 due:∃ys,H.at_ d=some (.list ys)/\jh (fY H) ys due/\(st=.ahead->jh (fY<|H.del t) ys due)
 gap:H.at_ g=some (oS aE)
 tag:H.at_ t=some (mU tags)
 n1:d≠g
 n2:d≠j
 n3:g≠j
section
variable{H:MH}{st:iK}{due:List Due}{aE:List (List Nat)}{tags:fE}{j d g t:Nat}{xs:List Int}
def LH.more(h:LH H st due aE tags j d g t xs){H':MH}(xj:HW H')(k:∀{a:Nat} {o':MO},H.at_ a=some o'->H'.at_ a=some o'):LH H' st due aE tags j d g t xs:=
 h.due.elim λys q=>⟨xj,k h.J8,⟨ys,k q.1,q.2.1.imp λv x y=>y.keep λ_ _ e=>k e,λs=>(q.2.2 s).imp λv x y=>y.keep<|vg.del λ_ _ _ e=>k e⟩,k h.gap,k h.tag,h.n1,h.n2,h.n3⟩
def LH.new(h:LH H st due aE tags j d g t xs)(o:MO):LH (H.new o) st due aE tags j d g t xs:=h.more h.hw.new λe=>(aL<|aae<|h.hw _ _ e).trans e
def LH.ki{P:Prop}(h:LH H st due aE tags j d g t xs)(p:P):sE (.ref d) H .list/\P:=h.due.elim λ_ q=>⟨rZ q.1,p⟩
def LH.ap(h:LH H st due aE tags j d g t xs)(hd:due.length<500){u:MV}{x:Due}(hu:fY H u x){st':iK}(hs:st'=.ahead->st=.ahead/\fY (H.del t) u x){Q:QV}(k:∀H',LH H' st' (due++[x]) aE tags j d g t xs->Q .none H'):Ad .append (.ref d) [u] H Q:=by
 obtain⟨ys,h1,h2,h3⟩:=h.due
 have ud:vg H (H.put d<|.list<|ys++[u]):=.putL h1
 have ud2:vg (H.del t) ((H.put d<|.list<|ys++[u]).del t):=vg.del λa es _ e=>ud a es e
 exact A7 h1 ⟨aas (h2.len.symm▸hd) (aai (n:=500)<|by rfl),k _ ⟨h.hw.put h1,(ao<|Ne.symm h.n2).trans h.J8,⟨_,au,(h2.imp λv x y=>y.keep ud).snoc<|hu.keep ud,λs=>((h3 (hs s).1).imp λv x y=>y.keep ud2).snoc<|(hs s).2.keep ud2⟩,(ao<|Ne.symm h.n1).trans h.gap,ud _ _ h.tag,h.n1,h.n2,h.n3⟩⟩
def LH.stt(h:LH H st due aE tags j d g t xs){st':iK}(hs:st'≠.ahead):LH H st' due aE tags j d g t xs:=
 h.due.elim λys q=>⟨h.hw,h.J8,⟨ys,q.1,q.2.1,λs=>aan s hs⟩,h.gap,h.tag,h.n1,h.n2,h.n3⟩
def LH.fresh(h:LH H st due aE tags j d g t xs)(st':iK):LH (H.new<|.aF []) st' due aE [] j d g H.n xs:=
 have k:∀{a:Nat} {o':MO},H.at_ a=some o'->(H.new<|.aF []).at_ a=some o':=λe=>(aL<|aae<|h.hw _ _ e).trans e
 h.due.elim λys q=>⟨h.hw.new,k h.J8,⟨ys,k q.1,q.2.1.imp λv x y=>y.keep λ_ _ e=>k e,λ_=>q.2.1.imp λv x y=>y.keep λa es e=>(sq<|aae<|h.hw _ _ e).trans<|k e⟩,k h.gap,af,h.n1,h.n2,h.n3⟩
def LH.NS(h:LH H .ahead due aE tags j d g t xs)(tg:fE):LH (H.put t<|mU tg) .ahead due aE tg j d g t xs:=
 have k:∀{a:Nat} {o:MO},H.at_ a=some o->mU tags≠o->(H.put t<|mU tg).at_ a=some o:=λe n=>(ao λq=>n<|aaf<|h.tag.symm.trans<|(aac H.at_ q).symm.trans e).trans e
 have ud:vg (H.del t) ((H.put t<|mU tg).del t):=vg.del λa es n e=>(ao n).trans e
 h.due.elim λys q=>⟨h.hw.put h.tag,k h.J8 nofun,⟨ys,k q.1 nofun,(q.2.2 rfl).imp λv x y=>(y.keep ud).keep .Wl,λ_=>(q.2.2 rfl).imp λv x y=>y.keep ud⟩,k h.gap nofun,au,h.n1,h.n2,h.n3⟩
def LH.S4(h:LH H st due aE tags j d g t xs):LH (H.new<|.list []) st due [] tags j d H.n t xs:=
 have h':=h.new (.list [])
 ⟨h'.hw,h'.J8,h'.due,af,h'.tag,h.due.elim λzs q=>aae<|h.hw _ _ q.1,h.n2,aav<|h.hw _ _ h.J8⟩
def LH.NT(h:LH H st due aE tags j d g t xs)(x:List Nat):LH (H.put g<|oS<|aE++[x]) st due (aE++[x]) tags j d g t xs:=
 have ud:vg H (H.put g<|oS<|aE++[x]):=.putL h.gap
 h.due.elim λys q=>⟨h.hw.put h.gap,(ao<|Ne.symm h.n3).trans h.J8,⟨ys,(ao h.n1).trans q.1,q.2.1.imp λv x y=>y.keep ud,λs=>(q.2.2 s).imp λv x y=>y.keep<|vg.del λa es _ e=>ud a es e⟩,au,ud _ _ h.tag,h.n1,h.n2,h.n3⟩
end
def fY.plain{H:MH}{v:List Nat}{a z:Pt}:fY H (yu (.value v true none a z) .none) (.value v true none a z):=⟨.none,rfl,rfl⟩
def Jv(s:eF)(H:MH):gx .In (.str s.w) (.tup [.str [109,97,114,107,101,114],.str [115,116,111,112],.str [100,105,114,101,99,116,105,118,101]]) H=some (decide<|s=.marker∨s=.stop∨s=.directive):=by cases s<;>rfl
def yy(s:eF)(H:MH):gx .In (.str s.w) (.tup [.str [112,108,97,105,110],.str [113,117,111,116,101,100],.str [97,108,105,97,115]]) H=some (decide<|s=.plain∨s=.quoted∨s=.alias):=by cases s<;>rfl
def yz(s:iK)(H:MH):gx .In (.str s.w) (.tup [.str [115,116,97,114,116],.str [111,112,101,110]]) H=some (decide<|s=.start∨s=.open_):=by cases s<;>rfl
abbrev lx(n:Int)(e:List Nat)(spot here:Pt)(r:gH)(so:eF)(told given:Option MV):LX:=⟨some<|.int n,some<|.str e,some<|nq spot,some<|nq here,some<|.str r.txt,some<|.str so.w,some<|.int (r.place:Nat),some<|.str r.body,some<|.bool r.bf,told,given⟩
abbrev jP(H:MH)(σ:LS)(j d g t:Nat)(xs:List Int):Prop:=LH H σ.state σ.due σ.aE σ.tags j d g t xs
abbrev we:IS:=Bb<|oG eO.ib 13
abbrev lM:IS:=Bb<|oG we 10
section
variable{H:MH}{σ:LS}{so:eF}{j d g t:Nat}{xs:List Int}{n:Int}{e:List Nat}{spot here:Pt}{r:gH}{told given:Option MV}{K:QF}{X:QX}
def YW(hd:σ.due.length<500)(h:jP H σ j d g t xs)(hq:∀H',jP H' (r2 σ so) j d g t xs->K .next (iu j d g t (r2 σ so)<|lx n e spot here r so told given) H'):
  Bk (oG we 9) (iu j d g t σ<|lx n e spot here r so told given) H K X:=by
 unfold r2 at hq
 by_cases c1:so=.iM
 ·by_cases c2:σ.state=.plain
  ·rw[aam ⟨c1,c2⟩]at hq
   exact fZ<|cT (FP c1)<|cT (D0 c2)<|h.ki<|gB<|h.ap hd .plain (st':=.done) nofun λH' h'=>hq H' h'
  ·rw[aal λz=>c2 z.2]at hq
   exact fZ<|cT (FP c1)<|cF (stN c2)<|hq H h
 ·rw[aal λz=>c1 z.1]at hq
  exact fZ<|cF (P1 c1)<|hq H h
def S5(hd:σ.due.length<500)(h:jP H σ j d g t xs)(hq:∀H',jP H' (NK σ spot) j d g t xs->Bk (fX lM 2) (iu j d g t (NK σ spot)<|lx n e spot here r so told given) H' K X):
  Bk lM (iu j d g t σ<|lx n e spot here r so told given) H K X:=by
 unfold NK at hq
 refine jr λK' hk=>?_
 by_cases c:σ.state=.plain
 ·rw[aam c]at hq
  exact fZ<|cT (D0 c)<|h.ki<|gB<|h.ap hd .plain (st':=.done) nofun λH' h'=>hk _ _<|jr λK2 hk2=>fZ<|hk2 _ _<|hq H' h'
 ·rw[aal c]at hq
  refine fZ<|cF (stN c)<|hk _ _<|jr λK2 hk2=>?_
  by_cases c2:σ.state=.open_
  ·rw[aam c2]at hq
   exact fZ<|cT (D0 c2)<|h.ki<|gB<|h.ap hd .plain (st':=.done) nofun λH' h'=>hk2 _ _<|hq H' h'
  ·rw[aal c2]at hq
   exact fZ<|cF (stN c2)<|hk2 _ _<|hq H h
end
noncomputable def NU:List Nat:=[118,101,114,115,105,111,110]
noncomputable def S6:List Nat:=[102,111,114,101,105,103,110]
noncomputable def S7:List Nat:=[111,116,104,101,114]
def ldV(l:Bx):MV:=.tup<|l.casesOn [.str S6,.none] (λa b=>[.str NU,.tup [.int a,.int b]]) [.str S7,.none] λh p=>[.str h,.str p]
structure Hdl(h:List Nat):Prop where
 v:h≠NU
 f:h≠S6
 o:h≠S7
 k:h=[33,101,33]∨h=[33]
def Bx.ok(l:Bx):Prop:=l.casesOn True (λ_ _=>True) True λh _=>Hdl h
def NV{b:List Nat}(h:b∈gZ.map (·.1)):d9 b gZ=some (ldV<|sj b)/\(sj b).ok:=
 (show∀e∈gZ,d9 e.1 gZ=some (ldV<|sj e.1)/\(sj e.1).ok from List.forall_mem_cons.mpr ⟨⟨rfl,trivial⟩,List.forall_mem_cons.mpr ⟨⟨rfl,trivial⟩,List.forall_mem_cons.mpr ⟨⟨rfl,trivial⟩,List.forall_mem_cons.mpr ⟨⟨rfl,nofun,nofun,nofun,.inl rfl⟩,List.forall_mem_cons.mpr ⟨⟨rfl,nofun,nofun,nofun,.inr rfl⟩,List.forall_mem_cons.mpr ⟨⟨rfl,trivial⟩,nofun⟩⟩⟩⟩⟩⟩)|>λK=>(List.mem_map.mp h).elim λe m=>m.2▸K e m.1
section
variable{H:MH}{σ:LS}{so:eF}{j d g t:Nat}{xs:List Int}{n:Int}{e:List Nat}{spot here:Pt}{r:gH}{told given:Option MV}{K:QF}{X:QX}
def S8(hd:σ.due.length<500)(h:jP H σ j d g t xs)(hq:∀H' t',jP H' (PZ σ so spot) j d g t' xs->Bk (fX lM 3) (iu j d g t' (PZ σ so spot)<|lx n e spot here r so told given) H' K X):
  Bk (fX lM 2) (iu j d g t σ<|lx n e spot here r so told given) H K X:=by
 refine jr λK' hk=>?_
 unfold PZ at hq
 by_cases c:so=.stop
 ·rw[aam c,Jt]at hq
  by_cases c1:σ.state=.ahead
  ·rw[aam c1]at hq
   exact fZ<|cT (FP c)<|cT (D0 c1)<|hk _ _<|hq H t h
  ·rw[aal c1]at hq
   by_cases c2:σ.state=.done
   ·rw[aam c2]at hq
    exact fZ<|cT (FP c)<|cF (stN c1)<|cT (D0 c2)<|h.ki<|i9<|h.ap hd (x:=.aY true spot<|aN spot 3) ⟨.none,rfl,rfl⟩ (st':=.ended) nofun λH' h'=>hk _ _<|hq H' t h'
   ·rw[aal c2]at hq
    exact fZ<|cT (FP c)<|cF (stN c1)<|cF (stN c2)<|hk _ _<|hq H t h
 ·rw[aal c,Ju]at hq
  by_cases c2:σ.state=.done
  ·rw[aam c2,E9,aal<|show σ.state≠.ahead from c2▸nofun]at hq
   exact fZ<|cF (P1 c)<|cT (D0 c2)<|h.ki<|h.ap hd (x:=.aY false spot spot) ⟨.none,rfl,rfl⟩ (st':=σ.state) (λz=>aan (c2.symm.trans z) nofun) λH' h'=>nT (stN<|show σ.state≠.ahead from c2▸nofun)<|hk _ _<|hq _ _<|h'.fresh .ahead
  ·rw[aal c2,E9]at hq
   by_cases c1:σ.state=.ahead
   ·rw[aam c1]at hq
    exact fZ<|cF (P1 c)<|cF (stN c2)<|nF (D0 c1)<|hk _ _<|hq H t h
   ·rw[aal c1]at hq
    exact fZ<|cF (P1 c)<|cF (stN c2)<|nT (stN c1)<|hk _ _<|hq _ _<|h.fresh .ahead
def Jw{tg:fE}{k:List Nat}(hk:∀x∈tg,x.1=[33,101,33]∨x.1=[33])(h1:k≠[33,101,33])(h2:k≠[33]):(d9 k<|Jo tg).isSome=false:=(jz k tg).trans<|aad λm=>(List.mem_map.mp m).elim λx q=>(hk x q.1).elim (λz=>h1<|q.2.symm.trans z) λz=>h2<|q.2.symm.trans z
def Wm{a b:Nat}(h:σ.version.isSome=true):rq σ (.version a b) spot={σ with refused:=some spot}:=aam h
def S9{a b:Nat}(h:¬σ.version.isSome=true):rq σ (.version a b) spot={σ with version:=some (a,b)}:=aal h
def Wn{k p:List Nat}(h:k∈σ.tags.map (·.1)):rq σ (.tag k p) spot={σ with refused:=some spot}:=aam h
def Tc{k p:List Nat}(h:k∉σ.tags.map (·.1)):rq σ (.tag k p) spot={σ with tags:=σ.tags++[(k,p)]}:=aal h
def vIs(o:Option<|Nat×Nat){H:MH}:gx .IsNot (tS o) .none H=some o.isSome:=by cases o<;>rfl
def Td(hb:so=.directive->r.body∈gZ.map (·.1))(hk:∀x∈σ.tags,x.1=[33,101,33]∨x.1=[33])(ha:so=.directive->σ.state=.ahead)(hl:σ.tags.length<100)(h:jP H σ j d g t xs)
  (hq:∀H' zQ given',jP H' (TN σ so r.body spot) j d g t xs->Bk (fX lM 4) (iu j d g t (TN σ so r.body spot)<|lx n e spot here r so zQ given') H' K X):
  Bk (fX lM 3) (iu j d g t σ<|lx n e spot here r so told given) H K X:=by
 refine jr λK' hk'=>?_
 unfold TN at hq
 by_cases c:so=.directive
 ·rw[aam c]at hq
  obtain⟨hg,ho⟩:=NV<|hb c
  have ha:=ha c
  have h':jP (H.new<|.aF gZ) σ j d g t xs:=h.new _
  have hN:(H.new<|.aF gZ).at_ H.n=some (.aF gZ):=af
  refine fZ<|cT (FP c)<|v9 ?_
  generalize H.new (.aF gZ)=H1 at h' hN⊢
  refine YE hN (pB hg ?_)
  revert hq ho
  cases sj r.body with
  |foreign=>exact λhq ho=>hk' _ _<|hq _ (some<|.str S6) (some .none) h'
  |other=>exact λhq ho=>E4 rfl h'.tag<|cF (Jw hk nofun nofun)<|hk' _ _<|hq _ (some<|.str S7) (some .none) h'
  |version a b=>
   intro hq ho
   by_cases hv:σ.version.isSome=true
   ·rw[Wm hv]at hq
    exact pB (vIs (H:=H1) σ.version)<|cT hv<|hk' _ _<|hq _ (some<|.str NU) (some<|.tup [.int a,.int b]) h'
   ·rw[S9 hv]at hq
    exact pB (vIs (H:=H1) σ.version)<|cF (Bool.not_eq_true _▸hv)<|E4 rfl h'.tag<|cF (Jw hk nofun nofun)<|hk' _ _<|hq _ (some<|.str NU) (some<|.tup [.int a,.int b]) h'
  |tag k p=>
   intro hq ho
   by_cases hm:k∈σ.tags.map (·.1)
   ·rw[Wn hm]at hq
    exact zA ho.f<|zA ho.v<|E4 rfl h'.tag<|cT ((jz k σ.tags).trans<|aag hm)<|hk' _ _<|hq _ (some<|.str k) (some<|.str p) h'
   ·rw[Tc hm]at hq
    refine zA ho.f<|zA ho.v<|E4 rfl h'.tag<|cF ((jz k σ.tags).trans<|aad hm)<|zA ho.v<|SI ho.o<|V7 rfl h'.tag ⟨?_,?_⟩
    ·rw[List.length_map];exact aar hl<|by decide
    ·rw[show(nR k (.str p)<|σ.tags.map λe=>(e.1,MV.str e.2))=_ from xm hm]
     have ht:LH H1 .ahead σ.due σ.aE σ.tags j d g t xs:=ha▸h'
     exact hk' _ _<|hq _ (some<|.str k) (some<|.str p)<|show LH _ σ.state _ _ _ _ _ _ _ _ from ha.symm▸ht.NS _
 ·rw[aal c]at hq
  exact fZ<|cF (P1 c)<|hk' _ _<|hq H _ _ h
def Te(hd:σ.due.length<500)(h:jP H σ j d g t xs)(hq:∀H',jP H' (TP σ so spot) j d g t xs->K .next (iu j d g t (TP σ so spot)<|lx n e spot here r so told given) H'):
  Bk (fX lM 4) (iu j d g t σ<|lx n e spot here r so told given) H K X:=by
 unfold TP at hq
 by_cases c:so=.marker
 ·rw[aam c]at hq
  have K:∀u,fQ H u (gA σ.tags)->Ad .append (.ref d) [.tup [.str [100,111,99,117,109,101,110,116],.str Wf,tS σ.version,u,nq σ.opened,nq<|aN spot 3]] H λ_ H'=>K .next (iu j d g t {σ with due:=σ.due++[.document true σ.version (gA σ.tags) σ.opened<|aN spot 3],state:=.open_} (lx n e spot here r so told given)) H':=λu hu=>h.ap hd (x:=.document true σ.version (gA σ.tags) σ.opened<|aN spot 3) ⟨u,hu,rfl⟩ (st':=.open_) nofun hq
  have tg:=h.tag
  cases hT:σ.tags with
  |nil=>exact fZ<|cT (FP c)<|h.ki<|W9 rfl tg<|cF (hT▸rfl)<|i9<|K _<|hT▸rfl
  |cons a b=>exact fZ<|cT (FP c)<|h.ki<|W9 rfl tg<|cT (hT▸rfl)<|i9<|K _<|hT▸⟨t,rfl,hT▸tg⟩
 ·rw[aal c]at hq
  exact fZ<|cF (P1 c)<|hq H h
end
def BC{α:Type}{l:List α}{a:α}:(l++[a]).length<=l.length+1:=Nat.le_of_eq List.length_append
def J9{α:Type}{l:List α}{n:Nat}:l.length<=l.length+n:=aah ..
structure TG(c:Nat)(t:fE):Prop where
 l:t.length<=c
 k:∀x∈t,x.1=[33,101,33]∨x.1=[33]
noncomputable abbrev LS.fx(σ:LS):=(σ.text,σ.aE,σ.value,σ.line)
structure Gw(n:Nat)(σ τ:LS):Prop where
 f:τ.fx=σ.fx
 d:τ.due.length<=σ.due.length+n
 k:∀c,TG c σ.tags->TG (c+n) τ.tags
 p:τ.state=.plain->σ.state=.plain
def Gw.of{n:Nat}{σ τ:LS}(f:τ.fx=σ.fx)(d:τ.due.length<=σ.due.length+n)(k:τ.tags=σ.tags∨τ.tags=[])(p:τ.state=.plain->σ.state=.plain):Gw n σ τ:=
 ⟨f,d,λc h=>k.elim (λe=>e▸⟨av h.l<|aah ..,h.k⟩) λe=>e▸⟨Nat.zero_le _,nofun⟩,p⟩
def Gw.id{n:Nat}{σ:LS}:Gw n σ σ:=.of rfl J9 (.inl rfl) λz=>z
def Gw.trans{n m:Nat}{σ τ υ:LS}(a:Gw n σ τ)(b:Gw m τ υ):Gw (n+m) σ υ:=
 ⟨b.f.trans a.f,av b.d<|Nat.add_assoc ..▸Nat.add_le_add_right a.d m,λc h=>Nat.add_assoc c n m▸b.k _ (a.k c h),λz=>a.p<|b.p z⟩
def P5(σ:LS)(q:Pt):Gw 1 σ (NK σ q):=by
 unfold NK
 split
 ·exact .of rfl BC (.inl rfl) nofun
 ·split
  ·exact .of rfl BC (.inl rfl) nofun
  ·exact .id
def P6(σ:LS)(so:eF)(q:Pt):Gw 1 σ (PZ σ so q):=by
 unfold PZ
 split
 ·unfold Jt
  split
  ·exact .of rfl J9 (.inl rfl) λz=>z
  ·split
   ·exact .of rfl BC (.inl rfl) nofun
   ·exact .id
 ·have b:Gw 1 σ (Ju σ q):=by
   unfold Ju
   split
   ·exact .of rfl BC (.inl rfl) λz=>z
   ·exact .id
  unfold E9
  split
  ·exact b
  ·exact b.trans (m:=0)<|.of rfl J9 (.inr rfl) nofun
def Fd(σ:LS)(so:eF)(q:Pt)(h:so≠.stop):(PZ σ so q).state=.ahead:=by
 rw[PZ,aal h,E9]
 split
 ·assumption
 ·rfl
def Jx{b h p:List Nat}(e:sj b=.tag h p):h=[33,101,33]∨h=[33]:=by
 unfold sj at e
 split at e
 ·cases e
 ·split at e
  ·cases e
  ·split at e
   ·cases e
   ·split at e
    ·cases e;exact .inl rfl
    ·split at e
     ·cases e;exact .inr rfl
     ·cases e
def P7(σ:LS)(so:eF)(b:List Nat)(q:Pt):Gw 1 σ (TN σ so b q):=by
 unfold TN
 split
 ·have R:∀o v,Gw 1 σ {σ with refused:=o,version:=v}:=λo v=>.of rfl J9 (.inl rfl) λz=>z
  have T:=λh p=>Jx (b:=b) (h:=h) (p:=p)
  revert T
  cases sj b with
  |foreign=>exact λ_=>R _ _
  |other=>exact λ_=>.id
  |version x y=>exact λ_=>show Gw 1 σ (if σ.version.isSome then{σ with refused:=some q}else{σ with version:=some (x,y)})from by split<;>exact R _ _
  |tag h p=>
   intro T
   show Gw 1 σ (if h∈σ.tags.map (·.1)then{σ with refused:=some q}else{σ with tags:=σ.tags++[(h,p)]})
   split
   ·exact R _ _
   ·exact⟨rfl,J9,λc z=>⟨av BC<|aau z.l,λx m=>(List.mem_append.mp m).elim (z.k x) λm=>aaa.mp m▸T h p rfl⟩,λz=>z⟩
 ·exact .id
def Wo(σ:LS)(so:eF)(q:Pt):Gw 1 σ (TP σ so q):=by
 unfold TP
 split
 ·exact .of rfl BC (.inl rfl) nofun
 ·exact .id
def Fe(σ:LS)(so:eF)(b:List Nat)(q:Pt):Gw 4 σ (DX σ so b q):=(((P5 σ q).trans<|P6 _ so q).trans<|P7 _ so b q).trans<|Wo _ so q
abbrev lV:IS:=Bb<|oG we 11
abbrev lB2:IS:=Bb<|oG (YC<|oG lV 1) 0
def zR(gs:List<|List Nat):(fold gs).length<=(gs.map List.length).sum+1:=by
 cases gs with
 |nil=>exact Nat.zero_le _
 |cons g gs=>
  by_cases h:g=[10]
  ·cases gs with
   |nil=>rw[By h];exact aat ..
   |cons c t=>rw[BA h,List.length_flatten];exact Nat.le_succ_of_le<|aat ..
  ·rw[BB h,List.length_flatten];exact Nat.le_succ _
section
variable{H:MH}{σ:LS}{so:eF}{j d g t:Nat}{xs:List Int}{n:Int}{e:List Nat}{spot here:Pt}{r:gH}{told given:Option MV}{K:QF}{X:QX}
def Wq(hd:σ.due.length<480)(hb:so=.directive->r.body∈gZ.map (·.1))(hk:TG 90 σ.tags)(h:jP H σ j d g t xs)
  (hq:∀H' t' zQ given',jP H' (r3 σ so r.body spot) j d g t' xs->K .next (iu j d g t' (r3 σ so r.body spot)<|lx n e spot here r so zQ given') H'):
  Bk (oG we 10) (iu j d g t σ<|lx n e spot here r so told given) H K X:=by
 unfold r3 at hq
 by_cases c:so=.marker∨so=.stop∨so=.directive
 ·rw[aam c]at hq
  have g1:=P5 σ spot
  have g2:=g1.trans<|P6 _ so spot
  have g3:=g2.trans<|P7 _ so r.body spot
  have k2:=g2.k _ hk
  exact Fc<|pB (Jv so H)<|dT c<|S5 (aar hd<|by decide) h λH1 h1=>S8 (H8 g1.d<|aar (Nat.add_lt_add_right hd 1)<|by decide) h1 λH2 t2 h2=>Td hb k2.k (λz=>Fd _ _ _<|z▸nofun) (H8 k2.l<|by decide) h2 λH3 zQ given' h3=>Te (H8 g3.d<|aar (Nat.add_lt_add_right hd 3)<|by decide) h3 λH4 h4=>hq H4 t2 zQ given' h4
 ·rw[aal c]at hq
  exact Fc<|pB (Jv so H)<|dF c<|Xb<|hq H t told given h
def zS{c:Nat}{t:List Nat}{a:Pt}:fQ H .none (closed (c::t) a).tags:=by
 by_cases h:c=42
 ·rw[vv h];rfl
 ·rw[vz h];rfl
def Tf(hd:σ.due.length<490)(hg:σ.state=.plain->σ.aE≠[])(Mb:(σ.aE.map List.length).sum+σ.aE.length<=10000)(hv:σ.value.length<10000)(FQ:r.body.length<1000)(hbn:r.body≠[])(h:jP H σ j d g t xs)
  (hq:∀H',jP H' (NL σ r.body here) j d g t xs->K .next (iu j d g t (NL σ r.body here)<|lx n e spot here r so told given) H'):
  Bk (oG lV 1) (iu j d g t σ<|lx n e spot here r so told given) H K X:=by
 unfold NL at hq
 by_cases c:σ.state=.plain
 ·rw[aam c]at hq
  have b1:σ.value.length+(fold σ.aE).length<20001:=Nat.add_lt_add_of_lt_of_le hv<|av (zR σ.aE)<|aau<|av (aah ..) Mb
  exact fZ<|cT (D0 c)<|NR h.gap (hg c) Mb λH' hh=>⟨aas b1 (aai<|by rfl),aas (by rw[List.length_append];exact Nat.add_lt_add b1 FQ) (aai (n:=21001)<|by rfl),hq H'<|hh.elim (λe=>e▸h) λe=>e▸h.new _⟩
 ·rw[aal c]at hq
  by_cases c2:σ.state=.start∨σ.state=.open_
  ·rw[aam c2]at hq
   have na:σ.state≠.ahead:=λz=>c2.elim (λa=>nomatch a.symm.trans z) λa=>nomatch a.symm.trans z
   obtain⟨rt,rs,rp,rb,rh⟩:=r
   cases rb with
   |nil=>exact aan rfl hbn
   |cons c0 t0=>
    have T:∀H' dl,dl.length<495->LH H' σ.state dl σ.aE σ.tags j d g t xs->(∀H',jP H' (J7 {σ with due:=dl} (c0::t0) here) j d g t xs->K .next (iu j d g t (J7 {σ with due:=dl} (c0::t0) here)<|lx n e spot here ⟨rt,rs,rp,c0::t0,rh⟩ so told given) H')->run 399 ⟨zL,MT zL K,X⟩ [fX lB2 1] ⟨[],iu j d g t σ<|lx n e spot here ⟨rt,rs,rp,c0::t0,rh⟩ so told given,[],[],H'⟩:=λH' dl hd' h' hk=>by
     by_cases cc:c0∈[39,34,42]
     ·rw[show J7 {σ with due:=dl} (c0::t0) here=_ from aam cc]at hk
      exact⟨t8 FQ,dT cc<|h'.ki<|Fb hbn FQ<|h'.ap (aar hd'<|by decide) (x:=closed (c0::t0) here) ⟨.none,zS,rfl⟩ (st':=.done) nofun λH3 h3=>hk H3 h3⟩
     ·rw[show J7 {σ with due:=dl} (c0::t0) here=_ from aal cc]at hk
      exact⟨t8 FQ,dF cc<|hk H'<|h'.stt nofun⟩
    unfold P0 at hq
    by_cases z:σ.state=.start
    ·rw[aam z]at hq
     exact fZ<|cF (stN c)<|pB (yz σ.state H)<|dT c2<|cT (D0 z)<|h.ki<|h.ap (aar hd<|by decide) (x:=.document false none none here here) ⟨.none,rfl,rfl⟩ (st':=σ.state) (λa=>aan a na) λH' h'=>T H' _ (H8 BC<|aar (Nat.add_lt_add_right hd 1)<|by decide) h' hq
    ·rw[aal z]at hq
     exact fZ<|cF (stN c)<|pB (yz σ.state H)<|dT c2<|cF (stN z)<|T H _ (aar hd<|by decide) h hq
  ·rw[aal c2]at hq
   by_cases z:σ.state=.done
   ·rw[aam z]at hq
    exact fZ<|cF (stN c)<|pB (yz σ.state H)<|dF c2<|cT (D0 z)<|h.ki<|h.ap (aar hd<|by decide) (x:=.aY false here here) ⟨.none,rfl,rfl⟩ (st':=σ.state) (λa=>nomatch z.symm.trans a) λH' h'=>hq H' h'
   ·rw[aal z]at hq
    exact fZ<|cF (stN c)<|pB (yz σ.state H)<|dF c2<|cF (stN z)<|hq H h
def Tg(hd:σ.due.length<500)(h:jP H σ j d g t xs)(hq:∀H' g',jP H' (DY {σ with aE:=[]} r.bf) j d g' t xs->K .next (iu j d g' t (DY {σ with aE:=[]} r.bf)<|lx n e spot here r so told given) H'):
  Bk (fX lV 2) (iu j d g t σ<|lx n e spot here r so told given) H K X:=by
 have h3:=h.S4
 unfold DY at hq
 by_cases c:σ.state=.plain
 ·by_cases c2:r.bf=true
  ·rw[aam ⟨c,c2⟩]at hq
   exact fZ<|cT (D0 c)<|cT c2<|h3.ki<|gB<|h3.ap hd .plain (st':=.done) nofun λH' h'=>hq H' _ h'
  ·rw[aal λz=>c2 z.2]at hq
   exact fZ<|cT (D0 c)<|cF (Bool.not_eq_true _▸c2)<|hq _ _ h3
 ·rw[aal λz=>c z.1]at hq
  exact fZ<|cF (stN c)<|hq _ _ h3
structure Gv(n m:Nat)(σ τ:LS):Prop where
 f:(τ.text,τ.line,τ.tags)=(σ.text,σ.line,σ.tags)
 d:τ.due.length<=σ.due.length+n
 v:τ.value.length<=m
def P8(σ:LS)(b:List Nat)(q:Pt):Gv 2 (σ.value.length+(fold σ.aE).length+b.length) σ (NL σ b q):=by
 have lv:σ.value.length<=σ.value.length+(fold σ.aE).length+b.length:=Nat.add_assoc ..▸aah ..
 unfold NL
 split
 ·exact⟨rfl,J9,by rw[List.length_append,List.length_append];exact aaj _⟩
 ·split
  ·have d:Gv 1 σ.value.length σ (P0 σ q):=by
    unfold P0
    split
    ·exact⟨rfl,BC,aaj _⟩
    ·exact⟨rfl,J9,aaj _⟩
   generalize P0 σ q=τ at d
   cases b with
   |nil=>exact⟨d.f,Nat.le_succ_of_le d.d,Nat.zero_le _⟩
   |cons c t=>
    show Gv 2 _ σ (if c∈[39,34,42]then _ else _)
    split
    ·exact⟨d.f,av BC<|aau d.d,aat ..⟩
    ·exact⟨d.f,Nat.le_succ_of_le d.d,aat ..⟩
  ·refine⟨rfl,?_,lv⟩
   show List.length (if _ then _ else _)<=_
   split
   ·exact Nat.le_succ_of_le BC
   ·exact J9
def vA(σ:LS)(b:List Nat)(sh:Bool)(q:Pt):Gv 3 (σ.value.length+(fold σ.aE).length+b.length) σ (bx σ b sh q)/\(bx σ b sh q).aE=[]:=by
 have h:=P8 {σ with stop:=aN q b.length} b q
 unfold bx DY
 split
 ·exact⟨⟨h.f,av BC<|aau h.d,h.v⟩,rfl⟩
 ·exact⟨⟨h.f,Nat.le_succ_of_le h.d,h.v⟩,rfl⟩
def Jy(hd:σ.due.length<480)(hg:σ.state=.plain->σ.aE≠[])(Mb:(σ.aE.map List.length).sum+σ.aE.length<=10000)(hv:σ.value.length<10000)(FQ:r.body.length<1000)(hbn:r.body≠[])(h:jP H σ j d g t xs)
  (hq:∀H' g',jP H' (bx σ r.body r.bf here) j d g' t xs->K .next (iu j d g' t (bx σ r.body r.bf here)<|lx n e spot here r so told given) H'):
  Bk lV (iu j d g t σ<|lx n e spot here r so told given) H K X:=
 jr λK1 k1=>fZ ⟨t8 FQ,i9<|k1 _ _<|jr λK2 k2=>Tf (σ:={σ with stop:=aN here r.body.length}) (aar hd<|by decide) hg Mb hv FQ hbn h λH2 h2=>k2 _ _<|Tg (H8 (P8 _ _ _).d<|aar (Nat.add_lt_add_right hd 2)<|by decide) h2 hq⟩
def Wr(hd:σ.due.length<480)(hg:σ.state=.plain->σ.aE≠[])(Mb:(σ.aE.map List.length).sum+σ.aE.length<=10000)(hv:σ.value.length<10000)(FQ:r.body.length<1000)(hbn:so=.plain∨so=.quoted∨so=.alias->r.body≠[])(h:jP H σ j d g t xs)
  (hq:∀H' g',jP H' (r4 σ so r.body r.bf here) j d g' t xs->K .next (iu j d g' t (r4 σ so r.body r.bf here)<|lx n e spot here r so told given) H'):
  Bk (oG we 11) (iu j d g t σ<|lx n e spot here r so told given) H K X:=by
 unfold r4 at hq
 by_cases c:so=.plain∨so=.quoted∨so=.alias
 ·rw[aam<|c.imp_right<|Or.imp_right .inl]at hq
  exact Fc<|pB (yy so H)<|dT c<|Jy hd hg Mb hv FQ (hbn c) h hq
 ·have nn:¬(so=.marker/\r.body≠[])->¬(so=.plain∨so=.quoted∨so=.alias∨(so=.marker/\r.body≠[])):=λm z=>z.elim (λz=>c<|.inl z) λz=>z.elim (λz=>c<|.inr<|.inl z) λz=>z.elim (λz=>c<|.inr<|.inr z) m
  by_cases c2:so=.marker
  ·by_cases c3:r.body=[]
   ·rw[aal<|nn λz=>z.2 c3]at hq
    exact Fc<|pB (yy so H)<|dF c<|cT (FP c2) ⟨t8 FQ,cF (by rw[c3];rfl)<|Xb<|hq H g h⟩
   ·rw[aam<|.inr<|.inr<|.inr ⟨c2,c3⟩]at hq
    exact Fc<|pB (yy so H)<|dF c<|cT (FP c2) ⟨t8 FQ,cT (by cases hb:r.body with|nil=>exact aan hb c3|cons _ _=>rfl)<|Jy hd hg Mb hv FQ c3 h hq⟩
  ·rw[aal<|nn λz=>c2 z.1]at hq
   exact Fc<|pB (yy so H)<|dF c<|cF (P1 c2)<|Xb<|hq H g h
end
def Xc(m k:Nat):Int.fmod (m:Int) (k:Int)=((m%k:Nat):Int):=by
 cases m with
 |zero=>cases k with|zero=>rfl|succ k=>exact aac Int.ofNat (Nat.zero_mod _).symm
 |succ m=>cases k<;>rfl
def fdN(m k:Nat):Int.fdiv (m:Int) (k:Int)=((m/k:Nat):Int):=by
 cases m with
 |zero=>cases k with|zero=>rfl|succ k=>exact aac Int.ofNat (Nat.zero_div _).symm
 |succ m=>cases k<;>rfl
def Ff{α:Type}(a:α)(l:List α):(a::l).drop l.length=[(a::l).getLast<|List.cons_ne_nil a l]:=by
 induction l generalizing a with
 |nil=>rfl
 |cons b l ih=>exact ih b
def Jz{α:Type}(l:List α):qI l (some<|-1) none=l.getLast?.toList:=by
 cases l with
 |nil=>rfl
 |cons a l=>
  have h1:gE (a::l).length (some<|-1)=l.length:=by
   show(max 0<|min ((-1:Int)+((l.length+1:Nat):Int)) ((l.length+1:Nat):Int)).toNat=_
   rw[show(-1:Int)+((l.length+1:Nat):Int)=(l.length:Int) by omega,Int.min_eq_left<|Int.ofNat_le.mpr<|Nat.le_succ _,Int.max_eq_right<|Int.natCast_nonneg _];rfl
  show((a::l).drop<|gE (a::l).length<|some<|-1).take ((a::l).length-gE (a::l).length (some<|-1))=_
  rw[h1,Ff a l,List.getLast?_eq_some_getLast<|List.cons_ne_nil a l]
  exact List.take_of_length_le<|by show 1<=l.length+1-l.length;rw[Nat.add_sub_cancel_left];exact aaj 1
def zU{i:Nat}(h:i<30):(DW.map S3)[i]?=some (S3<|vq i):=by
 rw[List.getElem?_map,vq,List.getD_eq_getElem?_getD,List.getElem?_eq_getElem<|show i<DW.length from h]
 rfl
def Fg{i:Nat}(h:i<6):(pU.map MV.str)[i]?=some (.str<|pU.getD i []):=by
 rw[List.getElem?_map,List.getD_eq_getElem?_getD,List.getElem?_eq_getElem<|show i<pU.length from h]
 rfl
abbrev lq(m:Nat)(e s h:Option MV)(r:gH)(told given:Option MV):LX:=⟨some<|.int m,e,s,h,some<|.str r.txt,some<|.str r.sort.w,some<|.int (r.place:Nat),some<|.str r.body,some<|.bool r.bf,told,given⟩
def BD{m:Nat}(h:m<10000):m<dg:=aas h<|aai<|by rfl
def Ws{m:Nat}(h:m<20000):m<dg:=aas h<|aai<|by rfl
def Wt{H:MH}{Q:QV}{i:Nat}{xs:List MV}{z:Int}{n:Nat}{u:MV}(o:H.at_ i=some (.list xs))(e:z=n)(g:xs[n]?=some u)(h:Q u H):qF (.ref i) (.int z) H Q:=e▸Vx o g h
section
variable{H:MH}{σ:LS}{so:eF}{j d g t:Nat}{xs:List Int}{m:Nat}{n:Int}{e:List Nat}{spot here:Pt}{r:gH}{e0 s0 h0 o1 o2 o3 o4 o5 told given:Option MV}{K:QF}{X:QX}
def YX(h:jP H σ j d g t xs)(hq:∀H',jP H' σ j d g t xs->K .next (iu j d g t σ<|lq m e0 s0 h0 (vq<|m%30) told given) H'):
  Bk (oG we 0) (iu j d g t σ ⟨some<|.int m,e0,s0,h0,o1,o2,o3,o4,o5,told,given⟩) H K X:=
 fZ (DZ ⟨by decide,Wt af (Xc m 30) (zU<|Nat.mod_lt _<|by decide)<|hq _<|h.new _⟩)
def YY(h:jP H σ j d g t xs)(hq:∀H',jP H' σ j d g t xs->K .next (iu j d g t σ<|lq m e0 s0 h0 (pick σ m) told given) H'):
  Bk (oG we 1) (iu j d g t σ<|lq m e0 s0 h0 (vq<|m%30) told given) H K X:=by
 unfold pick at hq
 generalize vq (m%30)=r at hq⊢
 have take:(∀H',jP H' σ j d g t xs->K .next (iu j d g t σ<|lq m e0 s0 h0 (vq 1) told given) H')->run 400 ⟨zL,MT zL K,X⟩ [Bb<|oG we 1] ⟨[],iu j d g t σ<|lq m e0 s0 h0 r told given,[],[],H⟩:=λk=>DZ<|Vx (n:=1) af (zU<|by decide)<|k _<|h.new _
 have g7:decide (Int.fmod (m:Int) 7>0)=decide (0<m%7):=by rw[show Int.fmod (m:Int) 7=_ from Xc m 7];exact decide_eq_decide.mpr Int.ofNat_lt
 refine fZ<|NQ ?_
 rcases Bool.eq_false_or_eq_true (fits σ.state r.sort)with c|c
 ·rw[c]at hq
  exact nF c<|hq H h
 ·rw[c]at hq
  refine nT c ⟨by decide,?_⟩
  by_cases c2:0<m%7
  ·rw[aag c2]at hq g7
   exact cT g7<|take hq
  ·rw[aad c2]at hq g7
   refine cF g7 ?_
   by_cases c3:σ.state=.start
   ·rw[aag c3]at hq
    exact cT (D0 c3)<|take hq
   ·rw[aad c3]at hq
    exact cF (stN c3)<|hq H h
def YZ(hm:m<30000)(h:jP H σ j d g t xs)(hq:∀H',jP H' σ j d g t xs->K .next (iu j d g t σ<|lq m (some<|.str<|pU.getD ((m/30+σ.line)%6) []) s0 h0 r told given) H'):
  Bk (oG we 2) (iu j d g t σ<|lq m e0 s0 h0 r told given) H K X:=
 fZ (NO ⟨⟨by omega,by omega,by decide,by decide⟩,by decide,Wt af (by rw[show Int.fdiv (m:Int) 30=_ from fdN m 30];exact Xc (m/30+σ.line) 6) (Fg<|Nat.mod_lt _<|by decide)<|hq _<|h.new _⟩)
def Y0(h:jP H σ j d g t xs)(ht:σ.text.length<10000)(hq:∀H',jP H' σ j d g t xs->K .next (iu j d g t σ<|lq m (some<|.str<|bZ σ m r.txt) s0 h0 r told given) H'):
  Bk (oG we 3) (iu j d g t σ<|lq m (some<|.str<|pU.getD ((m/30+σ.line)%6) []) s0 h0 r told given) H K X:=by
 unfold bZ at hq
 generalize pU.getD ((m/30+σ.line)%6) []=a at hq⊢
 by_cases c1:a=[10]
 ·by_cases c2:r.txt=[]
  ·refine fZ<|Nc c1<|Nc c2 ⟨BD ht,?_⟩
   rw[show qI σ.text (some<|-1) none=_ from Jz _]
   by_cases c3:σ.text.getLast?=some 13
   ·rw[aam ⟨c1,c2,c3⟩]at hq
    exact Nc (c3▸rfl)<|hq H h
   ·rw[aal λz=>c3 z.2.2]at hq
    refine zA (λz=>c3 ?_)<|hq H h
    cases q:σ.text.getLast? with
    |none=>rw[q]at z;cases z
    |some x=>rw[q]at z;cases z;rfl
  ·rw[aal λz=>c2 z.2.1]at hq
   exact fZ<|Nc c1<|zA c2<|hq H h
 ·rw[aal λz=>c1 z.1]at hq
  exact fZ<|zA c1<|hq H h
def Y3(ht:σ.text.length<10000)(hq:K .next (iu j d g t σ<|lq m e0 (some<|nq<|fD σ) h0 r told given) H):Bk (oG we 4) (iu j d g t σ<|lq m e0 s0 h0 r told given) H K X:=fZ ⟨BD ht,hq⟩
def Y4(hq:K .next (iu j d g t σ<|lq m e0 (some<|nq spot) (some<|nq<|aN spot r.place) r told given) H):Bk (oG we 5) (iu j d g t σ<|lq m e0 (some<|nq spot) h0 r told given) H K X:=fZ<|i9 hq
def Y5(ht:σ.text.length<5000)(hr:r.txt.length<1000)(he:e.length<10)(hq:K .next (iu j d g t {σ with text:=σ.text++r.txt++e} (lq m (some<|.str e) s0 h0 r told given)) H):Bk (oG we 6) (iu j d g t σ<|lq m (some<|.str e) s0 h0 r told given) H K X:=
 fZ ⟨Ws (aar (Nat.add_lt_add ht hr)<|by decide),Ws (by rw[List.length_append];exact aar (Nat.add_lt_add (Nat.add_lt_add ht hr) he)<|by decide),hq⟩
def Y6{x:LX}(hq:K .next (iu j d g t {σ with line:=σ.line+1} x) H):Bk (oG we 7) (iu j d g t σ x) H K X:=fZ hq
def Y7(hq:K .next (iu j d g t σ<|lx n e spot here r (fR σ r) told given) H):Bk (oG we 8) (iu j d g t σ<|lx n e spot here r r.sort told given) H K X:=by
 unfold fR at hq
 by_cases c:r.sort=.directive
 ·by_cases c2:σ.state=.plain
  ·rw[aam ⟨c,c2⟩]at hq
   exact fZ<|cT (FP c)<|cT (D0 c2) hq
  ·rw[aal λz=>c2 z.2]at hq
   exact fZ<|cT (FP c)<|cF (stN c2) hq
 ·rw[aal λz=>c z.1]at hq
  exact fZ<|cF (P1 c) hq
def Wu{x:LX}(h1:σ.refused.isSome=true->K .brk (iu j d g t σ x) H)(h2:σ.refused.isSome=false->K .next (iu j d g t σ x) H):Bk (oG we 12) (iu j d g t σ x) H K X:=by
 obtain⟨a1,a2,a3,a4,a5,a6,a7,a8,a9,a10,a11,a12,a13⟩:=σ
 cases a4 with
 |none=>exact fZ<|h2 rfl
 |some q=>exact fZ<|h1 rfl
abbrev sV(e:List Nat):Prop:=e=[10]∨e=[13,10]∨e=[8232]∨e=[13]∨e=[133]∨e=[8233]
def Y8{H:MH}:gx .In (.str e) (.tup [.str [8232],.str [8233]]) H=some (decide<|e=[8232]∨e=[8233]):=by
 show some (([8232]==e)||(([8233]==e)||false))=_
 by_cases a:e=[8232]
 ·cases a;rfl
 ·by_cases b:e=[8233]
  ·cases b;rfl
  ·rw[beq_eq_false_iff_ne.mpr<|Ne.symm a,beq_eq_false_iff_ne.mpr<|Ne.symm b,aad λz=>z.elim a b];rfl
def Wv(hg:σ.aE.length<1000)(h:jP H σ j d g t xs)
  (hq:∀H',jP H' {σ with aE:=σ.aE++[pV e]} j d g t xs->K .next (iu j d g t σ<|lx n e spot here r so told given) H'):Bk (oG we 13) (iu j d g t σ<|lx n e spot here r so told given) H K X:=by
 have K2:=hq _<|h.NT<|pV e
 have lg:(σ.aE.map MV.str).length<dg:=by rw[List.length_map];exact t8 hg
 have eg:∀v,σ.aE.map MV.str++[MV.str v]=(σ.aE++[v]).map MV.str:=λv=>(List.map_append (f:=MV.str) (l₁:=σ.aE) (l₂:=[v])).symm
 refine fZ ⟨rZ h.gap,pB (Y8 (H:=H)) ?_⟩
 unfold pV at K2
 by_cases c:e=[8232]∨e=[8233]
 ·rw[aam c]at K2
  exact dT c<|A7 h.gap ⟨lg,eg e▸K2⟩
 ·rw[aal c]at K2
  exact dF c<|A7 h.gap ⟨lg,eg [10]▸K2⟩
def Ww{x:LX}(ht:σ.text.length<10000)(hq:K .next (iu j d g t {σ with finish:=(σ.text.length,σ.line,0)} x) H):Bk (oG we 14) (iu j d g t σ x) H K X:=fZ ⟨BD ht,hq⟩
end
noncomputable def gq(g:List<|List Nat):Nat:=(g.map List.length).sum+g.length
def Wx{g:List (List Nat)}{x:List Nat}:gq (g++[x])=gq g+(x.length+1):=by
 show(List.map List.length<|g++[x]).sum+(g++[x]).length=_
 rw[List.map_append,List.sum_append,List.length_append]
 exact Nat.add_add_add_comm ..
def stp{a b c n k N:Nat}(h:a+n*(k+1)<=N)(q:b<=a+c)(z:Nat.ble c n=true):b+n*k<=N:=
 av (Nat.add_le_add_right (av q<|Nat.add_le_add_left (aai z) a)<|n*k) (by rw[Nat.add_assoc,Nat.add_comm n];exact h)
structure LI(σ:LS)(k:Nat):Prop where
 text:σ.text.length+15*k<=120
 due:σ.due.length+10*k<=81
 tl:σ.tags.length+5*k<=40
 tk:TG σ.tags.length σ.tags
 gs:gq σ.aE+2*k<=16
 val:σ.value.length+40*k<=320
 pg:σ.state=.plain->σ.aE≠[]
abbrev zV(r:gH):Prop:=r.txt.length<=13/\r.body.length<=13/\(r.sort=.plain∨r.sort=.quoted∨r.sort=.alias∨r.sort=.directive->r.body≠[])/\(r.sort=.directive->r.body∈gZ.map (·.1))
def zX{α:Type}{P:α->Prop}{l:List α}{d:α}(h:∀x∈l,P x)(hd:P d)(i:Nat):P (l.getD i d):=by
 rw[List.getD_eq_getElem?_getD]
 cases e:l[i]? with
 |none=>exact hd
 |some x=>exact h x<|List.mem_of_getElem? e
def D3(σ:LS)(m:Nat):zV (pick σ m):=by
 have h:∀i,zV (vq i):=zX (P:=zV) (by decide)<|by decide
 unfold pick
 split<;>exact h _
def BE(σ:LS)(m:Nat)(t:List Nat):sV (bZ σ m t):=by
 unfold bZ
 split
 ·exact .inr<|.inr<|.inr<|.inr<|.inl rfl
 ·exact(by decide:∀i,i<6->sV (pU.getD i [])) _ (Nat.mod_lt _<|by decide)
def D4{e:List Nat}(h:sV e):e.length<=2:=by
 rcases h with rfl|rfl|rfl|rfl|rfl|rfl<;>decide
section
variable{σ τ:LS}{so:eF}{r:gH}{e b:List Nat}{sh:Bool}{q:Pt}{k:Nat}
def Wy:Gw 1 σ (r2 σ so):=by
 unfold r2
 split
 ·exact .of rfl BC (.inl rfl) nofun
 ·exact .id
def Y9:Gw 4 σ (r3 σ so b q):=by
 unfold r3
 split
 ·exact Fe ..
 ·exact .id
def Ti:Gv 3 (σ.value.length+(fold σ.aE).length+b.length) σ (r4 σ so b sh q)/\((r4 σ so b sh q).aE=[]∨(r4 σ so b sh q).aE=σ.aE):=by
 unfold r4
 split
 ·exact⟨(vA σ b sh q).1,.inl (vA σ b sh q).2⟩
 ·exact⟨⟨rfl,J9,Nat.add_assoc ..▸aah ..⟩,.inr rfl⟩
abbrev yC(σ:LS)(r:gH)(e:List Nat):LS:=r3 (r2 (r1 σ r e)<|fR σ r) (fR σ r) r.body<|fD σ
def D5:Gw 5 (r1 σ r e) (yC σ r e):=Wy.trans Y9
def lH:(fG σ r e).text=σ.text++r.txt++e:=(aac Prod.fst Ti.1.f).trans<|aac Prod.fst (D5 (e:=e)).f
def xr:(fG σ r e).line=σ.line+1:=(aac (·.2.1) Ti.1.f).trans (aac (·.2.2.2) (D5 (e:=e)).f)
def Za:(pV e).length+1<=2:=by
 unfold pV
 split
 ·rename_i z;exact z.elim (λz=>z▸aaj _) λz=>z▸aaj _
 ·exact aaj _
def LI.step(h:LI σ<|k+1)(hr:zV r)(he:e.length<=2):LI (eW (fG σ r e) e) k:=by
 have m:Gw 5 (r1 σ r e) (yC σ r e):=D5
 have v:_/\_:=Ti (σ:=yC σ r e) (so:=fR σ r) (b:=r.body) (sh:=r.bf) (q:=aN (fD σ) r.place)
 have mg:(yC σ r e).aE=σ.aE:=aac (·.2.1) m.f
 have mv:(yC σ r e).value=σ.value:=aac (·.2.2.1) m.f
 have vt:(fG σ r e).tags=(yC σ r e).tags:=aac (·.2.2) v.1.f
 have t:=m.k _ h.tk
 have ge:(fG σ r e).aE=[]∨(fG σ r e).aE=σ.aE:=mg▸v.2
 refine⟨stp h.text (c:=15) ?_ rfl,stp h.due (c:=8) (av v.1.d<|Nat.add_le_add_right m.d 3) rfl,stp h.tl (c:=5) ?_ rfl,⟨aaj _,?_⟩,stp h.gs (c:=2) ?_ rfl,stp h.val (c:=30) (av v.1.v ?_) rfl,λ_ z=>nomatch(aac List.length z).symm.trans List.length_append⟩
 ·show(fG σ r e).text.length<=_
  rw[lH,List.length_append,List.length_append,Nat.add_assoc]
  exact Nat.add_le_add_left (Nat.add_le_add hr.1 he) _
 ·show(fG σ r e).tags.length<=_
  exact vt▸t.l
 ·show∀x∈(fG σ r e).tags,_
  exact vt▸t.k
 ·show gq ((fG σ r e).aE++[pV e])<=_
  rw[Wx]
  exact Nat.add_le_add (ge.elim (λz=>z▸Nat.zero_le _) λz=>z▸aaj _) Za
 ·rw[mv,mg,Nat.add_assoc]
  have f:(fold σ.aE).length<=16+1:=av (zR _)<|aau<|av (aah ..)<|av (aah ..) h.gs
  exact Nat.add_le_add_left (Nat.add_le_add f hr.2.1) _
end
def bkD{a r:IS}{L:Loc}{H:MH}{Q:QF}{X:QX}(h:∀K:QF,(∀L' H',Bk r L' H' Q X->K .next L' H')->(∀L' H',Q .brk L' H'->K .brk L' H')->Bk a L H K X):Bk (.cons a r) L H Q X:=λw=>h (qJ (λL H=>wpS (SG true) w mq 14 r L H Q X) Q) (λL' H' b=>b w) (λ_ _ q=>q) w
section
variable{H:MH}{σ:LS}{j d g t:Nat}{xs:List Int}{m k:Nat}{e:List Nat}{r:gH}{s0 h0 o1 o2 o3 o4 o5 o6 told given:Option MV}{K:QF}{X:QX}
abbrev Turn(j d:Nat)(xs:List Int)(m:Nat)(σ τ:LS)(r:gH)(e:List Nat)(P:Loc->MH->Prop):Prop:=∀H' g' t' so told given,jP H' τ j d g' t' xs->P (iu j d g' t' τ<|lx m e (fD σ) (aN (fD σ) r.place) r so told given) H'
def Wz(hI:LI σ<|k+1)(hr:zV r)(he:e.length<=2)(h:jP H σ j d g t xs)
  (hq1:(fG σ r e).refused.isSome=true->Turn j d xs m σ (fG σ r e) r e (K .brk))(hq2:(fG σ r e).refused.isSome=false->Turn j d xs m σ (eW (fG σ r e) e) r e (K .next)):
  Bk (fX we 4) (iu j d g t σ<|lq m (some<|.str e) s0 h0 r told given) H K X:=by
 have ht:=av (aah _<|15*(k+1)) hI.text
 have h1:jP H (r1 σ r e) j d g t xs:=h
 have d0:(r1 σ r e).due.length<=81:=av (aah ..) hI.due
 have w2:Gw 1 (r1 σ r e) (r2 (r1 σ r e)<|fR σ r):=Wy
 have w3:Gw 5 (r1 σ r e) (yC σ r e):=D5
 have t2:=w2.k _ hI.tk
 have I':=hI.step hr he
 have Np:fR σ r=.directive->r.body∈gZ.map (·.1):=λz=>hr.2.2.2 (by
  unfold fR at z
  split at z
  ·cases z
  ·exact z)
 have hval:fR σ r=.plain∨fR σ r=.quoted∨fR σ r=.alias->r.body≠[]:=λz=>hr.2.2.1 (by
  unfold fR at z
  split at z
  ·rename_i y;exact .inr<|.inr<|.inr y.1
  ·exact z.imp id<|Or.imp id .inl)
 have mg:(yC σ r e).aE=σ.aE:=aac (·.2.1) w3.f
 have mv:(yC σ r e).value=σ.value:=aac (·.2.2.1) w3.f
 have tx:(fG σ r e).text.length<10000:=H8 (av (aah _<|15*k) I'.text)<|by decide
 have gs:(fG σ r e).aE.length<1000:=H8 (av (show _<=((fG σ r e).aE++[pV e]).length from by rw[List.length_append];exact J9)<|av (aat ..)<|av (aah _<|2*k) I'.gs)<|by decide
 have g0:=av (aah _<|2*(k+1)) hI.gs
 have v0:=av (aah _<|40*(k+1)) hI.val
 exact jr λ_ k4=>Y3 (H8 ht<|by decide) (k4 _ _ (jr λ_ k5=>Y4 (k5 _ _ (jr λ_ k6=>Y5 (H8 ht<|by decide) (H8 hr.1<|by decide) (H8 he<|by decide) (k6 _ _ (jr λ_ k7=>Y6 (k7 _ _ (jr λ_ k8=>Y7 (σ:=r1 σ r e) (k8 _ _
  (jr λ_ k9=>YW (so:=fR σ r) (H8 d0<|by decide) h1 λH5 h5=>k9 _ _
  (jr λ_ k10=>Wq (H8 (av w2.d<|aau d0)<|by decide) Np ⟨av t2.l (av (aau<|av (aah _<|5*(k+1)) hI.tl)<|by decide),t2.k⟩ h5 λH6 t6 aak Zb h6=>k10 _ _
  (jr λ_ k11=>Wr (H8 (av w3.d<|Nat.add_le_add_right d0 5)<|by decide) (λz=>mg▸hI.pg (w3.p z)) (mg▸av g0 (by decide)) (mv▸H8 v0 (by decide)) (H8 hr.2.1<|by decide) hval h6 λH7 g7 h7=>k11 _ _
  (bkD λ_ k12 b12=>Wu (λz=>b12 _ _<|hq1 z _ _ _ _ _ _ h7) λz=>k12 _ _
  (jr λ_ k13=>Wv gs h7 λH8 h8=>k13 _ _<|jr λ_ k14=>Ww tx<|k14 _ _<|Xb<|hq2 z _ _ _ _ _ _ h8))))))))))))))
def turn(hm:m<30000)(hI:LI σ<|k+1)(h:jP H σ j d g t xs)
  (hq1:(dR σ m).refused.isSome=true->Turn j d xs m σ (dR σ m) (pick σ m) (bZ σ m (pick σ m).txt) (K .brk))(hq2:(dR σ m).refused.isSome=false->Turn j d xs m σ (eW (dR σ m)<|bZ σ m (pick σ m).txt) (pick σ m) (bZ σ m (pick σ m).txt) (K .next)):
  Bk we (iu j d g t σ ⟨some<|.int m,o6,s0,h0,o1,o2,o3,o4,o5,told,given⟩) H K X:=
 jr λ_ k0=>YX h λH1 h1=>k0 _ _<|jr λ_ k1=>YY h1 λH2 h2=>k1 _ _<|jr λ_ k2=>YZ hm h2 λH3 h3=>k2 _ _<|jr λ_ k3=>Y0 h3 (H8 (av (aah _<|15*(k+1)) hI.text)<|by decide) λH4 h4=>k3 _ _<|Wz hI (D3 σ m) (D4<|BE σ m _) h4 hq1 hq2
end
structure LB(σ:LS):Prop where
 text:σ.text.length<=120
 due:σ.due.length<=81
def LI.lb{σ:LS}{e:List Nat}{k:Nat}(h:LI (eW σ e) k):LB σ:=⟨av (aah _<|15*k) h.text,av (aah _<|10*k) h.due⟩
def LI.lb'{σ:LS}{k:Nat}(h:LI σ k):LB σ:=⟨av (aah _<|15*k) h.text,av (aah _<|10*k) h.due⟩
inductive XL(σ:LS):LX->Last->Prop
 |none {x:LX}:σ.line=0->XL σ x none
 |some {n:Int} {e:List Nat} {spot here:Pt} {r:gH} {so:eF} {told given:Option MV}:e.length<=2->r.txt.length<=13->e.length<=σ.text.length->XL σ (lx n e spot here r so told given) (some (e,spot,r.txt))
section
variable{w:World}{H:MH}{σ:LS}{l:Last}{j d g t:Nat}{x:LX}{xs:List Int}{Q K1:QF}{X:QX}
def Tj(ns:List Nat):∀(σ:LS) (l:Last) (H:MH) (g t:Nat) (x:LX),(∀n∈ns,n<30000)->LI σ ns.length->XL σ x l->jP H σ j d g t xs->
  (∀H' g' t' x',jP H' (nu ns σ l).1 j d g' t' xs->XL (nu ns σ l).1 x' (nu ns σ l).2->LB (nu ns σ l).1->Q .next (iu j d g' t' (nu ns σ l).1 x') H')->
  uc (λL' H' Q' X'=>zg (SG true) w mq 14 we L' H' Q' X') 14 Q (ns.map Int.ofNat) (iu j d g t σ x) H:=by
 induction ns with
 |nil=>exact λσ l H g t x hn hI hx h hq=>hq H g t x h hx hI.lb'
 |cons m ns ih=>
  intro σ l H g t x hn hI hx h hq
  have hr:=D3 σ m
  have hel:=D4<|BE σ m (pick σ m).txt
  have I':LI (eW (dR σ m)<|bZ σ m (pick σ m).txt) ns.length:=hI.step hr hel
  have el:(bZ σ m (pick σ m).txt).length<=(dR σ m).text.length:=by rw[show(dR σ m).text=_ from lH,List.length_append];exact aat ..
  refine turn (hn m<|.head _) hI h (λz H' g' t' so told given h'=>?_) (λz H' g' t' so told given h'=>?_) w
  ·have e:nu (m::ns) σ l=(dR σ m,some (bZ σ m (pick σ m).txt,fD σ,(pick σ m).txt)):=aam z
   rw[e]at hq
   exact hq _ _ _ _ h' (.some hel hr.1 el) I'.lb
  ·have e:nu (m::ns) σ l=nu ns (eW (dR σ m)<|bZ σ m (pick σ m).txt) (some (bZ σ m (pick σ m).txt,fD σ,(pick σ m).txt)):=aal<|Bool.eq_false_iff.mp z
   rw[e]at hq
   exact ih _ _ _ _ _ _ (λn y=>hn n<|.tail _ y) I' (.some hel hr.1 el) h' hq
def Tn{α:Type}(l:List α)(n:Nat):qI l none (some (n:Int))=l.take n:=by
 have h2:lY l.length (some (n:Int))=min n l.length:=pC _ _
 show(l.drop 0).take (lY l.length (some (n:Int))-0)=_
 rw[h2]
 show l.take (min n l.length)=_
 rw[<-List.take_take,List.take_length]
def oIs(o:Option Pt){H:MH}:gx .Is (Wk o) .none H=some (!o.isSome):=by cases o<;>rfl
def fLf{i:Nat}{ys:List MV}{Q:QV}(o:H.at_ i=some (.s9 ys))(h:Q (.int ys.length) H):Om (SG true) .len [.ref i] H Q:=by show iP (H.at_ i) _ _ _ _ _ _;rw[o];exact h
def T14(hx:XL σ x l)(hb:LB σ)(h:jP H σ j d g t xs)(hq:jP H (tZ (decide<|xs.length%2=1) σ l) j d g t xs->K1 .next (iu j d g t (tZ (decide<|xs.length%2=1) σ l) x) H):
  Bk (oG eO.ib 14) (iu j d g t σ x) H K1 X:=by
 have stay:¬(σ.refused.isSome=false/\decide (xs.length%2=1)=true/\0<σ.line)->K1 .next (iu j d g t σ x) H:=λc=>by
  have e:tZ (decide<|xs.length%2=1) σ l=σ:=by
   cases l with
   |none=>rfl
   |some y=>exact aal c
  rw[e]at hq
  exact hq h
 have md:(Int.fmod ((xs.map MV.int).length:Int) 2==1)=decide (xs.length%2=1):=by
  rw[List.length_map,show Int.fmod (xs.length:Int) 2=_ from Xc xs.length 2]
  by_cases c:xs.length%2=1
  ·rw[aag c,c];rfl
  ·rw[aad c];exact beq_eq_false_iff_ne.mpr λz=>c<|Int.ofNat.inj z
 rcases Bool.eq_false_or_eq_true σ.refused.isSome with c1|c1
 ·exact fZ<|pB (oIs σ.refused (H:=H))<|nF c1<|stay λz=>nomatch c1.symm.trans z.1
 ·refine fZ<|pB (oIs σ.refused (H:=H))<|nT c1<|fLf h.J8 ⟨by decide,?_⟩
  rcases Bool.eq_false_or_eq_true (decide (xs.length%2=1))with c2|c2
  ·refine cT (md.trans c2) ?_
   by_cases c3:0<σ.line
   ·refine cT (aag<|Int.ofNat_lt.mpr c3) ?_
    cases hx with
    |none z=>exact aan c3<|z▸Nat.lt_irrefl 0
    |@some n e spot here r so told given l1 l2 l3=>
     have e1:tZ (decide<|xs.length%2=1) σ (some (e,spot,r.txt))={σ with text:=σ.text.take<|σ.text.length-e.length,finish:=aN spot r.txt.length}:=aam ⟨c1,c2,c3⟩
     rw[e1]at hq
     have t9:σ.text.length<10000:=H8 hb.text<|by decide
     refine⟨BD t9,BD (H8 l1<|by decide),BD t9,?_⟩
     rw[show((σ.text.length:Nat):Int)-((e.length:Nat):Int)=((σ.text.length-e.length:Nat):Int)from(Int.ofNat_sub l3).symm,Tn]
     exact⟨BD (H8 l2<|by decide),i9<|hq h⟩
   ·exact cF (aad λz=>c3<|Int.ofNat_lt.mp z)<|stay λz=>c3 z.2.2
  ·exact cF (md.trans c2)<|stay λz=>nomatch c2.symm.trans z.2.1
end
def ap2{α:Type}{l:List α}{a b:α}:l++[a]++[b]=l++[a,b]:=List.append_assoc ..
def ap3{α:Type}{l:List α}{a b c:α}:l++[a]++[b]++[c]=l++[a,b,c]:=by rw[List.append_assoc,List.append_assoc];rfl
section
variable{H:MH}{σ:LS}{j d g t:Nat}{x:LX}{xs:List Int}{K:QF}{X:QX}
def T15(hd:σ.due.length<400)(h:jP H σ j d g t xs)(hq:∀H' st' r',LH H' st' (σ.due++v8 σ) σ.aE σ.tags j d g t xs->Bk Js (iu j d g t {σ with refused:=r'} x) H' K X):
  Bk (fX eO.ib 15) (iu j d g t σ x) H K X:=by
 obtain⟨b1,b2,b3,b4,b5,b6,b7,b8,b9,b10,b11,b12,b13⟩:=σ
 have l1:b2.length<500:=aar hd<|by decide
 have l2:∀a,(b2++[a]).length<500:=λa=>H8 BC<|aar (Nat.succ_lt_succ hd)<|by decide
 have l3:∀a b,(b2++[a]++[b]).length<500:=λa b=>H8 BC<|H8 (aau BC)<|aar (Nat.succ_lt_succ<|Nat.succ_lt_succ hd)<|by decide
 cases b4 with
 |some q=>exact jr λ_ k1=>fZ<|k1 _ _<|jr λ_ k2=>fZ<|h.ki<|h.ap l1 (x:=.refused q) ⟨.none,rfl,rfl⟩ (st':=.done) nofun λH' h'=>k2 _ _<|hq _ _ _ h'
 |none=>
  cases b3 with
  |start=>exact jr λ_ k1=>fZ<|h.ki<|h.ap l1 (x:=.c5 b13 b13) ⟨.none,rfl,rfl⟩ (st':=.done) nofun λH' h'=>k1 _ _<|jr λ_ k2=>fZ<|k2 _ _<|hq _ _ _ h'
  |ended=>exact jr λ_ k1=>fZ<|h.ki<|h.ap l1 (x:=.c5 b13 b13) ⟨.none,rfl,rfl⟩ (st':=.done) nofun λH' h'=>k1 _ _<|jr λ_ k2=>fZ<|k2 _ _<|hq _ _ _ h'
  |ahead=>exact jr λ_ k1=>fZ<|k1 _ _<|jr λ_ k2=>fZ<|h.ki<|h.ap l1 (x:=.refused b13) ⟨.none,rfl,rfl⟩ (st':=.done) nofun λH' h'=>k2 _ _<|hq _ _ (some b13) h'
  |done=>exact jr λ_ k1=>fZ<|h.ki<|h.ap l1 (x:=.aY false b13 b13) ⟨.none,rfl,rfl⟩ (st':=.done) nofun λH1 h1=>h1.ki<|h1.ap (l2 _) (x:=.c5 b13 b13) ⟨.none,rfl,rfl⟩ (st':=.done) nofun λH2 h2=>k1 _ _<|jr λ_ k2=>fZ<|k2 _ _<|hq _ _ _<|ap2▸h2
  |open_=>exact jr λ_ k1=>fZ<|h.ki<|gB<|h.ap l1 (x:=.value [] true none b13 b13) .plain (st':=.done) nofun λH1 h1=>h1.ki<|h1.ap (l2 _) (x:=.aY false b13 b13) ⟨.none,rfl,rfl⟩ (st':=.done) nofun λH2 h2=>h2.ki<|h2.ap (l3 _ _) (x:=.c5 b13 b13) ⟨.none,rfl,rfl⟩ (st':=.done) nofun λH3 h3=>k1 _ _<|jr λ_ k2=>fZ<|k2 _ _<|hq _ _ _<|ap3▸h3
  |plain=>exact jr λ_ k1=>fZ<|h.ki<|gB<|h.ap l1 (x:=.value b8 true none b9 b10) .plain (st':=.done) nofun λH1 h1=>h1.ki<|h1.ap (l2 _) (x:=.aY false b13 b13) ⟨.none,rfl,rfl⟩ (st':=.done) nofun λH2 h2=>h2.ki<|h2.ap (l3 _ _) (x:=.c5 b13 b13) ⟨.none,rfl,rfl⟩ (st':=.done) nofun λH3 h3=>k1 _ _<|jr λ_ k2=>fZ<|k2 _ _<|hq _ _ _<|ap3▸h3
end
noncomputable def jY(xs:List Int):List Nat:=(xs.take 8).map λx=>(x%27720).toNat
def jJ(xs:List Int):LS:=tZ (decide<|xs.length%2=1) (nu (jY xs) E8 none).1 (nu (jY xs) E8 none).2
inductive uo(τ:LS):Prop
 |mk {r:List Tok}:(∀c∈τ.text,FN c=true)->fU (τ.text++[0]) rj false r->r.length<90->dj (some .first) (⟨.di,rj,rj⟩::r) (τ.due++v8 τ)->uo τ
section
variable{H:MH}{j d g t:Nat}{x:LX}{xs:List Int}{K:QF}{X:QX}
def JA(P:uo<|jJ xs)(h:jP H E8 j d g t xs)(hq:∀L' H',K (.ret<|.bool true) L' H'):Bk (fX eO.ib 13) (iu j d g t E8 x) H K X:=by
 refine jr λK1 k1=>fZ λw Q' m=>⟨j,xs,rfl,h.J8,?_⟩
 have h:=(h.new<|.list<|(xs.map MV.int).take 8).more (H':=((H.new<|.list<|(xs.map MV.int).take 8).new<|.list<|(xs.take 8).map λi=>MV.int<|i.fmod 27720).del<|H.n+1) ((h.new<|.list<|(xs.map MV.int).take 8).hw.uX) λe=>
  have n:=(h.new<|.list<|(xs.map MV.int).take 8).hw _ _ e
  (sq (t:=H.n+1)<|aae n).trans ((aL<|aae n).trans e)
 rw[show((xs.take 8).map λi=>i.fmod 27720)=(jY xs).map Int.ofNat from by
  unfold jY
  rw[List.map_map]
  refine List.map_congr_left λx _=>?_
  show x.fmod 27720=((x%27720).toNat:Int)
  rw[Int.fmod_eq_emod_of_nonneg _ (by decide),Int.toNat_of_nonneg<|Int.emod_nonneg _<|by decide]]
 have I0:LI E8 8:=⟨by decide,by decide,by decide,⟨aaj _,nofun⟩,by decide,by decide,nofun⟩
 have I0:LI E8 (jY xs).length:=by
  have l8:(jY xs).length<=8:=by unfold jY;rw[List.length_map,List.length_take];exact Nat.min_le_left ..
  have m:∀{a n N},a+n*8<=N->a+n*(jY xs).length<=N:=λh=>av (Nat.add_le_add_left (Nat.mul_le_mul_left _ l8) _) h
  exact⟨m I0.text,m I0.due,m I0.tl,I0.tk,m I0.gs,m I0.val,I0.pg⟩
 refine Tj (jY xs) E8 none _ g t x (λn y=>?_) I0 (.none rfl) h λH' g' t' x' h' hx b=>m .next _ _<|k1 _ _<|jr λK2 k2=>T14 hx b h' λh2=>k2 _ _ ?_
 ·obtain⟨x,-,rfl⟩:=List.mem_map.mp y
  exact aar ((Int.toNat_lt<|Int.emod_nonneg _<|by decide).mpr<|Int.emod_lt_of_pos _<|by decide) (by decide:27720<30000)
 ·have b:LB (jJ xs):=by
   unfold jJ
   generalize(nu (jY xs) E8 none).1=σ at b
   cases(nu (jY xs) E8 none).2 with
   |none=>exact b
   |some y=>
    show LB (if _ then _ else _)
    split
    ·exact⟨av (List.length_take_le' ..) b.text,b.due⟩
    ·exact b
  change jP H' (jJ xs) j d g' t' xs at h2
  change Bk _ (iu j d g' t' (jJ xs) x') H' _ _
  generalize jJ xs=τ at P b h2
  obtain⟨p1,p2,p3,p4⟩:=P
  refine T15 (H8 b.due<|by decide) h2 λH3 st r h3=>h3.due.elim λys q=>NJ h3.hw rfl rfl rfl q.1 q.2.1 p1 (H8 b.text<|by decide) p2 p3 ?_ p4 hq
  rw[List.length_append]
  have e:(v8 τ).length<=3:=by
   unfold v8
   cases τ.refused with
   |some q=>exact aat 1 2
   |none=>
    show(t7 τ τ.finish).length<=3
    unfold t7
    cases τ.state<;>exact aai rfl
  exact H8 (Nat.add_le_add b.due e)<|by decide
noncomputable abbrev Zc(j:Nat):Loc:=some (.ref j)::List.replicate 28 none
def To(hw:HW H)(hj:H.at_ j=some (.s9<|xs.map .int))(P:uo<|jJ xs)(hq:∀L' H',K (.ret<|.bool true) L' H'):Bk eO.ib (Zc j) H K X:=by
 have j1:(H.new<|.list [yu (.stream (0,0,0) (0,0,0)) .none]).at_ j=some (.s9<|xs.map .int):=(aL<|aae<|hw _ _ hj).trans hj
 have h1:(H.new<|.list [yu (.stream (0,0,0) (0,0,0)) .none]).at_ H.n=some (.list [yu (.stream (0,0,0) (0,0,0)) .none]):=af
 have w1:=hw.new (o:=.list [yu (.stream (0,0,0) (0,0,0)) .none])
 have nj:H.n≠j:=aav<|hw _ _ hj
 have mk:∀(d:Nat) (H1:MH),HW H1->H1.at_ d=some (.list [yu (.stream (0,0,0) (0,0,0)) .none])->H1.at_ j=some (.s9<|xs.map .int)->d≠j->jP ((H1.new<|.aF []).new<|.list []) E8 j d (H1.new<|.aF []).n H1.n xs:=λd H1 w1 h1 j1 nj=>
  have w2:=w1.new (o:=.aF [])
  have k:∀{a o},H1.at_ a=some o->(H1.new<|.aF []).at_ a=some o:=λe=>(aL<|aae<|w1 _ _ e).trans e
  have k':∀{a o},(H1.new<|.aF []).at_ a=some o->((H1.new<|.aF []).new<|.list []).at_ a=some o:=λe=>(aL<|aae<|w2 _ _ e).trans e
  ⟨w2.new,k'<|k j1,⟨_,k'<|k h1,.cons ⟨.none,rfl,rfl⟩ .nil,nofun⟩,af,k' af,aae<|w2 _ _<|k h1,nj,aav<|w2 _ _<|k j1⟩
 have LH3:=mk _ _ w1 h1 j1 nj
 exact jr λ_ k=>fZ<|k _ _<|jr λ_ k=>fZ<|k _ _<|jr λ_ k=>fZ<|k _ _<|jr λ_ k=>fZ<|k _ _<|jr λ_ k=>fZ<|k _ _<|jr λ_ k=>fZ<|k _ _<|jr λ_ k=>fZ<|k _ _<|jr λ_ k=>fZ<|k _ _<|jr λ_ k=>fZ<|k _ _<|jr λ_ k=>fZ<|k _ _<|jr λ_ k=>fZ<|k _ _<|jr λ_ k=>fZ<|k _ _<|jr λ_ k=>fZ<|k _ _<|JA (x:=⟨none,none,none,none,none,none,none,none,none,none,none⟩) P LH3 hq
end
noncomputable abbrev brk(c:Nat):Bool:=decide<|c∈[10,13,133,8232,8233,65279]
def JB{q:P4}{c d:Nat}(h:brk c=false):g9 q c d=⟨q.ptr+1,q.idx+1,q.line,q.col+1⟩:=by
 have h:c∉[10,13,133,8232,8233,65279]:=of_decide_eq_false h
 unfold g9
 rw[aal λz=>h (z.elim ((by decide:∀x∈[10,133,8232,8233],x∈[10,13,133,8232,8233,65279]) c) λm=>by rw[m.1];decide),aam λe=>h<|by rw[e];decide]
theorem JC{b:List Nat}:∀(t:List Nat) (q:P4) {r:List Nat},b.drop q.ptr=t++r->(∀c∈t,brk c=false)->fwd b t.length q=⟨q.ptr+t.length,q.idx+t.length,q.line,q.col+t.length⟩
 |[],q,r,h,a=>rfl
 |c::t,q,r,h,a=>by
  show fwd b t.length (g9 q (b.getD q.ptr 0)<|b.getD (q.ptr+1) 0)=_
  rw[cZ<|bV (r:=t++r) h,JB<|a c<|.head _,JC t _ (r:=r) (yj h) λx m=>a x<|.tail _ m,Nat.add_right_comm q.ptr 1,Nat.add_right_comm q.idx 1,Nat.add_right_comm q.col 1]
  rfl
structure Sp(b:List Nat)(q:P4)(t:List Nat)(q':P4):Prop where
 d:b.drop q.ptr=t++b.drop q'.ptr
 z:fwd b t.length q=q'
section
variable{b s t w r:List Nat}{q m q':P4}{c d n:Nat}
def Sp.at_(h:b.drop q.ptr=t++w):Sp b q t (fwd b t.length q):=⟨by rw[ak,yi h];exact h,rfl⟩
def Sp.l(h:Sp b q (s++t) q'):Sp b q s (fwd b s.length q):=.at_<|h.d.trans<|List.append_assoc ..
def Sp.rt(h:Sp b q (s++t) q'):Sp b (fwd b s.length q) t q':=⟨by rw[ak];exact yi<|h.d.trans<|List.append_assoc ..,by rw[fh,<-List.length_append];exact h.z⟩
def Sp.Tw(h:Sp b q t q')(a:∀c∈t,brk c=false):q'=⟨q.ptr+t.length,q.idx+t.length,q.line,q.col+t.length⟩:=h.z.symm.trans<|JC t q h.d a
def Sp.to(h:Sp b q t q')(e:b.drop q'.ptr=w):b.drop q.ptr=t++w:=e▸h.d
def BG:∀c∈List.replicate n 32,brk c=false:=λc m=>(List.eq_of_mem_replicate m).symm▸rfl
def BH(h:b.drop q.ptr=c::r)(n:c∉vL):gc b q=(q,[]):=by
 unfold gc
 rw[cZ<|bV h,aal λm=>n ((by decide:∀x∈[13,10,133],x∈vL) c m),aal λm=>n<|(by decide:∀x∈[8232,8233],x∈vL) c m]
def JD(h:b.drop q.ptr=c::d::r)(m:c∈[10,133]∨c=13/\d≠10):gc b q=(⟨q.ptr+1,q.idx+1,q.line+1,0⟩,[10]):=by
 have g0:=cZ<|bV h
 have g1:=cZ<|kK (w:=[c]) h
 have st:g9 q c d=⟨q.ptr+1,q.idx+1,q.line+1,0⟩:=aam<|m.imp_left<|(by decide:∀x∈[10,133],x∈[10,133,8232,8233]) c
 unfold gc
 rw[g0,aam (m.elim ((by decide:∀x∈[10,133],x∈[13,10,133]) c) λm=>by rw[m.1];decide),aal (by
  rw[h]
  intro e
  injection e with e1 e2
  injection e2 with e2
  exact m.elim (λm=>aan (e1▸m)<|by decide) λm=>m.2 e2)]
 show(g9 q (b.getD q.ptr 0)<|b.getD (q.ptr+[c].length) 0,_)=_
 rw[g0,g1,st]
def P9(h:b.drop q.ptr=c::r)(m:c∈[8232,8233]):gc b q=(⟨q.ptr+1,q.idx+1,q.line+1,0⟩,[c]):=by
 have g0:=cZ<|bV h
 unfold gc
 rw[g0,aal ((by decide:∀x∈[8232,8233],x∉[13,10,133]) c m),aam m]
 show(g9 q (b.getD q.ptr 0) _,_)=_
 rw[g0]
 exact aac (·,[c])<|aam<|.inl<|(by decide:∀x∈[8232,8233],x∈[10,133,8232,8233]) c m
def WA(h:b.drop q.ptr=13::10::r):gc b q=(⟨q.ptr+2,q.idx+2,q.line+1,0⟩,[10]):=by
 have g0:=cZ<|bV h
 have g1:b.getD (q.ptr+1) 0=10:=cZ<|kK (w:=[13]) h
 have e:fwd b 2 q=⟨q.ptr+2,q.idx+2,q.line+1,0⟩:=by
  show g9 (g9 q (b.getD q.ptr 0)<|b.getD (q.ptr+1) 0) (b.getD (g9 q (b.getD q.ptr 0)<|b.getD (q.ptr+1) 0).ptr 0) _=_
  rw[rW,g0,g1]
  rfl
 unfold gc
 rw[g0,aam (by decide),aam (by rw[h];rfl),e]
inductive iN(b:List Nat)(qz:P4):P4->Option (List Nat)->Prop
 |brk {c:Nat} {r g:List Nat} {q2:P4}:b.drop qz.ptr=c::r->c∈vL->gc b qz=(q2,g)->g≠[]->iN b qz q2 (some g)
 |eof:b.drop qz.ptr=[0]->iN b qz qz none
def iN.of(h:b.drop q.ptr=t++d::r)(he:sV t)(hc:t=[13]->d≠10):iN b q ⟨q.ptr+t.length,q.idx+t.length,q.line+1,0⟩ (some<|pV t):=by
 rcases he with e|e|e|e|e|e
 ·rw[e]at h⊢;exact .brk h (by decide) (JD h<|.inl<|by decide) nofun
 ·rw[e]at h⊢;exact .brk h (by decide) (WA h) nofun
 ·rw[e]at h⊢;exact .brk h (by decide) (P9 h<|by decide) nofun
 ·have n:=hc e;rw[e]at h⊢;exact .brk h (by decide) (JD h<|.inr ⟨rfl,n⟩) nofun
 ·rw[e]at h⊢;exact .brk h (by decide) (JD h<|.inl<|by decide) nofun
 ·rw[e]at h⊢;exact .brk h (by decide) (P9 h<|by decide) nofun
inductive Fi(b:List Nat)(q:P4):Prop
 |mk {c:Nat} {r:List Nat}:b.drop q.ptr=c::r->c∈oU->Fi b q
def iN.fst{g:Option (List Nat)}(h:iN b q q' g):Fi b q:=by
 cases h with
 |brk h m _ _=>exact⟨h,(by decide:∀x∈vL,x∈oU) _ m⟩
 |eof h=>exact⟨h,.head _⟩
def iN.next{g:Option (List Nat)}(h:iN b q q' g):(gc b q).1=q':=by
 cases h with
 |brk h _ e _=>rw[e]
 |eof h=>rw[BH h<|by decide]
def xu(h:c∈oU):c∈pD/\c≠32/\c≠35/\g5 c=false/\c∈iU:=(by decide:∀x∈oU,x∈pD/\x≠32/\x≠35/\g5 x=false/\x∈iU) c h
inductive Over:List Nat->Prop
 |Ka (n:Nat):Over<|List.replicate n 32
 |rem (n:Nat) {x:List Nat}:(∀c∈x,g5 c=true)->Over (List.replicate n 32++35::x)
def zY(h:Sp b q (List.replicate n 32) q')(e:b.drop q'.ptr=c::r)(n1:c≠32):gD oQ b b.length q=q':=
 (qZ _ b.length q (h.to e) (λx m=>aag<|List.eq_of_mem_replicate m) (aad n1)<|H8 (aat ..)<|wX<|h.to e).trans h.z
def vB(h:Sp b q (List.replicate n 32) q')(e:b.drop q'.ptr=c::r)(n1:c≠32)(n2:c≠35):bw b q=q':=by
 unfold bw
 rw[zY h e n1,aal λz=>n2<|(cZ<|bV e).symm.trans z]
def sW(ht:Over t)(h:Sp b q t q')(e:Fi b q'):bw b q=q':=by
 obtain⟨e,m⟩:=e
 have m:=xu m
 cases ht with
 |Ka n=>exact vB h e m.2.1 m.2.2.1
 |@rem n x a=>
  have k:=h.rt
  have k':=k.to e
  unfold bw
  rw[zY h.l (show b.drop _=35::(x++b.drop q'.ptr)from k.d) nofun,aam<|cZ<|bV k']
  exact(qZ (ok:=g5) (35::x) b.length _ k' (λy z=>(aab.mp z).elim (λz=>z▸rfl)<|a y) m.2.2.2.1<|H8 (aat ..)<|wX k').trans k.z
def fu{L p p1 n:Nat}(h:L<=p+(n+1))(k:p+1<=p1):L<=p1+n:=av h<|Nat.succ_add_eq_add_succ p n▸Nat.add_le_add_right k n
theorem sX(z:ZB b):∀(n m:Nat) (q:P4) (x y:Bool),q.ptr<b.length->b.length<=q.ptr+n->b.length<=q.ptr+m->(dh b n q x).1=(dh b m q y).1
 |0,m,q,x,y,h,hn,hm=>aan hn<|Nat.not_le_of_lt h
 |n+1,0,q,x,y,h,hn,hm=>aan hm<|Nat.not_le_of_lt h
 |n+1,m+1,q,x,y,h,hn,hm=>by
  obtain⟨l2,l3⟩:=lB z h
  have f:=ig z l2
  unfold dh
  by_cases c:(gc b<|bw b q).2=[]
  ·rw[aam c,aam c]
  ·rw[aal c,aal c]
   have k:=av (aau l3)<|f.2.1 c
   exact sX z n m _ true true f.1 (fu hn k)<|fu hm k
def Qa(hl:q.ptr<b.length):∃k,b.length=k+1/\tR b q=(if(gc b<|bw b q).2=[]then((gc b<|bw b q).1,true)else dh b k (gc b<|bw b q).1 true).1:=by
 have n0:b.length≠0:=λz=>Nat.not_lt_zero _<|z▸hl
 refine⟨b.length-1,(Nat.succ_pred n0).symm,?_⟩
 show(dh b b.length q true).1=_
 rw[<-Nat.succ_pred n0]
 rfl
def oW(h:Sp b q (List.replicate n 32) q')(e:b.drop q'.ptr=c::r)(hc:c∉32::35::vL):tR b q=q':=by
 obtain⟨k,-,ek⟩:=Qa (b:=b) (q:=q)<|H8 (aah ..)<|wX<|h.to e
 rw[ek,vB h e (λz=>hc<|z▸.head _) λz=>hc<|z▸.tail _ (.head _),BH e λm=>hc<|.tail _<|.tail _ m]
 rfl
def JE(z:ZB b){q2:P4}{g:Option (List Nat)}(h:iN b q' q2 g)(ht:Over t)(hs:Sp b q t q'):tR b q=tR b q2:=by
 have f:=h.fst
 have et:=sW ht hs f
 obtain⟨e,m⟩:=f
 have hl:q.ptr<b.length:=H8 (aah ..)<|wX<|hs.to e
 obtain⟨k,hk,ek⟩:=Qa hl
 rw[ek,et]
 cases h with
 |@brk c r g q2 _ _ hs n=>
  obtain⟨l2,l3⟩:=lB z hl
  have f:=ig z l2
  rw[et]at f l3
  rw[hs]at f⊢
  rw[aal n]
  have k1:=av (aau l3)<|f.2.1 n
  exact sX z k b.length q2 true true f.1 (fu (hk▸aat ..) k1)<|aat ..
 |eof h0=>
  rw[BH h0 (by decide),oW (n:=0) ⟨rfl,rfl⟩ h0<|by decide]
  rfl
def fU.shift{l:List Tok}(e:tR b q=tR b q')(h:fU b q' false l):fU b q false l:=by
 cases h with
 |cons a s=>exact .cons (e▸a) s
end
structure ji(b:List Nat)(qz:P4)(v':List Nat)(z:Option P4)(q':P4):Prop where
 plain:∀q w,Bg b q w->fwd b w.length q=qz->yp b q (w++v') (z.getD qz) q'
section
variable{b v v' lb g r:List Nat}{q q1 q2 q' qz qh qe:P4}{z:Option P4}{bs m sp:List (List Nat)}{os:Option (List<|List Nat)}{n c:Nat}
def ji.stop(h:w5 b qz os q')(hs:os=none∨os=some []∨b[q'.ptr]?=some 35):ji b qz [] none q':=⟨λq w hw e=>by
 subst e
 rw[List.append_nil]
 exact .stop hw h hs⟩
def ji.eof(h:w5 b qz (some sp) q')(hs:sp≠[])(hz:b[q'.ptr]?=some 0):ji b qz [] none q':=⟨λq w hw e=>by
 subst e
 rw[List.append_nil]
 exact .eof hw h hs hz⟩
def ji.more(h:w5 b qz (some sp) q1)(hs:sp≠[])(hp:yp b q1 v qe q'):ji b qz (sp.flatten++v) (some qe) q':=⟨λq w hw e=>by
 subst e
 rw[<-List.append_assoc]
 exact .more hw h hs hp⟩
def ji.bf(h:b.drop qz.ptr=32::35::r):ji b qz [] none (fwd b 1 qz):=.stop (.flat (n:=1) h (by decide)<|by decide)<|.inr<|.inr<|by rw[ak];exact kK (w:=[32]) h
def ji.end_(h:b.drop qz.ptr=[0]):ji b qz [] none qz:=.stop (.flat (n:=0) h (by decide)<|by decide)<|.inr<|.inl rfl
inductive Mid(b:List Nat)(q:P4)(lb:List Nat)(bs:List<|List Nat):List Nat->Option P4->P4->Prop
 |bar:dm b q.ptr=true->Mid b q lb bs [] none q
 |NW {q':P4}:dm b q.ptr=false->Br b q none q'->Mid b q lb bs [] none q'
 |stop {q':P4} {m:List (List Nat)} {c:Nat}:dm b q.ptr=false->Br b q (some m) q'->b[q'.ptr]?=some c->c=35∨c=0->Mid b q lb bs [] none q'
 |more {q1 q' qe:P4} {m:List (List Nat)} {v:List Nat}:dm b q.ptr=false->Br b q (some m) q1->yp b q1 v qe q'->Mid b q lb bs ((FJ lb<|bs++m).flatten++v) (some qe) q'
def JF:FJ lb bs≠[]:=by
 unfold FJ
 split
 ·split
  ·exact nofun
  ·rename_i h;exact h
 ·exact nofun
def Qc(h:c∈vL):c≠32:=λe=>aan (e▸h)<|by decide
def ji.mid(h:iN b qz q<|some g)(hm:Mid b q g [] v' z q'):ji b qz v' z q':=by
 cases h with
 |@brk c r _ _ h0 m e n=>
  have B:∀{o x},dm b q.ptr=false->Br b q o x->w5 b qz (o.map λbs=>FJ g bs) x:=λ{o x} hd hb=>by
   have s:=w5.brk (n:=0) h0 (Qc m) m (show dm b (gc b qz).1.ptr=false from e▸hd)<|show Br b (gc b qz).1 o x from by rw[e];exact hb
   rwa[show(gc b<|fwd b 0 qz).2=g from aac (·.2) e]at s
  cases hm with
  |bar hd=>
   have s:=w5.bar (n:=0) h0 (Qc m) m<|show dm b (gc b qz).1.ptr=true from e▸hd
   rw[show(gc b<|fwd b 0 qz).1=q from aac (·.1) e]at s
   exact .stop s<|.inl rfl
  |NW hd hb=>exact .stop (B hd hb)<|.inl rfl
  |stop hd hb hc o=>exact o.elim (λo=>.stop (B hd hb)<|.inr<|.inr<|o▸hc) λo=>.eof (B hd hb) JF<|o▸hc
  |more hd hb hp=>exact .more (B hd hb) JF hp
theorem Br.Ka:∀(n:Nat) (q:P4),Sp b q (List.replicate n 32) qz->Br b qz os q'->Br b q os q'
 |0,q,h,hb=>(show q=qz from h.z)▸hb
 |n+1,q,h,hb=>.sp (bV h.d)<|Br.Ka n _ (h.rt (s:=[32])) hb
def Mid.blank(h:Sp b q (List.replicate n 32) qz)(he:iN b qz q2<|some g)(hd:dm b q.ptr=false)(hm:Mid b q2 lb (bs++[g]) v' z q'):Mid b q lb bs v' z q':=by
 cases he with
 |@brk c r _ _ h0 m e _=>
  have B:∀{o x},dm b q2.ptr=false->Br b q2 o x->Br b q (o.map λy=>g::y) x:=λ{o x} hd hb=>Br.Ka n q h (by
   have s:=Br.nl (bV h0) m (show dm b (gc b qz).1.ptr=false from e▸hd)<|show Br b (gc b qz).1 o x from by rw[e];exact hb
   rwa[e]at s)
  cases hm with
  |bar hd2=>
   have s:=Br.bar (bV h0) m<|show dm b (gc b qz).1.ptr=true from e▸hd2
   rw[e]at s
   exact .NW hd<|Br.Ka n q h s
  |NW hd2 hb=>exact .NW hd<|B hd2 hb
  |stop hd2 hb hc o=>exact .stop hd (B hd2 hb) hc o
  |more hd2 hb hp=>
   rw[List.append_assoc]
   exact .more hd (B hd2 hb) hp
def Mid.words(h:Sp b q (List.replicate n 32) qh)(e:b.drop qh.ptr=c::r)(hc:c∉32::vL)(hd:dm b q.ptr=false)(hp:yp b qh v qe q'):Mid b q lb bs ((FJ lb bs).flatten++v) (some qe) q':=by
 have s:=Mid.more (lb:=lb) (bs:=bs) hd (Br.Ka n q h<|.stop (bV e) hc) hp
 rwa[List.append_nil]at s
def Mid.rest(h:Sp b q (List.replicate n 32) qh)(e:b.drop qh.ptr=c::r)(hc:c=35∨c=0)(hd:dm b q.ptr=false):Mid b q lb bs [] none qh:=
 .stop hd (Br.Ka n q h<|.stop (bV e)<|hc.elim (λz=>z▸by decide) λz=>z▸by decide) (bV e) hc
structure vC(w:List Nat):Prop where
 ne:w≠[]
 hd:w.head?≠some 35
 all:∀x∈w,x∉pD/\x≠58
inductive Kc:List Nat->Prop
 |one {w:List Nat}:vC w->Kc w
 |more {w t:List Nat}:vC w->Kc t->Kc (w++32::t)
inductive Ag(P:Nat->Prop):List Nat->Prop
 |mk {c:Nat} {t:List Nat}:P c->Ag P (c::t)
def vC.first{w t:List Nat}(h:vC w):Ag (·∉32::35::vL) (w++t):=by
 obtain⟨n,d,a⟩:=h
 cases w with
 |nil=>exact aan rfl n
 |cons c t=>exact⟨λm=>(aab.mp m).elim (λe=>(a c<|.head _).1<|e▸by decide) λm=>(aab.mp m).elim (λe=>d<|e▸rfl) λm=>(a c<|.head _).1<|(by decide:∀x∈vL,x∈pD) c m⟩
def Kc.first{t:List Nat}(h:Kc t):Ag (·∉32::35::vL) t:=by
 cases h with
 |one h=>
  have f:=h.first (t:=[])
  rwa[List.append_nil]at f
 |more h _=>exact h.first
def yp.words{t:List Nat}(hb:Kc t):∀{q:P4},Sp b q t qz->b.drop qz.ptr=c::r->c∈pD->ji b qz v' z q'->yp b q (t++v') (z.getD qz) q':=by
 induction hb with
 |one hw=>exact λh e hc ha=>ha.plain _ _ ⟨⟨c,r,h.to e,hc⟩,hw.ne,hw.hd,hw.all⟩ h.z
 |@more w t hw ht ih=>
  intro q h e hc ha
  have k:=h.rt
  have k2:Sp b (fwd b 1<|fwd b w.length q) t qz:=k.rt (s:=[32])
  have p:=ih k2 e hc ha
  have dk:=k.d
  cases ht.first with
  |@mk c1 t1 n1=>
   have s:=yp.more ⟨⟨32,_,h.l.d.trans (aac (w++·) dk),by decide⟩,hw.ne,hw.hd,hw.all⟩ (w5.flat (n:=1) dk (λz=>n1<|z▸.head _) λm=>n1<|.tail _<|.tail _ m) nofun p
   rwa[List.append_assoc]at s⊢
end
inductive jZ(v:Option<|Nat×Nat)(tg:fE)(o:Pt)(r:List Tok):List Due->Prop
 |doc {v':Option (Nat×Nat)} {Af:fE} {t2:Tok} {r':List Tok} {D:List Due}:PD v tg r (.ok (v',Af,t2::r'))->t2.k.ids=aZ->dj (some .content) r' D->jZ v tg o r (.document true v' (gA Af) o (aq t2.z)::D)
 |r9 {v':Option (Nat×Nat)} {Af:fE} {t2:Tok} {r':List Tok}:PD v tg r (.ok (v',Af,t2::r'))->t2.k.ids≠aZ->jZ v tg o r [.refused<|aq t2.a]
 |err {q:P4}:PD v tg r (.error q)->jZ v tg o r [.refused<|aq q]
section
variable{v v':Option (Nat×Nat)}{tg Af:fE}{o:Pt}{t:Tok}{r r':List Tok}{D:List Due}{e:EK}{b:List Nat}{q q' qz:P4}{N M:Nat}{σ τ:LS}
def jZ.map(h:jZ v tg o r D)(f:∀x,PD v tg r x->PD v' Af r' x):jZ v' Af o r' D:=by
 cases h with
 |doc a b c=>exact .doc (f _ a) b c
 |r9 a b=>exact .r9 (f _ a) b
 |err a=>exact .err<|f _ a
def jZ.ds(h:jZ none [] (aq t.a) (t::r) D)(n1:t.k.ids≠eZ)(n2:t.k.ids≠ck):dj (some .start) (t::r) D:=by
 cases h with
 |doc a b c=>exact .more (.start<|.doc n1 n2 a b) c
 |r9 a b=>exact .refused<|.start<|.r9 n1 n2 a b
 |err a=>exact .refused<|.start<|.err n1 n2 a
def dj.dsM{m:Mode}(h:dj (some .start) r D)(f:∀x,DS r x->yF m r' (xo x)):dj (some m) r' D:=by
 have k:∀{x:Res},yF .start r x->yF m r' x:=λ{x} s=>by
  generalize hm:Mode.start=m0 at s
  cases s with
  |start d=>exact f _ d
  |_=>cases hm
 cases h with
 |more s c=>exact .more (k s) c
 |refused s=>exact .refused<|k s
def dj.JG(h:dj (some .start) (t::r) D)(n:t.k.ids∈[gv,aZ,ck]):dj (some .implicit) (t::r) D:=h.dsM λ_=>.open_ n
def dj.skip(h:dj (some .start) r D)(n:t.k.ids=eZ):dj (some .start) (t::r) D:=h.dsM λ_ d=>.start<|.skip n d
def dj.qm(h:dj (some .start) (t::r) D)(n:t.k.ids≠eZ):dj (some .qg) (t::r) (.aY false (aq t.a) (aq t.a)::D):=.more (.close n) h
def dj.BI(h:dj (some .qg) (t::r) D)(n:t.k.ids∈[gv,aZ,eZ,ck]):dj (some .content) (t::r) (.value [] true none (aq t.a) (aq t.a)::D):=.more (.empty n) h
def vD{k:TK}(h:q9 k=some e):k.ids∉[gv,aZ,eZ,ck]:=by
 cases k with
 |alias=>show Bu∉_;decide
 |scalar=>show[60,115,99,97,108,97,114,62]∉[gv,aZ,eZ,ck];decide
 |_=>cases h
def dj.WC(h:dj (some .qg) r D)(n:q9 t.k=some e):dj (some .content) (t::r) (sU ⟨e,t.a,t.z⟩::D):=.more (.node (vD n) n) h
def dj.WD(h:dj (some .qg) r D)(n:q9 t.k=some e):dj (some .implicit) (t::r) (.document false none none (aq t.a) (aq t.a)::sU ⟨e,t.a,t.z⟩::D):=
 .more (.bare λm=>vD n<|(by decide:∀x∈[gv,aZ,ck],x∈[gv,aZ,eZ,ck]) _ m) (.more (.block n) h)
def jK(σ:LS)(r:List Tok)(D:List Due):Prop:=σ.state.casesOn (dj (some .implicit) r D) (dj (some .content) r D) False (dj (some .qg) r D) (jZ σ.version σ.tags σ.opened r D)<|dj (some .start) r D
inductive Rd(b:List Nat)(q:P4)(N:Nat)(P:List Tok->Prop):Prop
 |mk {r:List Tok}:fU b q false r->r.length<=N->P r->Rd b q N P
def Rd.over{P:List Tok->Prop}(h:Rd b q' N P)(e:tR b q=tR b q'):Rd b q N P:=h.casesOn λs l p=>⟨s.shift e,l,p⟩
def Rd.le{P:List Tok->Prop}(h:Rd b q N P)(m:N<=M):Rd b q M P:=h.casesOn λs l p=>⟨s,av l m,p⟩
def Rd.tok{P P':List Tok->Prop}(h:Rd b q' N P)(a:xe b (tR b q) t q' false)(f:∀r,P r->P' (t::r)):Rd b q (N+1) P':=h.casesOn λs l p=>⟨.cons a s,aau l,f _ p⟩
inductive PV(b:List Nat)(val:List Nat)(a z0:Pt)(R:List Nat->Option P4->P4->Prop)(N:Nat):List Due->Prop
 |mk {v':List Nat} {z:Option P4} {q':P4} {D:List Due}:R v' z q'->Rd b q' N (λr=>dj (some .qg) r D)->PV b val a z0 R N (.value (val++v') true none a (z.casesOn z0 aq)::D)
def Rd.imp{P P':List Tok->Prop}(h:Rd b q N P)(f:∀r,P r->P' r):Rd b q N P':=h.casesOn λs l p=>⟨s,l,f _ p⟩
inductive GM(σ:LS)(b:List Nat)(q:P4)(N:Nat)(D:List Due):Prop
 |pl {lb:List Nat} {bs:List (List Nat)}:σ.state=.plain->σ.aE=lb::bs->PV b σ.value σ.start σ.stop (Mid b q lb bs) N D->GM σ b q N D
 |ot:σ.state≠.plain->Rd b q N (λr=>jK σ r D)->GM σ b q N D
def dj.end_:dj (some .start) [⟨.send,q,q⟩] [.c5 (aq q)<|aq q]:=.more (.start<|.send rfl) .stop
def D6:(TK.send).ids≠eZ/\(TK.send).ids∈[gv,aZ,ck]/\(TK.send).ids∈[gv,aZ,eZ,ck]/\(TK.send).ids≠gv/\(TK.send).ids≠aZ:=by show ck≠eZ/\ck∈[gv,aZ,ck]/\ck∈[gv,aZ,eZ,ck]/\ck≠gv/\ck≠aZ;decide
def Rd.end_{P:List Tok->Prop}(h:b.drop q.ptr=[0])(hN:1<=N)(p:P [⟨.send,q,q⟩]):Rd b q N P:=
 ⟨.cons (by rw[oW (n:=0) ⟨rfl,rfl⟩ h<|by decide];exact .stop<|bV h) .nil,hN,p⟩
def vE(n:σ.state≠.plain):jK σ [⟨.send,q,q⟩] (t7 σ<|aq q):=by
 obtain⟨n1,n2,n3,n4,n5⟩:=D6
 unfold jK t7
 cases hs:σ.state with
 |plain=>exact aan hs n
 |start=>exact dj.end_.JG n2
 |ended=>exact dj.end_
 |done=>exact dj.end_.qm n1
 |open_=>exact(dj.end_.qm n1).BI n3
 |ahead=>exact .r9 (t2:=⟨.send,q,q⟩) (.stop n4) n5
def jA{P:Prop}(hg:σ.aE≠[])(k:∀lb bs,σ.aE=lb::bs->P):P:=by
 cases h:σ.aE with
 |nil=>exact aan h hg
 |cons lb bs=>exact k lb bs h
def PV.end_{R:List Nat->Option P4->P4->Prop}(hp:σ.state=.plain)(h:b.drop q.ptr=[0])(hN:1<=N)(hR:R [] none q):PV b σ.value σ.start σ.stop R N (t7 σ<|aq q):=by
 have s:=PV.mk (val:=σ.value) (a:=σ.start) (z0:=σ.stop) hR<|Rd.end_ h hN<|dj.end_.qm D6.1
 unfold t7
 rw[hp]
 rwa[List.append_nil]at s
def Tp(h:b.drop q.ptr=[0]):dm b q.ptr=false:=by unfold dm;rw[h];rfl
def GM.end_(h:b.drop q.ptr=[0])(hN:1<=N)(hg:σ.state=.plain->σ.aE≠[]):GM σ b q N (t7 σ<|aq q):=
 if hp:σ.state=.plain then jA (hg hp) λlb bs e=>.pl hp e (.end_ hp h hN<|.rest (n:=0) ⟨rfl,rfl⟩ h (.inr rfl)<|Tp h)
 else .ot hp<|.end_ h hN<|vE hp
def GM.le(h:GM σ b q N D)(l:N<=M):GM σ b q M D:=by
 cases h with
 |pl a e p=>cases p with|mk r s=>exact .pl a e<|.mk r<|s.le l
 |ot a s=>exact .ot a<|s.le l
inductive GE(τ:LS)(b:List Nat)(qz:P4)(N:Nat):List Due->Prop
 |nx {q2:P4} {g:List Nat} {D:List Due}:τ.refused=none->iN b qz q2 (some g)->GM {τ with aE:=τ.aE++[g]} b q2 N D->GE τ b qz N D
 |fin:τ.refused=none->b.drop qz.ptr=[0]->1<=N->GE τ b qz N (t7 τ<|aq qz)
 |ref {q2:P4} {g:Option (List Nat)} {w:Pt}:τ.refused=some w->iN b qz q2 g->b.drop q2.ptr=[0]->1<=N->GE τ b qz N [.refused w]
def GE.fst(h:GE τ b qz N D):Fi b qz:=by
 cases h with
 |nx _ h _=>exact h.fst
 |fin _ h _=>exact(iN.eof h).fst
 |ref _ h _ _=>exact h.fst
def GE.next(h:GE τ b qz N D){P:Prop}(k:∀q2 g,iN b qz q2 g->P):P:=by
 cases h with
 |nx _ h _=>exact k _ _ h
 |fin _ h _=>exact k _ _<|.eof h
 |ref _ h _ _=>exact k _ _ h
def xy(τ:LS)(r:List Tok)(D:List Due):Prop:=τ.refused.casesOn (jK τ r D) λw=>D=[.refused w]/\∃q2,r=[⟨.send,q2,q2⟩]
def gX(hr:τ.refused=none)(h:xy τ r D):jK τ r D:=by
 unfold xy at h
 rwa[hr]at h
def GE.some(hr:τ.refused=none){q2:P4}{g:Option (List Nat)}(he:iN b qz q2 g)(h:b.drop q2.ptr=[0])(hN:1<=N):∃D,GE τ b qz N D:=by
 cases he with
 |brk a c d e=>exact⟨_,.nx hr (.brk a c d e)<|.end_ h hN λ_=>List.append_ne_nil_of_right_ne_nil _ nofun⟩
 |eof e=>exact⟨_,.fin hr e hN⟩
def GE.at_(h:GE τ b qz N D)(n:τ.state≠.plain){q2:P4}{g:Option (List Nat)}(he:iN b qz q2 g):Rd b q2 N (λr=>xy τ r D):=by
 have e2:=he.next
 unfold xy
 cases h with
 |nx hr h k=>
  rw[hr]
  rw[h.next]at e2
  cases k with
  |pl p=>exact aan p n
  |ot _ k=>exact e2▸k
 |fin hr h hN=>
  rw[hr]
  rw[(iN.eof h).next]at e2
  exact e2▸.end_ h hN (vE n)
 |ref hr h h0 hN=>
  rw[hr]
  rw[h.next]at e2
  exact e2▸.end_ h0 hN ⟨rfl,_,rfl⟩
def GE.rd(z:ZB b)(h:GE τ b qz N D)(n:τ.state≠.plain){t:List Nat}(ht:Over t)(hs:Sp b q t qz):Rd b q N (λr=>xy τ r D):=h.next λ_ _ he=>(h.at_ n he).over<|JE z he ht hs
def GE.pv(h:GE τ b qz N D)(hp:τ.state=.plain)(hr:τ.refused=none)(hg:τ.aE=[]):PV b τ.value τ.start τ.stop (ji b qz) N D:=by
 cases h with
 |nx _ h k=>
  cases k with
  |ot p _=>exact aan hp p
  |@pl lb bs _ e k=>
   have e:τ.aE++[_]=lb::bs:=e
   rw[hg]at e
   cases e
   cases k with
   |mk m s=>exact .mk (.mid h m) s
 |fin _ h hN=>exact .end_ hp h hN<|.end_ h
 |ref w=>exact nomatch hr.symm.trans w
end
inductive Bh(l l' D:List Due)(P:List Due->Prop):Prop
 |mk {new:List Due}:l'=l++new->P (new++D)->Bh l l' D P
def Bh.nil{l D:List Due}{P:List Due->Prop}(p:P D):Bh l l D P:=⟨(List.append_nil _).symm,p⟩
def Bh.one{l D:List Due}{x:Due}{P:List Due->Prop}(p:P<|x::D):Bh l (l++[x]) D P:=⟨rfl,p⟩
def Bh.cons{l l' D:List Due}{x:Due}{P P':List Due->Prop}(h:Bh (l++[x]) l' D P)(f:∀D',P D'->P' (x::D')):Bh l l' D P':=h.casesOn λ{n} e p=>⟨(e.trans (List.append_assoc ..):l'=l++x::n),f _ p⟩
def Bh.imp{l l' D:List Due}{P P':List Due->Prop}(h:Bh l l' D P)(f:∀D',P D'->P' D'):Bh l l' D P':=h.casesOn λe p=>⟨e,f _ p⟩
section
variable{b t body r:List Nat}{q q2 qz qh qv:P4}{σ τ:LS}{N n c0 c:Nat}{D:List Due}{x:List Nat}{e:EK}{bf:Bool}
def zZ(z:ZB b)(np:σ.state≠.plain)(hr:σ.refused=none)(ht:Over t)(hs:Sp b q t qz)(h:GE σ b qz N D):GM σ b q N D:=.ot np<|(h.rd z np ht hs).imp λ_=>gX hr
def Fj(z:ZB b)(hr:σ.refused=none)(hs:Sp b q (List.replicate n 32) qz)(hg:σ.state=.plain->σ.aE≠[])(hd:dm b q.ptr=false)(h:GE σ b qz N D):GM σ b q N D:=
 if hp:σ.state=.plain then jA (hg hp) λlb bs eg=>by
  refine .pl hp eg ?_
  cases h with
  |nx _ he k=>
   cases k with
   |ot p _=>exact aan hp p
   |@pl lb' bs' _ e k=>
    have e:σ.aE++[_]=lb'::bs':=e
    rw[eg]at e
    cases e
    cases k with
    |mk m s=>exact .mk (.blank hs he hd m) s
  |fin _ h0 hN=>exact .end_ hp h0 hN<|.rest hs h0 (.inr rfl) hd
  |ref w=>exact nomatch hr.symm.trans w
 else zZ z hp hr (.Ka n) hs h
def BJ(z:ZB b)(hr:σ.refused=none)(hp:σ.state=.plain)(hs:Sp b q (List.replicate n 32++35::x) qz)(hx:∀c∈x,g5 c=true)(hg:σ.aE≠[])(hd:dm b q.ptr=false)
  (h:GE {σ with due:=σ.due++[qk σ],state:=.done} b qz N D):GM σ b q N (qk σ::D):=
 jA hg λlb bs eg=>.pl hp eg (by
  have s:=PV.mk (val:=σ.value) (a:=σ.start) (z0:=σ.stop) (Mid.rest (lb:=lb) (bs:=bs) hs.l hs.rt.d (.inl rfl) hd)<|(h.rd z nofun (.rem 0 hx) hs.rt).imp λ_=>gX hr
  rwa[List.append_nil]at s)
noncomputable def jL(bf:Bool):List Nat:=bf.casesOn [] [32,35,32,114]
def Over.jL:Over (jL bf):=by
 cases bf with
 |false=>exact .Ka 0
 |true=>exact .rem 1 (x:=[32,114])<|by decide
def vF(h:Fi b qz)(hs:Sp b qv (jL bf) qz){P:Prop}(k:∀c0 r,b.drop qv.ptr=c0::r->c0∈iU->(bf=false->c0∈oU)->P):P:=by
 cases bf with
 |false=>exact h.casesOn λ{c r} e m=>k c r (hs.d.trans e) (xu m).2.2.2.2 λ_=>m
 |true=>exact k 32 _ hs.d (by decide) nofun
def JH(h:c∈iU):c∈pD/\c∈wZ/\c≠39:=(by decide:∀x∈iU,x∈pD/\x∈wZ/\x≠39) c h
inductive j0:List Nat->Prop
 |quoted {c:Nat} {t:List Nat}:t≠[]->(∀x∈t,x∉ym)->c=39∨c=34->j0 (c::(t++[c]))
 |alias {t:List Nat}:t≠[]->(∀x∈t,jg x=true)->j0 (42::t)
 |plain {c:Nat} {t:List Nat}:c∉[39,34,42]->c∉[63,58]->c∉TJ∨c=45/\Ag (·∉pD) t->j0 (c::t)
structure ru(body:List Nat):Prop where
 w:Kc body
 nb:∀c∈body,brk c=false
def Sp.pt(h:Sp b q t qz)(a:∀c∈t,brk c=false):aq qz=aN (aq q) t.length:=by rw[h.Tw a];rfl
def Kc.tR(h:Kc body)(hs:Sp b q (List.replicate n 32) qh)(hb:Sp b qh body qv):Mine.tR b q=qh:=by
 have d:=hb.d
 cases h.first with
 |mk n1=>exact oW hs d n1
inductive Val(b:List Nat)(qh:P4)(N:Nat):List Due->Prop
 |mk {t:Tok} {e:EK} {q2:P4} {D:List Due}:xe b qh t q2 false->q9 t.k=some e->t.a=qh->Rd b q2 N (λr=>dj (some .qg) r D)->Val b qh N (sU ⟨e,t.a,t.z⟩::D)
def Val.plain(hw:ru<|c::t)(n2:c∉[63,58])(n3:c∉TJ∨c=45/\Ag (·∉pD) t)(hb:Sp b qh (c::t) qv)(hq:b.drop qv.ptr=c0::r)(hc:c0∈pD)(dk:∀ch,ch=45∨ch=46->bE ch b qh=false)
  (h:PV b (c::t) (aq qh) (aq qv) (ji b qv) N D):Val b qh N D:=by
 cases h with
 |@mk v' z q' D m s=>
  have v:=Val.mk (.plain (bV hb.d) n2 (by
   unfold iH
   refine n3.elim (λh=>by rw[aad h];rfl) λh=>?_
   rw[h.1]at hb⊢
   cases h.2 with
   |mk hd=>rw[show b.getD (qh.ptr+1) 0=_ from cZ<|kK (w:=[45]) hb.d,aad hd];rfl) (dk 45<|.inl rfl) (dk 46<|.inr rfl)<|yp.words hw.w hb hq hc m) rfl rfl s
  cases z<;>exact v
def Val.closed(hw:ru body)(hf:j0 body)(k:Ag (·∈[39,34,42]) body)(hb:Sp b qh body qv)(hq:b.drop qv.ptr=c0::r)(hc:c0∈iU)(h:Rd b qv N λr=>dj (some .qg) r D):Val b qh N (closed body (aq qh)::D):=by
 have hz:=hb.pt hw.nb
 have h7:=JH hc
 cases hf with
 |@quoted d t n a o=>
  have z:=hb.z
  rw[show(d::(t++[d])).length=t.length+2 from aac Nat.succ List.length_append]at z hz
  have v:=Val.mk (xe.quoted (t:=t) (c:=d) ((hb.to hq).trans (aac (d::·)<|List.append_assoc ..)) n a o h7.2.2) rfl rfl<|z.symm▸h
  rw[vz (λz=>o.elim (λo=>aan (z▸o)<|by decide) λo=>aan (z▸o)<|by decide),List.length_append,show(t++[d]).take (t.length+[d].length-1)=t from List.take_left' rfl]
  rw[show sU _=Due.value t false (some [d]) (aq qh) (aq<|fwd b (t.length+2) qh)from rfl,z,hz]at v
  exact v
 |@alias t n a=>
  have z:=hb.z
  rw[show(42::t).length=1+t.length from Nat.add_comm ..]at z
  have v:=Val.mk (xe.alias (t:=t) (hb.to hq) n a h7.2.1) rfl rfl<|z.symm▸h
  rw[vv rfl]
  rw[show sU _=Due.alias t (aq qh) (aq<|fwd b (1+t.length) qh)from rfl,z,hz]at v
  exact v
 |plain m _ _=>cases k with|mk k=>exact aan k m
def Qd(h:τ.state≠.plain):DY τ bf=τ:=aal λz=>h z.1
def PV.bd(z:ZB b)(hp:τ.state=.plain)(hr:τ.refused=none)(hg:τ.aE=[])(hs:Sp b qv (jL bf) qz)(h:GE (DY τ bf) b qz N D):Bh τ.due (DY τ bf).due D (PV b τ.value τ.start τ.stop (ji b qv) N):=by
 cases bf with
 |false=>
  rw[show DY τ false=τ from aal λz=>nomatch z.2]at h⊢
  exact .nil<|(show qz=qv from hs.z.symm)▸h.pv hp hr hg
 |true=>
  rw[show DY τ true=_ from aam ⟨hp,rfl⟩]at h⊢
  have s:=PV.mk (val:=τ.value) (a:=τ.start) (z0:=τ.stop) (ji.bf hs.d)<|(h.rd z nofun (.rem 0 (x:=[32,114])<|by decide)<|hs.rt (s:=[32])).imp λ_=>gX hr
  rw[List.append_nil]at s
  exact .one s
abbrev JI(τ:LS)(body:List Nat)(bf:Bool)(here:Pt):LS:=DY {J7 τ body here with aE:=[]} bf
def vG(z:ZB b)(hr:τ.refused=none)(he:τ.stop=aq qv)(hw:ru body)(hf:j0 body)(hb:Sp b qh body qv)(hs:Sp b qv (jL bf) qz)(dk:∀ch,ch=45∨ch=46->bE ch b qh=false)
  (h:GE (JI τ body bf<|aq qh) b qz N D):Bh τ.due (JI τ body bf<|aq qh).due D (Val b qh N):=by
 refine vF h.fst hs λc0 r e0 h7 _=>?_
 cases body with
 |nil=>cases hf
 |cons c t=>
  by_cases k:c∈[39,34,42]
  ·have e:JI τ (c::t) bf (aq qh)={τ with value:=c::t,start:=aq qh,due:=τ.due++[closed (c::t)<|aq qh],state:=.done,aE:=[]}:=by
    unfold JI
    rw[show J7 τ (c::t) (aq qh)=_ from aam k]
    exact Qd nofun
   rw[e]at h⊢
   exact .one<|.closed hw hf ⟨k⟩ hb e0 h7<|(h.rd z nofun .jL hs).imp λ_=>gX hr
  ·have e:JI τ (c::t) bf (aq qh)=DY {τ with value:=c::t,start:=aq qh,state:=.plain,aE:=[]} bf:=by
    unfold JI
    rw[show J7 τ (c::t) (aq qh)=_ from aal k]
   rw[e]at h⊢
   refine(PV.bd (τ:={τ with value:=c::t,start:=aq qh,state:=.plain,aE:=[]}) z rfl hr rfl hs h).imp λD p=>?_
   rw[show LS.stop _=τ.stop from rfl,he]at p
   cases hf with
   |quoted _ _ o=>exact aan (o.elim (λo=>by rw[o];decide) λo=>by rw[o];decide) k
   |alias=>exact aan (by decide) k
   |plain _ a2 a3=>exact .plain hw a2 a3 hb e0 (JH h7).1 dk p
end
def sY(t:List Nat):Bool:=!((decide (t.take 3=[45,45,45])||decide (t.take 3=[46,46,46]))&&decide (t.getD 3 0∈pD))
def nbT{x:Bool}(h:(!x)=true):x=false:=by cases x with|false=>rfl|true=>cases h
section
variable{b t r0:List Nat}{q q2 qz qh qv:P4}{σ τ:LS}{r:gH}{N n c i ch:Nat}{D:List Due}{here:Pt}{body:List Nat}{bf:Bool}
def D7(h:sY t=true)(hb:b.drop i=t++c::r0)(hc:c∈pD):dm b i=false:=by
 have h:=nbT h
 have c1:c≠45/\c≠46:=(by decide:∀x∈pD,x≠45/\x≠46) c hc
 have F:∀{l:List Nat} {x:Bool},l≠[45,45,45]->l≠[46,46,46]->((decide (l=[45,45,45])||decide (l=[46,46,46]))&&x)=false:=λa b=>by rw[aad a,aad b];rfl
 have hg:b.getD (i+3) 0=(t++c::r0).getD 3 0:=by rw[<-hb,List.getD_eq_getElem?_getD,List.getD_eq_getElem?_getD,List.getElem?_drop]
 unfold dm
 rw[hg,hb]
 match t,h with
 |[],_=>exact F (λe=>c1.1 (List.cons.inj e).1) λe=>c1.2 (List.cons.inj e).1
 |[x],_=>exact F (λe=>c1.1 (List.cons.inj (List.cons.inj e).2).1) λe=>c1.2 (List.cons.inj (List.cons.inj e).2).1
 |[x,y],_=>exact F (λe=>c1.1 (List.cons.inj (List.cons.inj (List.cons.inj e).2).2).1) λe=>c1.2 (List.cons.inj (List.cons.inj (List.cons.inj e).2).2).1
 |[x,y,w],h=>
  show(_&&decide (c∈pD))=false
  rw[aag hc]
  exact h
 |x::y::w::d::u,h=>exact h
def BK(h:dm b q.ptr=false)(hc:ch=45∨ch=46):bE ch b q=false:=Bool.eq_false_iff.mpr λe=>by
 unfold bE at e
 unfold dm at h
 rw[Bool.and_eq_true,Bool.and_eq_true]at e
 rw[e.2,Bool.and_true,Bool.or_eq_false_iff]at h
 have e:=e.1.2
 exact hc.elim (λc=>aap<|h.1.symm.trans<|by rwa[c]at e) λc=>aap<|h.2.symm.trans<|by rwa[c]at e
def sZ(h:q.col≠0):bE ch b q=false:=by
 unfold bE
 rw[aad h];rfl
structure BL(r:gH):Prop where
 txt:r.txt=List.replicate r.place 32++(r.body++jL r.bf)
 w:ru r.body
 nd:sY r.txt=true
def JJ{g:List Nat}{gs:List (List Nat)}:fold (g::gs)=(FJ g gs).flatten:=by
 unfold FJ
 by_cases h:g=[10]
 ·rw[aam h]
  cases gs with
  |nil=>rw[By h];rfl
  |cons a t=>rw[BA h];rfl
 ·rw[aal h,BB h];rfl
def JK(z:ZB b)(hr:σ.refused=none)(hp:σ.state=.plain)(hg:σ.aE≠[])(hd:dm b q.ptr=false)(hw:ru body)(hn:Sp b q (List.replicate n 32) qh)(hb:Sp b qh body qv)(hs:Sp b qv (jL bf) qz)(he:aN here body.length=aq qv)
  (h:GE (bx σ body bf here) b qz N D):Bh σ.due (bx σ body bf here).due D (GM σ b q N):=by
 have e:bx σ body bf here=DY {σ with stop:=aN here body.length,value:=σ.value++fold σ.aE++body,aE:=[]} bf:=by
  unfold bx
  rw[show NL {σ with stop:=aN here body.length} body here=_ from aam hp]
 rw[e]at h⊢
 refine vF h.fst hs λc0 r e0 h7 _=>jA hg λlb bs eg=>(PV.bd (τ:={σ with stop:=aN here body.length,value:=σ.value++fold σ.aE++body,aE:=[]}) z hp hr rfl hs h).imp λD p=>?_
 cases p with
 |@mk v' zz q' D m s=>
  have d:=hb.d
  cases hw.w.first with
  |@mk c t n1=>
   have p:=PV.mk (val:=σ.value) (a:=σ.start) (z0:=σ.stop) (Mid.words (lb:=lb) (bs:=bs) hn d (λm=>n1<|(aab.mp m).elim (λe=>e▸.head _) λm=>.tail _<|.tail _ m) hd<|yp.words hw.w hb e0 (JH h7).1 m) s
   rw[<-JJ,<-eg,<-List.append_assoc,<-List.append_assoc]at p
   refine .pl hp eg ?_
   cases zz with
   |none=>
    have p:PV b σ.value σ.start σ.stop (Mid b q lb bs) N (.value (σ.value++fold σ.aE++(c::t)++v') true none σ.start (aq qv)::D):=p
    rwa[<-he]at p
   |some y=>exact p
def JL(z:ZB b)(hr:σ.refused=none)(hst:σ.state=.start∨σ.state=.open_)(hw:ru body)(hf:j0 body)(hq:tR b q=qh)(hb:Sp b qh body qv)(hs:Sp b qv (jL bf) qz)(dk:∀ch,ch=45∨ch=46->bE ch b qh=false)
  (h:GE (bx σ body bf<|aq qh) b qz N D):Bh σ.due (bx σ body bf<|aq qh).due D λD=>Rd b q (N+1) (λr=>jK σ r D):=by
 have he:=(hb.pt hw.nb).symm
 have e1:NL {σ with stop:=aN (aq qh) body.length} body (aq qh)=J7 (P0 {σ with stop:=aN (aq qh) body.length} (aq qh)) body (aq qh):=(aal (show σ.state≠.plain from by rcases hst with s|s<;>rw[s]<;>nofun)).trans (aam hst)
 unfold jK
 rcases hst with s|s
 ·have e:bx σ body bf (aq qh)=JI {σ with stop:=aN (aq qh) body.length,due:=σ.due++[.document false none none (aq qh)<|aq qh]} body bf (aq qh):=by
   unfold bx
   rw[e1,show P0 {σ with stop:=aN (aq qh) body.length} (aq qh)=_ from aam s]
  rw[e]at h⊢
  refine(vG (τ:={σ with stop:=aN (aq qh) body.length,due:=σ.due++[.document false none none (aq qh)<|aq qh]}) z hr he hw hf hb hs dk h).cons λD v=>?_
  rw[s]
  cases v with
  |mk a k ha rd=>exact rd.tok (hq.symm▸a) λr p=>ha▸p.WD k
 ·have e:bx σ body bf (aq qh)=JI {σ with stop:=aN (aq qh) body.length} body bf (aq qh):=by
   unfold bx
   rw[e1,show P0 {σ with stop:=aN (aq qh) body.length} (aq qh)=_ from aal<|show σ.state≠.start from by rw[s];nofun]
  rw[e]at h⊢
  refine(vG (τ:={σ with stop:=aN (aq qh) body.length}) z hr he hw hf hb hs dk h).imp λD v=>?_
  rw[s]
  cases v with
  |mk a k ha rd=>exact rd.tok (hq.symm▸a) λr p=>p.WC k
def NX:(JI τ body bf here).refused=τ.refused:=by
 have h:(J7 τ body here).refused=τ.refused:=by
  cases body with
  |nil=>rfl
  |cons c t=>
   show(if c∈[39,34,42]then _ else _:LS).refused=_
   split<;>rfl
 unfold JI DY
 split<;>exact h
def JM(z:ZB b)(hr:σ.refused=none)(hst:¬(σ.state=.start∨σ.state=.open_))(np:σ.state≠.plain)(hw:ru body)(hf:j0 body)(hq:tR b q=qh)(hb:Sp b qh body qv)(hs:Sp b qv (jL bf) qz)(dk:∀ch,ch=45∨ch=46->bE ch b qh=false)
  (h:GE (bx σ body bf<|aq qh) b qz N D):Bh σ.due (bx σ body bf<|aq qh).due D λD=>Rd b q (N+1) (λr=>jK σ r D):=by
 have e:bx σ body bf (aq qh)={σ with stop:=aN (aq qh) body.length,due:=if σ.state=.done then σ.due++[.aY false (aq qh)<|aq qh]else σ.due,refused:=some<|aq qh,aE:=[]}:=by
  unfold bx
  rw[show NL {σ with stop:=aN (aq qh) body.length} body (aq qh)=_ from(aal np).trans (aal hst)]
  exact Qd np
 rw[e]at h⊢
 cases h with
 |nx w=>cases w
 |fin w=>cases w
 |ref w he h0 hN=>
  cases w
  obtain⟨D',g⟩:=GE.some (τ:=JI {E8 with stop:=aq qv} body bf (aq qh)) NX he h0 hN
  cases vG (τ:={E8 with stop:=aq qv}) z rfl rfl hw hf hb hs dk g with
  |mk _ v=>
   generalize _++D'=D at v
   cases v with
   |@mk t0 _ _ _ a k ha rd=>
    have m:=vD k
    have n1:∀x∈[gv,aZ,eZ,ck],t0.k.ids≠x:=λx hx e=>m<|e▸hx
    have n2:=n1 gv<|by decide
    have n3:=n1 aZ<|by decide
    have n4:=n1 eZ<|by decide
    have T:∀r,dj (some .start) (t0::r) [.refused<|aq t0.a]:=λr=>.refused<|.start<|.r9 n4 (n1 ck<|by decide) (.stop n2) n3
    unfold jK
    cases s:σ.state with
    |start=>exact aan (.inl s) hst
    |open_=>exact aan (.inr s) hst
    |plain=>exact aan s np
    |done=>exact .one<|rd.tok (hq.symm▸a) λr _=>ha▸(T r).qm n4
    |ended=>exact .nil<|rd.tok (hq.symm▸a) λr _=>ha▸T r
    |ahead=>exact .nil<|rd.tok (hq.symm▸a) λr _=>ha▸.r9 (.stop n2) n3
def Fl(z:ZB b)(hr:σ.refused=none)(hv:BL r)(hf:σ.state=.plain∨j0 r.body)(hg:σ.state=.plain->σ.aE≠[])(h0:q.col=0)(hs:Sp b q r.txt qz)
  (h:GE (bx σ r.body r.bf<|aN (aq q) r.place) b qz N D):Bh σ.due (bx σ r.body r.bf<|aN (aq q) r.place).due D (GM σ b q<|N+1):=by
 have hd:dm b q.ptr=false:=h.fst.casesOn λe m=>D7 hv.nd (hs.to e) (xu m).1
 rw[hv.txt]at hs
 have hn:=hs.l
 have hb:=hs.rt.l
 have ht:=hs.rt.rt
 generalize fwd b r.body.length _=qv at hb ht
 generalize fwd b (List.replicate r.place 32).length q=qh at hn hb
 have ep:=hn.pt BG
 have ec:qh.col=q.col+r.place:=by rw[hn.Tw BG,List.length_replicate]
 rw[List.length_replicate]at ep
 rw[<-ep]at h⊢
 by_cases p:σ.state=.plain
 ·exact(JK z hr p (hg p) hd hv.w hn hb ht (hb.pt hv.w.nb).symm h).imp λD g=>g.le<|Nat.le_succ _
 ·have dk:∀ch,ch=45∨ch=46->bE ch b qh=false:=λch hc=>by
   by_cases k:r.place=0
   ·rw[k]at hn
    exact BK ((show q=qh from hn.z)▸hd) hc
   ·exact sZ<|by rw[ec,h0,Nat.zero_add];exact k
  have nx:=hv.w.w.tR hn hb
  have f:=hf.resolve_left p
  by_cases s:σ.state=.start∨σ.state=.open_
  ·exact(JL z hr s hv.w f nx hb ht dk h).imp λD g=>.ot p g
  ·exact(JM z hr s p hv.w f nx hb ht dk h).imp λD g=>.ot p g
end
def Bh.trans{l k m D:List Due}{P P':List Due->Prop}(h:Bh k m D P)(f:∀D',P D'->Bh l k D' P'):Bh l m D P':=by
 cases h with
 |@mk n2 e p=>
  cases f _ p with
  |@mk n1 e1 p1=>exact⟨(by rw[e,e1,List.append_assoc]:m=l++(n1++n2)),by rw[List.append_assoc];exact p1⟩
def Bh.two{l D:List Due}{x y:Due}{P:List Due->Prop}(p:P<|x::y::D):Bh l (l++[x]++[y]) D P:=(Bh.one (P:=λD=>P<|x::D) p).cons λ_ p=>p
def Ag.e{P:Nat->Prop}{l:List Nat}{Q:Prop}(h:Ag P l)(k:∀c t,P c->l=c::t->Q):Q:=by
 cases h with
 |mk p=>exact k _ _ p rfl
def Fo(σ:LS)(spot:Pt):LS:=E9 (Ju (NK σ spot) spot) spot
section
variable{b gap r0:List Nat}{q q2 qz:P4}{σ κ:LS}{r:gH}{N n c ch:Nat}{D:List Due}{t:Tok}{spot:Pt}{l:Bx}{rs:List Tok}{g:Option (List Nat)}
def Qe(hr:σ.refused=none):(Fo σ spot).state=.ahead/\(Fo σ spot).refused=none:=by
 obtain⟨a1,a2,a3,a4,a5,a6,a7,a8,a9,a10,a11,a12,a13⟩:=σ
 cases a3<;>exact⟨rfl,hr⟩
def JN(hg:σ.state=.plain->σ.aE≠[])(hd:σ.state=.plain->dm b q.ptr=true)(hn:tR b q=q)(a:xe b q t q2 false)(ha:t.a=q)(hk:t.k.ids=gv∨t.k.ids=aZ)
  (rd:Rd b q2 N λr=>jZ (Fo σ<|aq q).version (Fo σ<|aq q).tags (Fo σ<|aq q).opened (t::r) D):Bh σ.due (Fo σ<|aq q).due D (GM σ b q<|N+1):=by
 have k:t.k.ids≠eZ/\t.k.ids≠ck/\t.k.ids∈[gv,aZ,ck]/\t.k.ids∈[gv,aZ,eZ,ck]:=by rcases hk with h|h<;>rw[h]<;>decide
 have a:xe b (tR b q) t q2 false:=hn.symm▸a
 obtain⟨a1,a2,a3,a4,a5,a6,a7,a8,a9,a10,a11,a12,a13⟩:=σ
 subst ha
 have T:∀{r},jZ none [] (aq t.a) (t::r) D->dj (some .start) (t::r) D:=λh=>h.ds k.1 k.2.1
 cases a3 with
 |ahead=>exact .nil<|.ot nofun<|rd.tok a λr h=>h
 |start=>exact .nil<|.ot nofun<|rd.tok a λr h=>(T h).JG k.2.2.1
 |ended=>exact .nil<|.ot nofun<|rd.tok a λr h=>T h
 |done=>exact .one<|.ot nofun<|rd.tok a λr h=>(T h).qm k.1
 |open_=>exact .two<|.ot nofun<|rd.tok a λr h=>((T h).qm k.1).BI k.2.2.2
 |plain=>exact .two (jA (hg rfl) λlb bs eg=>.pl rfl eg (by
  have s:=PV.mk (val:=a8) (a:=a9) (z0:=a10) (Mid.bar (lb:=lb) (bs:=bs)<|hd rfl)<|rd.tok a λr h=>(T h).qm k.1
  rwa[List.append_nil]at s))
structure Sign(ch:Nat)(b:List Nat)(q:P4):Prop where
 m:bE ch b q=true
 d:dm b q.ptr=true
 n:tR b q=q
 p:aq (fwd b 3 q)=aN (aq q) 3
def JO(h:b.drop q.ptr=ch::ch::ch::c::r0)(hc:c∈pD)(h0:q.col=0)(hh:ch=45∨ch=46):Sign ch b q:=by
 have t3:(b.drop q.ptr).take 3=[ch,ch,ch]:=by rw[h];rfl
 have g:b.getD (q.ptr+3) 0=c:=cZ<|kK (w:=[ch,ch,ch]) h
 have k:ch∉32::35::vL/\brk ch=false/\(decide ([ch,ch,ch]=[45,45,45])||decide ([ch,ch,ch]=[46,46,46]))=true:=by
  rcases hh with e|e<;>rw[e]<;>decide
 refine⟨?_,?_,oW (n:=0) ⟨rfl,rfl⟩ h k.1,(Sp.at_ (t:=[ch,ch,ch]) h).pt λx m=>?_⟩
 ·unfold bE
  rw[aag h0,aag t3,g,aag hc]
  rfl
 ·unfold dm
  rw[g,aag hc,Bool.and_true,t3]
  exact k.2.2
 ·rw[show x=ch from(List.eq_of_mem_replicate (n:=3) m)]
  exact k.2.1
inductive LD:Bx->DV->Prop
 |foreign {a b:Nat}:a≠1->LD .foreign (.mG a b)
 |version {b:Nat}:LD (.version 1 b)<|.mG 1 b
 |other {n:List Nat}:n≠[89,65,77,76]->n≠[84,65,71]->LD .other (.other n)
 |tag {h p:List Nat}:(reprText<|aW h).length<=100000->LD (.tag h p) (.tag h p)
def vH(hs:κ.state=.ahead)(h:jK κ rs D):jZ κ.version κ.tags κ.opened rs D:=by
 unfold jK at h
 rwa[hs]at h
def JP{d:DV}{m:P4}(hs:κ.state=.ahead)(hr:κ.refused=none)(ld:LD l d)(h:xy (rq κ l<|aq q) rs D):jZ κ.version κ.tags κ.opened (⟨.dir d,q,m⟩::rs) D:=by
 cases ld with
 |foreign n=>
  rw[show D=_ from h.1]
  cases κ.version with
  |none=>exact .err<|.foreign n
  |some y=>exact .err .twice
 |@version c=>
  cases hv:κ.version with
  |none=>
   rw[show rq κ (.version 1 c) (aq q)={κ with version:=some (1,c)}from aal<|by rw[hv];nofun]at h
   exact(vH (κ:={κ with version:=some (1,c)}) hs<|gX hr h).map λ_ p=>.mG p
  |some y=>
   rw[show rq κ (.version 1 c) (aq q)={κ with refused:=some (aq q)}from aam<|by rw[hv];rfl]at h
   rw[show D=_ from h.1]
   exact .err .twice
 |other n1 n2=>exact(vH hs<|gX hr h).map λ_ p=>.other n1 n2 p
 |@tag k p l=>
  by_cases m:k∈κ.tags.map (·.1)
  ·rw[show rq κ (.tag k p) (aq q)={κ with refused:=some (aq q)}from aam m]at h
   rw[show D=_ from h.1]
   exact .err<|.again m l
  ·rw[show rq κ (.tag k p) (aq q)={κ with tags:=κ.tags++[(k,p)]}from aal m]at h
   exact(vH (κ:={κ with tags:=κ.tags++[(k,p)]}) hs<|gX hr h).map λ_ p=>.tag m p
inductive WE(body:List Nat)(bf:Bool):Prop
 |mk {d:DV}:LD (sj body) d->(∀(b:List Nat) (q:P4) (c:Nat) (rest:List Nat),b.drop q.ptr=body++c::rest->c∈iU->(bf=false->c∈oU)->∃e,Dir b q d e<|fwd b body.length q)->WE body bf
structure WG(r:gH):Prop where
 v:BL r
 place:r.place=0
 fst:Ag (·=37) r.body
 dir:WE r.body r.bf
def Tq(hs:κ.state=.ahead):(rq κ l spot).state≠.plain/\(rq κ l spot).due=κ.due:=by
 have n:κ.state≠.plain:=by rw[hs];nofun
 cases l with
 |version a c=>exact(show LS.state (if κ.version.isSome then _ else _)≠_/\LS.due (if κ.version.isSome then _ else _)=_ from by split<;>exact⟨n,rfl⟩)
 |tag h p=>exact(show LS.state (if h∈κ.tags.map (·.1)then _ else _)≠_/\LS.due (if h∈κ.tags.map (·.1)then _ else _)=_ from by split<;>exact⟨n,rfl⟩)
 |_=>exact⟨n,rfl⟩
def NY(hr:WG r)(hn:σ.refused=none)(np:σ.state≠.plain)(h0:q.col=0)(hs:Sp b q r.txt qz)(h:GE (rq (Fo σ<|aq q) (sj r.body)<|aq q) b qz N D):
  Bh σ.due (rq (Fo σ<|aq q) (sj r.body)<|aq q).due D (GM σ b q<|N+1):=by
 obtain⟨k1,k2⟩:=Qe (spot:=aq q) hn
 obtain⟨k3,k4⟩:=Tq (l:=sj r.body) (spot:=aq q) k1
 have ht:=hr.v.txt
 rw[hr.place]at ht
 rw[show r.txt=r.body++jL r.bf from ht]at hs
 have f:=h.fst
 rw[k4]
 cases hr.dir with
 |@mk d ld rd=>
  refine h.next λq2 g he=>vF f hs.rt λc0 rest e0 h7 h6=>(rd b q c0 rest (hs.l.to e0) h7 h6).elim λe hd=>?_
  have a:xe b q ⟨.dir d,q,e⟩ q2 false:=by
   have et:=sW .jL hs.rt f
   have a:=xe.dir h0 hd<|by rw[et];exact f.casesOn λe m=>(cZ<|bV e).symm▸m
   rwa[et,he.next]at a
  have hn:tR b q=q:=hr.fst.e λc t e et=>oW (n:=0) ⟨rfl,rfl⟩ (show b.drop q.ptr=c::(t++_)from hs.l.d.trans<|by rw[et];rfl)<|by rw[e];decide
  exact JN (t:=⟨.dir d,q,e⟩) (λp=>aan p np) (λp=>aan p np) hn a rfl (.inl rfl)<|(h.at_ k3 he).imp λr t=>JP k1 k2 ld t
abbrev Zd(κ:LS)(spot:Pt):LS:={κ with due:=κ.due++[.document true κ.version (gA κ.tags) κ.opened<|aN spot 3],state:=.open_}
inductive NZ(r:gH):Prop
 |bare {gap:List Nat}:r.txt=[45,45,45]++gap->r.body=[]->Over gap->(gap=[]∨Ag (·=32) gap)->NZ r
 |value {n:Nat}:r.txt=[45,45,45]++(List.replicate (n+1) 32++(r.body++jL r.bf))->ru r.body->j0 r.body->r.place=3+(n+1)->NZ r
def JQ(hg:gap=[]∨Ag (·=32) gap)(he:Fi b qz){q3:P4}(hs:Sp b q3 gap qz){P:Prop}(k:∀c r,b.drop q3.ptr=c::r->c∈pD->P):P:=by
 have d:=hs.d
 rcases hg with e|e
 ·rw[e]at d
  exact he.casesOn λe m=>k _ _ (d.trans e) (xu m).1
 ·cases e with
  |mk e=>exact k _ _ d<|by rw[e];decide
abbrev N4(κ:LS)(b:List Nat)(q:P4)(N:Nat)(D:List Due):Prop:=Rd b (fwd b 3 q) (N+1) λrs=>jZ κ.version κ.tags κ.opened (⟨.dH,q,fwd b 3 q⟩::rs) D
def WH{κ:LS}{M:Nat}(s:Sign 45 b q)(rd:Rd b (fwd b 3 q) M λrs=>dj (some .content) rs D)(m:M<=N+1):N4 κ b q N (.document true κ.version (gA κ.tags) κ.opened (aN (aq q) 3)::D):=
 (rd.le m).imp λrs t=>s.p▸.doc (t2:=⟨.dH,q,fwd b 3 q⟩) (.stop<|show aZ≠gv from by decide) rfl t
def BN(z:ZB b)(hr:NZ r)(hn:σ.refused=none)(hg:σ.state=.plain->σ.aE≠[])(h0:q.col=0)(hs:Sp b q r.txt qz){τ:LS}(eτ:τ=if r.body≠[]then bx (Zd (Fo σ<|aq q)<|aq q) r.body r.bf (aN (aq q) r.place)else Zd (Fo σ<|aq q)<|aq q)(h:GE τ b qz N D):
  Bh σ.due τ.due D (GM σ b q<|N+2):=by
 obtain⟨k1,k2⟩:=Qe (spot:=aq q) hn
 have A:∀{D},Sign 45 b q->N4 (Fo σ<|aq q) b q N D->Bh σ.due (Fo σ<|aq q).due D (GM σ b q<|N+2):=λs rd=>JN (t:=⟨.dH,q,fwd b 3 q⟩) hg (λ_=>s.d) s.n (.dH s.m) rfl (.inr rfl) rd
 generalize Fo σ (aq q)=κ at k1 k2 A eτ
 cases hr with
 |@bare gap ht hb ho hw=>
  rw[aal λn=>n hb]at eτ
  rw[ht]at hs
  have h3:Sp b (fwd b 3 q) gap qz:=hs.rt
  subst eτ
  exact JQ hw h.fst h3 λc rr e hc=>
   have s:=JO (hs.l.to e) hc h0 (.inl rfl)
   .trans (P:=N4 κ b q N) (.one<|WH s ((h.rd z nofun ho h3).imp λrs=>gX k2)<|Nat.le_succ _) λD'=>A s
 |@value n ht hw hf hp=>
  rw[aam λe=>by rw[e]at hf;cases hf]at eτ
  rw[ht]at hs
  subst eτ
  have h3:Sp b (fwd b 3 q) _ qz:=hs.rt
  have s:Sign 45 b q:=JO (hs.l.to h3.d) (by decide) h0<|.inl rfl
  have hv:=h3.l
  have hb:=h3.rt.l
  have hz:=h3.rt.rt
  have pv:aq (fwd b (List.replicate (n+1) 32).length<|fwd b 3 q)=aN (aq q) r.place:=by
   rw[hv.pt BG,s.p,List.length_replicate,hp]
   show(_,_,_)=(_,_,_)
   rw[<-Nat.add_assoc (aq q).1 3,<-Nat.add_assoc (aq q).2.2 3]
   rfl
  have col:(fwd b (List.replicate (n+1) 32).length<|fwd b 3 q).col≠0:=by
   rw[show P4.col _=_ from aac (·.2.2) pv,hp]
   exact Nat.succ_ne_zero _
  generalize fwd b (List.replicate (n+1) 32).length (fwd b 3 q)=qh at hv hb hz pv col
  rw[<-pv]at h⊢
  exact .trans (P:=N4 κ b q N) ((JL (σ:=Zd κ<|aq q) z k2 (.inr rfl) hw hf (hw.w.tR hv hb) hb hz (λ_ _=>sZ col) h).cons λD' rd=>WH s rd<|aaj _) λD'=>A s
inductive Tr(r:gH):Prop
 |mk {gap:List Nat}:r.txt=[46,46,46]++gap->Over gap->(gap=[]∨Ag (·=32) gap)->Tr r
def JR(z:ZB b)(hr:Tr r)(hn:σ.refused=none)(hg:σ.state=.plain->σ.aE≠[])(n2:σ.state≠.start)(h0:q.col=0)(hs:Sp b q r.txt qz)(h:GE (Jt (NK σ<|aq q)<|aq q) b qz N D):Bh σ.due (Jt (NK σ<|aq q)<|aq q).due D (GM σ b q<|N+1):=by
 cases hr with
 |@mk gap ht ho hw=>
  rw[ht]at hs
  have h3:Sp b (fwd b 3 q) gap qz:=hs.rt
  refine JQ hw h.fst h3 λc rr e hc=>?_
  have s:=JO (hs.l.to e) hc h0<|.inr rfl
  have a:xe b (tR b q) ⟨.jG,q,fwd b 3 q⟩ (fwd b 3 q) false:=s.n.symm▸.jG s.m
  have T:∀{rs},dj (some .start) rs D->dj (some .qg) (⟨.jG,q,fwd b 3 q⟩::rs) (.aY true (aq q) (aN (aq q) 3)::D):=λt=>s.p▸.more (.ended (t:=⟨.jG,q,fwd b 3 q⟩) rfl) t
  obtain⟨a1,a2,a3,a4,a5,a6,a7,a8,a9,a10,a11,a12,a13⟩:=σ
  cases a3 with
  |start=>exact aan rfl n2
  |ahead=>exact .nil<|.ot nofun<|(h.rd z nofun ho h3).tok a λrs w=>(show D=_ from w.1)▸.r9 (t2:=⟨.jG,q,fwd b 3 q⟩) (.stop<|show eZ≠gv from by decide) (show eZ≠aZ from by decide)
  |ended=>exact .nil<|.ot nofun<|(h.rd z nofun ho h3).tok a λrs w=>(show dj (some .start) rs D from gX hn w).skip rfl
  |done=>exact .one<|.ot nofun<|(h.rd z nofun ho h3).tok a λrs w=>T<|gX (by exact hn) w
  |open_=>exact .two<|.ot nofun<|(h.rd z nofun ho h3).tok a λrs w=>(T<|gX (by exact hn) w).BI<|show eZ∈[gv,aZ,eZ,ck]from by decide
  |plain=>exact .two (jA (hg rfl) λlb bs eg=>.pl rfl eg (by
   have s:=PV.mk (val:=a8) (a:=a9) (z0:=a10) (Mid.bar (lb:=lb) (bs:=bs) s.d)<|(h.rd z nofun ho h3).tok a λrs w=>T<|gX (by exact hn) w
   rwa[List.append_nil]at s))
end
def D8(w:List Nat):Bool:=w.casesOn false λc _=>decide (c≠35)&&decide (∀x∈w,x∉pD/\x≠58)
def z9{w:List Nat}(h:D8 w=true):vC w:=by
 cases w with
 |nil=>cases h
 |cons c t=>
  have h:=Bool.and_eq_true _ _▸h
  exact⟨nofun,λe=>aaq h.1<|aaf e,aaq h.2⟩
def wB(t:List Nat):List Nat->Bool:=t.rec (λacc=>D8 acc) λc _ ih acc=>@Bool.rec (λ_=>Bool) (ih<|acc++[c]) (D8 acc&&ih [])<|decide<|c=32
theorem JS:∀(t acc:List Nat),wB t acc=true->Kc (acc++t)
 |[],acc,h=>.one<|z9<|by rw[List.append_nil];exact h
 |c::t,acc,h=>by
  have h:@Bool.rec (λ_=>Bool) (wB t<|acc++[c]) (D8 acc&&wB t []) (decide<|c=32)=true:=h
  by_cases e:c=32
  ·rw[aag e]at h
   have h:=Bool.and_eq_true _ _▸h
   exact e▸.more (z9 h.1) (JS t [] h.2)
  ·rw[aad e]at h
   have k:=JS t _ h
   rwa[List.append_assoc]at k
abbrev BO(body:List Nat):Prop:=wB body []=true/\∀c∈body,brk c=false
def Qf{body:List Nat}(h:BO body):ru body:=⟨JS body [] h.1,h.2⟩
def vJ(body:List Nat):Bool:=body.casesOn false λc u=>decide<|(u=u.dropLast++[c]/\u.dropLast≠[]/\(∀x∈u.dropLast,x∉ym)/\(c=39∨c=34))∨(c=42/\u≠[]/\∀x∈u,jg x=true)∨(c∉[39,34,42]/\c∉[63,58]/\(c∉TJ∨c=45/\u.headD 0∉pD))
def Qg{body:List Nat}(h:vJ body=true):j0 body:=by
 cases body with
 |nil=>cases h
 |cons c u=>
  rcases aaq h with⟨a,b,d,e⟩|⟨a,b,d⟩|⟨a,b,d⟩
  ·exact a▸.quoted b d e
  ·exact a▸.alias b d
  ·refine .plain a b<|d.imp_right λd=>⟨d.1,?_⟩
   cases u with
   |nil=>exact aan (by decide) d.2
   |cons x u=>exact⟨d.2⟩
def Qh(t:List Nat):Bool:=(List.range 9).any λn=>decide<|t=List.replicate n 32∨(t=List.replicate n 32++35::t.drop (n+1)/\(t.drop<|n+1).all g5=true)
def Aa{t:List Nat}(h:Qh t=true):Over t:=by
 obtain⟨n,-,h⟩:=List.any_eq_true.mp h
 rcases aaq h with e|⟨e,k⟩
 ·exact e▸.Ka n
 ·exact e.symm▸.rem n (List.all_eq_true.mp k)
abbrev Ab(r:gH):Prop:=r.txt=List.replicate r.place 32++(r.body++jL r.bf)/\BO r.body/\sY r.txt=true
def WI{r:gH}(h:Ab r):BL r:=⟨h.1,Qf h.2.1,h.2.2⟩
abbrev WJ(t:List Nat):Prop:=Qh t=true/\(t=[]∨t.headD 0=32)
def WK{t:List Nat}(h:t=[]∨t.headD 0=32):t=[]∨Ag (·=32) t:=h.imp_right λe=>by
 cases t with
 |nil=>cases e
 |cons c t=>exact⟨e⟩
noncomputable def D9:List Nat:=[37,122,32,45,45,45]
def Ea:List (List Nat):=[[37,89,65,77,76,32,49,46,49],[37,89,65,77,76,32,49,46,51],[37,89,65,77,76,32,50,46,48],[37,84,65,71,32,33,101,33,32,120],[37,84,65,71,32,33,32,121],D9]
def Qi{body:List Nat}{bf:Bool}(h:body∈Ea)(hz:body≠D9∨bf=false):Ag (·=37) body/\WE body bf:=by
 have B:∀{l:List Nat},Ag (·=37) l->WE l bf->body=l->Ag (·=37) body/\WE body bf:=λa d e=>e▸⟨a,d⟩
 rcases aab.mp h with e|h
 ·exact B (l:=[37,89,65,77,76,32,49,46,49]) ⟨rfl⟩ ⟨.version,λb q c rest hq hc _=>⟨_,.mG (x:=49) (y:=49) hq (by decide) (by decide) hc⟩⟩ e
 rcases aab.mp h with e|h
 ·exact B (l:=[37,89,65,77,76,32,49,46,51]) ⟨rfl⟩ ⟨.version,λb q c rest hq hc _=>⟨_,.mG (x:=49) (y:=51) hq (by decide) (by decide) hc⟩⟩ e
 rcases aab.mp h with e|h
 ·exact B (l:=[37,89,65,77,76,32,50,46,48]) ⟨rfl⟩ ⟨.foreign (by decide),λb q c rest hq hc _=>⟨_,.mG (x:=50) (y:=48) hq (by decide) (by decide) hc⟩⟩ e
 rcases aab.mp h with e|h
 ·exact B (l:=[37,84,65,71,32,33,101,33,32,120]) ⟨rfl⟩ ⟨.tag (aai<|by kernel_rfl),λb q c rest hq hc _=>⟨_,.tag (h:=[33,101,33]) (x:=120) hq (.inr ⟨101,rfl,by decide⟩) (by decide) (by decide) (by decide) hc⟩⟩ e
 rcases aab.mp h with e|h
 ·exact B (l:=[37,84,65,71,32,33,32,121]) ⟨rfl⟩ ⟨.tag (aai<|by kernel_rfl),λb q c rest hq hc _=>⟨_,.tag (h:=[33]) (x:=121) hq (.inl rfl) (by decide) (by decide) (by decide) hc⟩⟩ e
 ·have e:=aaa.mp h
  exact B (l:=D9) ⟨rfl⟩ ⟨.other (by decide) (by decide),λb q c rest hq hc hn=>⟨_,.other (n:=[122]) (t:=[45,45,45]) hq (by decide) (by decide) (by decide) (by decide) (by decide) (xu<|hn<|hz.resolve_left λn=>n e).2.2.2.1⟩⟩ e
def Shape(r:gH):Prop:=r.sort.casesOn (BL r/\j0 r.body) (NZ r) (WG r) (Tr r) ((∃n,r.txt=List.replicate n 32)/\sY r.txt=true) (BL r/\j0 r.body) ((∃n x,r.txt=List.replicate n 32++35::x/\∀c∈x,g5 c=true)/\sY r.txt=true)<|BL r/\j0 r.body
def BP(r:gH):Bool:=r.sort.casesOn (decide<|Ab r/\vJ r.body=true)
 (decide<|(r.txt=[45,45,45]++r.txt.drop 3/\r.body=[]/\WJ (r.txt.drop 3))∨(r.txt=[45,45,45]++(List.replicate (r.place-4+1) 32++(r.body++jL r.bf))/\BO r.body/\vJ r.body=true/\r.place=3+(r.place-4+1)))
 (decide<|Ab r/\r.place=0/\r.body∈Ea/\(r.body≠D9∨r.bf=false)) (decide<|r.txt=[46,46,46]++r.txt.drop 3/\WJ (r.txt.drop 3))
 (decide<|r.txt=List.replicate r.txt.length 32/\sY r.txt=true) (decide<|Ab r/\vJ r.body=true)
 (decide<|((r.txt=List.replicate 0 32++35::r.txt.drop 1/\(r.txt.drop 1).all g5=true)∨(r.txt=List.replicate 1 32++35::r.txt.drop 2/\(r.txt.drop 2).all g5=true))/\sY r.txt=true) (decide<|Ab r/\vJ r.body=true)
def shape{r:gH}(h:BP r=true):Shape r:=by
 unfold BP at h
 unfold Shape
 cases hs:r.sort<;>rw[hs]at h<;>have h:=aaq h
 case marker=>
  rcases h with⟨a,b,c⟩|⟨a,b,c,d⟩
  ·exact .bare a b (Aa c.1)<|WK c.2
  ·exact .value a (Qf b) (Qg c) d
 case directive=>exact⟨WI h.1,h.2.1,(Qi h.2.2.1 h.2.2.2).1,(Qi h.2.2.1 h.2.2.2).2⟩
 case stop=>exact .mk h.1 (Aa h.2.1) (WK h.2.2)
 case blank=>exact⟨⟨_,h.1⟩,h.2⟩
 case iM=>exact⟨h.1.elim (λk=>⟨_,_,k.1,List.all_eq_true.mp k.2⟩) λk=>⟨_,_,k.1,List.all_eq_true.mp k.2⟩,h.2⟩
 all_goals exact⟨WI h.1,Qg h.2⟩
abbrev Ac(r:gH):Prop:=BP r=true/\∀c∈r.txt,brk c=false/\FN c=true
def Tt(σ:LS)(n:Nat):Ac (pick σ n):=by
 have h:∀i,Ac (vq i):=zX (P:=Ac) (by decide+kernel)<|by decide+kernel
 unfold pick
 split<;>exact h _
def sr{σ:LS}{n:Nat}(h:(pick σ n).sort=.stop):σ.state≠.start:=λe=>by
 unfold pick at h
 split at h
 ·cases h
 ·rename_i k
  rw[h,e]at k
  exact k<|Bool.or_true _
section
variable{σ:LS}{r:gH}{e b:List Nat}{q qz:P4}{N n:Nat}{D:List Due}
def GM.cast(h:GM (r1 σ r e) b q N D):GM σ b q N D:=by
 cases h with
 |pl a c p=>exact .pl a c p
 |ot a p=>exact .ot a p
def row(z:ZB b)(G:Ac r)(hn:σ.refused=none)(hst:r.sort=.stop->σ.state≠.start)(hg:σ.state=.plain->σ.aE≠[])(hp:aq q=fD σ)(hs:Sp b q r.txt qz)(h:GE (fG σ r e) b qz N D):Bh σ.due (fG σ r e).due D (GM σ b q<|N+2):=by
 have h0:q.col=0:=aac (·.2.2) hp
 have hS:=shape G.1
 unfold Shape at hS
 have JT:sY r.txt=true->dm b q.ptr=false:=λk=>h.fst.casesOn λe m=>D7 k (hs.to e) (xu m).1
 have so:r.sort≠.directive->fR σ r=r.sort:=λn=>aal λk=>n k.1
 have value:∀{s},fR σ r=s->(s=.plain∨s=.quoted∨s=.alias)->BL r->(σ.state=.plain∨j0 r.body)->Bh σ.due (fG σ r e).due D (GM σ b q<|N+2):=λes hs3 hv hf=>by
  have E:fG σ r e=bx (r1 σ r e) r.body r.bf (aN (aq q) r.place):=by
   unfold fG
   rw[es,hp]
   rcases hs3 with k|k|k<;>rw[k]<;>rfl
  rw[E]at h⊢
  exact(Fl (σ:=r1 σ r e) z hn hv hf hg h0 hs h).imp λD g=>(g.le<|Nat.le_succ _).cast
 unfold fG at h⊢
 cases k:r.sort with
 |plain=>
  rw[k]at hS
  exact value ((so<|by rw[k];nofun).trans k) (.inl rfl) hS.1<|.inr hS.2
 |quoted=>
  rw[k]at hS
  exact value ((so<|by rw[k];nofun).trans k) (.inr<|.inl rfl) hS.1<|.inr hS.2
 |alias=>
  rw[k]at hS
  exact value ((so<|by rw[k];nofun).trans k) (.inr<|.inr rfl) hS.1<|.inr hS.2
 |blank=>
  rw[k]at hS
  rw[(so<|by rw[k];nofun).trans k]at h⊢
  exact hS.1.elim λn w=>.nil<|GM.le (.cast<|Fj (σ:=r1 σ r e) z hn (w▸hs) hg (JT hS.2) h)<|aah ..
 |iM=>
  rw[k]at hS
  rw[(so<|by rw[k];nofun).trans k]at h⊢
  refine hS.1.elim λn x=>x.elim λx w=>?_
  have hs':=hs
  rw[w.1]at hs'
  by_cases p:σ.state=.plain
  ·have E:r2 (r1 σ r e) .iM={r1 σ r e with due:=σ.due++[qk σ],state:=.done}:=aam ⟨rfl,p⟩
   have h:GE (r2 (r1 σ r e) .iM) b qz N D:=h
   rw[E]at h
   show Bh σ.due (r2 (r1 σ r e) .iM).due D _
   rw[E]
   exact .one<|GM.le (.cast<|BJ (σ:=r1 σ r e) z hn p hs' w.2 (hg p) (JT hS.2) h)<|aah ..
  ·have E:r2 (r1 σ r e) .iM=r1 σ r e:=aal λz=>p z.2
   have h:GE (r2 (r1 σ r e) .iM) b qz N D:=h
   rw[E]at h
   show Bh σ.due (r2 (r1 σ r e) .iM).due D _
   rw[E]
   exact .nil<|GM.le (.cast<|zZ (σ:=r1 σ r e) z p hn (.rem n w.2) hs' h)<|aah ..
 |stop=>
  rw[k]at hS
  rw[(so<|by rw[k];nofun).trans k,<-hp]at h⊢
  exact(JR (σ:=r1 σ r e) z hS hn hg (hst k) h0 hs h).imp λD g=>(g.le<|Nat.le_succ _).cast
 |directive=>
  rw[k]at hS
  by_cases p:σ.state=.plain
  ·exact value (aam ⟨k,p⟩) (.inl rfl) hS.v<|.inl p
  ·rw[show fR σ r=.directive from(aal λz=>p z.2).trans k,<-hp]at h⊢
   exact(NY (σ:=r1 σ r e) hS hn p h0 hs h).imp λD g=>(g.le<|Nat.le_succ _).cast
 |marker=>
  rw[k]at hS
  rw[(so<|by rw[k];nofun).trans k,<-hp]at h⊢
  refine(BN (σ:=r1 σ r e) z hS hn hg h0 hs ?_ h).imp λD g=>g.cast
  cases r.body<;>rfl
end
noncomputable def j3(σ:LS):P4:=⟨σ.text.length,σ.text.length,σ.line,0⟩
inductive Reads(τ σ:LS)(N:Nat):Prop
 |mk {T:List Nat} {D:List Due}:τ.text=σ.text++T->τ.due++v8 τ=σ.due++D->(σ.text.getLast?=some 13->T.head?≠some 10)->(∀c∈T,FN c=true)->GM σ (σ.text++T++[0]) (j3 σ) N D->Reads τ σ N
def yD{e:List Nat}(h:sV e):(∀c∈e,FN c=true)/\e≠[]/\(e.head?=some 10->e=[10]):=by
 rcases h with e|e|e|e|e|e<;>rw[e]<;>exact⟨by decide,nofun,λk=>by first|rfl|cases k⟩
def vK{t u:List Nat}:(t++u).drop t.length=u:=List.drop_left
def Eb{σ:LS}{n:Nat}{X:List Nat}(G:Ac<|pick σ n)(he:sV<|bZ σ n (pick σ n).txt)(hX:(pick σ n).txt=[]->X=bZ σ n (pick σ n).txt++X.drop (bZ σ n (pick σ n).txt).length)(h:σ.text.getLast?=some 13):((pick σ n).txt++X).head?≠some 10:=by
 cases ht:(pick σ n).txt with
 |cons c t=>exact λk=>aan (G.2 c<|ht▸.head _).1<|by rw[aaf k];decide
 |nil=>
  rw[ht]at hX he
  have h9:bZ σ n []≠[10]:=by
   unfold bZ
   split
   ·nofun
   ·rename_i k;exact λe=>k ⟨e,rfl,h⟩
  rw[hX rfl]
  have o:=yD he
  cases k:bZ σ n []with
  |nil=>exact aan k o.2.1
  |cons c t=>exact λe=>h9<|o.2.2<|k▸e
section
variable{σ τ:LS}{r:gH}{e t X:List Nat}{M n:Nat}{odd:Bool}
def rowAt:Sp (σ.text++(t++X)++[0]) (j3 σ) t (fwd (σ.text++(t++X)++[0]) t.length<|j3 σ)/\(σ.text++(t++X)++[0]).drop (fwd (σ.text++(t++X)++[0]) t.length<|j3 σ).ptr=X++[0]:=by
 have h:(σ.text++(t++X)++[0]).drop (j3 σ).ptr=t++(X++[0]):=by rw[List.append_assoc];exact vK.trans<|List.append_assoc ..
 exact⟨.at_ h,by rw[ak];exact yi h⟩
def Fp(G:Ac<|pick σ n)(he:sV<|bZ σ n (pick σ n).txt)(h0:σ.refused=none)(hr:(dR σ n).refused=none)(hg:σ.state=.plain->σ.aE≠[])(h:Reads τ (eW (dR σ n)<|bZ σ n (pick σ n).txt) M):Reads τ σ (M+2):=by
 cases h with
 |@mk T D h1 h2 h3 h4 h5=>
  have C:=Eb (X:=bZ σ n (pick σ n).txt++T) G he λ_=>by rw[vK]
  have st:=λk=>sr (σ:=σ) (n:=n) k
  unfold dR at hr h1 h2 h3 h5
  generalize bZ σ n (pick σ n).txt=e at*
  generalize pick σ n=r at*
  have tx:(eW (fG σ r e) e).text=σ.text++r.txt++e:=lH
  have eb:(eW (fG σ r e) e).text++T++[0]=σ.text++(r.txt++(e++T))++[0]:=by rw[tx,List.append_assoc<|σ.text++r.txt,List.append_assoc σ.text]
  rw[eb]at h5
  obtain⟨s1,s2⟩:=rowAt (σ:=σ) (t:=r.txt) (X:=e++T)
  have pz:=s1.Tw λc m=>(G.2 c m).1
  have ep:j3 (eW (fG σ r e) e)=⟨(fwd (σ.text++(r.txt++(e++T))++[0]) r.txt.length<|j3 σ).ptr+e.length,(fwd (σ.text++(r.txt++(e++T))++[0]) r.txt.length<|j3 σ).idx+e.length,(fwd (σ.text++(r.txt++(e++T))++[0]) r.txt.length<|j3 σ).line+1,0⟩:=by
   rw[pz]
   unfold j3
   rw[tx,show(eW (fG σ r e) e).line=_ from xr,List.length_append,List.length_append]
  have ea:iN (σ.text++(r.txt++(e++T))++[0]) (fwd (σ.text++(r.txt++(e++T))++[0]) r.txt.length<|j3 σ) (j3<|eW (fG σ r e) e) (some<|pV e):=by
   rw[ep]
   rw[List.append_assoc e]at s2
   have l:e=[13]->(eW (fG σ r e) e).text.getLast?=some 13:=λk=>by rw[tx,k];exact List.getLast?_concat
   cases T with
   |nil=>exact .of s2 he λ_=>nofun
   |cons c t=>exact .of s2 he λk z=>h3 (l k)<|aac some z
  have g:=GE.nx (τ:=fG σ r e) (N:=M) (D:=D) hr ea (by
   cases h5 with
   |pl a c p=>exact .pl a c p
   |ot a p=>exact .ot a p)
  cases row ⟨_,rfl⟩ G h0 st hg rfl s1 g with
  |@mk new e2 g=>
   refine .mk (T:=r.txt++(e++T)) ?_ ((h2.trans (aac (·++D) e2)).trans<|List.append_assoc ..) C (λc m=>(List.mem_append.mp m).elim (λm=>(G.2 c m).2) λm=>(List.mem_append.mp m).elim ((yD he).1 c)<|h4 c) g
   rw[h1,tx,List.append_assoc<|σ.text++r.txt,List.append_assoc σ.text]
def Fq{w:Pt}(G:Ac<|pick σ n)(he:sV<|bZ σ n (pick σ n).txt)(h0:σ.refused=none)(hr:(dR σ n).refused=some w)(hg:σ.state=.plain->σ.aE≠[]):Reads (dR σ n) σ 3:=by
 have C:=Eb (X:=bZ σ n (pick σ n).txt) G he λ_=>by rw[List.drop_length,List.append_nil]
 have st:=λk=>sr (σ:=σ) (n:=n) k
 unfold dR at hr⊢
 generalize bZ σ n (pick σ n).txt=e at*
 generalize pick σ n=r at*
 obtain⟨s1,s2⟩:=rowAt (σ:=σ) (t:=r.txt) (X:=e)
 have ed:v8 (fG σ r e)=[.refused w]:=by
  unfold v8
  rw[hr]
 cases row (N:=1) ⟨_,rfl⟩ G h0 st hg rfl s1 (.ref hr (.of s2 he λ_=>nofun) (yi s2)<|aaj _)with
 |@mk new e2 g=>
  refine .mk (T:=r.txt++e) (by rw[lH,List.append_assoc]) (by rw[ed,e2,List.append_assoc]) C (λc m=>(List.mem_append.mp m).elim (λm=>(G.2 c m).2)<|(yD he).1 c) g
def Ft(G:Ac<|pick σ n)(h0:σ.refused=none)(hr:(dR σ n).refused=none)(hg:σ.state=.plain->σ.aE≠[]):
  Reads {eW (dR σ n) (bZ σ n (pick σ n).txt)with text:=(dR σ n).text.take<|(dR σ n).text.length-(bZ σ n (pick σ n).txt).length,finish:=aN (fD σ) (pick σ n).txt.length} σ 3:=by
 have st:=λk=>sr (σ:=σ) (n:=n) k
 unfold dR at hr⊢
 generalize bZ σ n (pick σ n).txt=e at*
 generalize pick σ n=r at*
 obtain⟨s1,s2⟩:=rowAt (σ:=σ) (t:=r.txt) (X:=[])
 have pz:=s1.pt λc m=>(G.2 c m).1
 have C:σ.text.getLast?=some 13->(r.txt++[]).head?≠some 10:=λ_=>by
  rw[List.append_nil]
  cases ht:r.txt with
  |nil=>nofun
  |cons c t=>exact λk=>aan (G.2 c<|ht▸.head _).1<|by rw[aaf k];decide
 cases row (N:=1) ⟨_,rfl⟩ G h0 st hg rfl s1 (.fin hr s2<|aaj _)with
 |@mk new e2 g=>
  refine .mk (T:=r.txt++[]) ?_ ?_ C (λc m=>(G.2 c<|List.append_nil r.txt▸m).2) g
  ·show(fG σ r e).text.take _=_
   rw[lH,List.length_append,Nat.add_sub_cancel,List.take_left' rfl,List.append_nil]
  ·have ed:v8 {eW (fG σ r e) e with text:=(fG σ r e).text.take<|(fG σ r e).text.length-e.length,finish:=aN (fD σ) r.txt.length}=t7 (fG σ r e) (aN (fD σ) r.txt.length):=by
    show @Option.rec Pt (λ_=>List Due) (t7 (fG σ r e)<|aN (fD σ) r.txt.length) (λq=>[.refused q]) (fG σ r e).refused=_
    rw[hr]
   rw[ed,pz]
   exact(aac (·++_) e2).trans (List.append_assoc ..)
def Reads.le{N:Nat}(h:Reads τ σ M)(l:M<=N):Reads τ σ N:=h.casesOn λa b c d g=>.mk a b c d<|g.le l
def reads(odd:Bool)(ns:List Nat):∀(σ:LS) (l:Last),σ.refused=none->(σ.state=.plain->σ.aE≠[])->σ.finish=aq (j3 σ)->(ns=[]->tZ odd σ l=σ)->Reads (tZ odd (nu ns σ l).1 (nu ns σ l).2) σ (2*ns.length+1):=by
 induction ns with
 |nil=>
  intro σ l h0 hg hf hc
  rw[show tZ odd (nu [] σ l).1 (nu [] σ l).2=σ from hc rfl]
  refine .mk (T:=[]) (List.append_nil _).symm (D:=t7 σ<|aq<|j3 σ) ?_ (λ_=>nofun) nofun<|.end_ (by rw[List.append_nil];exact vK) (aaj _) hg
  unfold v8
  rw[h0,hf]
 |cons n ns ih=>
  intro σ l h0 hg hf hc
  have G:=Tt σ n
  have he:=BE σ n (pick σ n).txt
  cases hr:(dR σ n).refused with
  |some w=>
   rw[show nu (n::ns) σ l=_ from aam (by rw[hr];rfl),show tZ odd (dR σ n) (some _)=_ from aal λz=>by rw[hr]at z;cases z.1]
   exact(Fq G he h0 hr hg).le (aat ..)
  |none=>
   rw[show nu (n::ns) σ l=_ from aal<|by rw[hr];nofun]
   have go:(ns=[]->tZ odd (eW (dR σ n)<|bZ σ n (pick σ n).txt) (some (bZ σ n (pick σ n).txt,fD σ,(pick σ n).txt))=eW (dR σ n) (bZ σ n (pick σ n).txt))->_:=λc=>
    Fp G he h0 hr hg (ih (eW (dR σ n)<|bZ σ n (pick σ n).txt) (some (bZ σ n (pick σ n).txt,fD σ,(pick σ n).txt)) hr (λ_=>List.append_ne_nil_of_right_ne_nil _ nofun) rfl c)
   cases ns with
   |cons m ms=>exact go nofun
   |nil=>
    cases odd with
    |false=>exact go λ_=>aal λz=>nomatch z.2.1
    |true=>
     show Reads (tZ true (eW (dR σ n)<|bZ σ n (pick σ n).txt)<|some (bZ σ n (pick σ n).txt,fD σ,(pick σ n).txt)) σ 3
     rw[show tZ true (eW (dR σ n)<|bZ σ n (pick σ n).txt) (some (bZ σ n (pick σ n).txt,fD σ,(pick σ n).txt))=_ from aam ⟨by show(dR σ n).refused.isSome=false;rw[hr];rfl,rfl,by show 0<(fG σ (pick σ n) _).line;rw[xr];exact Nat.succ_pos _⟩]
     exact Ft G h0 hr hg
end
def N5(xs:List Int):uo (jJ xs):=by
 have l8:(jY xs).length<=8:=by unfold jY;rw[List.length_map,List.length_take];exact Nat.min_le_left ..
 have R:=reads (decide<|xs.length%2=1) (jY xs) E8 none rfl nofun rfl λ_=>rfl
 cases R with
 |@mk T D h1 h2 _ h4 h5=>
  have h1:(jJ xs).text=T:=h1
  have h2:(jJ xs).due++v8 (jJ xs)=.stream (0,0,0) (0,0,0)::D:=h2
  cases h5 with
  |pl a=>cases a
  |ot _ rd=>
   cases rd with
   |@mk r s l t=>exact .mk (h1▸h4) (h1.symm▸s) (H8 (av l<|aau<|Nat.mul_le_mul_left 2 l8)<|by decide)<|h2.symm▸.more (.first rfl) t
noncomputable def oX(l:Addr)(o:Obj):dD:=⟨λi=>i.casesOn (some (l,l)) λ_=>none,[(l,o)],[],[(l,o)],[]⟩
noncomputable def N6(xs:List Int):MH:=⟨1,λi=>i.casesOn (some<|.s9<|xs.map .int) λ_=>none⟩
def JU(xs:List Int):HW (N6 xs):=λa o e=>by
 cases a with
 |zero=>exact Nat.zero_lt_one
 |succ a=>cases e
def JV{S:aP}{w:World}{l:Addr}{vs:List Value}{xs:List Int}(hv:cK (oX l<|listOf vs.toArray 0) (xs.map .int) vs)(len:xs.length<=1000000):fB S w (oX l<|listOf vs.toArray 0) (N6 xs):=by
 have a0:∀{i a},vN (oX l<|listOf vs.toArray 0) i a->i=0/\a=l:=λ{i a} h=>by
  cases i with
  |zero=>exact⟨rfl,h.elim λp z=>by cases z.1;exact z.2.elim id id⟩
  |succ i=>exact h.elim λp z=>nomatch z.1
 have hd:∀{p},(oX l<|listOf vs.toArray 0).held p->p=(l,listOf vs.toArray 0):=λh=>h.elim nofun λh=>h.elim aaa.mp nofun
 have hp:∀{p},(oX l<|listOf vs.toArray 0).held p->p∈(oX l<|listOf vs.toArray 0).news:=λh=>(hd h).symm▸.head _
 have dm:=JU xs
 constructor
 ·exact(List.nodup_cons (a:=l) (l:=[])).mpr ⟨List.not_mem_nil,List.nodup_nil⟩
 ·intro i p e
  cases i with
  |zero=>exact Nat.zero_lt_one
  |succ i=>cases e
 ·exact dm
 ·exact λi a h=>(a0 h).2▸⟨_,.head _⟩
 ·exact λi j a h k=>(a0 h).1.trans (a0 k).1.symm
 ·intro i o e
  cases i with
  |zero=>cases e;exact .mk l vs 0 rfl (.head _) hv<|by rw[List.length_map];exact len
  |succ i=>cases e
 ·exact λp h=>hp h
 ·exact λp m=>aan m List.not_mem_nil
 ·intro p h i o e z
  cases i with
  |zero=>cases e;cases z
  |succ i=>cases e
def JW:eO.ns[0]?=some (q "script"):=by kernel_rfl
def JX(v:Value):((eO.ns.take 1).zip [v]).reverse.lookup (q "script")=some v:=by kernel_rfl
def Fv:∀x∈(dS<|qo 65).names,x.2≠.cell:=aaq<|by kernel_rfl
def JY(v:Value):∀x∈(eO.ns.take 1).zip [v],(dS<|qo 65).names.lookup x.1=some .local:=λx hx=>by
 rw[aaa.mp<|show x∈[(q "script",v)]from hx]
 kernel_rfl
def Fw{w:World}{s:Shared}{mg mb:Str->Option Value}{l:Addr}{vs:List Value}{xs:List Int}{Q:Value->Shared->Prop}{E:Value->Shared->Prop}
  (X:(K w.params).In<|hideAll s.heap [l])(T:TopRead qv loose mg mb<|hideAll s.heap [l])(hl:s.heap.get? l=some (listOf vs.toArray 0))(hv:cK (oX l<|listOf vs.toArray 0) (xs.map .int) vs)(len:xs.length<=1000000)
  (hQ:∀s',(∀b o,s.heap.get? b=some o->s'.heap.get? b=some o)->s'.gens=s.gens->s'.os=s.os->Q (.bool true) s'):
  codeAny (model pw w) callerA (.call (.ref 1605) ⟨[.ref l],[]⟩) (λr s'=>match r with|.ok (.ret v)=>Q v s'|.ok _=>False|.error e=>E e s') s:=by
 have h:zg (SG true) w mq 14 eO.ib (bW eO.ns [.ref 0]) (N6 xs) (gP λv _=>v=.bool true) (λ_ _ _=>False):=To (j:=0) (JU xs) rfl (N5 xs) (λ_ _=>rfl) w
 have S:=rM (wQ true w) eO.ib Sf h
 have up:∀b o,(hideAll s.heap [l]).get? b=some o->s.heap.get? b=some o:=λb o e=>of_hideAll [l] e
 have hK:=up _ _<|X _ _<|Se w.params
 have bt:BindsTo s A6 ⟨[.ref l],[]⟩ ((eO.ns.take 1).zip [.ref l]):=BindsTo.of_eq<|by rfl
 refine codeAny_call_def (fd:=A6) (body:=gV<|qo 65) (aai<|by rfl) hK rfl (T.nolimit.keeps up) ((codeRec_of X<|by kernel_rfl).keeps up) rfl bt Fv (JY _) (λh₁ hns hk=>?_) (by kernel_rfl) (by kernel_rfl)<|by kernel_rfl
 have a:∀E,At ⟨SG true,w,mq⟩ (8*14) ⟨callerA.deeper<|mq.env s.heap.objs.size,callerA,hideAll s.heap [l],hideAll s.heap [l],[],s.heap.objs.size⟩ E ⟨oX l<|listOf vs.toArray 0,λy=>((eO.ns.take 1).zip [.ref l]).reverse.lookup y,{s with heap:=h₁,toks:=s.toks+((eO.ns.take 1).zip [Value.ref l]).length}⟩ (bW eO.ns [.ref 0]) (N6 xs) (λ_ _ _=>False):=λE=>by
  refine⟨⟨below_caller _,Around.frames_deeper rfl,X,⟨mg,mb,T⟩,by kernel_rfl,aaq (by kernel_rfl),λ_=>rfl,λ_=>rfl⟩,⟨aai (by rfl),aai<|by rfl⟩,⟨⟨hns,λb o e=>hk b o<|up b o e,Nat.le_of_eq<|hideAll_size _ _⟩,λp hp=>?_,JV hv len,λk x v hx hv=>?_⟩,λ_ _ _ _ _ _ _ z=>z.elim⟩
  ·rw[aaa.mp<|show p∈[(l,listOf vs.toArray 0)]from hp]
   exact⟨hk _ _ hl,aae<|Heap.lt_size hl,hideAll_none _<|.head _⟩
  ·cases k with
   |zero=>
    have hx:eO.ns[0]?=some x:=hx
    rw[JW]at hx
    cases hx
    cases hv
    exact⟨_,JX _,⟨_,rfl,rfl⟩⟩
   |succ k=>
    have hv:(List.replicate (eO.ns.length-1) (none:Option MV))[k]?=some (some v):=hv
    rw[List.getElem?_replicate]at hv
    split at hv<;>cases hv
 refine wpAny_mono (S _ _ _<|a _) (λfl s' z=>?_) λ_ _ z=>z
 obtain⟨r,es,le,p⟩:=z
 cases p with
 |mk L H' mf T1 fr q1=>
  cases mf with
  |next=>exact nomatch(show MV.none=.bool true from q1)
  |brk=>exact q1.elim
  |cont=>exact q1.elim
  |ret v=>
   obtain⟨x,ef,vr⟩:=(fr:∃x,fl=.ret x/\VR r.φ v x)
   have q1:v=.bool true:=q1
   subst ef
   subst q1
   subst es
   rw[show x=.bool true from vr]
   refine hQ _ (λb o e=>?_) le.g le.o
   by_cases hb:b=l
   ·cases hb
    rw[hl]at e
    cases e
    exact(T1.N _<|T1.R.pin _<|.inr<|.inl<|by rw[le.x.fix];exact .head _).1
   ·exact T1.F.keep b o<|hideAll_get [l] e λm=>hb<|aaa.mp m
def JZ:looseW qv loose=loose:=by kernel_rfl
def Tu(P:Params):nsIn (K P) mainGlobals (q "law")=some (some<|.ref 1605):=by kernel_rfl
def WV(P:Params)(h:Heap)(v:Value):WData->Prop
 |.list xs=>∃a vs,v=.ref a/\h.get? a=some (listOf vs.toArray 0)/\WellAll P h vs xs
 |.int i=>∃t,v=.int i t
 |_=>True
def wv{P:Params}{h:Heap}{v:Value}{d:WData}(x:Well P h v d):WV P h v d:=by
 cases x with
 |list a b=>exact⟨_,_,rfl,a,b⟩
 |int i t=>exact⟨t,rfl⟩
 |_=>trivial
def ry{P:Params}{h:Heap}{vs:List Value}{ds:List WData}(x:WellAll P h vs ds):ds=[]->vs=[]:=by
 cases x with
 |nil=>exact λ_=>rfl
 |cons=>exact nofun
def N7{P:Params}{h:Heap}{φ:dD}(xs:List Int):∀{vs:List Value},WellAll P h vs (xs.map .int)->cK φ (xs.map .int) vs:=by
 induction xs with
 |nil=>exact λx=>ry x rfl
 |cons n xs ih=>
  intro vs x
  obtain⟨v,vs',e,hv,hn⟩:=wellAll_cons_inv x
  exact⟨v,vs',e,wv hv,ih hn⟩
def Fx:PySem.W.same (.bool true) (.bool true)=true:=by decide+kernel
def N8{xs:List WData}(h:FA.row.toRowW.pre.holds FA.row.toRowW.records {args:=[.list xs]}=true):xs.length<=63:=by
 have e:WTm.value FA.row.toRowW.records FA.row.toRowW.pre {args:=[.list xs]}=some (.bool<|!decide ((63:Int)<xs.length)&&true):=by
  show WTm.value _ (.and (.not<|.lt (.lit<|.int 63)<|.len<|.arg 0)<|.lit<|.bool true) _=_
  simp only[WTm.value,List.getElem?_cons_zero,PySem.W.less?,PySem.W.Num.less?,Option.map_some]
  cases decide ((63:Int)<xs.length)<;>rfl
 unfold WTm.holds at h
 rw[e]at h
 by_cases q:xs.length<=63
 ·exact q
 ·rw[aag<|by omega]at h
  exact aan h<|by decide
def N9{R:WRecords}{az:List WData}(h:WShape.hasAll R az [.list .int]=true):∃xs:List Int,az=[.list<|xs.map .int]:=by
 obtain⟨d,r,rfl,hd,hr⟩:=hasAllW_cons h
 obtain rfl:=hasAllW_nil hr
 obtain⟨ys,rfl,hy⟩:=hasW_list hd
 obtain⟨xs,rfl⟩:=items_int hy
 exact⟨xs,rfl⟩
def Oa{R:WRecords}{cl:Str->Option Addr}{P:Params}{h h':Heap}{dW:List Value}{ys:List WData}{as:List Addr}(hr:ReadsAllW R cl h' dW [.list ys] as)(hw:WellAll P h dW [.list ys]):∃l vs,dW=[.ref l]/\l∈as/\h.get? l=some (listOf vs.toArray 0)/\WellAll P h vs ys:=by
 obtain⟨v,vs',e,hv,hn⟩:=wellAll_cons_inv hw
 obtain⟨a,vs,e2,hl,hi⟩:=(wv hv:WV P h v<|.list ys)
 rw[ry hn rfl]at e
 obtain⟨v2,vs2,as2,bs,e3,e4,r1,r2⟩:=readsAllW_cons_inv hr
 obtain⟨l,o,its,n,ai,e5,_,_,_,_,e6⟩:=readsW_list_open r1
 have ev:v=v2:=(List.cons.inj<|e.symm.trans e3).1
 have el:a=l:=Value.ref.inj<|e2.symm.trans<|ev.trans e5
 exact⟨a,vs,e2▸e,by rw[e4,e6,el];exact .head _,hl,hi⟩
def J0{mg mb:Str->Option Value}{h:Heap}{l:Addr}{vs:List Value}(hl:h.get? l=some (listOf vs.toArray 0))(T:TopRead qv loose mg mb h):TopRead qv loose mg mb (hideAll h [l]):=by
 have Ze:∀{b m},h.Ns b m->(hideAll h [l]).Ns b m:=λ{b m} z=>by
  obtain⟨o',es,ep,e1,e2,e3⟩:=z
  refine⟨o',es,ep,hideAll_get [l] e1 λq=>?_,e2,e3⟩
  cases aaa.mp q
  rw[hl]at e1
  cases e1
  cases e2
 obtain⟨mc,z1,z2⟩:=T.nolimit
 exact⟨Ze T.g,Ze T.b,⟨mc,Ze z1,z2⟩,T.builtins,T.free⟩
def WL{Yf:Shared->List (Option Obj)}{Ya:World->List (Option Obj)}(hY:∀w s,Yf s=Ya w->(K w.params).In s.heap):WalkX qv loose XT Yf Ya FA.row.toRowW Ql [] λf vs=>PySem.call f vs:=by
 intro w s₀ s₁ mg mb G Y a o pm cd doc dV kV ho hod hcd hdf hmg hg az dW as L hpre hlay hrd hwell hsys
 obtain⟨hsh,hpr⟩:=pre_splitW hpre
 obtain⟨xs,rfl⟩:=N9 hsh
 have len:=N8 hpr
 have win:=L.within
 have X0:=hY w s₀ Y
 obtain⟨l,vs,rfl,lm,hl,hvs⟩:=Oa hrd hwell
 have lo:s₀.heap.get? l=none:=by
  cases e:s₀.heap.get? l with
  |none=>rfl
  |some ob=>exact aan (Heap.lt_size e)<|Nat.not_lt.mpr (win.2.2 l lm).1
 have nl:∀b ob,s₀.heap.get? b=some ob->b∉[l]:=λb ob e q=>by
  rw[aaa.mp q,lo]at e
  cases e
 have st:∀b ob,s₀.heap.get? b=some ob->(hideAll s₁.heap [l]).get? b=some ob:=λb ob e=>hideAll_get [l] (L.keeps _ _ e)<|nl b ob e
 have X:(K w.params).In (hideAll s₁.heap [l]):=X0.keeps st
 have T:TopRead qv loose mg mb (hideAll s₁.heap [l]):=J0 hl<|JZ▸topRead_of G.T
 have ea:a=1605:=by
  have z:=mg_of X T.g<|Tu w.params
  rw[show mg (q "law")=some (.ref a)from hmg]at z
  cases z
  rfl
 rw[ea]
 exact wpAny_call<|Fw X T hl (N7 _ hvs) (by rw[List.length_map]at len;exact av len<|aai rfl) λs' k1 k2 k3=>⟨.inl ⟨.bool true,.bool true,[],rfl,λ_=>rfl,.bool true,postW_of (X:=true) (by rfl) (by show WTm.value _ (.eq .res<|.lit<|.bool true) _=_;simp only[WTm.value,Fx]) rfl,λ_=>⟨.nil,λa m=>by cases m⟩⟩,.of_keep k1,k3,.of_eq<|by rw[k2];exact hg⟩
def Ob(P:Params):WO=(K P).map (·.1):=by kernel_rfl
def WM{α:Type}{a:Nat}{b:α}{l:List (Nat×α)}:l.lookup a=some b->(a,b)∈l:=by
 induction l with
 |nil=>exact λe=>nomatch e
 |cons x r ih=>
  intro e
  rw[List.lookup_cons]at e
  cases q:a==x.1 with
  |true=>
   rw[q]at e
   rw[eq_of_beq q,<-aaf e]
   exact .head _
  |false=>
   rw[q]at e
   exact .tail _<|ih e
def hY(w:World)(s:Shared)(h:Yf s=Ya w):(K w.params).In s.heap:=by
 unfold Yf Ya at h
 rw[Ob w.params,List.map_map]at h
 intro a o e
 have m:=List.map_inj_left.mp h (a,o)<|WM e
 exact m
end
end Mine
theorem PySem.Challenge.cw_te0012_01_holds : PySem.Challenge.rw_te0012_01.Holds :=
 Mine.head (Mine.WL Mine.hY)
