/- A part of the calculus by which the claim's proof goes: over any program and any numbering of its functions; no condition beyond those that each theorem names. -/
import Derived.Test.YtapclkhkldikeaaGreatDoorKf
set_option linter.unusedSimpArgs false
set_option linter.unusedVariables false
namespace Go.Kf
open Go Go.RowKit
structure zra where
 f_NRF:FuncId:=0
 f_FCI:FuncId:=0
 f_FCI1:FuncId:=0
 f_apply:FuncId:=0
 f_framed:FuncId:=0
 f_AR:FuncId:=0
 f_Frame:FuncId:=0
 f_Flex:FuncId:=0
 f_fits4:FuncId:=0
 t_Id:TypeId:=0
 t_RF:TypeId:=0
 t_PRF:TypeId:=0
 t_LOpt:TypeId:=0
 t_Opt:TypeId:=0
 t_fo:TypeId:=0
 t_fn:TypeId:=0
 t_Req:TypeId:=0
section
variable (N:Nums) (M:zdd) (A:zdk) (R:zra)
def applyM:String := "pub-mailsack/pub/kmsg.apply"
def c_NRF:C:=seqs [.ops [⟨some 101,.assign (.const (.pointer none)),0,none,[]⟩],.ops [⟨some 0,.alloc R.t_RF,0,none,[]⟩,⟨some 102,.assign (T 0),0,none,[]⟩],
 .seq (.ops [⟨some 103,.move (V 0),0,none,[]⟩,⟨some 104,.call ⟨.builtin .len,#[V 3],#[R.t_LOpt]⟩,N.ze,none,[]⟩,⟨some 105,.move (.const (.int .i64 0)),0,none,[]⟩])
  (zqs N 5 4 6 0 (.seq (.ops [⟨some 0,.indexAddr R.t_LOpt (V 3) (V 5),0,none,[]⟩,⟨some 1,.load R.t_Opt (T 0),0,none,[]⟩,⟨some 107,.assign (T 1),0,none,[]⟩])
   (.ops [⟨some 0,.move (V 7),0,none,[]⟩,⟨some 1,.move (V 2),0,none,[]⟩,⟨some 2,.call ⟨.invoke (T 0) applyM,#[T 1],#[R.t_PRF]⟩,N.t_,none,[]⟩]))),
 .ops [⟨some 0,.move (V 2),0,none,[]⟩,⟨some 101,.assign (T 0),0,none,[]⟩],.ret]
def c_FCI:C:=seqs [.ops [⟨some 101,.box N.zac (V 0),0,none,[]⟩,⟨some 102,.assign (.const .nilIface),0,none,[]⟩],
 .ops [⟨some 0,.makeFunc (.func R.f_FCI1) #[] #[V 1],0,none,[]⟩,⟨some 1,.build R.t_fo #[(0,T 0)],0,none,[]⟩,⟨some 2,.makeInterface R.t_fo (T 1),0,none,[]⟩,⟨some 102,.assign (T 2),0,none,[]⟩],.ret]
def c_FCI1:C:=.ops [⟨some 0,.move (V 0),0,none,[]⟩,⟨some 1,.nilCheck (T 0),0,none,[]⟩,⟨some 2,.fieldAddr R.t_RF (T 1) 0,0,none,[]⟩,⟨none,.store N.zbc (T 2) (V 1),0,none,[]⟩]
def c_apply:C:=.seq (.ops [⟨some 102,.box R.t_fo (V 0),0,none,[]⟩]) (.ops [⟨some 0,.fieldAddr R.t_fo (V 2) 0,0,none,[]⟩,⟨some 1,.load R.t_fn (T 0),0,none,[]⟩,⟨some 2,.move (V 1),0,none,[]⟩,⟨some 3,.call ⟨.value (T 1),#[T 2],#[R.t_PRF]⟩,N.t_,none,[]⟩])
def c_framed:C:=seqs [.ops [⟨some 103,.box R.t_Id (V 0),0,none,[]⟩,⟨some 104,.assign (.const (.slice none 0 0)),0,none,[]⟩],
 .ops [⟨some 0,.call ⟨.value (.func R.f_NRF),#[.const (.slice none 0 0)],#[R.t_LOpt]⟩,R.t_PRF,none,[]⟩,⟨some 105,.assign (T 0),0,none,[]⟩],
 .seq (.ops [⟨some 0,.fieldAddr R.t_Id (V 3) 0,0,none,[]⟩,⟨some 106,.load N.zay (T 0),0,none,[]⟩])
  (.cond 6 (.ops [⟨some 0,.fieldAddr R.t_Id (V 3) 1,0,none,[]⟩,⟨some 1,.load N.zac (T 0),0,none,[]⟩,⟨some 2,.call ⟨.value (.func R.f_FCI),#[T 1],#[N.zac]⟩,R.t_Opt,none,[]⟩,⟨some 3,.buildSlice R.t_LOpt 1 #[(0,T 2)],0,none,[]⟩,⟨some 4,.call ⟨.value (.func R.f_NRF),#[T 3],#[R.t_LOpt]⟩,R.t_PRF,none,[]⟩,⟨some 105,.assign (T 4),0,none,[]⟩]) .skip),
 .ops [⟨some 0,.move (V 5),0,none,[]⟩,⟨some 1,.move (V 1),0,none,[]⟩,⟨some 2,.move (V 2),0,none,[]⟩,⟨some 3,.call ⟨.value (.func R.f_AR),#[T 0,.const (.slice none 0 0),T 1,T 2],#[R.t_PRF,N.za,R.t_Req,N.zbr]⟩,N.za,none,[]⟩,⟨some 104,.assign (T 3),0,none,[]⟩],.ret]
def dLenAt:List ROp:=[⟨some 0,.move (V 1),0,none,[]⟩,⟨some 1,.slice N.za (T 0) none (some (.const (.int .i64 0))) none,0,none,[0]⟩,⟨some 2,.move (V 1),0,none,[]⟩,⟨some 3,.slice N.za (T 2) (some (.const (.int .i64 4))) none none,0,none,[2]⟩,
 ⟨some 4,.call ⟨.builtin .len,#[T 3],#[N.za]⟩,N.ze,none,[3]⟩,⟨some 5,.convert N.ze N.zbr (T 4),0,none,[4]⟩,⟨some 6,.call ⟨.value (.func A.zas),#[T 1,T 5],#[N.za,N.zbr]⟩,N.za,none,[1,5]⟩]
def cApV (f t src:Nat):C:=.ops [⟨some 0,.move (V 1),0,none,[]⟩,⟨some 1,.move (V src),0,none,[]⟩,⟨some 2,.call ⟨.value (.func f),#[T 0,T 1],#[N.za,t]⟩,N.za,none,[]⟩,⟨some 101,.assign (T 2),0,none,[]⟩]
def c_AR:C:=seqs [.ops [⟨some 104,.assign (.const (.slice none 0 0)),0,none,[]⟩],
 .ops [⟨some 0,.move (V 1),0,none,[]⟩,⟨some 1,.buildSlice N.za 4 #[(0,.const (.int .u8 0)),(1,.const (.int .u8 0)),(2,.const (.int .u8 0)),(3,.const (.int .u8 0))],0,none,[]⟩,⟨some 2,.call ⟨.builtin .append,#[T 0,T 1],#[N.za,N.za]⟩,N.za,none,[]⟩,⟨some 101,.assign (T 2),0,none,[]⟩],
 .ops [⟨some 0,.move (V 2),0,none,[]⟩,⟨some 1,.call ⟨.invoke (T 0) "Key", #[],#[]⟩,N.zbf,none,[]⟩,⟨some 105,.assign (T 1),0,none,[]⟩],
 .ops [⟨some 0,.move (V 2),0,none,[]⟩,⟨some 1,.call ⟨.invoke (T 0) "GetVersion", #[],#[]⟩,N.zbf,none,[]⟩,⟨some 106,.assign (T 1),0,none,[]⟩],
 cApV N A.zce N.zbf 5,cApV N A.zce N.zbf 6,cApV N A.zas N.zbr 3,
 .seq (.ops [⟨some 0,.move (V 5),0,none,[]⟩,⟨some 1,.binOp .eql N.zbf (T 0) (.const (.int .i16 7)) N.zbf,0,none,[]⟩,⟨some 2,.move (T 1),0,none,[]⟩,⟨some 3,.move (V 6),0,some (some 2,true),[]⟩,⟨some 4,.binOp .eql N.zbf (T 3) (.const (.int .i16 0)) N.zbf,0,some (some 2,true),[]⟩,⟨some 107,.pick (T 2) (T 4) (.const (.bool false)),0,none,[]⟩])
  (.cond 7 (.seq (.ops [⟨some 0,.move (V 1),0,none,[]⟩,⟨some 104,.assign (T 0),0,none,[]⟩]) .ret) .skip),
 .ops [⟨some 0,.move (V 1),0,none,[]⟩,⟨some 1,.move (V 0),0,none,[]⟩,⟨some 2,.nilCheck (T 1),0,none,[]⟩,⟨some 3,.fieldAddr R.t_RF (T 2) 0,0,none,[]⟩,⟨some 4,.load N.zbc (T 3),0,none,[]⟩,⟨some 5,.call ⟨.value (.func A.zbn),#[T 0,T 4],#[N.za,N.zbc]⟩,N.za,none,[]⟩,⟨some 101,.assign (T 5),0,none,[]⟩],
 .seq (.ops [⟨some 0,.move (V 2),0,none,[]⟩,⟨some 108,.call ⟨.invoke (T 0) "IsFlexible", #[],#[]⟩,N.zay,none,[]⟩])
  (.cond 8 (.seq (.ops [⟨some 109,.assign (.const (.int .u8 0)),0,none,[]⟩]) (.seq (.ops [⟨some 0,.move (V 1),0,none,[]⟩,⟨some 1,.move (V 9),0,none,[]⟩,⟨some 2,.buildSlice N.za 1 #[(0,T 1)],0,none,[]⟩,⟨some 3,.call ⟨.builtin .append,#[T 0,T 2],#[N.za,N.za]⟩,N.za,none,[]⟩,⟨some 101,.assign (T 3),0,none,[]⟩])
   (.seq (.ops [⟨some 0,.move (V 9),0,none,[]⟩,⟨some 110,.binOp .neq N.zh (T 0) (.const (.int .u8 0)) N.zh,0,none,[]⟩]) (.cond 10 .skip .skip)))) .skip),
 .ops [⟨some 0,.move (V 2),0,none,[]⟩,⟨some 1,.move (V 1),0,none,[]⟩,⟨some 2,.call ⟨.invoke (T 0) "AppendTo", #[T 1],#[N.za]⟩,N.za,none,[]⟩,⟨some 101,.assign (T 2),0,none,[]⟩],
 .draw (dLenAt N A),
 .ops [⟨some 0,.move (V 1),0,none,[]⟩,⟨some 104,.assign (T 0),0,none,[]⟩],.ret]
def c_key (k:Int):C:=seqs [.ops [⟨some 101,.assign (.const (.int .i16 0)),0,none,[]⟩],.ops [⟨some 101,.assign (.const (.int .i16 k)),0,none,[]⟩],.ret]
def c_getV (tT:TypeId):C:=seqs [.ops [⟨some 101,.assign (.const (.int .i16 0)),0,none,[]⟩],.ops [⟨some 0,.move (V 0),0,none,[]⟩,⟨some 1,.nilCheck (T 0),0,none,[]⟩,⟨some 2,.fieldAddr tT (T 1) 0,0,none,[]⟩,⟨some 3,.load N.zbf (T 2),0,none,[]⟩,⟨some 101,.assign (T 3),0,none,[]⟩],.ret]
def c_flx (tT:TypeId) (fl:Int):C:=seqs [.ops [⟨some 101,.assign (.const (.bool false)),0,none,[]⟩],.ops [⟨some 0,.move (V 0),0,none,[]⟩,⟨some 1,.nilCheck (T 0),0,none,[]⟩,⟨some 2,.fieldAddr tT (T 1) 0,0,none,[]⟩,⟨some 3,.load N.zbf (T 2),0,none,[]⟩,⟨some 4,.binOp .geq N.zbf (T 3) (.const (.int .i16 fl)) N.zbf,0,none,[]⟩,⟨some 101,.assign (T 4),0,none,[]⟩],.ret]
def zacl:C:=seqs [.ops [⟨some 107,.assign (.const (.slice none 0 0)),0,none,[]⟩],
 .ops [⟨some 0,.move (V 0),0,none,[]⟩,⟨some 1,.call ⟨.value (.func M.zcr),#[T 0,.const (.int .i64 2)],#[N.zcv,N.ze]⟩,N.za,none,[]⟩,⟨some 2,.move (V 1),0,none,[]⟩,⟨some 3,.call ⟨.value (.func M.zcr),#[T 2,.const (.int .i64 2)],#[N.zcv,N.ze]⟩,N.za,none,[]⟩,⟨some 4,.call ⟨.builtin .append,#[T 1,T 3],#[N.za,N.za]⟩,N.za,none,[]⟩,⟨some 108,.assign (T 4),0,none,[]⟩],
 .ops [⟨some 0,.move (V 8),0,none,[]⟩,⟨some 1,.move (V 2),0,none,[]⟩,⟨some 2,.convert N.zbr N.zcv (T 1),0,none,[]⟩,⟨some 3,.call ⟨.value (.func M.zcr),#[T 2,.const (.int .i64 4)],#[N.zcv,N.ze]⟩,N.za,none,[]⟩,⟨some 4,.call ⟨.builtin .append,#[T 0,T 3],#[N.za,N.za]⟩,N.za,none,[]⟩,⟨some 108,.assign (T 4),0,none,[]⟩],
 .seq (.ops [⟨some 109,.move (V 3),0,none,[]⟩]) (.cond 9 (.ops [⟨some 0,.move (V 8),0,none,[]⟩,⟨some 1,.move (V 4),0,none,[]⟩,⟨some 2,.call ⟨.builtin .len,#[T 1],#[N.za]⟩,N.ze,none,[]⟩,⟨some 3,.call ⟨.value (.func M.zcr),#[T 2,.const (.int .i64 2)],#[N.zcv,N.ze]⟩,N.za,none,[]⟩,⟨some 4,.call ⟨.builtin .append,#[T 0,T 3],#[N.za,N.za]⟩,N.za,none,[]⟩,⟨some 5,.move (V 4),0,none,[]⟩,⟨some 6,.call ⟨.builtin .append,#[T 4,T 5],#[N.za,N.za]⟩,N.za,none,[]⟩,⟨some 108,.assign (T 6),0,none,[]⟩])
  (.ops [⟨some 0,.move (V 8),0,none,[]⟩,⟨some 1,.call ⟨.value (.func M.zcr),#[.const (.int .i64 (-1)),.const (.int .i64 2)],#[N.zcv,N.ze]⟩,N.za,none,[]⟩,⟨some 2,.call ⟨.builtin .append,#[T 0,T 1],#[N.za,N.za]⟩,N.za,none,[]⟩,⟨some 108,.assign (T 2),0,none,[]⟩])),
 .seq (.ops [⟨some 110,.move (V 5),0,none,[]⟩]) (.cond 10 (.ops [⟨some 0,.move (V 8),0,none,[]⟩,⟨some 1,.buildSlice N.za 1 #[(0,.const (.int .u8 0))],0,none,[]⟩,⟨some 2,.call ⟨.builtin .append,#[T 0,T 1],#[N.za,N.za]⟩,N.za,none,[]⟩,⟨some 108,.assign (T 2),0,none,[]⟩]) .skip),
 .ops [⟨some 0,.move (V 8),0,none,[]⟩,⟨some 1,.move (V 6),0,none,[]⟩,⟨some 2,.call ⟨.builtin .append,#[T 0,T 1],#[N.za,N.za]⟩,N.za,none,[]⟩,⟨some 108,.assign (T 2),0,none,[]⟩],
 .ops [⟨some 0,.move (V 8),0,none,[]⟩,⟨some 1,.call ⟨.builtin .len,#[T 0],#[N.za]⟩,N.ze,none,[]⟩,⟨some 2,.call ⟨.value (.func M.zcr),#[T 1,.const (.int .i64 4)],#[N.zcv,N.ze]⟩,N.za,none,[]⟩,⟨some 3,.move (V 8),0,none,[]⟩,⟨some 4,.call ⟨.builtin .append,#[T 2,T 3],#[N.za,N.za]⟩,N.za,none,[]⟩,⟨some 107,.assign (T 4),0,none,[]⟩],.ret]
def zacj:C:=seqs [.ops [⟨some 101,.box R.t_Id (V 0),0,none,[]⟩,⟨some 102,.assign (.const (.bool false)),0,none,[]⟩],
 .seq (.ops [⟨some 0,.fieldAddr R.t_Id (V 1) 1,0,none,[]⟩,⟨some 1,.load N.zac (T 0),0,none,[]⟩,⟨some 2,.call ⟨.builtin .len,#[T 1],#[N.zac]⟩,N.ze,none,[]⟩,⟨some 103,.binOp .gtr N.ze (T 2) (.const (.int .i64 2147483647)) N.ze,0,none,[]⟩]) (.cond 3 (.seq (zfu 2 (.bool false)) .ret) .skip),
 zfu 2 (.bool true),.ret]
def zack (pT newP setV rf:Nat):C:=seqs [.ops [⟨some 104,.box R.t_Id (V 0),0,none,[]⟩,⟨some 105,.assign (.const (.slice none 0 0)),0,none,[]⟩,⟨some 106,.assign (.const (.bool false)),0,none,[]⟩],
 .ops [⟨some 0,.call ⟨.value (.func newP),#[],#[]⟩,pT,none,[]⟩,⟨some 107,.assign (T 0),0,none,[]⟩],
 .ops [⟨some 0,.move (V 7),0,none,[]⟩,⟨some 1,.move (V 2),0,none,[]⟩,⟨some 2,.convert N.ze N.zbf (T 1),0,none,[]⟩,⟨some 3,.call ⟨.value (.func setV),#[T 0,T 2],#[pT,N.zbf]⟩,N.t_,none,[]⟩],
 .seq (.ops [⟨some 0,.move (V 7),0,none,[]⟩,⟨some 1,.move (V 3),0,none,[]⟩,⟨some 2,.call ⟨.builtin .append,#[.const (.slice none 0 0),T 1],#[N.za,N.za]⟩,N.za,none,[]⟩,⟨some 3,.call ⟨.value (.func rf),#[T 0,T 2],#[pT,N.za]⟩,N.zgc,none,[]⟩,⟨some 108,.binOp .neq N.zgc (T 3) (.const .nilIface) N.zgc,0,none,[]⟩])
  (.cond 8 (.seq (.ops [⟨some 105,.assign (.const (.slice none 0 0)),0,none,[]⟩,⟨some 106,.assign (.const (.bool false)),0,none,[]⟩]) .ret) .skip),
 .ops [⟨some 0,.load R.t_Id (V 4),0,none,[]⟩,⟨some 1,.move (V 7),0,none,[]⟩,⟨some 2,.makeInterface pT (T 1),0,none,[]⟩,⟨some 3,.move (V 1),0,none,[]⟩,⟨some 4,.call ⟨.value (.func R.f_framed),#[T 0,T 2,T 3],#[R.t_Id,R.t_Req,N.zbr]⟩,N.za,none,[]⟩,⟨some 105,.assign (T 4),0,none,[]⟩,⟨some 106,.assign (.const (.bool true)),0,none,[]⟩],.ret]
def zul (key:Int):List ROp:=[⟨some 0,.move (V 15),0,none,[]⟩,⟨some 1,.move (T 0),0,none,[0]⟩,⟨some 2,.move (V 14),0,some (some 1,true),[1]⟩,⟨some 3,.move (V 11),0,some (some 1,true),[1]⟩,⟨some 4,.move (V 2),0,some (some 1,true),[1]⟩,⟨some 5,.fieldAddr R.t_Id (V 4) 0,0,some (some 1,true),[1]⟩,⟨some 6,.load N.zay (T 5),0,some (some 1,true),[5,1]⟩,
 ⟨some 7,.fieldAddr R.t_Id (V 4) 1,0,some (some 1,true),[1]⟩,⟨some 8,.load N.zac (T 7),0,some (some 1,true),[7,1]⟩,⟨some 9,.convert N.zac N.za (T 8),0,some (some 1,true),[8,1]⟩,⟨some 10,.load M.zam (V 10),0,some (some 1,true),[1]⟩,⟨some 11,.move (V 11),0,some (some 1,true),[1]⟩,
 ⟨some 12,.call ⟨.value (.func R.f_Flex),#[T 10,T 11],#[M.zam,N.ze]⟩,N.zay,some (some 1,true),[10,11,1,1]⟩,⟨some 13,.move (V 13),0,some (some 1,true),[1]⟩,⟨some 14,.call ⟨.value (.func R.f_Frame),#[.const (.int .i64 key),T 3,T 4,T 6,T 9,T 12,T 13],#[N.ze,N.ze,N.zbr,N.zay,N.za,N.zay,N.za]⟩,N.za,some (some 1,true),[3,4,6,9,12,13,12,1]⟩,
 ⟨some 15,.call ⟨.value (.func N.zff),#[T 2,T 14],#[N.za,N.za]⟩,N.zay,some (some 1,true),[2,14,14,1]⟩,⟨some 16,.pick (T 1) (T 15) (.const (.bool false)),0,none,[1,15]⟩,⟨some 106,.assign (T 16),0,none,[16,15,0,1,2,3,4,5,6,7,8,9,10,11,12,13,14,15,16]⟩]
def c_lawF (key:Int) (tLB maxI behI mk:Nat):C:=seqs [
 .ops [⟨some 104,.box R.t_Id (V 1),0,none,[]⟩,⟨some 105,.box N.zf (V 3),0,none,[]⟩,⟨some 106,.assign (.const (.bool false)),0,none,[]⟩],
 .seq (.ops [⟨some 0,.load R.t_Id (V 4),0,none,[]⟩,⟨some 1,.call ⟨.value (.func R.f_fits4),#[T 0],#[R.t_Id]⟩,N.zay,none,[]⟩,⟨some 2,.unOp .not N.zay (T 1),0,none,[]⟩,⟨some 3,.move (T 2),0,none,[]⟩,⟨some 4,.load N.zf (V 5),0,some (some 3,false),[]⟩,
   ⟨some 5,.call ⟨.value (.func M.zuk),#[T 4],#[N.zf]⟩,N.zay,some (some 3,false),[]⟩,⟨some 6,.unOp .not N.zay (T 5),0,some (some 3,false),[]⟩,⟨some 107,.pick (T 3) (.const (.bool true)) (T 6),0,none,[]⟩]) (.cond 7 (.seq (zfu 6 (.bool true)) .ret) .skip),
 .ops [⟨some 0,.call ⟨.value (.func maxI),#[],#[]⟩,N.ze,none,[]⟩,⟨some 108,.assign (T 0),0,none,[]⟩],
 .seq (.ops [⟨some 0,.move (V 8),0,none,[]⟩,⟨some 109,.binOp .lss N.ze (T 0) (.const (.int .i64 0)) N.ze,0,none,[]⟩]) (.cond 9 (.seq (zfu 6 (.bool false)) .ret) .skip),
 .ops [⟨some 0,.call ⟨.value (.func mk),#[],#[]⟩,M.zam,none,[]⟩,⟨some 1,.move (V 0),0,none,[]⟩,⟨some 2,.move (V 8),0,none,[]⟩,⟨some 3,.call ⟨.value (.func N.zlw),#[T 1,T 2],#[N.zh,N.ze]⟩,N.ze,none,[]⟩,
  ⟨some 110,.alloc M.zam,0,none,[]⟩,⟨none,.store M.zam (V 10) (T 0),0,none,[]⟩,⟨some 111,.assign (T 3),0,none,[]⟩],
 .seq (.ops [⟨some 0,.fieldAddr R.t_Id (V 4) 1,0,none,[]⟩,⟨some 1,.load N.zac (T 0),0,none,[]⟩,⟨some 2,.call ⟨.builtin .len,#[T 1],#[N.zac]⟩,N.ze,none,[]⟩,⟨some 112,.binOp .gtr N.ze (T 2) (.const (.int .i64 32767)) N.ze,0,none,[]⟩]) (.cond 12 (.seq (zfu 6 (.bool true)) .ret) .skip),
 .ops [⟨some 0,.load M.zam (V 10),0,none,[]⟩,⟨some 1,.move (V 11),0,none,[]⟩,⟨some 2,.load N.zf (V 5),0,none,[]⟩,⟨some 3,.call ⟨.value (.func M.znn),#[T 0,T 1,T 2],#[M.zam,N.ze,N.zf]⟩,N.za,none,[]⟩,⟨some 113,.assign (T 3),0,none,[]⟩],
 .ops [⟨some 1,.load R.t_Id (V 4),0,none,[]⟩,⟨some 2,.move (V 2),0,none,[]⟩,⟨some 3,.move (V 11),0,none,[]⟩,⟨some 4,.move (V 13),0,none,[]⟩,⟨some 5,.call ⟨.value (.func behI),#[T 1,T 2,T 3,T 4],#[R.t_Id,N.zbr,N.ze,N.za]⟩,tLB,none,[]⟩,
  ⟨some 0,.move (T 5),0,none,[]⟩,⟨some 6,.extract (T 0) 0,0,none,[]⟩,⟨some 7,.extract (T 0) 1,0,none,[]⟩,⟨some 114,.assign (T 6),0,none,[]⟩,⟨some 115,.assign (T 7),0,none,[]⟩],
 .draw (zul N M R key),.ret]
end
def Inv0 (P:Program) (nm:String) (t:TypeId) (f:FuncId):Prop:=∀ (v:Value) (w:World),(invoke (.fn (.method nm) #[]) #[.iface t v]).run P w=.ok (.enter f #[v]) w
def Inv1 (P:Program) (nm:String) (t:TypeId) (f:FuncId):Prop:=∀ (v x:Value) (w:World),(invoke (.fn (.method nm) #[]) #[.iface t v,x]).run P w=.ok (.enter f #[v,x]) w
section
variable {P:Program} {ρ:Env} {w:World} {K:Env→World→Prop} {d:Option Nat} {ty:TypeId} {af:List Nat} {x y:Operand} {nm:String} {t:TypeId} {f:FuncId} {v:Value} {ts:Array TypeId}
theorem ztm (hi:Inv0 P nm t f) (hx:ev ρ x=.iface t v):zcn P ⟨d,.call ⟨.invoke x nm,#[],ts⟩,ty,none,af⟩ ρ w K=Call P f #[v] w fun v w'=>K (put ρ d v) w':=by
 rw[zbg rfl]
 have e:(exec ρ ⟨d,.call ⟨.invoke x nm,#[],ts⟩,ty,none,af⟩).run P w=.ok (.enter f #[v]) w:=by
  have h1:=hi v w
  simp only [exec,execOp,resolve,hx,Sem.run_bind,Sem.run_pure,Result.andThen_ok]
  simpa using h1
 rw[e]; rfl
theorem zza (hi:Inv1 P nm t f) (hx:ev ρ x=.iface t v):zcn P ⟨d,.call ⟨.invoke x nm,#[y],ts⟩,ty,none,af⟩ ρ w K=Call P f #[v,ev ρ y] w fun v w'=>K (put ρ d v) w':=by
 rw[zbg rfl]
 have e:(exec ρ ⟨d,.call ⟨.invoke x nm,#[y],ts⟩,ty,none,af⟩).run P w=.ok (.enter f #[v,ev ρ y]) w:=by
  have h1:=hi v (ev ρ y) w
  simp only [exec,execOp,resolve,hx,Sem.run_bind,Sem.run_pure,Result.andThen_ok]
  simpa using h1
 rw[e]; rfl
theorem zabg {g:FuncId} {cap:Value} (hf:zcp P g) (hx:ev ρ x=.func (.func g) #[] #[cap]) :
  zcn P ⟨d,.call ⟨.value x,#[y],ts⟩,ty,none,af⟩ ρ w K=Call P g #[ev ρ y,cap] w fun v w'=>K (put ρ d v) w':=by
 rw[zvy hx hf]; simp; rfl
end
theorem TI.run_mkIface {P:Program} {t:TypeId} {d:TypeDesc} {sz by':Nat} {z:Value} (h:TI P t d sz by' z) (hd:∀ ms,d≠.interface ms) {w:World} {v:Value}:(Instr.makeInterface t v).run P w=.ok (.iface t v) w:=by
 simp only [Instr.makeInterface,Sem.run_bind,h.run_und,Result.andThen_ok]
 cases d<;>first | rfl | exact absurd rfl (hd _)
structure FrT (P:Program) (N:Nums) (A:zdk) (R:zra):Prop where
 id:SF P R.t_Id [(0,1),(1,1)] 24 [.bool false,.string ⟨#[]⟩]
 id0:HF P R.t_Id 0 0
 id1:HF P R.t_Id 1 1
 rf:SF P R.t_RF [(0,1)] 8 [.pointer none]
 rf0:HF P R.t_RF 0 0
 fo:SF P R.t_fo [(0,1)] 8 [.nilFunc]
 fo0:HF P R.t_fo 0 0
 opt:∃ ms,TI P R.t_Opt (.interface ms) 1 16 .nilIface
 lopt:TI P R.t_LOpt (.slice R.t_Opt) 1 24 (.slice none 0 0)
 fn:∃ p r v,TI P R.t_fn (.func p r v) 1 8 .nilFunc
 pstr:TI P N.zbc (.pointer N.zac) 1 8 (.pointer none)
 NRF:FOk P R.f_NRF 1 (c_NRF N R) [.var 1]
 FCI:FOk P R.f_FCI 1 (c_FCI N R) [.var 2]
 FCI1:FOk P R.f_FCI1 2 (c_FCI1 N R) []
 apply:FOk P R.f_apply 2 (c_apply N R) []
 framed:FOk P R.f_framed 3 (c_framed N R) [.var 4]
 AR:FOk P R.f_AR 4 (c_AR N A R) [.var 4]
 iapply:Inv1 P applyM R.t_fo R.f_apply
section
variable {P:Program} {N:Nums} {A:zdk} {R:zra}
def optV (R:zra) (p:Value):Value:=.iface R.t_fo (.agg #[.func (.func R.f_FCI1) #[] #[p]])
theorem call_FCI1 (hR:FrT P N A R) {w:World} {b:Nat} {p:Value} {u:Value} (hp:p.oneCell'=true) (ht:w.there b 0 1) (hu:w.cell? ⟨b,0,none⟩=some u) :
  Call P R.f_FCI1 #[.pointer (some ⟨b,0,none⟩),p] w fun _ w'=>Mod w w' (rng b 0 1)∧w'.cell? ⟨b,0,none⟩=some p∧w'.heap.size=w.heap.size:=by
 refine hR.FCI1.call rfl fun loc N' hlo=>?_
 unfold c_FCI1
 refine zi fun τ=>?_
 have hst:=hR.pstr.run_store1 (w:=w) (b:=b) (o:=0) (v:=p) hp ht
 simp +decide only [bK,bE,Nat.reduceBeqDiff,BEq.rfl,Nat.reduceAdd,Nat.zero_add]
 rw[zw rfl]
 simp +decide only [bK,bE,Nat.reduceBeqDiff,BEq.rfl,Nat.add_zero,hR.rf0.run,hst]
 exact⟨.inl rfl,.tuple #[],rfl,Mod.setCell fun _=>⟨rfl,Nat.le_refl _,by omega⟩,World.cell?_setCell_same _ _ _ hu,by simp [World.setCell]⟩
theorem call_apply (hR:FrT P N A R) {w:World} {b:Nat} {p:Value} {u:Value} (hp:p.oneCell'=true) (ht:w.there b 0 1) (hb:b < w.heap.size) (hu:w.cell? ⟨b,0,none⟩=some u) :
  Call P R.f_apply #[.agg #[.func (.func R.f_FCI1) #[] #[p]],.pointer (some ⟨b,0,none⟩)] w fun _ w'=>Mod w w' (rng b 0 1)∧w'.cell? ⟨b,0,none⟩=some p:=by
 refine hR.apply.call rfl fun loc N' hlo=>?_
 unfold c_apply
 obtain⟨pp,rr,vv,hfn⟩:=hR.fn
 obtain⟨w1,hw1⟩:∃ w1,w1=w.alloc (.cells (Value.cells (.agg #[.func (.func R.f_FCI1) #[] #[p]])) R.t_fo):=⟨_,rfl⟩
 have m1:Mod w w1 zy:=by rw[hw1]; exact Mod.alloc _ _ _
 have r1:w1.rangeAt w.heap.size 0 [.func (.func R.f_FCI1) #[] #[p]]:=by rw[hw1]; exact zr w _ _ _
 have c1:w1.cell? ⟨w.heap.size,0,none⟩=some (.func (.func R.f_FCI1) #[] #[p]):=r1 0 _ rfl
 refine zd fun K hK=>zi fun τ=>?_
 simp +decide only [bK,bE,Nat.zero_add]
 rw[← hw1]
 clear hw1
 refine hK _ _ (zb fun σ1 hσ=>?_)
 have a1:=hσ 1
 have a2:=hσ 2
 simp +decide only [bE,Nat.reduceBeqDiff,BEq.rfl,Nat.reduceAdd] at a1 a2
 clear hσ hK K
 refine zi fun τ=>?_
 simp +decide only [bK,bE,Nat.reduceBeqDiff,BEq.rfl,Nat.reduceAdd,Nat.add_zero,a1,a2,hR.fo0.run,hfn.run_load1 rfl,c1]
 rw[zabg hR.FCI1.has rfl]
 simp +decide only [bK,bE,BEq.rfl]
 refine(call_FCI1 hR hp (m1.there hb ht) (u:=u) (by rw[m1.cell _ _ hb fun h=>h]; exact hu)).mono ?_
 rintro _ w2 ⟨m2,c2,_⟩
 refine zb fun σ2 hσ=>⟨.inl rfl,.tuple #[],rfl,?_,c2⟩
 exact(m1.mono fun _ _ _ h=>h.elim).trans m2 fun _ _ _ h=>h.elim id id
theorem call_FCI (hR:FrT P N A R) {w:World} {s:ByteArray} :
  Call P R.f_FCI #[.string s] w fun v w'=>∃ b,v=optV R (.pointer (some ⟨b,0,none⟩))∧w.heap.size≤b∧b < w'.heap.size∧w'.cell? ⟨b,0,none⟩=some (.string s)∧Mod w w' zy:=by
 refine hR.FCI.call rfl fun loc N' hlo=>?_
 unfold c_FCI
 obtain⟨w1,hw1⟩:∃ w1,w1=w.alloc (.cells (Value.cells (.string s)) N.zac):=⟨_,rfl⟩
 have m1:Mod w w1 zy:=by rw[hw1]; exact Mod.alloc _ _ _
 have r1:w1.rangeAt w.heap.size 0 [.string s]:=by rw[hw1]; exact zr w _ _ _
 have s1:w1.heap.size=w.heap.size+1:=by rw[hw1]; exact zav _ _
 refine zfp (by simp) ?_
 refine zaa fun K hK=>zi fun τ=>?_
 simp +decide only [bK,bE,Nat.zero_add]
 rw[← hw1]
 clear hw1
 refine hK _ _ (zb fun σ1 hσ=>?_)
 have a1:=hσ 1
 simp +decide only [bE,Nat.reduceBeqDiff,BEq.rfl,Nat.reduceAdd] at a1
 clear hσ hK K
 refine zaa fun K hK=>zi fun τ=>?_
 obtain⟨fs,hfo,_⟩:=hR.fo.out
 have hbl:=fun {w:World}=>hR.fo.run_build (w:=w) (parts:=#[(0,.func (.func R.f_FCI1) #[] #[.pointer (some ⟨w1.heap.size - 1,0,none⟩)])]) (cells:=#[.func (.func R.f_FCI1) #[] #[.pointer (some ⟨w1.heap.size - 1,0,none⟩)]]) rfl
 rw[s1,Nat.add_sub_cancel] at hbl
 simp +decide only [bK,bE,BEq.rfl,Nat.reduceAdd,a1,zmg,zhs,zre,List.map_toArray,List.map_cons,List.map_nil,hbl,hfo.run_mkIface (fun ms h=>by cases h)]
 refine hK _ _ (zb fun σ2 hσ=>zaa fun K2 hK2=>zbb ⟨.inr rfl,_,rfl,w.heap.size,?_,Nat.le_refl _,by omega,r1 0 _ rfl,m1⟩)
 have g:=hσ 2
 simp +decide only [bE,BEq.rfl,Nat.reduceAdd] at g
 exact g
end
section
variable {P:Program} {N:Nums} {A:zdk} {R:zra}
def lastP (l:List Value):Value:=l.getLast?.getD (.pointer none)
structure NF (w0:World) (b:Nat) (v3:Value) (l:List Value) (j:Nat) (σ:Env) (w:World):Prop where
 f2:σ 2=.pointer (some ⟨b,0,none⟩)
 f3:σ 3=v3
 f4:σ 4=.int .i64 l.length
 f5:σ 5=.int .i64 j
 le:j≤l.length
 cl:w.cell? ⟨b,0,none⟩=some (lastP (l.take j))
 md:Mod w0 w zy
 th:w.there b 0 1
 lo:w0.heap.size≤b
 hi:b < w.heap.size
theorem NF.agr {w0 w:World} {b:Nat} {v3:Value} {l:List Value} {j:Nat} {σ σ':Env} (h:NF w0 b v3 l j σ w) (e:∀ i,2≤i→i≤5→σ' i=σ i):NF w0 b v3 l j σ' w:=
 ⟨by rw[e 2 (by omega) (by omega)]; exact h.f2,by rw[e 3 (by omega) (by omega)]; exact h.f3,by rw[e 4 (by omega) (by omega)]; exact h.f4,by rw[e 5 (by omega) (by omega)]; exact h.f5,h.le,h.cl,h.md,h.th,h.lo,h.hi⟩
theorem lastP_take {l:List Value} {j:Nat} (hj:j < l.length):lastP (l.take (j+1))=l[j]:=by
 rw[lastP,List.take_succ_eq_append_getElem hj,List.getLast?_append]; rfl
theorem call_NRF (B:Base P N) (hR:FrT P N A R) {w:World} {ad:Option Addr} {c:Nat} {l:List Value} (hl:l.length < 4611686018427387904)
  (h1:∀ j p,l[j]?=some p→p.oneCell'=true∧∃ b o,ad=some ⟨b,o,none⟩∧b < w.heap.size∧w.cell? ⟨b,o+j,none⟩=some (optV R p)) :
  Call P R.f_NRF #[.slice ad l.length c] w fun v w'=>∃ b,v=.pointer (some ⟨b,0,none⟩)∧w.heap.size≤b∧b < w'.heap.size∧w'.cell? ⟨b,0,none⟩=some (lastP l)∧Mod w w' zy:=by
 refine hR.NRF.call rfl fun loc N' hlo=>?_
 unfold c_NRF
 obtain⟨fs,hrf,_⟩:=hR.rf.out
 obtain⟨ms,hopt⟩:=hR.opt
 refine zfp (by simp) ?_
 refine zaa fun K hK=>zao (hK _ _ ?_)
 clear hK K
 obtain⟨σ,hσ⟩:∃ σ,σ=upd (zdf #[.slice ad l.length c]) 1 (.pointer none):=⟨_,rfl⟩
 have f0:σ 0=.slice ad l.length c:=by rw[hσ,zg (by decide)]; rfl
 rw[← hσ]
 clear hσ
 obtain⟨w1,hw1⟩:∃ w1,w1=w.alloc (.cells (Value.cells (.agg [Value.pointer none].toArray)) R.t_RF):=⟨_,rfl⟩
 have m1:Mod w w1 zy:=by rw[hw1]; exact Mod.alloc _ _ _
 have r1:w1.rangeAt w.heap.size 0 [.pointer none]:=by rw[hw1]; exact zr w _ _ _
 have t1:w1.there w.heap.size 0 1:=by rw[hw1]; exact zbq w [Value.pointer none].toArray R.t_RF
 have s1:w1.heap.size=w.heap.size+1:=by rw[hw1]; exact zav _ _
 have hal:=hrf.run_alloc (w:=w) (.tuple #[])
 rw[← hw1] at hal
 refine zaa fun K hK=>zi fun τ=>?_
 simp +decide only [bK,bE,BEq.rfl,hal]
 refine hK _ _ (zb fun σ1 hσ=>?_)
 have a0:=hσ 0
 have a2:=hσ 2
 simp +decide only [bE,Nat.reduceBeqDiff,BEq.rfl,Nat.reduceAdd,Nat.zero_add,f0] at a0 a2
 clear hσ hK K hal hw1
 refine zaa fun K hK=>zd fun K1 hK1=>zi fun τ=>?_
 simp +decide only [bK,bE,BEq.rfl,Nat.reduceAdd,Nat.zero_add,a0,hR.lopt.run_len]
 refine hK1 _ _ (zb fun σ2 hσ=>?_)
 have b2:=hσ 2
 have b3:=hσ 3
 have b4:=hσ 4
 have b5:=hσ 5
 simp +decide only [bE,Nat.reduceBeqDiff,BEq.rfl,Nat.reduceAdd,a2] at b2 b3 b4 b5
 clear hσ hK1 K1 a0 a2
 refine ztg (i:=5) (l:=4) (c:=6) (k:=0) hlo hl (NF w w.heap.size (.slice ad l.length c) l) (fun j σ w h=>⟨h.f5,h.f4,h.le⟩) (fun j σ w b h=>h.agr fun i h1 h2=>zg (by omega)) ⟨b2,b3,b4,b5,Nat.zero_le _,r1 0 _ rfl,m1,t1,Nat.le_refl _,by omega⟩ (fun σ' w' h=>hK _ _ ?_) (fun j σ' w' hj h=>?_)
 ·refine zaa fun K hK=>zi fun τ=>?_
  simp +decide only [bK,bE,BEq.rfl,Nat.reduceAdd,h.f2]
  refine hK _ _ (zb fun σ3 hσ=>zaa fun K2 hK2=>zbb ⟨.inr rfl,_,rfl,w.heap.size,?_,Nat.le_refl _,h.hi,?_,h.md⟩)
  ·have g:=hσ 1
   simp +decide only [bE,BEq.rfl,Nat.reduceAdd] at g
   exact g
  ·have g:=h.cl
   rwa [List.take_length] at g
 ·have hx:l[j]?=some l[j]:=List.getElem?_eq_getElem hj
  obtain⟨h2,b,o,rfl,h3,h4⟩:=h1 j _ hx
  have hc:w'.cell? ⟨b,o+j,none⟩=some (optV R l[j]):=by rw[h.md.cell _ _ h3 fun h=>h]; exact h4
  refine zd fun K2 hK2=>zi fun τ=>?_
  simp +decide only [bK,bE,BEq.rfl,Nat.reduceAdd,Nat.mul_one,h.f3,h.f5,zcb hR.lopt hopt hj,hopt.run_load1 rfl,hc]
  refine hK2 _ _ (zb fun σ3 hσ=>?_)
  have p2:=hσ 2
  have p3:=hσ 3
  have p4:=hσ 4
  have p5:=hσ 5
  have p7:=hσ 7
  simp +decide only [bE,Nat.reduceBeqDiff,BEq.rfl,Nat.reduceAdd,h.f2,h.f3,h.f4,h.f5] at p2 p3 p4 p5 p7
  clear hσ hK2 K2
  refine zi fun τ=>?_
  simp +decide only [bK,bE,Nat.reduceBeqDiff,Nat.reduceAdd,p2,p7]
  rw[zza hR.iapply rfl]
  simp +decide only [bK,bE,Nat.reduceBeqDiff,BEq.rfl]
  refine(call_apply hR h2 h.th h.hi h.cl).mono ?_
  rintro _ w2 ⟨m2,c2⟩
  refine⟨p5,?_⟩
  refine zb (K:=fun σ' w'=>NF w w.heap.size (.slice (some ⟨b,o,none⟩) l.length c) l (j+1) (upd σ' 5 (.int .i64 ((j+1:Nat):Int))) w') fun σ4 hσ=>?_
  have q2:=hσ 2
  have q3:=hσ 3
  have q4:=hσ 4
  have q5:=hσ 5
  simp +decide only [bE,Nat.reduceBeqDiff,Nat.reduceAdd,p2,p3,p4,p5] at q2 q3 q4 q5
  have s2:=m2.size
  have hlo':=h.lo
  have hhi:=h.hi
  refine⟨by rw[zg (by decide)]; exact q2,by rw[zg (by decide)]; exact q3,by rw[zg (by decide)]; exact q4,upd_same _ _ _,hj,?_,h.md.fresh m2 fun k o e=>by rw[e.1]; exact hlo',m2.there hhi h.th,hlo',by omega⟩
  rw[lastP_take hj]; exact c2
end
section
variable {P:Program} {N:Nums} {A:zdk} {R:zra}
theorem run_over (B:Base P N) {w:World} {lo b L c:Nat} {x0 rest s:List UInt8} {ty:TypeId} (ho:OwnB w lo (.slice (some ⟨b,0,none⟩) L c) (x0++rest)) (hx:x0.length=s.length) :
  ∃ w',(Builtin.append_ #[N.za,N.za] ty #[.slice (some ⟨b,0,none⟩) 0 c,.slice (some ⟨w.heap.size,0,none⟩) s.length s.length]).run P (w.alloc (.cells (s.map zz).toArray N.zh))=.ok (.slice (some ⟨b,0,none⟩) s.length c) w' ∧
   OwnB w' lo (.slice (some ⟨b,0,none⟩) L c) (s++rest)∧Mod w w' (fun k _=>k=b):=by
 obtain⟨w1,hw1⟩:∃ w1,w1=w.alloc (.cells (s.map zz).toArray N.zh):=⟨_,rfl⟩
 have m1:Mod w w1 zy:=by rw[hw1]; exact Mod.alloc _ _ _
 have s1:w1.heap.size=w.heap.size+1:=by rw[hw1]; exact zav _ _
 have r1:w1.rangeAt w.heap.size 0 (s.map zz):=by rw[hw1]; exact zr w (s.map zz).toArray N.zh (0,0)
 rw[← hw1]
 have ho1:OwnB w1 lo (.slice (some ⟨b,0,none⟩) L c) (x0++rest):=Own.stay m1 (fun _ _ _ h=>h) ho
 rcases ho1 with⟨hv,_⟩ | ⟨b',c',hv,hb1,hb2,hnc,hth,hrg,hcl⟩
 ·cases hv
 ·injection hv with e1 e2 e3
  injection e1 with e1
  injection e1 with e1 _ _
  subst e1 e2 e3
  obtain⟨i,hi,hsz,_,_⟩:=B.uint8.info
  have hsrc:Src P i.size N.za (.slice (some ⟨w.heap.size,0,none⟩) s.length s.length) s.length (s.map zz) w1:=
   Src.ofSlice w1 B.Lu8.und ⟨w.heap.size,0,none⟩ s.length s.length (s.map zz) (by simp [hsz]) (fun j u hj=>by rw[Addr.add_mid]; exact r1 j u hj) (zot s)
  have hl:(x0++rest).length=s.length+rest.length:=by rw[List.length_append,hx]
  have hlt:∀ j,j < (s.map zz).length→j < c * 1:=fun j hj=>by rw[List.length_map] at hj; omega
  have hrun:=run_append_room_src (P:=P) (ty:=ty) w1 N.za N.za N.zh i B.Lu8.und hi b 0 0 c _ s.length (s.map zz) hsrc (by omega)
   (fun j hj=>by have:=(hth j (hlt j hj)).1; simpa using this) (fun j hj=>by have:=(hth j (hlt j hj)).2; simpa using this)
  rw[Nat.zero_add,show 0+0 * i.size=0 by omega] at hrun
  have ms:Mod w1 (w1.setCells b 0 (s.map zz)) (rng b 0 (s.map zz).length):=Mod.setCells _ _ _ fun _ k h1 h2=>⟨rfl,h1,h2⟩
  have hset:=zax (b:=b) (s.map zz) 0 w1 _ hrg (by simp; omega)
  refine⟨_,hrun,.inr ⟨b,c,by rw[hl,List.length_append],hb1,Nat.lt_of_lt_of_le hb2 ms.size,by rw[List.length_append]; omega,ms.there hb2 hth,?_,by simp⟩,(m1.mono fun _ _ _ h=>h.elim).trans ms fun k o _ h=>h.elim id fun h=>h.1⟩
  have e:s.map zz++((x0++rest).map zz).drop (s.map zz).length=(s++rest).map zz:=by
   rw[List.length_map,← hx,List.map_append,List.map_append,show x0.length=(x0.map zz).length by simp,List.drop_left]
  rwa [e] at hset
def InF (P:Program) (f:FuncId) (x:Value) (s:List UInt8):Prop:=∀ {w:World} {lo b L c:Nat} {x0 rest:List UInt8},OwnB w lo (.slice (some ⟨b,0,none⟩) L c) (x0++rest)→x0.length=s.length→
 Call P f #[.slice (some ⟨b,0,none⟩) 0 c,x] w fun _ w'=>OwnB w' lo (.slice (some ⟨b,0,none⟩) L c) (s++rest)∧Mod w w' (fun k _=>k=b)
theorem in_Uint32 (B:Base P N) (h:FOk P A.zbw 2 (zch N A) [.var 2]) (n:Int):InF P A.zbw (.int .u32 n) (fixB n 4):=by
 intro w lo b L c x0 rest ho hx
 refine h.call rfl fun loc N' hlo'=>?_
 unfold zch
 refine zd fun K hK=>zi fun τ=>?_
 simp +decide only [bK,Nat.reduceAdd]
 refine hK _ _ (zb fun σ1 hσ=>?_)
 have a0:=hσ 0
 have a1:=hσ 1
 simp +decide only [bE,Nat.reduceBeqDiff,Nat.reduceAdd,Nat.zero_add,zcx,zck] at a0 a1
 clear hσ hK K
 have e6:∀ ρ:Env,(#[(0,T 3),(1,T 6),(2,T 9),(3,T 11)]:Array (Nat × Operand)).map (fun p=>(p.1,ev ρ p.2))=#[(0,ρ 3),(1,ρ 6),(2,ρ 9),(3,ρ 11)]:=fun ρ=>by simp
 rw[← fixB4] at hx ⊢
 obtain⟨w',h1,h2,h3⟩:=run_over (ty:=N.za) (s:=[u8of (n.fdiv (2 ^ min 24 IntKind.u32.bits)),u8of (n.fdiv (2 ^ min 16 IntKind.u32.bits)),u8of (n.fdiv (2 ^ min 8 IntKind.u32.bits)),u8of n]) B ho hx
 have h1:(Builtin.append_ #[N.za,N.za] N.za #[.slice (some ⟨b,0,none⟩) 0 c,.slice (some ⟨w.heap.size,0,none⟩) 4 4]).run P (w.alloc (.cells ([u8of (n.fdiv (2 ^ min 24 IntKind.u32.bits)),u8of (n.fdiv (2 ^ min 16 IntKind.u32.bits)),u8of (n.fdiv (2 ^ min 8 IntKind.u32.bits)),u8of n].map zz).toArray N.zh))=.ok (.slice (some ⟨b,0,none⟩) 4 c) w':=h1
 refine zd fun K hK=>zi fun τ=>?_
 simp +decide only [bK,bE,Nat.reduceBeqDiff,BEq.rfl,Nat.reduceAdd,Int.reduceToNat,Nat.zero_add,a0,a1,e6,zdy (show (0:Int)≤24 by decide),zdy (show (0:Int)≤16 by decide),zdy (show (0:Int)≤8 by decide),zat B.uint32 B.uint8 ⟨_,rfl⟩,zqu,zta B,h1]
 exact hK _ _ (zb fun σ2 hσ=>zbb ⟨.inr rfl,_,rfl,h2,h3⟩)
theorem in_Int32 (B:Base P N) (hU:FOk P A.zbw 2 (zch N A) [.var 2]) (h:FOk P A.zas 2 (zdc N A) [.var 2]) (n:Int):InF P A.zas (.int .i32 n) (fixB n 4):=by
 intro w lo b L c x0 rest ho hx
 refine h.call rfl fun loc N' hlo'=>?_
 unfold zdc
 refine zd fun K hK=>zi fun τ=>?_
 simp +decide only [bK,Nat.reduceAdd]
 refine hK _ _ (zb fun σ1 hσ=>?_)
 have a0:=hσ 0
 have a1:=hσ 1
 simp +decide only [bE,Nat.reduceBeqDiff,Nat.reduceAdd,Nat.zero_add,zcx,zck] at a0 a1
 clear hσ hK K
 refine zd fun K hK=>zi fun τ=>?_
 simp +decide only [bK,bE,Nat.reduceBeqDiff,BEq.rfl,Nat.reduceAdd,Nat.zero_add,a0,a1,zat B.int32 B.uint32 ⟨_,rfl⟩]
 rw[zah hU.has]
 simp +decide only [bK,bE,Nat.reduceBeqDiff,BEq.rfl]
 refine(in_Uint32 B hU (IntKind.u32.wrap n) ho (by rw[zaw] at hx ⊢; exact hx)).mono ?_
 rw[zia (k:=4) rfl]
 intro v' w' h2
 exact hK _ _ (zb fun σ2 hσ=>zbb ⟨.inr rfl,_,rfl,h2⟩)
theorem call_key {f:FuncId} {k:Int} (h:FOk P f 1 (c_key k) [.var 1]) (v:Value) (w:World):Call P f #[v] w fun r w'=>r=.int .i16 k∧w=w':=by
 refine h.call rfl fun loc N' hlo=>?_
 unfold c_key
 refine zfp (by simp) ?_
 refine zaa fun K hK=>zao (hK _ _ ?_)
 clear hK K
 refine zaa fun K hK=>zao (hK _ _ ?_)
 exact zaa fun K2 hK2=>zbb ⟨.inr rfl,_,rfl,upd_same _ _ _,rfl⟩
theorem call_getV (B:Base P N) {f:FuncId} {tT:TypeId} (h:FOk P f 1 (c_getV N tT) [.var 1]) (h0:HF P tT 0 0) {w:World} {b:Nat} {ver:Int} (hc:w.cell? ⟨b,0,none⟩=some (.int .i16 ver)) :
  Call P f #[.pointer (some ⟨b,0,none⟩)] w fun r w'=>r=.int .i16 ver∧w=w':=by
 refine h.call rfl fun loc N' hlo=>?_
 unfold c_getV
 refine zfp (by simp) ?_
 refine zaa fun K hK=>zao (hK _ _ ?_)
 clear hK K
 obtain⟨σ,hσ⟩:∃ σ,σ=upd (zdf #[.pointer (some ⟨b,0,none⟩)]) 1 (.int .i16 0):=⟨_,rfl⟩
 have f0:σ 0=.pointer (some ⟨b,0,none⟩):=by rw[hσ,zg (by decide)]; rfl
 rw[← hσ]
 clear hσ
 refine zaa fun K hK=>zi fun τ=>?_
 simp +decide only [bK,bE,BEq.rfl,Nat.zero_add,f0]
 rw[zw (a:=⟨b,0,none⟩) (by simp +decide only [bE,BEq.rfl,ev_tmp])]
 simp +decide only [bK,bE,BEq.rfl,Nat.add_zero,h0.run,B.int16.run_load1 rfl,hc]
 refine hK _ _ (zb fun σ1 hσ=>zaa fun K2 hK2=>zbb ⟨.inr rfl,_,rfl,?_,rfl⟩)
 have g:=hσ 1
 simp +decide only [bE,BEq.rfl,Nat.reduceAdd] at g
 exact g
theorem call_flx (B:Base P N) {f:FuncId} {tT:TypeId} {fl:Int} (h:FOk P f 1 (c_flx N tT fl) [.var 1]) (h0:HF P tT 0 0) {w:World} {b:Nat} {ver:Int} (hc:w.cell? ⟨b,0,none⟩=some (.int .i16 ver)) :
  Call P f #[.pointer (some ⟨b,0,none⟩)] w fun r w'=>r=.bool (decide (ver ≥ fl))∧w=w':=by
 refine h.call rfl fun loc N' hlo=>?_
 unfold c_flx
 refine zfp (by simp) ?_
 refine zaa fun K hK=>zao (hK _ _ ?_)
 clear hK K
 obtain⟨σ,hσ⟩:∃ σ,σ=upd (zdf #[.pointer (some ⟨b,0,none⟩)]) 1 (.bool false):=⟨_,rfl⟩
 have f0:σ 0=.pointer (some ⟨b,0,none⟩):=by rw[hσ,zg (by decide)]; rfl
 rw[← hσ]
 clear hσ
 refine zaa fun K hK=>zi fun τ=>?_
 simp +decide only [bK,bE,BEq.rfl,Nat.zero_add,f0]
 rw[zw (a:=⟨b,0,none⟩) (by simp +decide only [bE,BEq.rfl,ev_tmp])]
 simp +decide only [bK,bE,BEq.rfl,Nat.add_zero,h0.run,B.int16.run_load1 rfl,hc]
 refine hK _ _ (zb fun σ1 hσ=>zaa fun K2 hK2=>zbb ⟨.inr rfl,_,rfl,?_,rfl⟩)
 have g:=hσ 1
 simp +decide only [bE,BEq.rfl,Nat.reduceAdd] at g
 exact g
end
structure FrM (P:Program) (N:Nums) (m:Msg) (tP:TypeId) (key:Int) (app:FuncId):Prop where
 iK:∃ f,Inv0 P "Key" tP f∧FOk P f 1 (c_key key) [.var 1]
 iV:∃ f,Inv0 P "GetVersion" tP f∧FOk P f 1 (c_getV N m.tT) [.var 1]
 iF:∃ f,Inv0 P "IsFlexible" tP f∧FOk P f 1 (c_flx N m.tT m.fl) [.var 1]
 iA:Inv1 P "AppendTo" tP app
 k7:(key == 7)=false
 kw:IntKind.i64.wrap key=key
 tp:∃ d sz by' z,TI P tP d sz by' z∧∀ ms,d≠.interface ms
def zgl (key ver corr:Int) (o:Option (List UInt8)) (fl:Bool):List UInt8:=fixB key 2++(fixB ver 2++(fixB corr 4++(Txt.wr false .nstr (.nstr o)++if fl then [0] else [])))
section
variable {P:Program} {N:Nums} {A:zdk} {R:zra}
structure AR (w0:World) (vf vr vc:Value) (key ver:Int) (d:Value) (l:List UInt8) (σ:Env) (w:World):Prop where
 f0:σ 0=vf
 f1:σ 1=d
 f2:σ 2=vr
 f3:σ 3=vc
 f5:σ 5=.int .i16 key
 f6:σ 6=.int .i16 ver
 own:OwnB w w0.heap.size d l
 md:Mod w0 w zy
theorem exec_len {ρ:Env} {d:Option Nat} {ty:TypeId} {x:Operand} {ts:Array TypeId} {g:Option (Option Nat × Bool)} {af:List Nat} {w:World} {v:Value} (h:(Builtin.len_ ts ty #[ev ρ x]).run P w=.ok v w):(exec ρ ⟨d,.call ⟨.builtin .len,#[x],ts⟩,ty,g,af⟩).run P w=.ok (.value v) w:=by
 simp [exec,execOp,resolve,invoke,builtin,h]
theorem W_apV {f t src:Nat} {x:Value} {s:List UInt8} {loc:List Nat} {N':Nat} {Q:Exit→Env→World→Prop} {w0 w:World} {vf vr vc:Value} {key ver:Int} {d:Value} {l:List UInt8} {σ:Env} (hf:zcp P f) (h:AR w0 vf vr vc key ver d l σ w) (hq:σ src=x)
  (hc:ApF P f x s) (hlen:l.length+s.length < 1099511627776) (hQ:∀ σ' w' d',AR w0 vf vr vc key ver d' (l++s) σ' w'→Q .normal σ' w'):W P loc N' (cApV N f t src) Q σ w:=by
 unfold cApV
 subst hq
 have h1:=h.f1
 refine zi fun τ=>?_
 simp +decide (disch:=omega) only [bK,bE,Nat.reduceBeqDiff,Nat.reduceAdd,h1]
 rw[zah hf]
 simp +decide (disch:=omega) only [bK,bE,Nat.reduceBeqDiff,BEq.rfl]
 refine(hc h.own h.md.size hlen).mono ?_
 intro d' w' ha
 refine zb (K:=fun σ' w'=>Q .normal σ' w') fun σ' hσ=>?_
 have a0:=hσ 0
 have a1:=hσ 1
 have a2:=hσ 2
 have a3:=hσ 3
 have a5:=hσ 5
 have a6:=hσ 6
 simp +decide only [bE,Nat.reduceBeqDiff,BEq.rfl,Nat.reduceAdd,Nat.zero_add,h.f0,h.f2,h.f3,h.f5,h.f6] at a0 a1 a2 a3 a5 a6
 exact hQ _ _ d' ⟨a0,a1,a2,a3,a5,a6,ha.own,Mod.ofOwn h.own h.md ha.mod⟩
theorem W_lenAt (B:Base P N) (hU:FOk P A.zbw 2 (zch N A) [.var 2]) (hI:FOk P A.zas 2 (zdc N A) [.var 2]) {loc:List Nat} {N':Nat} {Q:Exit→Env→World→Prop} {w0 w:World} {d:Value} {x0 l:List UInt8} {σ:Env}
  (h1:σ 1=d) (ho:OwnB w w0.heap.size d (x0++l)) (md:Mod w0 w zy) (hx:x0.length=4)
  (hQ:∀ (σ':Env) w',σ' 1=d→OwnB w' w0.heap.size d (fixB l.length 4++l)→Mod w0 w' zy→Q .normal σ' w'):W P loc N' (.draw (dLenAt N A)) Q σ w:=by
 have hd:∃ b c,d=.slice (some ⟨b,0,none⟩) (x0++l).length c∧w0.heap.size≤b∧(x0++l).length≤c:=by
  rcases ho with⟨_,hn,_⟩ | ⟨b,c,e,h2,_,h3,_⟩
  ·rw[List.length_append] at hn; omega
  ·exact⟨b,c,e,h2,h3⟩
 obtain⟨b,c,rfl,hb,hc⟩:=hd
 have hll:(x0++l).length=4+l.length:=by rw[List.length_append,hx]
 have mdd:Mod w0 w.drew zy:=md.trans' (Mod.drew _ _)
 refine zve B.mixed [true,true,true,true,true,true,false] (by kernel_rfl) (fun w'=>w'=w.drew) rfl fun τ=>?_
 unfold dLenAt
 refine zar (.slice (some ⟨b,0,none⟩) (x0++l).length c) (fun w' hw=>by
  rw[zdb,ev_tmp]
  simp +decide only [bE,Nat.reduceAdd,h1]) rfl ?_
 refine zar (.slice (some ⟨b,0,none⟩) 0 c) (fun w' hw=>zdv (by
  simp +decide only [bE,BEq.rfl,ev_tmp,ev_const,Option.map_some,Option.map_none]
  exact zhj (h:=0) B.Lu8 B.uint8 (Nat.zero_le _))) rfl ?_
 refine zar (.slice (some ⟨b,0,none⟩) (x0++l).length c) (fun w' hw=>by
  rw[zdb,ev_tmp]
  simp +decide only [bE,Nat.reduceBeqDiff,Nat.reduceAdd,h1]) rfl ?_
 refine zar (.slice (if c=4 then some ⟨b,0,none⟩ else (some (⟨b,0,none⟩:Addr)).map (·.add (4 * 1))) ((x0++l).length - 4) (c - 4)) (fun w' hw=>zdv (by
  simp +decide only [bE,BEq.rfl,ev_tmp,ev_const,Option.map_some,Option.map_none]
  exact zne (l:=4) B.Lu8 B.uint8 (by omega))) rfl ?_
 refine zar (.int .i64 ((x0++l).length - 4:Nat)) (fun w' hw=>exec_len (by
  simp +decide only [bE,BEq.rfl,ev_tmp]
  exact B.Lu8.run_len)) rfl ?_
 refine zar (.int .i32 (IntKind.i32.wrap ((x0++l).length - 4:Nat))) (fun w' hw=>zdv (by
  simp +decide only [bE,BEq.rfl,ev_tmp]
  exact zat B.int B.int32 ⟨_,rfl⟩)) rfl ?_
 simp only [zfv,zgv,List.zip_cons_cons,List.zip_nil_right,List.zipWith_cons_cons,List.zipWith_nil_right,List.filter,Bool.not_true,Bool.not_false,List.map,zid]
 rw[zah hI.has]
 simp +decide only [bK,bE,Nat.reduceBeqDiff,BEq.rfl,Nat.mul_one,Option.map_some]
 refine(in_Int32 B hU hI _ (x0:=x0) (Own.stay (Mod.drew _ _) (fun _ _ _ h=>h) ho) (by rw[zaw]; exact hx)).mono ?_
 rintro _ w2 ⟨ho2,m2⟩
 rw[zia (k:=4) rfl,show (x0++l).length - 4=l.length by omega] at ho2
 refine zb fun σ' hσ=>hQ σ' _ ?_ ho2 (mdd.fresh m2 fun k o e=>by rw[e]; exact hb)
 have g:=hσ 1
 simp +decide only [bE,Nat.reduceBeqDiff,Nat.reduceAdd,h1] at g
 exact g
end
section
variable {P:Program} {N:Nums} {A:zdk} {R:zra}
theorem call_AR (B:Base P N) (F:Fns P N) (C:ApC P N A) (hR:FrT P N A R) (hU:FOk P A.zbw 2 (zch N A) [.var 2]) (hI:FOk P A.zas 2 (zdc N A) [.var 2]) (h16:A.zce≠0) (h32:A.zas≠0) (hNS:A.zbn≠0)
  {m:Msg} {tP:TypeId} {key:Int} {app:FuncId} (hM':FrM P N m tP key app) (ha:m.fs.aok P N A) (hhf:m.fs.hf P m.tT 1 1) (hv0:HF P m.tT 0 0) (happ:FOk P app 2 (m.appC N A) [.var 2])
  {w:World} {G:Nat→Prop} {bf M:Nat} {pc:Value} {o:Option (List UInt8)} {corr ver:Int} {vs:List Val} {css:List (List Value)} (hcf:w.cell? ⟨bf,0,none⟩=some pc) (hpc:Rep w G (.nstr o) [pc]) (ho1:(o.getD []).length < big) (ho2:Val.sm (.nstr o))
  (hver:0≤ver) (hvw:IntKind.i64.wrap ver=ver) (hcw:IntKind.i64.wrap corr=corr) (hc:w.cell? ⟨M,0,none⟩=some (.int .i16 ver)) (hv:m.fs.okV vs) (hsm:smL vs) (hrep:RepL w G vs css) (hr:w.rangeAt M 1 css.flatten)
  (hG:∀ k,G k→k < w.heap.size) (hlen:4+(zgl key ver corr o (decide (ver ≥ m.fl))).length+(m.fs.wr ver (decide (ver ≥ m.fl)) vs).length < 1099511627776) :
  Call P R.f_AR #[.pointer (some ⟨bf,0,none⟩),.slice none 0 0,.iface tP (.pointer (some ⟨M,0,none⟩)),.int .i32 corr] w fun v w'=>
   OwnB w' w.heap.size v (fixB (zgl key ver corr o (decide (ver ≥ m.fl))++m.fs.wr ver (decide (ver ≥ m.fl)) vs).length 4++(zgl key ver corr o (decide (ver ≥ m.fl))++m.fs.wr ver (decide (ver ≥ m.fl)) vs))∧Mod w w' zy:=by
 obtain⟨fK,iK,qK⟩:=hM'.iK
 obtain⟨fV,iV,qV⟩:=hM'.iV
 obtain⟨fF,iF,qF⟩:=hM'.iF
 have hMl:M < w.heap.size:=zde (by rw[hc]; rfl)
 have hbf:bf < w.heap.size:=zde (by rw[hcf]; rfl)
 obtain⟨i1,i2⟩:=C.pr .i16 h16
 obtain⟨j1,j2⟩:=C.pr .i32 h32
 obtain⟨s1,s2⟩:=C.txt .nstr false hNS
 have s1:zcp P A.zbn:=s1
 obtain⟨body,hbody⟩:∃ b,b=m.fs.wr ver (decide (ver ≥ m.fl)) vs:=⟨_,rfl⟩
 have hhl:(zgl key ver corr o (decide (ver ≥ m.fl))).length=8+(Txt.wr false .nstr (.nstr o)).length+(if decide (ver ≥ m.fl) then [(0:UInt8)] else []).length:=by
  simp only [zgl,List.length_append,zaw]; omega
 rw[← hbody] at hlen ⊢
 refine hR.AR.call rfl fun loc N' hlo=>?_
 unfold c_AR
 refine zfp (by simp) ?_
 refine zaa fun K hK=>zao (hK _ _ ?_)
 clear hK K
 obtain⟨σ,hσ⟩:∃ σ,σ=upd (zdf #[.pointer (some ⟨bf,0,none⟩),.slice none 0 0,.iface tP (.pointer (some ⟨M,0,none⟩)),.int .i32 corr]) 4 (.slice none 0 0):=⟨_,rfl⟩
 have f0:σ 0=.pointer (some ⟨bf,0,none⟩):=by rw[hσ,zg (by decide)]; rfl
 have f1:σ 1=.slice none 0 0:=by rw[hσ,zg (by decide)]; rfl
 have f2:σ 2=.iface tP (.pointer (some ⟨M,0,none⟩)):=by rw[hσ,zg (by decide)]; rfl
 have f3:σ 3=.int .i32 corr:=by rw[hσ,zg (by decide)]; rfl
 rw[← hσ]
 clear hσ
 obtain⟨va,wa,ra,pa⟩:=zhv (P:=P) (ty:=N.za) (w:=w) (lo:=w.heap.size) (v:=.slice none 0 0) (l:=[]) (s:=[0,0,0,0]) B zmk (Nat.le_refl _) (by decide)
 have ra:(Builtin.append_ #[N.za,N.za] N.za #[.slice none 0 0,.slice (some ⟨w.heap.size,0,none⟩) 4 4]).run P (w.alloc (.cells (([0,0,0,0]:List UInt8).map zz).toArray N.zh))=.ok va wa:=ra
 have e4:∀ ρ:Env,(#[(0,.const (.int .u8 0)),(1,.const (.int .u8 0)),(2,.const (.int .u8 0)),(3,.const (.int .u8 0))]:Array (Nat × Operand)).map (fun p=>(p.1,ev ρ p.2))=#[(0,zz 0),(1,zz 0),(2,zz 0),(3,zz 0)]:=fun ρ=>by simp [zz]
 refine zaa fun K hK=>zi fun τ=>?_
 simp +decide only [bK,bE,Nat.reduceBeqDiff,BEq.rfl,Nat.reduceAdd,f1,e4,zta B,ra]
 refine hK _ _ (zb fun σ1 hσ=>?_)
 have a0:=hσ 0
 have a1:=hσ 1
 have a2:=hσ 2
 have a3:=hσ 3
 simp +decide only [bE,Nat.reduceBeqDiff,BEq.rfl,Nat.reduceAdd,Nat.zero_add,f0,f2,f3] at a0 a1 a2 a3
 clear hσ hK K f0 f1 f2 f3
 have oa:OwnB wa w.heap.size va [0,0,0,0]:=pa.own
 have ma:Mod w wa zy:=Mod.ofOwn (w0:=w) (w:=w) (sz:=1) zmk (.refl _ _) pa.mod
 have hca:wa.cell? ⟨M,0,none⟩=some (.int .i16 ver):=by rw[ma.cell _ _ hMl fun h=>h]; exact hc
 refine zaa fun K hK=>zi fun τ=>?_
 simp +decide only [bK,bE,Nat.reduceAdd,a2]
 rw[ztm iK rfl]
 refine(call_key qK _ wa).mono ?_
 rintro _ _ ⟨rfl,rfl⟩
 simp +decide only [bE,BEq.rfl]
 refine hK _ _ (zb fun σ2 hσ=>?_)
 have b0:=hσ 0
 have b1:=hσ 1
 have b2:=hσ 2
 have b3:=hσ 3
 have b5:=hσ 5
 simp +decide only [bE,Nat.reduceBeqDiff,BEq.rfl,Nat.reduceAdd,Nat.zero_add,a0,a1,a2,a3] at b0 b1 b2 b3 b5
 clear hσ hK K a0 a1 a2 a3
 refine zaa fun K hK=>zi fun τ=>?_
 simp +decide only [bK,bE,Nat.reduceAdd,b2]
 rw[ztm iV rfl]
 refine(call_getV B qV hv0 hca).mono ?_
 rintro _ _ ⟨rfl,rfl⟩
 simp +decide only [bE,BEq.rfl]
 refine hK _ _ (zb fun σ3 hσ=>?_)
 have c0:=hσ 0
 have c1:=hσ 1
 have c2:=hσ 2
 have c3:=hσ 3
 have c5:=hσ 5
 have c6:=hσ 6
 simp +decide only [bE,Nat.reduceBeqDiff,BEq.rfl,Nat.reduceAdd,Nat.zero_add,b0,b1,b2,b3,b5] at c0 c1 c2 c3 c5 c6
 clear hσ hK K b0 b1 b2 b3 b5
 have H:AR w (.pointer (some ⟨bf,0,none⟩)) (.iface tP (.pointer (some ⟨M,0,none⟩))) (.int .i32 corr) key ver va [0,0,0,0] σ3 wa:=⟨c0,c1,c2,c3,c5,c6,oa,ma⟩
 clear c0 c1 c2 c3 c5 c6
 refine zaa fun K hK=>W_apV i1 H H.f5 (i2 (.int .i16 key) ⟨key,rfl,hM'.kw⟩) (by simp [PK.wr,zaw]) fun σ4 w4 d4 H4=>hK _ _ ?_
 clear hK K H
 refine zaa fun K hK=>W_apV i1 H4 H4.f6 (i2 (.int .i16 ver) ⟨ver,rfl,hvw⟩) (by simp [PK.wr,zaw]) fun σ5 w5 d5 H5=>hK _ _ ?_
 clear hK K H4
 refine zaa fun K hK=>W_apV j1 H5 H5.f3 (j2 (.int .i32 corr) ⟨corr,rfl,hcw⟩) (by simp [PK.wr,zaw]) fun σ6 w6 d6 H6=>hK _ _ ?_
 clear hK K H5
 have h5:=H6.f5
 have h6:=H6.f6
 refine zaa fun K hK=>zd fun K1 hK1=>zi fun τ=>?_
 simp +decide only [bK,bE,BEq.rfl,Nat.reduceAdd,h5,hM'.k7]
 rw[zbi (by simp +decide only [bE,BEq.rfl]; rfl)]
 rw[zbi (by simp +decide only [bE,Nat.reduceBeqDiff,BEq.rfl]; rfl)]
 simp +decide only [bK,bE,Nat.reduceBeqDiff,BEq.rfl,if_false,zca]
 refine hK1 _ _ (zb fun σ7 hσ=>?_)
 have d0:=hσ 0
 have d1:=hσ 1
 have d2:=hσ 2
 have d3:=hσ 3
 have d5':=hσ 5
 have d6':=hσ 6
 have d7:=hσ 7
 simp +decide only [bE,Nat.reduceBeqDiff,BEq.rfl,Nat.reduceAdd,Nat.zero_add,H6.f0,H6.f1,H6.f2,H6.f3,H6.f5,H6.f6] at d0 d1 d2 d3 d5' d6' d7
 clear hσ hK1 K1
 refine W_if hlo d7 ?_
 simp only [Bool.false_eq_true,if_false]
 refine zbd (hK _ _ ?_)
 clear hK K d7 h5 h6
 have H7:AR w (.pointer (some ⟨bf,0,none⟩)) (.iface tP (.pointer (some ⟨M,0,none⟩))) (.int .i32 corr) key ver d6 ([0,0,0,0]++PK.wr .i16 (.int .i16 key)++PK.wr .i16 (.int .i16 ver)++PK.wr .i32 (.int .i32 corr)) σ7 w6:=⟨d0,d1,d2,d3,d5',d6',H6.own,H6.md⟩
 clear d0 d1 d2 d3 d5' d6' H6
 have hp6:w6.cell? ⟨bf,0,none⟩=some pc:=by rw[H7.md.cell _ _ hbf fun h=>h]; exact hcf
 have hr6:Rep w6 G (.nstr o) [pc]:=Rep.mod H7.md (fun k h=>⟨hG k h,fun _ h=>h,h⟩) _ hpc
 have hl0:([0,0,0,0]++PK.wr .i16 (.int .i16 key)++PK.wr .i16 (.int .i16 ver)++PK.wr .i32 (.int .i32 corr)).length=12:=by simp [PK.wr,zaw]
 have e0:=H7.f0
 have e1:=H7.f1
 refine zaa fun K hK=>zi fun τ=>?_
 simp +decide only [bK,bE,Nat.reduceBeqDiff,BEq.rfl,Nat.reduceAdd,Nat.zero_add,e0,e1]
 rw[zw (a:=⟨bf,0,none⟩) (by simp +decide only [bE,BEq.rfl,ev_tmp])]
 simp +decide only [bK,bE,BEq.rfl,Nat.add_zero,hR.rf0.run,hR.pstr.run_load1 rfl,hp6]
 rw[zah s1]
 simp +decide only [bK,bE,Nat.reduceBeqDiff,BEq.rfl]
 refine(s2 (.nstr o) ho1 ho2 hr6 hG H7.own H7.md.size (by rw[hl0]; omega)).mono ?_
 intro d8 w8 p8
 refine hK _ _ (zb fun σ8 hσ=>?_)
 have g0:=hσ 0
 have g1:=hσ 1
 have g2:=hσ 2
 have g3:=hσ 3
 have g5:=hσ 5
 have g6:=hσ 6
 simp +decide only [bE,Nat.reduceBeqDiff,BEq.rfl,Nat.reduceAdd,Nat.zero_add,H7.f0,H7.f2,H7.f3,H7.f5,H7.f6] at g0 g1 g2 g3 g5 g6
 clear hσ hK K e0 e1
 have H8:AR w (.pointer (some ⟨bf,0,none⟩)) (.iface tP (.pointer (some ⟨M,0,none⟩))) (.int .i32 corr) key ver d8 ([0,0,0,0]++PK.wr .i16 (.int .i16 key)++PK.wr .i16 (.int .i16 ver)++PK.wr .i32 (.int .i32 corr)++Txt.wr false .nstr (.nstr o)) σ8 w8:=⟨g0,g1,g2,g3,g5,g6,p8.own,Mod.ofOwn H7.own H7.md p8.mod⟩
 clear g0 g1 g2 g3 g5 g6 H7 p8
 have hc8:w8.cell? ⟨M,0,none⟩=some (.int .i16 ver):=by rw[H8.md.cell _ _ hMl fun h=>h]; exact hc
 have e2:=H8.f2
 refine zaa fun K hK=>zd fun K1 hK1=>zi fun τ=>?_
 simp +decide only [bK,bE,Nat.reduceAdd,e2]
 rw[ztm iF rfl]
 refine(call_flx B qF hv0 hc8).mono ?_
 rintro _ _ ⟨rfl,rfl⟩
 refine hK1 _ _ (zb fun σ9 hσ=>?_)
 have g0:=hσ 0
 have g1:=hσ 1
 have g2:=hσ 2
 have g3:=hσ 3
 have g5:=hσ 5
 have g6:=hσ 6
 have g8:=hσ 8
 simp +decide only [bE,Nat.reduceBeqDiff,BEq.rfl,Nat.reduceAdd,Nat.zero_add,H8.f0,H8.f1,H8.f2,H8.f3,H8.f5,H8.f6] at g0 g1 g2 g3 g5 g6 g8
 clear hσ hK1 K1 e2
 have H9:AR w (.pointer (some ⟨bf,0,none⟩)) (.iface tP (.pointer (some ⟨M,0,none⟩))) (.int .i32 corr) key ver d8 ([0,0,0,0]++PK.wr .i16 (.int .i16 key)++PK.wr .i16 (.int .i16 ver)++PK.wr .i32 (.int .i32 corr)++Txt.wr false .nstr (.nstr o)) σ9 w8:=⟨g0,g1,g2,g3,g5,g6,H8.own,H8.md⟩
 clear g0 g1 g2 g3 g5 g6 H8
 have hl1:([0,0,0,0]++PK.wr .i16 (.int .i16 key)++PK.wr .i16 (.int .i16 ver)++PK.wr .i32 (.int .i32 corr)++Txt.wr false .nstr (.nstr o)).length=12+(Txt.wr false .nstr (.nstr o)).length:=by rw[List.length_append,hl0]
 have fin:∀ (σ':Env) (w':World) (d':Value),AR w (.pointer (some ⟨bf,0,none⟩)) (.iface tP (.pointer (some ⟨M,0,none⟩))) (.int .i32 corr) key ver d' ([0,0,0,0]++zgl key ver corr o (decide (ver ≥ m.fl))) σ' w'→K σ' w':=fun σ' w' d' h'=>by
  refine hK _ _ ?_
  clear hK K
  have hc':w'.cell? ⟨M,0,none⟩=some (.int .i16 ver):=by rw[h'.md.cell _ _ hMl fun h=>h]; exact hc
  have t1:=h'.f1
  have t2:=h'.f2
  refine zaa fun K hK=>zi fun τ=>?_
  simp +decide only [bK,bE,Nat.reduceBeqDiff,Nat.reduceAdd,t1,t2]
  rw[zza hM'.iA (t:=tP) (v:=.pointer (some ⟨M,0,none⟩)) (by simp +decide only [bE,Nat.reduceBeqDiff,BEq.rfl,ev_tmp])]
  simp +decide only [bK,bE,BEq.rfl]
  refine(zxw B F C ha hhf hv0 happ (G:=G) hver hc' hv hsm (RepL.mod h'.md (fun k h=>⟨hG k h,fun _ h=>h,h⟩) _ hrep) (zad h'.md hr) hG hMl h'.md.size h'.own (by rw[← hbody,List.length_append]; exact hlen)).mono ?_
  rintro dA wA ⟨oA,mA⟩
  rw[← hbody,List.append_assoc] at oA
  have mA':Mod w wA zy:=h'.md.fresh mA fun k o h=>h
  refine hK _ _ (zb fun σA hσ=>?_)
  have u1:=hσ 1
  simp +decide only [bE,BEq.rfl,Nat.reduceAdd] at u1
  clear hσ hK K t1 t2
  refine zaa fun K hK=>W_lenAt B hU hI u1 oA mA' rfl fun σB wB v1 oB mB=>hK _ _ ?_
  clear hK K
  refine zaa fun K hK=>zi fun τ=>?_
  simp +decide only [bK,bE,BEq.rfl,Nat.reduceAdd,v1]
  refine hK _ _ (zb fun σC hσ=>zaa fun K2 hK2=>zbb ⟨.inr rfl,_,rfl,?_,mB⟩)
  have g:=hσ 4
  simp +decide only [bE,BEq.rfl,Nat.reduceAdd] at g
  rw[g]; exact oB
 refine W_if hlo g8 ?_
 cases hfl:decide (ver ≥ m.fl) with
 | false=>
  rw[hfl] at fin
  simp only [Bool.false_eq_true,if_false]
  refine zbd (fin _ _ d8 ?_)
  have e:[0,0,0,0]++zgl key ver corr o false=[0,0,0,0]++PK.wr .i16 (.int .i16 key)++PK.wr .i16 (.int .i16 ver)++PK.wr .i32 (.int .i32 corr)++Txt.wr false .nstr (.nstr o):=by
   simp [zgl,PK.wr,List.append_assoc]
  rw[e]; exact H9
 | true=>
  rw[hfl] at fin hhl hlen
  rw[if_pos rfl,List.length_singleton] at hhl
  simp only [if_true]
  refine zd fun K1 hK1=>zao (hK1 _ _ ?_)
  clear hK1 K1
  have q1:(upd σ9 9 (.int .u8 0)) 1=d8:=by rw[zg (by decide)]; exact H9.f1
  have q9:(upd σ9 9 (.int .u8 0)) 9=.int .u8 0:=upd_same _ _ _
  have H9':AR w (.pointer (some ⟨bf,0,none⟩)) (.iface tP (.pointer (some ⟨M,0,none⟩))) (.int .i32 corr) key ver d8 ([0,0,0,0]++PK.wr .i16 (.int .i16 key)++PK.wr .i16 (.int .i16 ver)++PK.wr .i32 (.int .i32 corr)++Txt.wr false .nstr (.nstr o)) (upd σ9 9 (.int .u8 0)) w8:=
   ⟨by rw[zg (by decide)]; exact H9.f0,q1,by rw[zg (by decide)]; exact H9.f2,by rw[zg (by decide)]; exact H9.f3,by rw[zg (by decide)]; exact H9.f5,by rw[zg (by decide)]; exact H9.f6,H9.own,H9.md⟩
  generalize upd σ9 9 (.int .u8 0)=σa at q1 q9 H9'
  obtain⟨vb,wb,rb,pb⟩:=zhv (P:=P) (ty:=N.za) (s:=[0]) B H9'.own H9'.md.size (by rw[hl1,List.length_singleton]; omega)
  have rb:(Builtin.append_ #[N.za,N.za] N.za #[d8,.slice (some ⟨w8.heap.size,0,none⟩) 1 1]).run P (w8.alloc (.cells (([0]:List UInt8).map zz).toArray N.zh))=.ok vb wb:=rb
  have e1:∀ ρ:Env,(#[(0,T 1)]:Array (Nat × Operand)).map (fun p=>(p.1,ev ρ p.2))=#[(0,ρ 1)]:=fun ρ=>by simp
  have eb:(Instr.buildSlice N.za 1 #[(0,.int .u8 0)]).run P w8=.ok (.slice (some ⟨w8.heap.size,0,none⟩) 1 1) (w8.alloc (.cells ([(0:UInt8)].map zz).toArray N.zh)):=zqi (a:=0) B
  refine zd fun K1 hK1=>zi fun τ=>?_
  simp +decide only [bK,bE,Nat.reduceBeqDiff,BEq.rfl,Nat.reduceAdd,q1,q9,e1,eb,rb]
  refine hK1 _ _ (zb fun σb hσ=>?_)
  have g0:=hσ 0
  have g1:=hσ 1
  have g2:=hσ 2
  have g3:=hσ 3
  have g5:=hσ 5
  have g6:=hσ 6
  have g9:=hσ 9
  simp +decide only [bE,Nat.reduceBeqDiff,BEq.rfl,Nat.reduceAdd,Nat.zero_add,H9'.f0,H9'.f2,H9'.f3,H9'.f5,H9'.f6,q9] at g0 g1 g2 g3 g5 g6 g9
  clear hσ hK1 K1
  have e:[0,0,0,0]++zgl key ver corr o true=[0,0,0,0]++PK.wr .i16 (.int .i16 key)++PK.wr .i16 (.int .i16 ver)++PK.wr .i32 (.int .i32 corr)++Txt.wr false .nstr (.nstr o)++[0]:=by
   simp [zgl,PK.wr,List.append_assoc]
  have mb:Mod w wb zy:=Mod.ofOwn H9'.own H9'.md pb.mod
  refine zd fun K1 hK1=>zi fun τ=>?_
  simp +decide only [bK,bE,BEq.rfl,Nat.reduceAdd,g9]
  refine hK1 _ _ (zb fun σc hσ=>?_)
  have k0:=hσ 0
  have k1:=hσ 1
  have k2:=hσ 2
  have k3:=hσ 3
  have k5:=hσ 5
  have k6:=hσ 6
  have k10:=hσ 10
  simp +decide only [bE,Nat.reduceBeqDiff,BEq.rfl,Nat.reduceAdd,Nat.zero_add,g0,g1,g2,g3,g5,g6] at k0 k1 k2 k3 k5 k6 k10
  clear hσ hK1 K1
  have k10':σc 10=.bool false:=k10
  refine W_if hlo k10' ?_
  rw[if_neg (by decide)]
  refine zbd (fin _ _ vb ?_)
  rw[e]
  exact⟨k0,k1,k2,k3,k5,k6,pb.own,mb⟩
end
def cidO (h:Bool) (l:List UInt8):Option (List UInt8):=if h then some l else none
section
variable {P:Program} {N:Nums} {A:zdk} {R:zra}
theorem run_bsOpt (hR:FrT P N A R) {w:World} {p:Value}:(Instr.buildSlice R.t_LOpt 1 #[(0,optV R p)]).run P w=.ok (.slice (some ⟨w.heap.size,0,none⟩) 1 1) (w.alloc (.cells [optV R p].toArray R.t_Opt)):=by
 obtain⟨ms,hopt⟩:=hR.opt
 exact zrh (v:=optV R p) (cs:=[optV R p]) hR.lopt hopt rfl rfl (by decide) (by decide)
theorem zaci (B:Base P N) (F:Fns P N) (C:ApC P N A) (hR:FrT P N A R) (hU:FOk P A.zbw 2 (zch N A) [.var 2]) (hI:FOk P A.zas 2 (zdc N A) [.var 2]) (h16:A.zce≠0) (h32:A.zas≠0) (hNS:A.zbn≠0)
  {m:Msg} {tP:TypeId} {key:Int} {app:FuncId} (hM':FrM P N m tP key app) (ha:m.fs.aok P N A) (hhf:m.fs.hf P m.tT 1 1) (hv0:HF P m.tT 0 0) (happ:FOk P app 2 (m.appC N A) [.var 2])
  {w:World} {G:Nat→Prop} {M:Nat} {h:Bool} {s:List UInt8} {corr ver:Int} {vs:List Val} {css:List (List Value)} (hs:s.length < 32768)
  (hver:0≤ver) (hvw:IntKind.i64.wrap ver=ver) (hcw:IntKind.i64.wrap corr=corr) (hc:w.cell? ⟨M,0,none⟩=some (.int .i16 ver)) (hv:m.fs.okV vs) (hsm:smL vs) (hrep:RepL w G vs css) (hr:w.rangeAt M 1 css.flatten)
  (hG:∀ k,G k→k < w.heap.size) (hlen:4+(zgl key ver corr (cidO h s) (decide (ver ≥ m.fl))).length+(m.fs.wr ver (decide (ver ≥ m.fl)) vs).length < 1099511627776) :
  Call P R.f_framed #[.agg [.bool h,strV s].toArray,.iface tP (.pointer (some ⟨M,0,none⟩)),.int .i32 corr] w fun v w'=>
   OwnB w' w.heap.size v (fixB (zgl key ver corr (cidO h s) (decide (ver ≥ m.fl))++m.fs.wr ver (decide (ver ≥ m.fl)) vs).length 4++(zgl key ver corr (cidO h s) (decide (ver ≥ m.fl))++m.fs.wr ver (decide (ver ≥ m.fl)) vs))∧Mod w w' zy:=by
 have hMl:M < w.heap.size:=zde (by rw[hc]; rfl)
 refine hR.framed.call rfl fun loc N' hlo=>?_
 unfold c_framed
 obtain⟨w1,hw1⟩:∃ w1,w1=w.alloc (.cells (Value.cells (.agg [.bool h,strV s].toArray)) R.t_Id):=⟨_,rfl⟩
 have m1:Mod w w1 zy:=by rw[hw1]; exact Mod.alloc _ _ _
 have r1:w1.rangeAt w.heap.size 0 [.bool h,strV s]:=by rw[hw1]; exact zr w _ _ _
 have s1:w1.heap.size=w.heap.size+1:=by rw[hw1]; exact zav _ _
 refine zfp (by simp) ?_
 refine zaa fun K hK=>zi fun τ=>?_
 simp +decide only [bK,bE,Nat.zero_add]
 rw[← hw1]
 clear hw1
 refine hK _ _ (zb fun σ1 hσ=>?_)
 have a1:=hσ 1
 have a2:=hσ 2
 have a3:=hσ 3
 simp +decide only [bE,Nat.reduceBeqDiff,BEq.rfl,Nat.reduceAdd,zkn,zod] at a1 a2 a3
 clear hσ hK K
 refine zaa fun K hK=>zi fun τ=>?_
 rw[runR,zan hR.NRF.has]
 simp +decide only [bK,bE,BEq.rfl]
 refine(call_NRF B hR (l:=[]) (ad:=none) (c:=0) (by decide) (fun j p hj=>by simp at hj)).mono ?_
 rintro _ w2 ⟨b2,rfl,hb2,hb2',hc2,m2⟩
 refine hK _ _ (zb fun σ2 hσ=>?_)
 have b1:=hσ 1
 have b2':=hσ 2
 have b3:=hσ 3
 have b5:=hσ 5
 simp +decide only [bE,Nat.reduceBeqDiff,BEq.rfl,Nat.reduceAdd,a1,a2,a3] at b1 b2' b3 b5
 clear hσ hK K a1 a2 a3
 have m02:=m1.trans' m2
 have r2:=zad m2 r1
 have q0:w2.cell? ⟨w.heap.size,0,none⟩=some (.bool h):=r2 0 _ rfl
 have q1:w2.cell? ⟨w.heap.size,1,none⟩=some (strV s):=r2 1 _ rfl
 have fin:∀ (K:Exit→Env→World→Prop) (σ':Env) (w':World) (bf:Nat) (pc:Value),σ' 1=.iface tP (.pointer (some ⟨M,0,none⟩))→σ' 2=.int .i32 corr→σ' 5=.pointer (some ⟨bf,0,none⟩)→Mod w w' zy→w'.cell? ⟨bf,0,none⟩=some pc→
   Rep w' (fun k=>k < w'.heap.size) (.nstr (cidO h s)) [pc]→
   (∀ (σ'':Env) (w'':World),OwnB w'' w.heap.size (σ'' 4) (fixB (zgl key ver corr (cidO h s) (decide (ver ≥ m.fl))++m.fs.wr ver (decide (ver ≥ m.fl)) vs).length 4++(zgl key ver corr (cidO h s) (decide (ver ≥ m.fl))++m.fs.wr ver (decide (ver ≥ m.fl)) vs))→Mod w w'' zy→K .normal σ'' w'')→
   W P loc N' (.ops [⟨some 0,.move (V 5),0,none,[]⟩,⟨some 1,.move (V 1),0,none,[]⟩,⟨some 2,.move (V 2),0,none,[]⟩,⟨some 3,.call ⟨.value (.func R.f_AR),#[T 0,.const (.slice none 0 0),T 1,T 2],#[R.t_PRF,N.za,R.t_Req,N.zbr]⟩,N.za,none,[]⟩,⟨some 104,.assign (T 3),0,none,[]⟩]) K σ' w':=by
  intro K σ' w' bf pc h1 h2 h5 m' hcf hpc hK
  refine zi fun τ=>?_
  simp +decide only [bK,bE,Nat.reduceBeqDiff,Nat.reduceAdd,h1,h2,h5]
  rw[zgq hR.AR.has]
  simp +decide only [bK,bE,Nat.reduceBeqDiff,BEq.rfl]
  have hsz:(cidO h s).getD []=s∨(cidO h s).getD []=[]:=by unfold cidO; cases h<;>simp
  have hls:((cidO h s).getD []).length < 32768:=by
   rcases hsz with e | e
   ·rw[e]; exact hs
   ·rw[e]; decide
  refine(call_AR B F C hR hU hI h16 h32 hNS hM' ha hhf hv0 happ (G:=fun k=>k < w'.heap.size) (o:=cidO h s) (vs:=vs) (css:=css) hcf hpc (by unfold big; omega) (by
   unfold cidO; cases h
   ·trivial
   ·show s.length < 4294967295; omega) hver hvw hcw (by rw[m'.cell _ _ hMl fun h=>h]; exact hc) hv hsm (RepL.mod m' (fun k h=>⟨hG k h,fun _ h=>h,Nat.lt_of_lt_of_le (hG k h) m'.size⟩) _ hrep) (zad m' hr) (fun k h=>h) hlen).mono ?_
  rintro v3 w3 ⟨o3,m3⟩
  refine zb (K:=fun σ' w'=>K .normal σ' w') fun σ3 hσ=>hK _ _ ?_ (m'.trans' m3)
  have g:=hσ 4
  simp +decide only [bE,BEq.rfl,Nat.reduceAdd] at g
  rw[g]
  exact Own.mono_lo m'.size o3
 refine zaa fun K hK=>zd fun K1 hK1=>zi fun τ=>?_
 simp +decide only [bK,bE,BEq.rfl,Nat.reduceAdd,Nat.add_zero,b3,hR.id0.run,B.bool.run_load1 rfl,q0]
 refine hK1 _ _ (zb fun σ3 hσ=>?_)
 have c1:=hσ 1
 have c2:=hσ 2
 have c3:=hσ 3
 have c5:=hσ 5
 have c6:=hσ 6
 simp +decide only [bE,Nat.reduceBeqDiff,BEq.rfl,Nat.reduceAdd,b1,b2',b3,b5] at c1 c2 c3 c5 c6
 clear hσ hK1 K1 b1 b2' b3 b5
 refine W_if hlo c6 ?_
 cases h with
 | false=>
  simp only [Bool.false_eq_true,if_false]
  refine zbd (hK _ _ ?_)
  clear hK K
  refine zaa fun K hK=>fin _ _ _ b2 _ c1 c2 c5 m02 hc2 rfl fun σ'' w'' ho hm=>hK _ _ ?_
  exact zaa fun K2 hK2=>zbb ⟨.inr rfl,_,rfl,ho,hm⟩
 | true=>
  simp only [if_true]
  refine zi fun τ=>?_
  simp +decide only [bK,bE,BEq.rfl,Nat.reduceAdd,Nat.zero_add,c3,hR.id1.run,B.string.run_load1 rfl,q1]
  rw[zan hR.FCI.has]
  simp +decide only [bK,bE,BEq.rfl]
  unfold strV
  refine(call_FCI hR).mono ?_
  rintro _ w3 ⟨b,rfl,hb,hb',hcb,m3⟩
  obtain⟨w4,hw4⟩:∃ w4,w4=w3.alloc (.cells [optV R (.pointer (some ⟨b,0,none⟩))].toArray R.t_Opt):=⟨_,rfl⟩
  have m4:Mod w3 w4 zy:=by rw[hw4]; exact Mod.alloc _ _ _
  have r4:w4.rangeAt w3.heap.size 0 [optV R (.pointer (some ⟨b,0,none⟩))]:=by rw[hw4]; exact zr w3 _ _ _
  have s4:w4.heap.size=w3.heap.size+1:=by rw[hw4]; exact zav _ _
  have e1:∀ ρ:Env,(#[(0,T 2)]:Array (Nat × Operand)).map (fun p=>(p.1,ev ρ p.2))=#[(0,ρ 2)]:=fun ρ=>by simp
  simp +decide only [bK,bE,BEq.rfl,e1,run_bsOpt hR]
  rw[← hw4]
  clear hw4
  rw[zan hR.NRF.has]
  simp +decide only [bK,bE,BEq.rfl]
  refine(call_NRF B hR (l:=[.pointer (some ⟨b,0,none⟩)]) (ad:=some ⟨w3.heap.size,0,none⟩) (c:=1) (by simp) (fun j p hj=>by
   cases j with
   | zero=>
    simp at hj
    subst hj
    exact⟨rfl,w3.heap.size,0,rfl,by omega,r4 0 _ rfl⟩
   | succ j=>simp at hj)).mono ?_
  rintro _ w5 ⟨b5,rfl,hb5,hb5',hc5,m5⟩
  have m25:Mod w2 w5 zy:=(m3.trans' m4).trans' m5
  have hcb5:w5.cell? ⟨b,0,none⟩=some (.string ⟨s.toArray⟩):=by rw[(m4.trans' m5).cell _ _ hb' fun h=>h]; exact hcb
  have s5:=m5.size
  refine zb (K:=fun σ' w'=>zfd K _ .normal σ' w') fun σ5 hσ=>hK _ _ ?_
  have g1:=hσ 1
  have g2:=hσ 2
  have g5:=hσ 5
  simp +decide only [bE,Nat.reduceBeqDiff,BEq.rfl,Nat.reduceAdd,c1,c2] at g1 g2 g5
  clear hσ hK K
  refine zaa fun K hK=>fin _ _ _ b5 _ g1 g2 g5 (m02.trans' m25) hc5 ⟨b,rfl,by omega,fun j v hj=>?_⟩ fun σ'' w'' ho hm=>hK _ _ ?_
  ·cases j with
   | zero=>simp at hj; subst hj; exact hcb5
   | succ j=>simp at hj
  ·exact zaa fun K2 hK2=>zbb ⟨.inr rfl,_,rfl,ho,hm⟩
end
section
variable {P:Program} {N:Nums} {A:zdk} {R:zra}
theorem call_doorF (B:Base P N) (F:Fns P N) (C:ApC P N A) (hR:FrT P N A R) (hU:FOk P A.zbw 2 (zch N A) [.var 2]) (hI:FOk P A.zas 2 (zdc N A) [.var 2]) (h16:A.zce≠0) (h32:A.zas≠0) (hNS:A.zbn≠0)
  {m:Msg} {d:zaax} (D:DoorT P N m true d) (hao:m.fs.aok P N A) {f rf app:Nat} {u:Bool} {key:Int} (hM':FrM P N m m.pT key app) (happ:FOk P app 2 (m.appC N A) [.var 2]) (hf:FOk P f 4 (zack N R m.pT d.newP d.setV rf) [.var 5,.var 6]) (hrf:FOk P rf 2 (c_rf N m.pT d.readf u) [.var 2])
  {w:World} {v:Value} {l:List UInt8} {h:Bool} {s:List UInt8} {corr n:Int} {te:TypeId} {ve:Value} {x:List Val} (ha:zrb w v l) (hl:l.length < 1099511627776) (hs:s.length < 32768) (hcw:IntKind.i64.wrap corr=corr) (he:w.cell? ⟨N.zj,0,none⟩=some (.iface te ve))
  (hrd:m.rd true (IntKind.i16.wrap n) ⟨l,false,l.isEmpty⟩=some x) (hsm:smL x) (hver:0≤IntKind.i16.wrap n)
  (hlen:4+(zgl key (IntKind.i16.wrap n) corr (cidO h s) (decide (IntKind.i16.wrap n ≥ m.fl))).length+(m.fs.wr (IntKind.i16.wrap n) (decide (IntKind.i16.wrap n ≥ m.fl)) x).length < 1099511627776) :
  Call P f #[.agg [.bool h,strV s].toArray,.int .i32 corr,.int .i64 n,v] w fun r w'=>∃ v',r=.tuple #[v',.bool true] ∧
   OctA w' v' (fixB (zgl key (IntKind.i16.wrap n) corr (cidO h s) (decide (IntKind.i16.wrap n ≥ m.fl))++m.fs.wr (IntKind.i16.wrap n) (decide (IntKind.i16.wrap n ≥ m.fl)) x).length 4++(zgl key (IntKind.i16.wrap n) corr (cidO h s) (decide (IntKind.i16.wrap n ≥ m.fl))++m.fs.wr (IntKind.i16.wrap n) (decide (IntKind.i16.wrap n ≥ m.fl)) x))∧Mod w w' zy:=by
 refine hf.call rfl fun loc N' hlo=>?_
 unfold zack
 obtain⟨ms,hms⟩:∃ ms,TI P N.zgc (.interface ms) 1 16 .nilIface:=B.error.elim (fun h=>⟨_,h⟩) id
 obtain⟨fsI,hId,_⟩:=hR.id.out
 obtain⟨dP,szP,byP,zP,hP,hPn⟩:=hM'.tp
 have hgl:N.zj < w.heap.size:=zde (by rw[he]; rfl)
 obtain⟨w1,hw1⟩:∃ w1,w1=w.alloc (.cells (Value.cells (.agg [.bool h,strV s].toArray)) R.t_Id):=⟨_,rfl⟩
 have m1:Mod w w1 zy:=by rw[hw1]; exact Mod.alloc _ _ _
 have r1:w1.rangeAt w.heap.size 0 [.bool h,strV s]:=by rw[hw1]; exact zr w _ _ _
 have s1:w1.heap.size=w.heap.size+1:=by rw[hw1]; exact zav _ _
 refine zfp (by simp) ?_
 refine zaa fun K hK=>zi fun τ=>?_
 simp +decide only [bK,bE,Nat.zero_add]
 rw[← hw1]
 clear hw1
 refine hK _ _ (zb fun σ1 hσ=>?_)
 have a1:=hσ 1
 have a2:=hσ 2
 have a3:=hσ 3
 have a4:=hσ 4
 simp +decide only [bE,Nat.reduceBeqDiff,BEq.rfl,Nat.reduceAdd,zoc,zmb,zva] at a1 a2 a3 a4
 clear hσ hK K
 refine zaa fun K hK=>zi fun τ=>?_
 simp +decide only [bK]
 rw[zlo D.newP.has]
 refine(call_new B D w1).mono ?_
 rintro v2 w2 ⟨rfl,m2,t2,⟨x2,hx2⟩,r2,l2⟩
 refine hK _ _ (zb fun σ2 hσ=>?_)
 have b1:=hσ 1
 have b2:=hσ 2
 have b3:=hσ 3
 have b4:=hσ 4
 have b7:=hσ 7
 simp +decide only [bE,Nat.reduceBeqDiff,BEq.rfl,Nat.reduceAdd,a1,a2,a3,a4] at b1 b2 b3 b4 b7
 clear hσ hK K a1 a2 a3 a4
 obtain⟨M,hM⟩:∃ M,M=w1.heap.size:=⟨_,rfl⟩
 rw[← hM] at t2 hx2 r2 l2 b7
 refine zaa fun K hK=>zi fun τ=>?_
 have hcv:=fun {w:World}=>zat (P:=P) (w:=w) (k':=.i64) B.int B.int16 (n:=n) ⟨_,rfl⟩
 simp +decide only [bK,bE,Nat.reduceBeqDiff,BEq.rfl,Nat.reduceAdd,b2,b7,hcv]
 rw[zah D.setV.has]
 simp +decide only [bK,bE,Nat.reduceBeqDiff,BEq.rfl]
 refine(call_set B D (IntKind.i16.wrap n) t2 hx2).mono ?_
 rintro v3 w3 ⟨m3,hv3,s3⟩
 refine hK _ _ (zb fun σ3 hσ=>?_)
 have c1:=hσ 1
 have c3:=hσ 3
 have c4:=hσ 4
 have c7:=hσ 7
 simp +decide only [bE,Nat.reduceBeqDiff,Nat.reduceAdd,b1,b3,b4,b7] at c1 c3 c4 c7
 clear hσ hK K b1 b2 b3 b4 b7
 have m02:Mod w w2 zy:=m1.trans' m2
 have m03:Mod w w3 zy:=m02.fresh m3 fun k o h=>by have:=h.1; omega
 have t3:=m3.there l2 t2
 have r3:w3.rangeAt M 1 m.fs.ini:=m3.rangeAt l2 (fun i h1 _ h=>by have:=h.2.2; omega) r2
 have ha3:zrb w3 v l:=ha.stay m03 fun a h=>World.cell?_of_block (m03.block _ h fun _ h=>h)
 obtain⟨vb,w4,hcp,hb4,m4⟩:=zabp (ty:=N.za) B ha3 hl
 have m04:Mod w w4 zy:=m03.trans' m4
 have s4:=m4.size
 have hv4:w4.cell? ⟨M,0,none⟩=some (.int .i16 (IntKind.i16.wrap n)):=by rw[m4.cell _ _ (by omega) fun h=>h]; exact hv3
 have he4:w4.cell? ⟨N.zj,0,none⟩=some (.iface te ve):=by rw[m04.cell _ _ hgl fun h=>h]; exact he
 refine zaa fun K hK=>zd fun K1 hK1=>zi fun τ=>?_
 simp +decide only [bK,bE,Nat.reduceBeqDiff,BEq.rfl,Nat.reduceAdd,c3,c7,hcp]
 rw[zah hrf.has]
 simp +decide only [bK,bE,Nat.reduceBeqDiff,BEq.rfl]
 refine(call_rf B F D hrf hb4 (Nat.le_refl _) (m4.there (by omega) t3) (by omega) (.inl (by omega)) (by omega) hv4 (m4.rangeAt (by omega) (fun _ _ _ h=>h) r3) he4 ⟨_,_,rfl⟩).mono ?_
 intro v5 w5 hpost
 obtain⟨m5,hpost⟩:=hpost
 have m05:Mod w w5 zy:=m04.fresh m5 fun k o h=>by have:k=M:=h; omega
 have s5:=m5.size
 rw[hrd] at hpost
 obtain⟨rfl,hv5,css,hrep,hr5,_⟩:=hpost
 simp +decide only [bK,zzg hms]
 refine hK1 _ _ (zb fun σ4 hσ=>?_)
 have d1:=hσ 1
 have d4:=hσ 4
 have d7:=hσ 7
 have d8:=hσ 8
 simp +decide only [bE,Nat.reduceBeqDiff,BEq.rfl,Nat.reduceAdd,c1,c4,c7] at d1 d4 d7 d8
 clear hσ hK1 K1
 refine W_if hlo d8 ?_
 simp only [Bool.false_eq_true,if_false]
 refine zbd (hK _ _ ?_)
 clear hK K
 have hov:m.fs.okV x:=by
  unfold Msg.rd at hrd
  split at hrd
  ·cases hrd
  ·rename_i l' s' h1
   split at hrd
   ·cases hrd
   ·cases hrd; exact Fds.rd_ok _ _ m.fs D.dok _ _ _ h1
 have m15:Mod w1 w5 zy:=by
  have e2:Mod w1 w3 zy:=m2.fresh m3 fun k o h=>by have:=h.1; omega
  exact(e2.trans' m4).fresh m5 fun k o h=>by have:k=M:=h; omega
 have r5:=zad m15 r1
 have hld:=hId.run_load (w:=w5) (b:=w.heap.size) (o:=0) (cs:=[.bool h,strV s]) r5 rfl (fun h=>by cases h)
 have hlv:ldv (.struct fsI) [.bool h,strV s]=.agg [.bool h,strV s].toArray:=rfl
 rw[hlv] at hld
 have hi64:IntKind.i64.wrap (IntKind.i16.wrap n)=IntKind.i16.wrap n:=by
  simp [IntKind.wrap,IntKind.signed,IntKind.bits]; omega
 refine zaa fun K hK=>zi fun τ=>?_
 simp +decide only [bK,bE,Nat.reduceBeqDiff,BEq.rfl,Nat.reduceAdd,d1,d4,d7,hld,zhs,hP.run_mkIface hPn]
 rw[zit hR.framed.has]
 simp +decide only [bK,bE,Nat.reduceBeqDiff,BEq.rfl]
 refine(zaci B F C hR hU hI h16 h32 hNS hM' hao D.msg.hf D.msg.v0 happ (G:=GG w3.heap.size w4.heap.size w4.heap.size w5.heap.size) (vs:=x) (css:=css) hs hver hi64 hcw hv5 hov hsm hrep hr5 (fun k h=>by rcases h with h | h<;>omega) hlen).mono ?_
 rintro v7 w7 ⟨ho7,m7⟩
 refine hK _ _ (zb fun σ5 hσ=>zaa fun K2 hK2=>zbb ?_)
 have g3:=hσ 5
 have g4:=hσ 6
 simp +decide only [bE,Nat.reduceBeqDiff,BEq.rfl,Nat.reduceAdd] at g3 g4
 exact⟨.inr rfl,_,⟨σ5 5,σ5 6,rfl,rfl,rfl⟩,v7,by rw[g3,g4],ho7.octA,m05.trans' m7⟩
end
section
variable {a b c d e f g:Value}
end
section
variable {P:Program} {N:Nums} {M:zdd} {A:zdk} {R:zra}
theorem step_call7 {f:FuncId} {x y z u v s t:Operand} {ts:Array TypeId} {d:Option Nat} {ty:TypeId} {af:List Nat} {ρ:Env} {w:World} {K:Env→World→Prop} (hf:zcp P f):zcn P ⟨d,.call ⟨.value (.func f),#[x,y,z,u,v,s,t],ts⟩,ty,none,af⟩ ρ w K=Call P f #[ev ρ x,ev ρ y,ev ρ z,ev ρ u,ev ρ v,ev ρ s,ev ρ t] w fun v w'=>K (put ρ d v) w':=by
 rw[zis hf]; simp
structure FS (w0:World) (vid vb:Value) (h fl:Bool) (d:Value) (l:List UInt8) (σ:Env) (w:World):Prop where
 f3:σ 3=.bool h
 f4:σ 4=vid
 f5:σ 5=.bool fl
 f6:σ 6=vb
 f8:σ 8=d
 own:OwnB w w0.heap.size d l
 md:Mod w0 w zy
theorem ztj (h:Bool) (s:List UInt8):Txt.wr false .nstr (.nstr (cidO h s))=if h then fixB s.length 2++s else fixB (-1) 2:=by
 cases h<;>simp [cidO,Txt.wr,zae]
theorem sp_Frame (B:Base P N) (hX:FOk P M.zcr 2 (zho N M) [.var 2]) {f:FuncId} (hf:FOk P f 7 (zacl N M) [.var 7]) {w:World} {key ver corr:Int} {h fl:Bool} {vid vb:Value} {s body:List UInt8} (hid:OctA w vid s) (hb:OctA w vb body) (hcw:IntKind.i64.wrap corr=corr)
  (hlen:s.length+body.length < 549755813888) :
  Call P f #[.int .i64 key,.int .i64 ver,.int .i32 corr,.bool h,vid,.bool fl,vb] w fun r w'=>OwnB w' w.heap.size r (fixB (zgl key ver corr (cidO h s) fl++body).length 4++(zgl key ver corr (cidO h s) fl++body))∧Mod w w' zy:=by
 refine hf.call rfl fun loc N' hlo=>?_
 unfold zacl
 refine zfp (by simp) ?_
 refine zaa fun K hK=>zao (hK _ _ ?_)
 clear hK K
 obtain⟨σ,hσ⟩:∃ σ,σ=upd (zdf #[.int .i64 key,.int .i64 ver,.int .i32 corr,.bool h,vid,.bool fl,vb]) 7 (.slice none 0 0):=⟨_,rfl⟩
 have f0:σ 0=.int .i64 key:=by rw[hσ,zg (by decide)]; rfl
 have f1:σ 1=.int .i64 ver:=by rw[hσ,zg (by decide)]; rfl
 have f2:σ 2=.int .i32 corr:=by rw[hσ,zg (by decide)]; rfl
 have f3:σ 3=.bool h:=by rw[hσ,zg (by decide)]; rfl
 have f4:σ 4=vid:=by rw[hσ,zg (by decide)]; rfl
 have f5:σ 5=.bool fl:=by rw[hσ,zg (by decide)]; rfl
 have f6:σ 6=vb:=by rw[hσ,zg (by decide)]; rfl
 rw[← hσ]
 clear hσ
 refine zaa fun K hK=>zi fun τ=>?_
 simp +decide only [bK,bE,BEq.rfl,Nat.reduceAdd,Nat.zero_add,f0]
 rw[zah hX.has]
 simp +decide only [bK,bE,Nat.reduceBeqDiff,BEq.rfl,f1]
 refine(zht B hX w key 2 (by decide)).mono ?_
 rintro r1 w1 ⟨o1,m1⟩
 rw[zah hX.has]
 simp +decide only [bK,bE,Nat.reduceBeqDiff,BEq.rfl]
 refine(zht B hX w1 ver 2 (by decide)).mono ?_
 rintro r2 w2 ⟨o2,m2⟩
 have o12:OwnB w2 w.heap.size r1 (fixB key 2):=Own.stay m2 (fun _ _ _ h=>h) o1
 obtain⟨v3,w3,e3,o3,m3,_⟩:=zdq (ty:=N.za) B o12 o2.octA (m1.trans' m2).size (by simp [zaw])
 have m03:Mod w w3 zy:=Mod.ofOwn o12 (m1.trans' m2) m3
 simp +decide only [bK,e3]
 refine hK _ _ (zb fun σ3 hσ=>?_)
 have a2:=hσ 2
 have a3:=hσ 3
 have a4:=hσ 4
 have a5:=hσ 5
 have a6:=hσ 6
 have a8:=hσ 8
 simp +decide only [bE,Nat.reduceBeqDiff,BEq.rfl,Nat.reduceAdd,f2,f3,f4,f5,f6] at a2 a3 a4 a5 a6 a8
 clear hσ hK K f0 f1 f2 f3 f4 f5 f6
 have hcv:=fun {w:World}=>zat (P:=P) (w:=w) (k':=.i32) B.int32 B.int64 (n:=corr) ⟨_,rfl⟩
 rw[hcw] at hcv
 refine zaa fun K hK=>zi fun τ=>?_
 simp +decide only [bK,bE,Nat.reduceBeqDiff,BEq.rfl,Nat.reduceAdd,a2,a8,hcv]
 rw[zah hX.has]
 simp +decide only [bK,bE,Nat.reduceBeqDiff,BEq.rfl]
 refine(zht B hX w3 corr 4 (by decide)).mono ?_
 rintro r4 w4 ⟨o4,m4⟩
 have o34:OwnB w4 w.heap.size v3 (fixB key 2++fixB ver 2):=Own.stay m4 (fun _ _ _ h=>h) o3
 obtain⟨v5,w5,e5,o5,m5,_⟩:=zdq (ty:=N.za) B o34 o4.octA (m03.trans' m4).size (by simp [zaw])
 have m05:Mod w w5 zy:=Mod.ofOwn o34 (m03.trans' m4) m5
 simp +decide only [bK,e5]
 refine hK _ _ (zb fun σ4 hσ=>?_)
 have b3:=hσ 3
 have b4:=hσ 4
 have b5:=hσ 5
 have b6:=hσ 6
 have b8:=hσ 8
 simp +decide only [bE,Nat.reduceBeqDiff,BEq.rfl,Nat.reduceAdd,a3,a4,a5,a6] at b3 b4 b5 b6 b8
 clear hσ hK K a2 a3 a4 a5 a6 a8
 have H:FS w vid vb h fl v5 (fixB key 2++fixB ver 2++fixB corr 4) σ4 w5:=⟨b3,b4,b5,b6,b8,o5,m05⟩
 clear b3 b4 b5 b6 b8
 have hl8:(fixB key 2++fixB ver 2++fixB corr 4).length=8:=by simp [zaw]
 have hh3:=H.f3
 refine zaa fun K hK=>zd fun K1 hK1=>zi fun τ=>?_
 simp +decide only [bK,bE,Nat.reduceAdd,hh3]
 refine hK1 _ _ (zb fun σ5 hσ=>?_)
 have b3:=hσ 3
 have b4:=hσ 4
 have b5:=hσ 5
 have b6:=hσ 6
 have b8:=hσ 8
 have b9:=hσ 9
 simp +decide only [bE,Nat.reduceBeqDiff,BEq.rfl,Nat.reduceAdd,H.f3,H.f4,H.f5,H.f6,H.f8] at b3 b4 b5 b6 b8 b9
 clear hσ hK1 K1 hh3
 refine W_if hlo b9 ?_
 have step2:∀ (σ':Env) (w':World) (d':Value),FS w vid vb h fl d' (fixB key 2++fixB ver 2++fixB corr 4++Txt.wr false .nstr (.nstr (cidO h s))) σ' w'→K σ' w':=by
  intro σ' w' d' H
  refine hK _ _ ?_
  clear hK K b3 b4 b5 b6 b8 b9
  have hl9:(fixB key 2++fixB ver 2++fixB corr 4++Txt.wr false .nstr (.nstr (cidO h s))).length≤10+s.length:=by
   rw[List.length_append,hl8,ztj]; cases h<;>simp [zaw]; omega
  have hh5:=H.f5
  refine zaa fun K hK=>zd fun K1 hK1=>zi fun τ=>?_
  simp +decide only [bK,bE,Nat.reduceAdd,hh5]
  refine hK1 _ _ (zb fun σ6 hσ=>?_)
  have b6:=hσ 6
  have b8:=hσ 8
  have b10:=hσ 10
  simp +decide only [bE,Nat.reduceBeqDiff,BEq.rfl,Nat.reduceAdd,H.f6,H.f8] at b6 b8 b10
  clear hσ hK1 K1 hh5
  have step3:∀ (σ':Env) (w':World) (d':Value),σ' 6=vb→σ' 8=d'→OwnB w' w.heap.size d' (zgl key ver corr (cidO h s) fl)→Mod w w' zy→K σ' w':=by
   intro σ' w' d' h6 h8 ho hm
   refine hK _ _ ?_
   clear hK K
   have hl11:(zgl key ver corr (cidO h s) fl).length≤11+s.length:=by
    have e:(zgl key ver corr (cidO h s) fl).length=(fixB key 2++fixB ver 2++fixB corr 4++Txt.wr false .nstr (.nstr (cidO h s))).length+(if fl then [(0:UInt8)] else []).length:=by simp only [zgl,List.length_append]; omega
    rw[e]; cases fl<;>simp at hl9 ⊢<;>omega
   obtain⟨v7,w7,e7,o7,m7,_⟩:=zdq (ty:=N.za) B ho (hb.stay hm) hm.size (by omega)
   have m07:Mod w w7 zy:=Mod.ofOwn ho hm m7
   refine zaa fun K hK=>zi fun τ=>?_
   simp +decide only [bK,bE,Nat.reduceBeqDiff,BEq.rfl,Nat.reduceAdd,h6,h8,e7]
   refine hK _ _ (zb fun σ7 hσ=>?_)
   have c8:=hσ 8
   simp +decide only [bE,BEq.rfl,Nat.reduceAdd] at c8
   clear hσ hK K
   refine zaa fun K hK=>zi fun τ=>?_
   simp +decide only [bK,bE,Nat.reduceBeqDiff,BEq.rfl,Nat.reduceAdd,c8,o7.octA.run_len B]
   rw[zah hX.has]
   simp +decide only [bK,bE,Nat.reduceBeqDiff,BEq.rfl,c8]
   refine(zht B hX w7 _ 4 (by decide)).mono ?_
   rintro r8 w8 ⟨o8,m8⟩
   have o78:OwnB w8 w.heap.size v7 (zgl key ver corr (cidO h s) fl++body):=Own.stay m8 (fun _ _ _ h=>h) o7
   have o8':OwnB w8 w.heap.size r8 _:=Own.mono_lo m07.size o8
   obtain⟨v9,w9,e9,o9,m9,_⟩:=zdq (ty:=N.za) B o8' o78.octA (m07.trans' m8).size (by rw[zaw,List.length_append]; omega)
   have m09:Mod w w9 zy:=Mod.ofOwn o8' (m07.trans' m8) m9
   simp +decide only [bK,e9]
   refine hK _ _ (zb fun σ9 hσ=>zaa fun K2 hK2=>zbb ⟨.inr rfl,_,rfl,?_,m09⟩)
   have g:=hσ 7
   simp +decide only [bE,BEq.rfl,Nat.reduceAdd] at g
   rw[g]; exact o9
  refine W_if hlo b10 ?_
  cases fl with
  | false=>
   simp only [Bool.false_eq_true,if_false]
   refine zbd (step3 _ _ d' b6 b8 ?_ H.md)
   have e:zgl key ver corr (cidO h s) false=fixB key 2++fixB ver 2++fixB corr 4++Txt.wr false .nstr (.nstr (cidO h s)):=by simp [zgl,List.append_assoc]
   rw[e]; exact H.own
  | true=>
   simp only [if_true]
   obtain⟨wb,eb,mb,sb,ob⟩:=zrg (x:=0) (w:=w') B
   have eb:(Instr.buildSlice N.za 1 #[(0,.int .u8 0)]).run P w'=.ok (.slice (some ⟨w'.heap.size,0,none⟩) 1 1) wb:=eb
   have e1:∀ ρ:Env,(#[(0,.const (.int .u8 0))]:Array (Nat × Operand)).map (fun p=>(p.1,ev ρ p.2))=#[(0,.int .u8 0)]:=fun ρ=>by simp
   have oH:OwnB wb w.heap.size d' _:=Own.stay mb (fun _ _ _ h=>h) H.own
   obtain⟨vc,wc,ec,oc,mc,_⟩:=zdq (ty:=N.za) B oH ob.octA (H.md.trans' mb).size (by rw[List.length_singleton]; omega)
   refine zi fun τ=>?_
   simp +decide only [bK,bE,Nat.reduceBeqDiff,BEq.rfl,Nat.reduceAdd,b8,e1,eb,ec]
   refine zb (K:=fun σ' w'=>K σ' w') fun σ7 hσ=>step3 _ _ vc ?_ ?_ ?_ (Mod.ofOwn oH (H.md.trans' mb) mc)
   ·have g:=hσ 6
    simp +decide only [bE,Nat.reduceBeqDiff,Nat.reduceAdd,b6] at g
    exact g
   ·have g:=hσ 8
    simp +decide only [bE,BEq.rfl,Nat.reduceAdd] at g
    exact g
   ·have e:zgl key ver corr (cidO h s) true=fixB key 2++fixB ver 2++fixB corr 4++Txt.wr false .nstr (.nstr (cidO h s))++[0]:=by simp [zgl,List.append_assoc]
    rw[e]; exact oc
 cases h with
 | false=>
  simp only [Bool.false_eq_true,if_false]
  refine zi fun τ=>?_
  simp +decide only [bK,bE,BEq.rfl,Nat.reduceAdd,b8]
  rw[zah hX.has]
  simp +decide only [bK,bE,Nat.reduceBeqDiff,BEq.rfl]
  refine(zht B hX w5 (-1) 2 (by decide)).mono ?_
  rintro r6 w6 ⟨o6,m6⟩
  have oH:OwnB w6 w.heap.size v5 _:=Own.stay m6 (fun _ _ _ h=>h) H.own
  obtain⟨vc,wc,ec,oc,mc,_⟩:=zdq (ty:=N.za) B oH o6.octA (H.md.trans' m6).size (by rw[hl8,zaw]; decide)
  simp +decide only [bK,ec]
  refine zb (K:=fun σ' w'=>K σ' w') fun σ7 hσ=>step2 _ _ vc ?_
  have c3:=hσ 3
  have c4:=hσ 4
  have c5:=hσ 5
  have c6:=hσ 6
  have c8:=hσ 8
  simp +decide only [bE,Nat.reduceBeqDiff,BEq.rfl,Nat.reduceAdd,b3,b4,b5,b6] at c3 c4 c5 c6 c8
  rw[ztj]
  exact⟨c3,c4,c5,c6,c8,oc,Mod.ofOwn oH (H.md.trans' m6) mc⟩
 | true=>
  simp only [if_true]
  refine zi fun τ=>?_
  simp +decide only [bK,bE,Nat.reduceBeqDiff,BEq.rfl,Nat.reduceAdd,b4,b8,hid.run_len B]
  rw[zah hX.has]
  simp +decide only [bK,bE,Nat.reduceBeqDiff,BEq.rfl,b4]
  refine(zht B hX w5 _ 2 (by decide)).mono ?_
  rintro r6 w6 ⟨o6,m6⟩
  have oH:OwnB w6 w.heap.size v5 _:=Own.stay m6 (fun _ _ _ h=>h) H.own
  obtain⟨vc,wc,ec,oc,mc,_⟩:=zdq (ty:=N.za) B oH o6.octA (H.md.trans' m6).size (by rw[hl8,zaw]; decide)
  have mc0:Mod w wc zy:=Mod.ofOwn oH (H.md.trans' m6) mc
  obtain⟨vd,wd,ed,od,md,_⟩:=zdq (ty:=N.za) B oc (hid.stay mc0) mc0.size (by rw[List.length_append,hl8,zaw]; omega)
  simp +decide only [bK,ec,ed]
  refine zb (K:=fun σ' w'=>K σ' w') fun σ7 hσ=>step2 _ _ vd ?_
  have c3:=hσ 3
  have c4:=hσ 4
  have c5:=hσ 5
  have c6:=hσ 6
  have c8:=hσ 8
  simp +decide only [bE,Nat.reduceBeqDiff,BEq.rfl,Nat.reduceAdd,b3,b4,b5,b6] at c3 c4 c5 c6 c8
  rw[ztj,if_pos rfl,← List.append_assoc]
  exact⟨c3,c4,c5,c6,c8,od,Mod.ofOwn oc mc0 md⟩
theorem call_fits4 (B:Base P N) (hR:FrT P N A R) {f:FuncId} (hf:FOk P f 1 (zacj N R) [.var 2]) {w:World} {h:Bool} {s:List UInt8} :
  Call P f #[.agg [.bool h,strV s].toArray] w fun r w'=>r=.bool (decide (s.length≤2147483647))∧Mod w w' zy:=by
 refine hf.call rfl fun loc N' hlo=>?_
 unfold zacj
 obtain⟨w1,hw1⟩:∃ w1,w1=w.alloc (.cells (Value.cells (.agg [.bool h,strV s].toArray)) R.t_Id):=⟨_,rfl⟩
 have m1:Mod w w1 zy:=by rw[hw1]; exact Mod.alloc _ _ _
 have r1:w1.rangeAt w.heap.size 0 [.bool h,strV s]:=by rw[hw1]; exact zr w _ _ _
 have q1:w1.cell? ⟨w.heap.size,1,none⟩=some (strV s):=r1 1 _ rfl
 refine zfp (by simp) ?_
 refine zaa fun K hK=>zi fun τ=>?_
 simp +decide only [bK,bE,Nat.zero_add]
 rw[← hw1]
 clear hw1
 refine hK _ _ (zb fun σ1 hσ=>?_)
 have a1:=hσ 1
 simp +decide only [bE,Nat.reduceBeqDiff,BEq.rfl,Nat.reduceAdd] at a1
 clear hσ hK K
 refine zaa fun K hK=>zd fun K1 hK1=>zi fun τ=>?_
 simp +decide only [bK,bE,BEq.rfl,Nat.reduceAdd,Nat.zero_add,a1,hR.id1.run,B.string.run_load1 rfl,q1,zoj B]
 refine hK1 _ _ (zb fun σ2 hσ=>?_)
 have b3:=hσ 3
 simp +decide only [bE,BEq.rfl,Nat.reduceAdd] at b3
 clear hσ hK1 K1
 refine W_if hlo b3 ?_
 by_cases hb:(s.length:Int) > 2147483647
 ·simp only [hb,decide_true,if_true]
  exact zd fun K1 hK1=>zao (hK1 _ _ (zbb ⟨.inr rfl,_,rfl,by rw[upd_same,decide_eq_false (by omega)],m1⟩))
 ·simp only [hb,decide_false,Bool.false_eq_true,if_false]
  refine zbd (hK _ _ ?_)
  clear hK K
  refine zaa fun K hK=>zao (hK _ _ ?_)
  exact zaa fun K2 hK2=>zbb ⟨.inr rfl,_,rfl,by rw[upd_same,decide_eq_true (by omega)],m1⟩
end
structure FrS (P:Program) (N:Nums) (M:zdd) (A:zdk) (R:zra):Prop where
 T:FrT P N A R
 Frame:FOk P R.f_Frame 7 (zacl N M) [.var 7]
 fits4:FOk P R.f_fits4 1 (zacj N R) [.var 2]
 fe:R.f_Flex=M.zes
 fx:FOk P M.zes 2 (zfs N M) [.var 3]
 u32:FOk P A.zbw 2 (zch N A) [.var 2]
 i32:FOk P A.zas 2 (zdc N A) [.var 2]
 n16:A.zce≠0
 n32:A.zas≠0
 nNS:A.zbn≠0
structure LawFF (P:Program) (N:Nums) (M:zdd) (A:zdk) (R:zra) (m:Msg) (d:zaax) (app:Nat) (key:Int) (k:Nat) (mk:Nat) (sc:List SC) (fl:Int):Prop where
 D:DoorT P N m true d
 rf:FOk P d.readF 2 (c_rf N m.pT d.readf false) [.var 2]
 mv:FOk P d.maxV 1 (c_max k) [.var 1]
 mi:FOk P d.maxI 0 (c_maxI N m.pT d.newP d.maxV) [.var 0]
 ti:FOk P d.tellI 4 (zack N R m.pT d.newP d.setV d.readF) [.var 5,.var 6]
 ap:FOk P app 2 (m.appC N A) [.var 2]
 fm:FrM P N m m.pT key app
 ao:m.fs.aok P N A
 k1:IntKind.i64.wrap k=k
 k2:IntKind.i64.wrap (k+1)=k+1
 kk:k < 32767
 mf:FOk P mk 0 (c_msg M sc fl) [.cell 0 M.zam]
 scb:scB sc=true
 sco:scOk P sc
 okf:okFsB (SC.flds sc)=true
 ver:verB m true (SC.flds sc) fl k=true
section
variable {P:Program} {N:Nums} {M:zdd} {A:zdk} {R:zra}
theorem W_sameF (B:Base P N) (F:Fns P N) (S:SpT P N M) (hX:FOk P M.zcr 2 (zho N M) [.var 2]) (hS:FrS P N M A R) (hN:N.zff≠0) {loc:List Nat} {N':Nat} {Q:Exit→Env→World→Prop} {σ:Env} {w:World} {vo vb fv:Value} {h:Bool} {s body:List UInt8} {key corr fl:Int} {v:Int} {bI bM:Nat}
  (h2:σ 2=.int .i32 corr) (h4:σ 4=.pointer (some ⟨bI,0,none⟩)) (h10:σ 10=.pointer (some ⟨bM,0,none⟩)) (h11:σ 11=.int .i64 v) (h13:σ 13=vb) (h14:σ 14=vo) (h15:σ 15=.bool true)
  (rI:w.rangeAt bI 0 [.bool h,strV s]) (rM:w.rangeAt bM 0 [fv,.int .i64 fl]) (hb:OctA w vb body) (ho:OctA w vo (fixB (zgl key v corr (cidO h s) (zlg fl v)++body).length 4++(zgl key v corr (cidO h s) (zlg fl v)++body))) (hcw:IntKind.i64.wrap corr=corr)
  (hlen:s.length+body.length < 549755813888)
  (hQ:∀ (σ':Env) (w':World),σ' 6=.bool true→Mod w w' zy→Q .normal σ' w'):W P loc N' (.draw (zul N M R key)) Q σ w:=by
 obtain⟨fsM,htM,_⟩:=S.msg.out
 have md:Mod w w.drew zy:=Mod.drew _ _
 have hR:=hS.T
 have tail:∀ (ρ:Env) (w2:World) (v9:Value),ρ 1=.bool true→ρ 2=vo→ρ 3=.int .i64 v→ρ 4=.int .i32 corr→ρ 6=.bool h→ρ 9=v9→ρ 12=.bool (zlg fl v)→ρ 13=vb→OctA w2 v9 s→Mod w w2 zy→
   zid P (fun w'=>Mod w w' zy) (fun ρ w=>Q .normal (locs ρ) w) [(zul N M R key).getD 14 default,(zul N M R key).getD 15 default,(zul N M R key).getD 16 default,(zul N M R key).getD 17 default] ρ w2:=by
  intro ρ w2 v9 g1 g2 g3 g4 g6 g9 g12 g13 o9 m2
  simp only [zid,zul,List.getD_cons_succ,List.getD_cons_zero]
  rw[zap (b:=true) g1,step_call7 hS.Frame.has]
  simp +decide only [bK,g3,g4,g6,g9,g12,g13]
  refine(sp_Frame B hX hS.Frame o9 (hb.stay m2) hcw hlen).mono ?_
  rintro r w3 ⟨o3,m3⟩
  have m03:=m2.trans' m3
  refine⟨m03,?_⟩
  rw[zap (b:=true) (by simp +decide only [bE,Nat.reduceBeqDiff,g1]),zah (F.spec_Same hN).has]
  simp +decide only [bK,bE,Nat.reduceBeqDiff,BEq.rfl,g2]
  have hbl:(zgl key v corr (cidO h s) (zlg fl v)).length≤11+s.length:=by
   simp only [zgl,List.length_append,zaw,ztj]
   cases h<;>cases zlg fl v<;>simp [zaw]<;>omega
  refine(call_SameA B F hN (ho.stay m03) o3.octA (by simp only [List.length_append,zaw]; omega)).mono ?_
  rintro _ w4 ⟨rfl,m4⟩
  have m04:=m03.trans' m4
  refine⟨m04,?_⟩
  simp +decide only [bK,bE,Nat.reduceBeqDiff,BEq.rfl,if_true,zca,g1]
  refine⟨m04,?_⟩
  refine zb fun σ' hσ=>hQ σ' _ ?_ m04
  have g:=hσ 6
  simp +decide only [bE,BEq.rfl,Nat.reduceAdd] at g
  exact g
 refine W_draw2 B.mixed [true,true,true,true,true,true,true,true,true,false,true,true,false,true,false,false,false,false] 9 12 [14,15,16,17] (by kernel_rfl) (fun w'=>Mod w w' zy) md fun τ=>?_
 refine zar (.bool true) (fun w' hw=>by
  rw[zdb,ev_tmp]
  simp +decide only [bE,Nat.reduceAdd,h15]) rfl ?_
 refine zar (.bool true) (fun w' hw=>by
  rw[zdb,ev_tmp]
  simp +decide only [bE,BEq.rfl]) rfl ?_
 refine zgb vo (by simp +decide only [zdl,bE,BEq.rfl]) (fun w' hw=>by
  rw[zdb,ev_tmp]
  simp +decide only [bE,Nat.reduceBeqDiff,Nat.reduceAdd,h14]) ?_
 refine zgb (.int .i64 v) (by simp +decide only [zdl,bE,Nat.reduceBeqDiff,BEq.rfl]) (fun w' hw=>by
  rw[zdb,ev_tmp]
  simp +decide only [bE,Nat.reduceBeqDiff,Nat.reduceAdd,h11]) ?_
 refine zgb (.int .i32 corr) (by simp +decide only [zdl,bE,Nat.reduceBeqDiff,BEq.rfl]) (fun w' hw=>by
  rw[zdb,ev_tmp]
  simp +decide only [bE,Nat.reduceBeqDiff,Nat.reduceAdd,h2]) ?_
 refine zgb (.pointer (some ⟨bI,0,none⟩)) (by simp +decide only [zdl,bE,Nat.reduceBeqDiff,BEq.rfl]) (fun w' hw=>zdv (by
  simp +decide only [bE,Nat.reduceBeqDiff,Nat.reduceAdd,Nat.zero_add,ev_tmp,h4,hR.id0.run])) ?_
 refine zgb (.bool h) (by simp +decide only [zdl,bE,Nat.reduceBeqDiff,BEq.rfl]) (fun w' hw=>zdv (by
  have:=zad hw rI 0 _ rfl
  simp +decide only [Nat.zero_add] at this
  simp +decide only [bE,BEq.rfl,ev_tmp,B.bool.run_load1 rfl,this,ldc_some])) ?_
 refine zgb (.pointer (some ⟨bI,1,none⟩)) (by simp +decide only [zdl,bE,Nat.reduceBeqDiff,BEq.rfl]) (fun w' hw=>zdv (by
  simp +decide only [bE,Nat.reduceBeqDiff,Nat.reduceAdd,Nat.zero_add,ev_tmp,h4,hR.id1.run])) ?_
 refine zgb (strV s) (by simp +decide only [zdl,bE,Nat.reduceBeqDiff,BEq.rfl]) (fun w' hw=>zdv (by
  have:=zad hw rI 1 _ rfl
  simp +decide only [Nat.zero_add] at this
  simp +decide only [bE,BEq.rfl,ev_tmp,B.string.run_load1 rfl,this,ldc_some])) ?_
 simp only []
 refine zgb (.agg [fv,.int .i64 fl].toArray) (by simp +decide only [zdl,bE,Nat.reduceBeqDiff,BEq.rfl]) (fun w' hw=>zdv (by
  simp +decide only [bE,Nat.reduceBeqDiff,Nat.reduceAdd,ev_tmp,h10]
  have:=htM.run_load (w:=w') (b:=bM) (o:=0) (zad hw rM) rfl (fun h=>by cases h)
  rw[this]; rfl)) ?_
 refine zgb (.int .i64 v) (by simp +decide only [zdl,bE,Nat.reduceBeqDiff,BEq.rfl]) (fun w' hw=>by
  rw[zdb,ev_tmp]
  simp +decide only [bE,Nat.reduceBeqDiff,Nat.reduceAdd,h11]) ?_
 simp only []
 refine zgb vb (by simp +decide only [zdl,bE,Nat.reduceBeqDiff,BEq.rfl]) (fun w' hw=>by
  rw[zdb,ev_tmp]
  simp +decide only [bE,Nat.reduceBeqDiff,Nat.reduceAdd,h13]) ?_
 simp only []
 refine⟨?_,?_⟩
 ·obtain⟨v9,w9,hc9,tv9,m9⟩:=zwd B w.drew s
  have m09:=md.trans' m9
  show zcn P ⟨some 9,.convert N.zac N.za (T 8),0,some (some 1,true),[8,1]⟩ _ _ _
  rw[zap (b:=true) (by simp +decide only [bE,Nat.reduceBeqDiff,BEq.rfl])]
  simp +decide only [bK,bE,Nat.reduceBeqDiff,BEq.rfl,hc9]
  refine⟨m09,?_⟩
  show zcn P ⟨some 12,.call ⟨.value (.func R.f_Flex),#[T 10,T 11],#[M.zam,N.ze]⟩,N.zay,some (some 1,true),[10,11,1,1]⟩ _ _ _
  rw[zap (b:=true) (by simp +decide only [bE,Nat.reduceBeqDiff,BEq.rfl]),hS.fe,zah hS.fx.has]
  simp +decide only [bK,bE,Nat.reduceBeqDiff,BEq.rfl]
  refine(ztp B S hS.fx w9 fv fl v).mono ?_
  rintro _ w2 ⟨rfl,m2⟩
  refine⟨m09.trans' m2,?_⟩
  refine tail _ w2 v9 ?_ ?_ ?_ ?_ ?_ ?_ ?_ ?_ (tv9.octA.stay m2) (m09.trans' m2)<;>simp +decide only [bE,Nat.reduceBeqDiff,BEq.rfl,zlg]
 ·show zcn P ⟨some 12,.call ⟨.value (.func R.f_Flex),#[T 10,T 11],#[M.zam,N.ze]⟩,N.zay,some (some 1,true),[10,11,1,1]⟩ _ _ _
  rw[zap (b:=true) (by simp +decide only [bE,Nat.reduceBeqDiff,BEq.rfl]),hS.fe,zah hS.fx.has]
  simp +decide only [bK,bE,Nat.reduceBeqDiff,BEq.rfl]
  refine(ztp B S hS.fx w.drew fv fl v).mono ?_
  rintro _ w2 ⟨rfl,m2⟩
  have m02:=md.trans' m2
  refine⟨m02,?_⟩
  obtain⟨v9,w9,hc9,tv9,m9⟩:=zwd B w2 s
  show zcn P ⟨some 9,.convert N.zac N.za (T 8),0,some (some 1,true),[8,1]⟩ _ _ _
  rw[zap (b:=true) (by simp +decide only [bE,Nat.reduceBeqDiff,BEq.rfl])]
  simp +decide only [bK,bE,Nat.reduceBeqDiff,BEq.rfl,hc9]
  refine⟨m02.trans' m9,?_⟩
  refine tail _ w9 v9 ?_ ?_ ?_ ?_ ?_ ?_ ?_ ?_ tv9.octA (m02.trans' m9)<;>simp +decide only [bE,Nat.reduceBeqDiff,BEq.rfl,zlg]
theorem call_lawF (B:Base P N) (F:Fns P N) (S:SpT P N M) (hZ:SZ P N M) (hW:SW P N M) (C:ApC P N A) (hS:FrS P N M A R) (hN:N.zff≠0) (hV:N.zlw≠0) {m:Msg} {d:zaax} {app k mk:Nat} {key:Int} {sc:List SC} {fl:Int} (L:LawFF P N M A R m d app key k mk sc fl) {f tLB:Nat}
  (hf:FOk P f 4 (c_lawF N M R key tLB d.maxI d.tellI mk) [.var 6]) {w:World} {h:Bool} {s:List UInt8} {corr:Int} {t:Tr} {ct:List Value} {n:Int} {te:TypeId} {ve:Value} (hn:0≤n∧n≤255) (hcw:IntKind.i64.wrap corr=corr) (ht:RepA w t ct) (hwf:wfT t) (hsz:szT t≤1048576) (he:w.cell? ⟨N.zj,0,none⟩=some (.iface te ve)) :
  Call P f #[.int .u8 n,.agg [.bool h,strV s].toArray,.int .i32 corr,.agg ct.toArray] w fun v' w'=>v'=.bool true∧Mod w w' zy:=by
 refine hf.call rfl fun loc N' hlo=>?_
 unfold c_lawF
 have hR:=hS.T
 obtain⟨fsI,hId,_⟩:=hR.id.out
 have hlvI:∀ (x y:Value),ldv (.struct fsI) [x,y]=.agg [x,y].toArray:=fun _ _=>rfl
 refine zfp (by simp) ?_
 refine zaa fun K hK=>zi fun τ=>?_
 simp +decide only [bK,bE,Nat.reduceBeqDiff,Nat.reduceAdd]
 obtain⟨w0,hw0⟩:∃ w0,w0=w.alloc (.cells (Value.cells (.agg [.bool h,strV s].toArray)) R.t_Id):=⟨_,rfl⟩
 have m0:Mod w w0 zy:=by rw[hw0]; exact Mod.alloc _ _ _
 have rI0:w0.rangeAt w.heap.size 0 [.bool h,strV s]:=by rw[hw0]; exact zr w _ _ _
 rw[← hw0]
 clear hw0
 obtain⟨w1,hw1⟩:∃ w1,w1=w0.alloc (.cells (Value.cells (.agg ct.toArray)) N.zf):=⟨_,rfl⟩
 have m01:Mod w0 w1 zy:=by rw[hw1]; exact Mod.alloc _ _ _
 have r1:w1.rangeAt w0.heap.size 0 ct:=by rw[hw1]; exact zr w0 _ _ _
 rw[← hw1]
 clear hw1
 have m1:=m0.trans' m01
 have rI1:=zad m01 rI0
 refine hK _ _ (zb fun σ1 hσ=>?_)
 have a0:=hσ 0
 have a2:=hσ 2
 have a4:=hσ 4
 have a5:=hσ 5
 simp +decide only [bE,Nat.reduceBeqDiff,BEq.rfl,Nat.reduceAdd,Nat.zero_add,zqv,zmb] at a0 a2 a4 a5
 clear hσ hK K
 obtain⟨bI,hbI⟩:∃ b,b=w.heap.size:=⟨_,rfl⟩
 rw[← hbI] at a4 rI1
 clear rI0
 obtain⟨bT,hbT⟩:∃ b,b=w0.heap.size:=⟨_,rfl⟩
 rw[← hbT] at a5 r1
 have ht1:=RepA.stay m1 _ ht
 have hld1:=hId.run_load (w:=w1) (b:=bI) (o:=0) (cs:=[.bool h,strV s]) rI1 rfl (fun h=>by cases h)
 rw[hlvI] at hld1
 refine zaa fun K hK=>zd fun K1 hK1=>zi fun τ=>?_
 simp +decide only [bK,bE,BEq.rfl,Nat.reduceAdd,a4,hld1]
 rw[zan hS.fits4.has]
 simp +decide only [bK,bE,BEq.rfl]
 refine(call_fits4 B hR hS.fits4).mono ?_
 rintro _ w2 ⟨rfl,m2⟩
 have m02:=m1.trans' m2
 have rI2:=zad m2 rI1
 have r2:=zad m2 r1
 simp +decide only [bK]
 by_cases hbig:s.length≤2147483647
 case neg=>
  rw[decide_eq_false hbig]
  refine Eq.mpr (zbi (by simp +decide only [bE,BEq.rfl])) ?_
  refine Eq.mpr (zbi (by simp +decide only [bE,Nat.reduceBeqDiff,BEq.rfl])) ?_
  refine Eq.mpr (zbi (by simp +decide only [bE,Nat.reduceBeqDiff,BEq.rfl])) ?_
  simp +decide only [bK,bE,Nat.reduceBeqDiff,BEq.rfl,if_true,zca]
  refine hK1 _ _ (zb fun σ2 hσ=>?_)
  have b7:=hσ 7
  simp +decide only [bE,BEq.rfl,Nat.reduceAdd] at b7
  refine W_if hlo (t:=true) b7 ?_
  simp only [if_true]
  exact zd fun K1 hK1=>zao (hK1 _ _ (zbb ⟨.inr rfl,_,rfl,upd_same _ _ _,m02⟩))
 rw[decide_eq_true hbig]
 rw[zap (b:=false) (by simp +decide only [bE,BEq.rfl,Bool.not_true])]
 simp +decide only [bK,bE,Nat.reduceBeqDiff,Nat.reduceAdd,a5,zga S.tr r2 ht.len]
 rw[zap (b:=false) (by simp +decide only [bE,Nat.reduceBeqDiff,BEq.rfl,Bool.not_true]),zan hZ.zzFits1.has]
 simp +decide only [bK,bE,BEq.rfl]
 refine(sp_fits1 B S hZ (RepA.stay m2 _ ht1) (fits_of hsz)).mono ?_
 rintro _ w2' ⟨rfl,m2'⟩
 rw[zap (b:=false) (by simp +decide only [bE,Nat.reduceBeqDiff,BEq.rfl,Bool.not_true])]
 simp +decide only [bK,bE,Nat.reduceBeqDiff,BEq.rfl,if_false,zca]
 refine hK1 _ _ (zb fun σ2 hσ=>?_)
 have b0:=hσ 0
 have b2:=hσ 2
 have b4:=hσ 4
 have b5:=hσ 5
 have b7:=hσ 7
 simp +decide only [bE,Nat.reduceBeqDiff,BEq.rfl,Nat.reduceAdd,Nat.zero_add,a0,a2,a4,a5] at b0 b2 b4 b5 b7
 clear hσ hK1 K1 a0 a2 a4 a5
 refine W_if hlo (t:=false) b7 ?_
 simp only [Bool.false_eq_true,if_false]
 refine zbd (hK _ _ ?_)
 clear hK K b7
 have m02':=m02.trans' m2'
 refine zaa fun K hK=>zi fun τ=>?_
 simp +decide only [bK]
 rw[zlo L.mi.has]
 refine(call_maxI B L.D L.mv L.mi w2').mono ?_
 rw[L.k1]
 rintro _ w3 ⟨rfl,m3⟩
 simp +decide only [bE,BEq.rfl]
 refine hK _ _ (zb fun σ3 hσ=>?_)
 have c0:=hσ 0
 have c2:=hσ 2
 have c4:=hσ 4
 have c5:=hσ 5
 have c8:=hσ 8
 simp +decide only [bE,Nat.reduceBeqDiff,BEq.rfl,Nat.reduceAdd,Nat.zero_add,b0,b2,b4,b5] at c0 c2 c4 c5 c8
 clear hσ hK K b0 b2 b4 b5
 have m03:=m02'.trans' m3
 refine zaa fun K hK=>zd fun K1 hK1=>zi fun τ=>?_
 simp +decide only [bK,bE,BEq.rfl,Nat.reduceAdd,c8]
 refine hK1 _ _ (zb fun σ4 hσ=>?_)
 have d0:=hσ 0
 have d2:=hσ 2
 have d4:=hσ 4
 have d5:=hσ 5
 have d8:=hσ 8
 have d9:=hσ 9
 simp +decide only [bE,Nat.reduceBeqDiff,BEq.rfl,Nat.reduceAdd,Nat.zero_add,c0,c2,c4,c5,c8] at d0 d2 d4 d5 d8 d9
 clear hσ hK1 K1 c0 c2 c4 c5 c8
 refine W_if hlo d9 ?_
 have hk0:¬ (k:Int) < 0:=by omega
 simp only [hk0,decide_false,Bool.false_eq_true,if_false]
 refine zbd (hK _ _ ?_)
 clear hK K d9
 obtain⟨v,hv⟩:∃ v:Nat,(IntKind.i64.wrap n).tmod (IntKind.i64.wrap (k+1))=(v:Int)∧v≤k:=by
  rw[L.k2,zfc (by omega) (by omega)]
  have h1:=Int.tmod_nonneg (k+1:Int) hn.1
  have h2:=Int.tmod_lt_of_pos n (show (0:Int) < k+1 by omega)
  exact⟨(n.tmod (k+1)).toNat,by omega,by omega⟩
 obtain⟨fsM,htM,_⟩:=S.msg.out
 refine zaa fun K hK=>zi fun τ=>?_
 simp +decide only [bK,bE,Nat.reduceBeqDiff,BEq.rfl,Nat.reduceAdd,Nat.zero_add]
 rw[zlo L.mf.has]
 refine(mk_msg S L.scb L.sco L.mf w3).mono ?_
 rintro _ w4 ⟨fv,rfl,hfv,m4⟩
 simp +decide only [bE,Nat.reduceBeqDiff,d0,d8]
 rw[zah (F.version hV).has]
 simp +decide only [bK,bE,Nat.reduceBeqDiff,BEq.rfl]
 refine(zaaf B F hV w4 n k (by rw[L.k2]; omega)).mono ?_
 rintro _ w4' ⟨rfl,hw4⟩
 obtain rfl:=hw4.symm
 clear hw4
 rw[hv.1]
 obtain⟨w5,w6,hal,hst,_,m46,s6,r6,_⟩:=zuy (cs:=[fv,.int .i64 fl]) htM (by decide) rfl rfl (by
  intro c hc; simp at hc; rcases hc with rfl | rfl
  ·exact hfv.one
  ·rfl) w4
 simp +decide only [bK,hal,hst]
 refine hK _ _ (zb fun σ5 hσ=>?_)
 have e2:=hσ 2
 have e4:=hσ 4
 have e5:=hσ 5
 have e10:=hσ 10
 have e11:=hσ 11
 simp +decide only [bE,Nat.reduceBeqDiff,BEq.rfl,Nat.reduceAdd,d2,d4,d5] at e2 e4 e5 e10 e11
 clear hσ hK K d0 d2 d4 d5 d8 hal hst
 obtain⟨bM,hbM⟩:∃ b,b=w4.heap.size:=⟨_,rfl⟩
 rw[← hbM] at e10 r6
 have m06:=(m03.trans' m4).trans' m46
 have m26:=((m2'.trans' m3).trans' m4).trans' m46
 have hf6:=hfv.stay m46
 have ht6:=RepA.stay m06 _ ht
 have rT6:=zad m26 r2
 have rI6:=zad m26 rI2
 have q6:w6.cell? ⟨bI,1,none⟩=some (strV s):=rI6 1 _ rfl
 refine zaa fun K hK=>zd fun K1 hK1=>zi fun τ=>?_
 simp +decide only [bK,bE,BEq.rfl,Nat.reduceAdd,Nat.zero_add,e4,hR.id1.run,B.string.run_load1 rfl,q6,zoj B]
 refine hK1 _ _ (zb fun σ6 hσ=>?_)
 have f2:=hσ 2
 have f4:=hσ 4
 have f5:=hσ 5
 have f10:=hσ 10
 have f11:=hσ 11
 have f12:=hσ 12
 simp +decide only [bE,Nat.reduceBeqDiff,BEq.rfl,Nat.reduceAdd,e2,e4,e5,e10,e11] at f2 f4 f5 f10 f11 f12
 clear hσ hK1 K1 e2 e4 e5 e10 e11
 refine W_if hlo f12 ?_
 by_cases hbd:(s.length:Int) > 32767
 ·simp only [hbd,decide_true,if_true]
  exact zd fun K1 hK1=>zao (hK1 _ _ (zbb ⟨.inr rfl,_,rfl,upd_same _ _ _,m06⟩))
 simp only [hbd,decide_false,Bool.false_eq_true,if_false]
 refine zbd (hK _ _ ?_)
 clear hK K f12
 obtain⟨g1,g2,g3⟩:=verB_at L.ver hv.2
 have hbl:(zci (zlg fl v) v (SC.flds sc) t).length≤K0 * szT t:=partB_len L.okf (by rw[SC.flds_len]; exact(zabl L.scb).2.2.2) hwf
 have hK0:K0 * szT t≤40000 * 1048576:=Nat.mul_le_mul (Nat.le_refl _) hsz
 have hbl2:(zci (zlg fl v) v (SC.flds sc) t).length < 274877906944:=by omega
 rw[← g3] at g1 g2
 obtain⟨p1,x,p2,p3⟩:=msg_rd (m:=m) (fx:=true) (ver:=v) hwf (by rw[← g3]; exact g1)
 have p4:=msg_wr (m:=m) (fx:=true) (ver:=v) hwf (by rw[← g3]; exact g1) p2
 have p5:smL x:=by
  have hm:=g1
  rw[g3] at hm
  have hr:=p2
  unfold Msg.rd at hr
  have hp:zci (true && decide ((v:Int) ≥ m.fl)) v (SC.flds sc) t=zdx (true && decide ((v:Int) ≥ m.fl)) v (SC.flds sc) 0 t:=by simp [zci,endB,zdx]
  obtain⟨l',h1,_⟩:=Fds.rd_of m.fs (SC.flds sc) hm 0 t [] hwf
  have h1':=h1
  rw[List.append_nil] at h1
  rw[hp,Fds.rdR,h1] at hr
  simp only [Fds.matB_kt m.fs _ hm] at hr
  have hr:some l'=some x:=hr
  injection hr with hr
  subst hr
  exact Fds.sm_of m.fs (SC.flds sc) L.D.dok hm 0 t [] l' hwf h1'
 rw[← g3] at p1 p2 p4
 have hi16:IntKind.i16.wrap (v:Int)=v:=zti (by have:=L.kk; omega)
 obtain⟨bs,hs⟩:∃ s,s=zci (zlg fl v) v (SC.flds sc) t:=⟨_,rfl⟩
 rw[← hs] at hbl2 p1 p2 p4
 have hrd:m.rd true v ⟨bs,false,bs.isEmpty⟩=some x:=by
  cases he:bs.isEmpty with
  | false=>exact p2
  | true=>
   rw[List.isEmpty_iff] at he
   rcases g2 with g2 | g2
   ·exact absurd he (p1 g2)
   ·rw[he] at p2 ⊢
    rw[g3] at g2
    obtain⟨y,hy⟩:=Fds.off_rdR g2
    simp only [Msg.rd,rs,hy] at p2 ⊢
    exact p2
 have hld:=htM.run_load (w:=w6) (b:=bM) (o:=0) r6 rfl (fun h=>by cases h)
 have hlv:∀ (f:Array Field) (x:List Value),ldv (.struct f) x=.agg x.toArray:=fun _ _=>rfl
 rw[hlv] at hld
 have hgl:N.zj < w.heap.size:=zde (by rw[he]; rfl)
 refine zaa fun K hK=>zi fun τ=>?_
 simp +decide only [bK,bE,Nat.reduceBeqDiff,Nat.reduceAdd,f5,f10,f11,hld,zga S.tr rT6 ht.len]
 rw[zit hW.Write.has]
 simp +decide only [bK,bE,Nat.reduceBeqDiff,BEq.rfl]
 refine(sp_Write B S hW (by rw[SC.flds_len]; exact(zabl L.scb).2.2.2) L.okf hf6 ht6 hwf (by rw[← hs]; omega)).mono ?_
 rintro r w7 ⟨ho7,m7⟩
 rw[← hs] at ho7
 refine hK _ _ (zb fun σ7 hσ=>?_)
 have i2:=hσ 2
 have i4:=hσ 4
 have i10:=hσ 10
 have i11:=hσ 11
 have i13:=hσ 13
 simp +decide only [bE,Nat.reduceBeqDiff,BEq.rfl,Nat.reduceAdd,f2,f4,f10,f11] at i2 i4 i10 i11 i13
 clear hσ hK K f2 f4 f5 f10 f11
 have m07:=m06.trans' m7
 have rI7:=zad m7 rI6
 have rM7:=zad m7 r6
 have he7:w7.cell? ⟨N.zj,0,none⟩=some (.iface te ve):=by rw[m07.cell _ _ hgl fun h=>h]; exact he
 have hfx:zlg fl v=decide ((v:Int) ≥ m.fl):=by rw[g3,Bool.true_and]
 rw[hfx] at p4
 have hld7:=hId.run_load (w:=w7) (b:=bI) (o:=0) (cs:=[.bool h,strV s]) rI7 rfl (fun h=>by cases h)
 rw[hlvI] at hld7
 have hhl:(zgl key v corr (cidO h s) (decide ((v:Int) ≥ m.fl))).length≤11+s.length:=by
  simp only [zgl,List.length_append,zaw,ztj]
  cases h<;>cases decide ((v:Int) ≥ m.fl)<;>simp [zaw]<;>omega
 refine zaa fun K hK=>zi fun τ=>?_
 simp +decide only [bK,bE,Nat.reduceBeqDiff,BEq.rfl,Nat.reduceAdd,i2,i4,i11,i13,hld7]
 rw[zgq L.ti.has]
 simp +decide only [bK,bE,Nat.reduceBeqDiff,BEq.rfl]
 refine(call_doorF B F C hR hS.u32 hS.i32 hS.n16 hS.n32 hS.nNS L.D L.ao L.fm L.ap L.ti L.rf (n:=v) (x:=x) ho7.octA.argOct (by omega) (by omega) hcw he7 (by rw[hi16]; exact hrd) p5 (by rw[hi16]; omega) (by rw[hi16,p4]; omega)).mono ?_
 rintro _ w8 ⟨vo,rfl,ho8,m8⟩
 rw[hi16,p4,← hfx] at ho8
 simp +decide only [bK]
 refine hK _ _ (zb fun σ8 hσ=>?_)
 have j2:=hσ 2
 have j4:=hσ 4
 have j10:=hσ 10
 have j11:=hσ 11
 have j13:=hσ 13
 have j14:=hσ 14
 have j15:=hσ 15
 simp +decide only [bE,Nat.reduceBeqDiff,BEq.rfl,Nat.reduceAdd,i2,i4,i10,i11,i13] at j2 j4 j10 j11 j13 j14 j15
 clear hσ hK K i2 i4 i10 i11 i13
 refine zaa fun K hK=>W_sameF B F S hW.Fixed hS hN j2 j4 j10 j11 j13 j14 j15 (zad m8 rI7) (zad m8 rM7) (ho7.octA.stay m8) ho8 hcw (by omega) fun σ9 w9 h4 m9=>hK _ _ ?_
 exact zaa fun K2 hK2=>zbb ⟨.inr rfl,_,rfl,h4,(m07.trans' m8).trans' m9⟩
end
section
open Go Go.RowKit Go.ChangeShapes Go.WideShapes
theorem idArg_of {P:Program} {N:Nums} {H:Type} {enc:TypeId × Value→H} {W:World} {v:Value} {d:DataW H} {p:List MemPlace} {base:Nat} {t:TypeId} (Bs:Base P N) (hu:∃ fs,P.underlying t=some (.struct fs)∧fs.toList.map (fun f=>(f.offset,f.type))=[(0,N.zay),(1,N.zac)])
  (c2:P.cellsOf t=2) (cb:P.cellsOf N.zay=1) (cs:P.cellsOf N.zac=1) (hok:Value.okWide P W .any base t v) (h:DataW.Trod enc P W 0 (fun _=>true) true t v d p):∃ b s,v=.agg [.bool b,strV s].toArray:=by
 obtain⟨fs,hu,hfs⟩:=hu
 unfold Value.okWide at hok
 rw[hu] at hok
 obtain⟨cl,rfl,_⟩:=hok
 obtain⟨fuel,hf⟩:=h
 have hf:DataW.trod enc P W 0 (fun _=>true) true fuel t cl.toList=some (d,p):=hf
 obtain⟨xs,n',_,hx,hcl,hxl,hfi⟩:=DataW.trod_struct hu hf
 rw[c2] at hcl
 have hfl:fs.toList.length=2:=by have:=congrArg List.length hfs; simpa using this
 have hfd:∀ (k:Nat) (o:Nat) (t:TypeId),[(0,N.zay),(1,N.zac)][k]?=some (o,t)→∃ f,fs[k]?=some f∧f.offset=o∧f.type=t:=by
  intro k o t hk
  have:=congrArg (fun l=>l[k]?) hfs
  simp only [List.getElem?_map,Array.getElem?_toList] at this
  rw[hk] at this
  cases hf:fs[k]? with
  | none=>rw[hf] at this; simp at this
  | some f=>rw[hf] at this; simp at this; exact⟨f,rfl,this.1,this.2⟩
 have hx2:xs.length=2:=by rw[hxl,← Array.length_toList,hfl]
 obtain⟨l,hl⟩:∃ l,l=cl.toList:=⟨_,rfl⟩
 have hcl':cl=l.toArray:=by rw[hl]
 rw[← hl] at hcl hfi
 subst hcl'
 match l,hcl,xs,hx2 with
 | [c0,c1],_,[x0,x1],_=>
  obtain⟨f0,e0,o0,t0⟩:=hfd 0 _ _ rfl
  obtain⟨f1,e1,o1,t1⟩:=hfd 1 _ _ rfl
  have h0:=hfi 0 f0 e0
  have h1:=hfi 1 f1 e1
  rw[o0,t0,cb] at h0
  rw[o1,t1,cs] at h1
  have h0:DataW.trod enc P W 0 (fun _=>true) true n' N.zay [c0]=some x0:=h0
  have h1:DataW.trod enc P W 0 (fun _=>true) true n' N.zac [c1]=some x1:=h1
  obtain⟨b,hb,_⟩:=DataW.trod_bool Bs.bool.und h0
  obtain⟨s,hs,_⟩:=DataW.trod_string Bs.string.und h1
  have hc0:c0=.bool b:=by simpa using hb
  have hc1:c1=.string s:=by simpa using hs
  exact⟨b,s.data.toList,by rw[hc0,hc1]; simp [strV]⟩
def fnB (P:Program) (t:TypeId):Bool:=
 (match P.underlying t with | some (.func ..)=>true | _=>false) && (match P.info? t with | some i=>Nat.beq i.size 1 && Nat.beq i.bytes 8 && (match i.zero with | some .nilFunc=>true | _=>false) | none=>false)
theorem fnB_ok {P:Program} {t:TypeId} (h:fnB P t=true):∃ p r v,TI P t (.func p r v) 1 8 .nilFunc:=by
 unfold fnB at h
 rw[Bool.and_eq_true] at h
 obtain⟨h1,h2⟩:=h
 split at h1
 ·rename_i p r v hu
  split at h2
  ·rename_i i hi
   simp only [Bool.and_eq_true] at h2
   obtain⟨⟨h3,h4⟩,h5⟩:=h2
   split at h5
   ·rename_i hz; exact⟨p,r,v,hu,i,hi,by simpa using h3,by simpa using h4,hz⟩
   ·cases h5
  ·cases h2
 ·cases h1
def foB (P:Program) (t:TypeId):Bool:=
 (match P.underlying t with | some (.struct _)=>true | _=>false) && (match P.info? t with | some i=>Nat.beq i.size 1 && Nat.beq i.bytes 8 && (match i.zero with | some (.agg a)=>(match a.toList with | [.nilFunc]=>true | _=>false) | _=>false) | none=>false) && zxl P t [(0,1)]
theorem foB_ok {P:Program} {t:TypeId} (h:foB P t=true):SF P t [(0,1)] 8 [.nilFunc]:=by
 unfold foB at h
 rw[Bool.and_eq_true,Bool.and_eq_true] at h
 obtain⟨⟨h1,h2⟩,h6⟩:=h
 split at h1
 ·rename_i fs hu
  split at h2
  ·rename_i i hi
   simp only [Bool.and_eq_true] at h2
   obtain⟨⟨h3,h4⟩,h5⟩:=h2
   split at h5
   ·rename_i a hz
    split at h5
    ·rename_i hl
     have ha:a=[Value.nilFunc].toArray:=by rw[← hl]
     rw[ha] at hz
     have ht:TI P t (.struct fs) 1 8 (.agg [Value.nilFunc].toArray):=⟨hu,i,hi,by simpa using h3,by simpa using h4,hz⟩
     refine⟨fs,ht,?_⟩
     unfold zxl at h6
     rw[hu] at h6
     simp only at h6
     split at h6
     ·rename_i r hr
      rw[hr]; simpa using h6
     ·cases h6
    ·cases h5
   ·cases h5
  ·cases h2
 ·cases h1
end
end Go.Kf
