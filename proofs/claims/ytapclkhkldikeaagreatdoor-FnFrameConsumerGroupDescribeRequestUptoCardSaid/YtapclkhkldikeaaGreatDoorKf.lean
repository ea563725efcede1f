/- A part of the calculus by which the claim's proof goes: over any program and any numbering of its functions; no condition beyond those that each theorem names. -/
import Derived.Test.YtapclkhkldikeaaGreatDoorKe
set_option linter.unusedSimpArgs false
set_option linter.unusedVariables false
namespace Go.Kf
open Go Go.RowKit
structure zdk where
 zdj:Nat:=0
 zjm:Nat:=0
 zic:Nat:=0
 zbp:Nat:=0
 zep:Nat:=0
 zau:Nat:=0
 zgf:Nat:=0
 zcw:Nat:=0
 zcs:Nat:=0
 zce:Nat:=0
 zas:Nat:=0
 zgu:Nat:=0
 zjl:Nat:=0
 zbl:Nat:=0
 zjk:Nat:=0
 zbn:Nat:=0
 zet:Nat:=0
 zed:Nat:=0
 zbw:Nat:=0
 zjj:Nat:=0
 zdg:Nat:=0
 zey:Nat:=0
 zdm:Nat:=0
 zkl:Nat:=0
 zji:Nat:=0
 zhc:Nat:=0
 zev:Nat:=0
 t_PTags:Nat:=0
def zob (N:Nums) (A:zdk):C:=
 .seq (
 .ops [
  ⟨some (2+100),.assign (.const (.slice none 0 0)),0,none,[]⟩]) (
 .seq (
 .seq (
 .ops [
  ⟨some (3+100),.move (V 1),0,none,[]⟩]) (
 .cond 3 (
  .seq (
  .ops [
   ⟨some 0,.move (V 0),0,none,[]⟩,
   ⟨some 1,.buildSlice N.za 1 #[(0,(.const (.int .u8 1)))],0,none,[]⟩,
   ⟨some 2,.call ⟨.builtin .append,#[T 0,T 1],#[N.za,N.za]⟩,N.za,none,[]⟩,
   ⟨some (2+100),.assign (T 2),0,none,[]⟩]) (
  .ret)) (
  .skip))) (
 .seq (
 .ops [
  ⟨some 0,.move (V 0),0,none,[]⟩,
  ⟨some 1,.buildSlice N.za 1 #[(0,(.const (.int .u8 0)))],0,none,[]⟩,
  ⟨some 2,.call ⟨.builtin .append,#[T 0,T 1],#[N.za,N.za]⟩,N.za,none,[]⟩,
  ⟨some (2+100),.assign (T 2),0,none,[]⟩]) (
 .ret)))
def zoa (N:Nums) (A:zdk):C:=
 .seq (
 .ops [
  ⟨some (2+100),.assign (.const (.slice none 0 0)),0,none,[]⟩]) (
 .seq (
 .ops [
  ⟨some 0,.move (V 0),0,none,[]⟩,
  ⟨some 1,.move (V 1),0,none,[]⟩,
  ⟨some 2,.convert N.zjd N.zh (T 1),0,none,[]⟩,
  ⟨some 3,.buildSlice N.za 1 #[(0,(T 2))],0,none,[]⟩,
  ⟨some 4,.call ⟨.builtin .append,#[T 0,T 3],#[N.za,N.za]⟩,N.za,none,[]⟩,
  ⟨some (2+100),.assign (T 4),0,none,[]⟩]) (
 .ret))
def zgx (N:Nums) (A:zdk):C:=
 .seq (
 .ops [
  ⟨some (2+100),.assign (.const (.slice none 0 0)),0,none,[]⟩]) (
 .seq (
 .ops [
  ⟨some 0,.move (V 0),0,none,[]⟩,
  ⟨some 1,.move (V 1),0,none,[]⟩,
  ⟨some 2,.convert N.zbf N.zfj (T 1),0,none,[]⟩,
  ⟨some 3,.call ⟨.value (.func A.zed),#[T 0,T 2],#[N.za,N.zfj]⟩,N.za,none,[]⟩,
  ⟨some (2+100),.assign (T 3),0,none,[]⟩]) (
 .ret))
def zfh (N:Nums) (A:zdk):C:=
 .seq (
 .ops [
  ⟨some (2+100),.assign (.const (.slice none 0 0)),0,none,[]⟩]) (
 .seq (
 .ops [
  ⟨some 0,.move (V 0),0,none,[]⟩,
  ⟨some 1,.move (V 1),0,none,[]⟩,
  ⟨some 2,.binOp .shr N.zfj (T 1) (.const (.int .u64 8)) N.zcq,0,none,[]⟩,
  ⟨some 3,.convert N.zfj N.zh (T 2),0,none,[]⟩,
  ⟨some 4,.move (V 1),0,none,[]⟩,
  ⟨some 5,.convert N.zfj N.zh (T 4),0,none,[]⟩,
  ⟨some 6,.buildSlice N.za 2 #[(0,(T 3)),(1,(T 5))],0,none,[]⟩,
  ⟨some 7,.call ⟨.builtin .append,#[T 0,T 6],#[N.za,N.za]⟩,N.za,none,[]⟩,
  ⟨some (2+100),.assign (T 7),0,none,[]⟩]) (
 .ret))
def zdc (N:Nums) (A:zdk):C:=
 .seq (
 .ops [
  ⟨some (2+100),.assign (.const (.slice none 0 0)),0,none,[]⟩]) (
 .seq (
 .ops [
  ⟨some 0,.move (V 0),0,none,[]⟩,
  ⟨some 1,.move (V 1),0,none,[]⟩,
  ⟨some 2,.convert N.zbr N.zc (T 1),0,none,[]⟩,
  ⟨some 3,.call ⟨.value (.func A.zbw),#[T 0,T 2],#[N.za,N.zc]⟩,N.za,none,[]⟩,
  ⟨some (2+100),.assign (T 3),0,none,[]⟩]) (
 .ret))
def zch (N:Nums) (A:zdk):C:=
 .seq (
 .ops [
  ⟨some (2+100),.assign (.const (.slice none 0 0)),0,none,[]⟩]) (
 .seq (
 .ops [
  ⟨some 0,.move (V 0),0,none,[]⟩,
  ⟨some 1,.move (V 1),0,none,[]⟩,
  ⟨some 2,.binOp .shr N.zc (T 1) (.const (.int .u64 24)) N.zcq,0,none,[]⟩,
  ⟨some 3,.convert N.zc N.zh (T 2),0,none,[]⟩,
  ⟨some 4,.move (V 1),0,none,[]⟩,
  ⟨some 5,.binOp .shr N.zc (T 4) (.const (.int .u64 16)) N.zcq,0,none,[]⟩,
  ⟨some 6,.convert N.zc N.zh (T 5),0,none,[]⟩,
  ⟨some 7,.move (V 1),0,none,[]⟩,
  ⟨some 8,.binOp .shr N.zc (T 7) (.const (.int .u64 8)) N.zcq,0,none,[]⟩,
  ⟨some 9,.convert N.zc N.zh (T 8),0,none,[]⟩,
  ⟨some 10,.move (V 1),0,none,[]⟩,
  ⟨some 11,.convert N.zc N.zh (T 10),0,none,[]⟩,
  ⟨some 12,.buildSlice N.za 4 #[(0,(T 3)),(1,(T 6)),(2,(T 9)),(3,(T 11))],0,none,[]⟩,
  ⟨some 13,.call ⟨.builtin .append,#[T 0,T 12],#[N.za,N.za]⟩,N.za,none,[]⟩,
  ⟨some (2+100),.assign (T 13),0,none,[]⟩]) (
 .ret))
def zmq (N:Nums) (A:zdk):C:=
 .seq (
 .ops [
  ⟨some (2+100),.assign (.const (.slice none 0 0)),0,none,[]⟩]) (
 .seq (
 .ops [
  ⟨some 0,.move (V 0),0,none,[]⟩,
  ⟨some 1,.move (V 1),0,none,[]⟩,
  ⟨some 2,.convert N.zcv N.zaj (T 1),0,none,[]⟩,
  ⟨some 3,.call ⟨.value (.func A.zhc),#[T 0,T 2],#[N.za,N.zaj]⟩,N.za,none,[]⟩,
  ⟨some (2+100),.assign (T 3),0,none,[]⟩]) (
 .ret))
def znz (N:Nums) (A:zdk):C:=
 .seq (
 .ops [
  ⟨some (2+100),.box N.zaq (V 1),0,none,[]⟩,
  ⟨some (3+100),.assign (.const (.slice none 0 0)),0,none,[]⟩]) (
 .seq (
 .ops [
  ⟨some 0,.move (V 0),0,none,[]⟩,
  ⟨some 1,.slice N.zaq (V 2) none none none,0,none,[]⟩,
  ⟨some 2,.call ⟨.builtin .append,#[T 0,T 1],#[N.za,N.za]⟩,N.za,none,[]⟩,
  ⟨some (3+100),.assign (T 2),0,none,[]⟩]) (
 .ret))
def zny (N:Nums) (A:zdk):C:=
 .seq (
 .ops [
  ⟨some (2+100),.assign (.const (.slice none 0 0)),0,none,[]⟩]) (
 .seq (
 .seq (
 .ops [
  ⟨some 0,.move (V 1),0,none,[]⟩,
  ⟨some (3+100),.call ⟨.value (.func A.zji),#[T 0],#[N.zc]⟩,N.ze,none,[]⟩]) (
 .block 0 (
  .seq (
  .ops [
   ⟨some 0,.binOp .eql N.ze (V 3) (.const (.int .i64 5)) N.ze,0,none,[]⟩,
   ⟨some (4+100),.assign (T 0),0,none,[]⟩]) (
  .cond 4 (
   .seq (
   .ops [
    ⟨some 0,.move (V 0),0,none,[]⟩,
    ⟨some 1,.move (V 1),0,none,[]⟩,
    ⟨some 2,.binOp .and N.zc (T 1) (.const (.int .u32 127)) N.zc,0,none,[]⟩,
    ⟨some 3,.binOp .or N.zc (T 2) (.const (.int .u32 128)) N.zc,0,none,[]⟩,
    ⟨some 4,.convert N.zc N.zh (T 3),0,none,[]⟩,
    ⟨some 5,.move (V 1),0,none,[]⟩,
    ⟨some 6,.binOp .shr N.zc (T 5) (.const (.int .u64 7)) N.zcq,0,none,[]⟩,
    ⟨some 7,.binOp .and N.zc (T 6) (.const (.int .u32 127)) N.zc,0,none,[]⟩,
    ⟨some 8,.binOp .or N.zc (T 7) (.const (.int .u32 128)) N.zc,0,none,[]⟩,
    ⟨some 9,.convert N.zc N.zh (T 8),0,none,[]⟩,
    ⟨some 10,.move (V 1),0,none,[]⟩,
    ⟨some 11,.binOp .shr N.zc (T 10) (.const (.int .u64 14)) N.zcq,0,none,[]⟩,
    ⟨some 12,.binOp .and N.zc (T 11) (.const (.int .u32 127)) N.zc,0,none,[]⟩,
    ⟨some 13,.binOp .or N.zc (T 12) (.const (.int .u32 128)) N.zc,0,none,[]⟩,
    ⟨some 14,.convert N.zc N.zh (T 13),0,none,[]⟩,
    ⟨some 15,.move (V 1),0,none,[]⟩,
    ⟨some 16,.binOp .shr N.zc (T 15) (.const (.int .u64 21)) N.zcq,0,none,[]⟩,
    ⟨some 17,.binOp .and N.zc (T 16) (.const (.int .u32 127)) N.zc,0,none,[]⟩,
    ⟨some 18,.binOp .or N.zc (T 17) (.const (.int .u32 128)) N.zc,0,none,[]⟩,
    ⟨some 19,.convert N.zc N.zh (T 18),0,none,[]⟩,
    ⟨some 20,.move (V 1),0,none,[]⟩,
    ⟨some 21,.binOp .shr N.zc (T 20) (.const (.int .u64 28)) N.zcq,0,none,[]⟩,
    ⟨some 22,.convert N.zc N.zh (T 21),0,none,[]⟩,
    ⟨some 23,.buildSlice N.za 5 #[(0,(T 4)),(1,(T 9)),(2,(T 14)),(3,(T 19)),(4,(T 22))],0,none,[]⟩,
    ⟨some 24,.call ⟨.builtin .append,#[T 0,T 23],#[N.za,N.za]⟩,N.za,none,[]⟩,
    ⟨some (2+100),.assign (T 24),0,none,[]⟩]) (
   .ret)) (
   .seq (
   .ops [
    ⟨some 0,.binOp .eql N.ze (V 3) (.const (.int .i64 4)) N.ze,0,none,[]⟩,
    ⟨some (5+100),.assign (T 0),0,none,[]⟩]) (
   .cond 5 (
    .seq (
    .ops [
     ⟨some 0,.move (V 0),0,none,[]⟩,
     ⟨some 1,.move (V 1),0,none,[]⟩,
     ⟨some 2,.binOp .and N.zc (T 1) (.const (.int .u32 127)) N.zc,0,none,[]⟩,
     ⟨some 3,.binOp .or N.zc (T 2) (.const (.int .u32 128)) N.zc,0,none,[]⟩,
     ⟨some 4,.convert N.zc N.zh (T 3),0,none,[]⟩,
     ⟨some 5,.move (V 1),0,none,[]⟩,
     ⟨some 6,.binOp .shr N.zc (T 5) (.const (.int .u64 7)) N.zcq,0,none,[]⟩,
     ⟨some 7,.binOp .and N.zc (T 6) (.const (.int .u32 127)) N.zc,0,none,[]⟩,
     ⟨some 8,.binOp .or N.zc (T 7) (.const (.int .u32 128)) N.zc,0,none,[]⟩,
     ⟨some 9,.convert N.zc N.zh (T 8),0,none,[]⟩,
     ⟨some 10,.move (V 1),0,none,[]⟩,
     ⟨some 11,.binOp .shr N.zc (T 10) (.const (.int .u64 14)) N.zcq,0,none,[]⟩,
     ⟨some 12,.binOp .and N.zc (T 11) (.const (.int .u32 127)) N.zc,0,none,[]⟩,
     ⟨some 13,.binOp .or N.zc (T 12) (.const (.int .u32 128)) N.zc,0,none,[]⟩,
     ⟨some 14,.convert N.zc N.zh (T 13),0,none,[]⟩,
     ⟨some 15,.move (V 1),0,none,[]⟩,
     ⟨some 16,.binOp .shr N.zc (T 15) (.const (.int .u64 21)) N.zcq,0,none,[]⟩,
     ⟨some 17,.convert N.zc N.zh (T 16),0,none,[]⟩,
     ⟨some 18,.buildSlice N.za 4 #[(0,(T 4)),(1,(T 9)),(2,(T 14)),(3,(T 17))],0,none,[]⟩,
     ⟨some 19,.call ⟨.builtin .append,#[T 0,T 18],#[N.za,N.za]⟩,N.za,none,[]⟩,
     ⟨some (2+100),.assign (T 19),0,none,[]⟩]) (
    .ret)) (
    .seq (
    .ops [
     ⟨some 0,.binOp .eql N.ze (V 3) (.const (.int .i64 3)) N.ze,0,none,[]⟩,
     ⟨some (6+100),.assign (T 0),0,none,[]⟩]) (
    .cond 6 (
     .seq (
     .ops [
      ⟨some 0,.move (V 0),0,none,[]⟩,
      ⟨some 1,.move (V 1),0,none,[]⟩,
      ⟨some 2,.binOp .and N.zc (T 1) (.const (.int .u32 127)) N.zc,0,none,[]⟩,
      ⟨some 3,.binOp .or N.zc (T 2) (.const (.int .u32 128)) N.zc,0,none,[]⟩,
      ⟨some 4,.convert N.zc N.zh (T 3),0,none,[]⟩,
      ⟨some 5,.move (V 1),0,none,[]⟩,
      ⟨some 6,.binOp .shr N.zc (T 5) (.const (.int .u64 7)) N.zcq,0,none,[]⟩,
      ⟨some 7,.binOp .and N.zc (T 6) (.const (.int .u32 127)) N.zc,0,none,[]⟩,
      ⟨some 8,.binOp .or N.zc (T 7) (.const (.int .u32 128)) N.zc,0,none,[]⟩,
      ⟨some 9,.convert N.zc N.zh (T 8),0,none,[]⟩,
      ⟨some 10,.move (V 1),0,none,[]⟩,
      ⟨some 11,.binOp .shr N.zc (T 10) (.const (.int .u64 14)) N.zcq,0,none,[]⟩,
      ⟨some 12,.convert N.zc N.zh (T 11),0,none,[]⟩,
      ⟨some 13,.buildSlice N.za 3 #[(0,(T 4)),(1,(T 9)),(2,(T 12))],0,none,[]⟩,
      ⟨some 14,.call ⟨.builtin .append,#[T 0,T 13],#[N.za,N.za]⟩,N.za,none,[]⟩,
      ⟨some (2+100),.assign (T 14),0,none,[]⟩]) (
     .ret)) (
     .seq (
     .ops [
      ⟨some 0,.binOp .eql N.ze (V 3) (.const (.int .i64 2)) N.ze,0,none,[]⟩,
      ⟨some (7+100),.assign (T 0),0,none,[]⟩]) (
     .cond 7 (
      .seq (
      .ops [
       ⟨some 0,.move (V 0),0,none,[]⟩,
       ⟨some 1,.move (V 1),0,none,[]⟩,
       ⟨some 2,.binOp .and N.zc (T 1) (.const (.int .u32 127)) N.zc,0,none,[]⟩,
       ⟨some 3,.binOp .or N.zc (T 2) (.const (.int .u32 128)) N.zc,0,none,[]⟩,
       ⟨some 4,.convert N.zc N.zh (T 3),0,none,[]⟩,
       ⟨some 5,.move (V 1),0,none,[]⟩,
       ⟨some 6,.binOp .shr N.zc (T 5) (.const (.int .u64 7)) N.zcq,0,none,[]⟩,
       ⟨some 7,.convert N.zc N.zh (T 6),0,none,[]⟩,
       ⟨some 8,.buildSlice N.za 2 #[(0,(T 4)),(1,(T 7))],0,none,[]⟩,
       ⟨some 9,.call ⟨.builtin .append,#[T 0,T 8],#[N.za,N.za]⟩,N.za,none,[]⟩,
       ⟨some (2+100),.assign (T 9),0,none,[]⟩]) (
      .ret)) (
      .seq (
      .ops [
       ⟨some 0,.binOp .eql N.ze (V 3) (.const (.int .i64 1)) N.ze,0,none,[]⟩,
       ⟨some (8+100),.assign (T 0),0,none,[]⟩]) (
      .cond 8 (
       .seq (
       .ops [
        ⟨some 0,.move (V 0),0,none,[]⟩,
        ⟨some 1,.move (V 1),0,none,[]⟩,
        ⟨some 2,.convert N.zc N.zh (T 1),0,none,[]⟩,
        ⟨some 3,.buildSlice N.za 1 #[(0,(T 2))],0,none,[]⟩,
        ⟨some 4,.call ⟨.builtin .append,#[T 0,T 3],#[N.za,N.za]⟩,N.za,none,[]⟩,
        ⟨some (2+100),.assign (T 4),0,none,[]⟩]) (
       .ret)) (
       .skip))))))))))))) (
 .seq (
 .ops [
  ⟨some 0,.move (V 0),0,none,[]⟩,
  ⟨some (2+100),.assign (T 0),0,none,[]⟩]) (
 .ret)))
def zja (N:Nums) (A:zdk):C:=
 .seq (
 .ops [
  ⟨some (2+100),.assign (.const (.slice none 0 0)),0,none,[]⟩]) (
 .seq (
 .ops [
  ⟨some 0,.move (V 0),0,none,[]⟩,
  ⟨some 1,.move (V 1),0,none,[]⟩,
  ⟨some 2,.call ⟨.builtin .len,#[T 1],#[N.zac]⟩,N.ze,none,[]⟩,
  ⟨some 3,.convert N.ze N.zbf (T 2),0,none,[]⟩,
  ⟨some 4,.call ⟨.value (.func A.zce),#[T 0,T 3],#[N.za,N.zbf]⟩,N.za,none,[]⟩,
  ⟨some (0+100),.assign (T 4),0,none,[]⟩]) (
 .seq (
 .ops [
  ⟨some 0,.move (V 0),0,none,[]⟩,
  ⟨some 1,.move (V 1),0,none,[]⟩,
  ⟨some 2,.call ⟨.builtin .append,#[T 0,T 1],#[N.za,N.zac]⟩,N.za,none,[]⟩,
  ⟨some (2+100),.assign (T 2),0,none,[]⟩]) (
 .ret)))
def zfa (N:Nums) (A:zdk):C:=
 .seq (
 .ops [
  ⟨some (2+100),.assign (.const (.slice none 0 0)),0,none,[]⟩]) (
 .seq (
 .ops [
  ⟨some 0,.move (V 0),0,none,[]⟩,
  ⟨some 1,.move (V 1),0,none,[]⟩,
  ⟨some 2,.call ⟨.builtin .len,#[T 1],#[N.zac]⟩,N.ze,none,[]⟩,
  ⟨some 3,.convert N.ze N.zc (T 2),0,none,[]⟩,
  ⟨some 4,.binOp .add N.zc (.const (.int .u32 1)) (T 3) N.zc,0,none,[]⟩,
  ⟨some 5,.call ⟨.value (.func A.zdg),#[T 0,T 4],#[N.za,N.zc]⟩,N.za,none,[]⟩,
  ⟨some (0+100),.assign (T 5),0,none,[]⟩]) (
 .seq (
 .ops [
  ⟨some 0,.move (V 0),0,none,[]⟩,
  ⟨some 1,.move (V 1),0,none,[]⟩,
  ⟨some 2,.call ⟨.builtin .append,#[T 0,T 1],#[N.za,N.zac]⟩,N.za,none,[]⟩,
  ⟨some (2+100),.assign (T 2),0,none,[]⟩]) (
 .ret)))
def zgd (N:Nums) (A:zdk):C:=
 .seq (
 .ops [
  ⟨some (2+100),.assign (.const (.slice none 0 0)),0,none,[]⟩]) (
 .seq (
 .seq (
 .ops [
  ⟨some 0,.move (V 1),0,none,[]⟩,
  ⟨some (3+100),.binOp .eql N.zbc (T 0) (.const (.pointer none)) N.zbc,0,none,[]⟩]) (
 .cond 3 (
  .seq (
  .ops [
   ⟨some 0,.move (V 0),0,none,[]⟩,
   ⟨some 1,.call ⟨.value (.func A.zce),#[(T 0),(.const (.int .i16 (-1)))],#[N.za,N.zbf]⟩,N.za,none,[]⟩,
   ⟨some (2+100),.assign (T 1),0,none,[]⟩]) (
  .ret)) (
  .skip))) (
 .seq (
 .ops [
  ⟨some 0,.move (V 0),0,none,[]⟩,
  ⟨some 1,.move (V 1),0,none,[]⟩,
  ⟨some 2,.nilCheck (T 1),0,none,[]⟩,
  ⟨some 3,.load N.zac (T 2),0,none,[]⟩,
  ⟨some 4,.call ⟨.value (.func A.zet),#[T 0,T 3],#[N.za,N.zac]⟩,N.za,none,[]⟩,
  ⟨some (2+100),.assign (T 4),0,none,[]⟩]) (
 .ret)))
def zel (N:Nums) (A:zdk):C:=
 .seq (
 .ops [
  ⟨some (2+100),.assign (.const (.slice none 0 0)),0,none,[]⟩]) (
 .seq (
 .seq (
 .ops [
  ⟨some 0,.move (V 1),0,none,[]⟩,
  ⟨some (3+100),.binOp .eql N.zbc (T 0) (.const (.pointer none)) N.zbc,0,none,[]⟩]) (
 .cond 3 (
  .seq (
  .ops [
   ⟨some 0,.move (V 0),0,none,[]⟩,
   ⟨some 1,.call ⟨.value (.func A.zdg),#[(T 0),(.const (.int .u32 0))],#[N.za,N.zc]⟩,N.za,none,[]⟩,
   ⟨some (2+100),.assign (T 1),0,none,[]⟩]) (
  .ret)) (
  .skip))) (
 .seq (
 .ops [
  ⟨some 0,.move (V 0),0,none,[]⟩,
  ⟨some 1,.move (V 1),0,none,[]⟩,
  ⟨some 2,.nilCheck (T 1),0,none,[]⟩,
  ⟨some 3,.load N.zac (T 2),0,none,[]⟩,
  ⟨some 4,.call ⟨.value (.func A.zcs),#[T 0,T 3],#[N.za,N.zac]⟩,N.za,none,[]⟩,
  ⟨some (2+100),.assign (T 4),0,none,[]⟩]) (
 .ret)))
def zjp (N:Nums) (A:zdk):C:=
 .seq (
 .ops [
  ⟨some (2+100),.assign (.const (.slice none 0 0)),0,none,[]⟩]) (
 .seq (
 .ops [
  ⟨some 0,.move (V 0),0,none,[]⟩,
  ⟨some 1,.move (V 1),0,none,[]⟩,
  ⟨some 2,.convert N.ze N.zbr (T 1),0,none,[]⟩,
  ⟨some 3,.call ⟨.value (.func A.zas),#[T 0,T 2],#[N.za,N.zbr]⟩,N.za,none,[]⟩,
  ⟨some (2+100),.assign (T 3),0,none,[]⟩]) (
 .ret))
def zft (N:Nums) (A:zdk):C:=
 .seq (
 .ops [
  ⟨some (2+100),.assign (.const (.slice none 0 0)),0,none,[]⟩]) (
 .seq (
 .ops [
  ⟨some 0,.move (V 0),0,none,[]⟩,
  ⟨some 1,.move (V 1),0,none,[]⟩,
  ⟨some 2,.convert N.ze N.zc (T 1),0,none,[]⟩,
  ⟨some 3,.binOp .add N.zc (.const (.int .u32 1)) (T 2) N.zc,0,none,[]⟩,
  ⟨some 4,.call ⟨.value (.func A.zdg),#[T 0,T 3],#[N.za,N.zc]⟩,N.za,none,[]⟩,
  ⟨some (2+100),.assign (T 4),0,none,[]⟩]) (
 .ret))
def zfl (N:Nums) (A:zdk):C:=
 .seq (
 .ops [
  ⟨some (3+100),.assign (.const (.slice none 0 0)),0,none,[]⟩]) (
 .seq (
 .seq (
 .ops [
  ⟨some (4+100),.move (V 2),0,none,[]⟩]) (
 .cond 4 (
  .seq (
  .ops [
   ⟨some 0,.move (V 0),0,none,[]⟩,
   ⟨some 1,.call ⟨.value (.func A.zas),#[(T 0),(.const (.int .i32 (-1)))],#[N.za,N.zbr]⟩,N.za,none,[]⟩,
   ⟨some (3+100),.assign (T 1),0,none,[]⟩]) (
  .ret)) (
  .skip))) (
 .seq (
 .ops [
  ⟨some 0,.move (V 0),0,none,[]⟩,
  ⟨some 1,.move (V 1),0,none,[]⟩,
  ⟨some 2,.convert N.ze N.zbr (T 1),0,none,[]⟩,
  ⟨some 3,.call ⟨.value (.func A.zas),#[T 0,T 2],#[N.za,N.zbr]⟩,N.za,none,[]⟩,
  ⟨some (3+100),.assign (T 3),0,none,[]⟩]) (
 .ret)))
def zeb (N:Nums) (A:zdk):C:=
 .seq (
 .ops [
  ⟨some (3+100),.assign (.const (.slice none 0 0)),0,none,[]⟩]) (
 .seq (
 .seq (
 .ops [
  ⟨some (4+100),.move (V 2),0,none,[]⟩]) (
 .cond 4 (
  .seq (
  .ops [
   ⟨some 0,.move (V 0),0,none,[]⟩,
   ⟨some 1,.call ⟨.value (.func A.zdg),#[(T 0),(.const (.int .u32 0))],#[N.za,N.zc]⟩,N.za,none,[]⟩,
   ⟨some (3+100),.assign (T 1),0,none,[]⟩]) (
  .ret)) (
  .skip))) (
 .seq (
 .ops [
  ⟨some 0,.move (V 0),0,none,[]⟩,
  ⟨some 1,.move (V 1),0,none,[]⟩,
  ⟨some 2,.convert N.ze N.zc (T 1),0,none,[]⟩,
  ⟨some 3,.binOp .add N.zc (.const (.int .u32 1)) (T 2) N.zc,0,none,[]⟩,
  ⟨some 4,.call ⟨.value (.func A.zdg),#[T 0,T 3],#[N.za,N.zc]⟩,N.za,none,[]⟩,
  ⟨some (3+100),.assign (T 4),0,none,[]⟩]) (
 .ret)))
def ziz (N:Nums) (A:zdk):C:=
 .seq (
 .ops [
  ⟨some (2+100),.assign (.const (.slice none 0 0)),0,none,[]⟩]) (
 .seq (
 .ops [
  ⟨some 0,.move (V 0),0,none,[]⟩,
  ⟨some 1,.move (V 1),0,none,[]⟩,
  ⟨some 2,.binOp .shr N.zaj (T 1) (.const (.int .u64 56)) N.zcq,0,none,[]⟩,
  ⟨some 3,.convert N.zaj N.zh (T 2),0,none,[]⟩,
  ⟨some 4,.move (V 1),0,none,[]⟩,
  ⟨some 5,.binOp .shr N.zaj (T 4) (.const (.int .u64 48)) N.zcq,0,none,[]⟩,
  ⟨some 6,.convert N.zaj N.zh (T 5),0,none,[]⟩,
  ⟨some 7,.move (V 1),0,none,[]⟩,
  ⟨some 8,.binOp .shr N.zaj (T 7) (.const (.int .u64 40)) N.zcq,0,none,[]⟩,
  ⟨some 9,.convert N.zaj N.zh (T 8),0,none,[]⟩,
  ⟨some 10,.move (V 1),0,none,[]⟩,
  ⟨some 11,.binOp .shr N.zaj (T 10) (.const (.int .u64 32)) N.zcq,0,none,[]⟩,
  ⟨some 12,.convert N.zaj N.zh (T 11),0,none,[]⟩,
  ⟨some 13,.move (V 1),0,none,[]⟩,
  ⟨some 14,.binOp .shr N.zaj (T 13) (.const (.int .u64 24)) N.zcq,0,none,[]⟩,
  ⟨some 15,.convert N.zaj N.zh (T 14),0,none,[]⟩,
  ⟨some 16,.move (V 1),0,none,[]⟩,
  ⟨some 17,.binOp .shr N.zaj (T 16) (.const (.int .u64 16)) N.zcq,0,none,[]⟩,
  ⟨some 18,.convert N.zaj N.zh (T 17),0,none,[]⟩,
  ⟨some 19,.move (V 1),0,none,[]⟩,
  ⟨some 20,.binOp .shr N.zaj (T 19) (.const (.int .u64 8)) N.zcq,0,none,[]⟩,
  ⟨some 21,.convert N.zaj N.zh (T 20),0,none,[]⟩,
  ⟨some 22,.move (V 1),0,none,[]⟩,
  ⟨some 23,.convert N.zaj N.zh (T 22),0,none,[]⟩,
  ⟨some 24,.buildSlice N.za 8 #[(0,(T 3)),(1,(T 6)),(2,(T 9)),(3,(T 12)),(4,(T 15)),(5,(T 18)),(6,(T 21)),(7,(T 23))],0,none,[]⟩,
  ⟨some 25,.call ⟨.builtin .append,#[T 0,T 24],#[N.za,N.za]⟩,N.za,none,[]⟩,
  ⟨some (2+100),.assign (T 25),0,none,[]⟩]) (
 .ret))
def znv (N:Nums) (A:zdk):C:=
 .seq (
 .ops [
  ⟨some (1+100),.assign (.const (.int .i64 0)),0,none,[]⟩]) (
 .seq (
 .ops [
  ⟨some 0,.move (V 0),0,none,[]⟩,
  ⟨some 1,.call ⟨.value (.func A.zev),#[T 0],#[N.zc]⟩,N.ze,none,[]⟩,
  ⟨some 2,.convert N.ze N.zh (T 1),0,none,[]⟩,
  ⟨some 3,.index N.zac (.const (.string ⟨#[1,1,1,1,1,1,1,1,2,2,2,2,2,2,2,3,3,3,3,3,3,3,4,4,4,4,4,4,4,5,5,5,5,5,5,5,6,6,6,6,6,6,6,7,7,7,7,7,7,7,8,8,8,8,8,8,8,9,9,9,9,9,9,9,10,0,0,0,0,0,0,0,0,0,0,0,0,0,0,0,0,0,0,0,0,0,0,0,0,0,0,0,0,0,0,0,0,0,0,0,0,0,0,0,0,0,0,0,0,0,0,0,0,0,0,0,0,0,0,0,0,0,0,0,0,0,0,0,0,0,0,0,0,0,0,0,0,0,0,0,0,0,0,0,0,0,0,0,0,0,0,0,0,0,0,0,0,0,0,0,0,0,0,0,0,0,0,0,0,0,0,0,0,0,0,0,0,0,0,0,0,0,0,0,0,0,0,0,0,0,0,0,0,0,0,0,0,0,0,0,0,0,0,0,0,0,0,0,0,0,0,0,0,0,0,0,0,0,0,0,0,0,0,0,0,0,0,0,0,0,0,0,0,0,0,0,0,0,0,0,0,0,0,0,0,0,0,0,0,0,0,0,0,0,0,0]⟩)) (T 2),0,none,[]⟩,
  ⟨some 4,.convert N.zh N.ze (T 3),0,none,[]⟩,
  ⟨some (1+100),.assign (T 4),0,none,[]⟩]) (
 .ret))
def zgw (N:Nums) (A:zdk):C:=
 .seq (
 .ops [
  ⟨some (1+100),.assign (.const (.int .i64 0)),0,none,[]⟩]) (
 .seq (
 .seq (
 .ops [
  ⟨some 0,.move (V 0),0,none,[]⟩,
  ⟨some (2+100),.binOp .geq N.zc (T 0) (.const (.int .u32 65536)) N.zc,0,none,[]⟩]) (
 .cond 2 (
  .seq (
  .ops [
   ⟨some 0,.move (V 0),0,none,[]⟩,
   ⟨some 1,.binOp .shr N.zc (T 0) (.const (.int .u64 16)) N.zcq,0,none,[]⟩,
   ⟨some (0+100),.assign (T 1),0,none,[]⟩]) (
  .ops [
   ⟨some (1+100),.assign (.const (.int .i64 16)),0,none,[]⟩])) (
  .skip))) (
 .seq (
 .seq (
 .ops [
  ⟨some 0,.move (V 0),0,none,[]⟩,
  ⟨some (3+100),.binOp .geq N.zc (T 0) (.const (.int .u32 256)) N.zc,0,none,[]⟩]) (
 .cond 3 (
  .seq (
  .ops [
   ⟨some 0,.move (V 0),0,none,[]⟩,
   ⟨some 1,.binOp .shr N.zc (T 0) (.const (.int .u64 8)) N.zcq,0,none,[]⟩,
   ⟨some (0+100),.assign (T 1),0,none,[]⟩]) (
  .ops [
   ⟨some 0,.move (V 1),0,none,[]⟩,
   ⟨some 1,.binOp .add N.ze (T 0) (.const (.int .i64 8)) N.ze,0,none,[]⟩,
   ⟨some (1+100),.assign (T 1),0,none,[]⟩])) (
  .skip))) (
 .seq (
 .ops [
  ⟨some 0,.move (V 1),0,none,[]⟩,
  ⟨some 1,.move (V 0),0,none,[]⟩,
  ⟨some 2,.convert N.zc N.zh (T 1),0,none,[]⟩,
  ⟨some 3,.index N.zac (.const (.string ⟨#[0,1,2,2,3,3,3,3,4,4,4,4,4,4,4,4,5,5,5,5,5,5,5,5,5,5,5,5,5,5,5,5,6,6,6,6,6,6,6,6,6,6,6,6,6,6,6,6,6,6,6,6,6,6,6,6,6,6,6,6,6,6,6,6,7,7,7,7,7,7,7,7,7,7,7,7,7,7,7,7,7,7,7,7,7,7,7,7,7,7,7,7,7,7,7,7,7,7,7,7,7,7,7,7,7,7,7,7,7,7,7,7,7,7,7,7,7,7,7,7,7,7,7,7,7,7,7,7,8,8,8,8,8,8,8,8,8,8,8,8,8,8,8,8,8,8,8,8,8,8,8,8,8,8,8,8,8,8,8,8,8,8,8,8,8,8,8,8,8,8,8,8,8,8,8,8,8,8,8,8,8,8,8,8,8,8,8,8,8,8,8,8,8,8,8,8,8,8,8,8,8,8,8,8,8,8,8,8,8,8,8,8,8,8,8,8,8,8,8,8,8,8,8,8,8,8,8,8,8,8,8,8,8,8,8,8,8,8,8,8,8,8,8,8,8,8,8,8,8,8,8,8,8,8,8,8]⟩)) (T 2),0,none,[]⟩,
  ⟨some 4,.convert N.zh N.ze (T 3),0,none,[]⟩,
  ⟨some 5,.binOp .add N.ze (T 0) (T 4) N.ze,0,none,[]⟩,
  ⟨some (1+100),.assign (T 5),0,none,[]⟩]) (
 .ret))))
def zmp (N:Nums) (A:zdk):C:=
 .seq (
 .ops [
  ⟨some (1+100),.assign (.const (.int .i64 0)),0,none,[]⟩]) (
 .seq (
 .ops [
  ⟨some 0,.move (V 0),0,none,[]⟩,
  ⟨some 1,.nilCheck (T 0),0,none,[]⟩,
  ⟨some 2,.fieldAddr N.zcy (T 1) 0,0,none,[]⟩,
  ⟨some 3,.load N.zab (T 2),0,none,[]⟩,
  ⟨some 4,.call ⟨.builtin .len,#[T 3],#[N.zab]⟩,N.ze,none,[]⟩,
  ⟨some (1+100),.assign (T 4),0,none,[]⟩]) (
 .ret))
def zgg (N:Nums) (A:zdk):C:=
 .seq (
 .ops [
  ⟨some (2+100),.box N.za (V 1),0,none,[]⟩,
  ⟨some (3+100),.assign (.const (.slice none 0 0)),0,none,[]⟩]) (
 .seq (
 .ops [
  ⟨some 0,.move (V 0),0,none,[]⟩,
  ⟨some 1,.makeFunc (.func A.zdm) #[] #[V 2],0,none,[]⟩,
  ⟨some 2,.call ⟨.value (.func N.zhn),#[T 0,T 1],#[A.t_PTags,N.zov]⟩,N.t_,none,[]⟩]) (
 .seq (
 .ops [
  ⟨some 0,.load N.za (V 2),0,none,[]⟩,
  ⟨some (3+100),.assign (T 0),0,none,[]⟩]) (
 .ret)))
def zeq (N:Nums) (A:zdk):C:=
 .seq (
 .ops [
  ⟨some 0,.load N.za (V 2),0,none,[]⟩,
  ⟨some 1,.move (V 0),0,none,[]⟩,
  ⟨some 2,.call ⟨.value (.func A.zdg),#[T 0,T 1],#[N.za,N.zc]⟩,N.za,none,[]⟩,
  ⟨none,.store N.za (V 2) (T 2),0,none,[]⟩]) (
 .seq (
 .ops [
  ⟨some 0,.load N.za (V 2),0,none,[]⟩,
  ⟨some 1,.move (V 1),0,none,[]⟩,
  ⟨some 2,.call ⟨.builtin .len,#[T 1],#[N.za]⟩,N.ze,none,[]⟩,
  ⟨some 3,.convert N.ze N.zc (T 2),0,none,[]⟩,
  ⟨some 4,.call ⟨.value (.func A.zdg),#[T 0,T 3],#[N.za,N.zc]⟩,N.za,none,[]⟩,
  ⟨none,.store N.za (V 2) (T 4),0,none,[]⟩]) (
 .ops [
  ⟨some 0,.load N.za (V 2),0,none,[]⟩,
  ⟨some 1,.move (V 1),0,none,[]⟩,
  ⟨some 2,.call ⟨.builtin .append,#[T 0,T 1],#[N.za,N.za]⟩,N.za,none,[]⟩,
  ⟨none,.store N.za (V 2) (T 2),0,none,[]⟩]))
structure Apd (w:World) (lo:Nat) (v:Value) (l s:List UInt8) (v':Value) (w':World):Prop where
 own:OwnB w' lo v' (l++s)
 mod:Mod w w' (fun k _=>¬ zcl v k)
 keep:∀ k,k < w.heap.size→zcl v k→zcl v' k
theorem Apd.trans {w w1 w2:World} {lo:Nat} {l s s':List UInt8} {v v1 v2:Value} (h1:Apd w lo v l s v1 w1) (h2:Apd w1 lo v1 (l++s) s' v2 w2):Apd w lo v l (s++s') v2 w2:=
 ⟨by rw[← List.append_assoc]; exact h2.own,h1.mod.trans h2.mod fun k _ hk h=>h.elim id fun h hn=>h (h1.keep k hk hn),fun k hk hn=>h2.keep k (Nat.lt_of_lt_of_le hk h1.mod.size) (h1.keep k hk hn)⟩
theorem Apd.after {w w1 w2:World} {lo:Nat} {l s:List UInt8} {v v':Value} (m:Mod w w1 zy) (h:Apd w1 lo v l s v' w2):Apd w lo v l s v' w2:=
 ⟨h.own,m.trans h.mod fun _ _ _ h=>h.elim False.elim id,fun k hk hn=>h.keep k (Nat.lt_of_lt_of_le hk m.size) hn⟩
theorem Apd.low {w w':World} {lo:Nat} {l s:List UInt8} {v v':Value} (ho:OwnB w lo v l) (h:Apd w lo v l s v' w'):Mod w w' (fun k _=>lo≤k):=
 h.mod.mono fun _ _ _ h=>(ho.blk h).1
section
variable {P:Program} {N:Nums} {A:zdk}
theorem zzj (n:Nat):((Array.range (n * 1)).map ((Value.int IntKind.u8 0).cells[· % (Value.int IntKind.u8 0).cells.size]!))=Array.replicate n (.int .u8 0):=by
 apply Array.ext
 ·simp
 ·intro i h1 h2
  simp [Value.cells,Nat.mod_one]
theorem run_bsL2 (B:Base P N) {w:World} {a b:UInt8}:(Instr.buildSlice N.za 2 #[(0,zz a),(1,zz b)]).run P w=.ok (.slice (some ⟨w.heap.size,0,none⟩) 2 2) (w.alloc (.cells ([a,b].map zz).toArray N.zh)):=by
 obtain⟨i,hi,h1,h2,h3⟩:=B.uint8.info
 refine run_buildSlice w _ _ 2 _ _ i _ B.Lu8.und hi h3 (by omega) (by omega) ?_
 rw[h1,zzj,show Array.replicate 2 (Value.int IntKind.u8 0)=#[.int .u8 0,.int .u8 0] from rfl]
 simp [Instr.fill,zz,Value.cells]
theorem run_bsL3 (B:Base P N) {w:World} {a b c:UInt8}:(Instr.buildSlice N.za 3 #[(0,zz a),(1,zz b),(2,zz c)]).run P w=.ok (.slice (some ⟨w.heap.size,0,none⟩) 3 3) (w.alloc (.cells ([a,b,c].map zz).toArray N.zh)):=by
 obtain⟨i,hi,h1,h2,h3⟩:=B.uint8.info
 refine run_buildSlice w _ _ 3 _ _ i _ B.Lu8.und hi h3 (by omega) (by omega) ?_
 rw[h1,zzj,show Array.replicate 3 (Value.int IntKind.u8 0)=#[.int .u8 0,.int .u8 0,.int .u8 0] from rfl]
 simp [Instr.fill,zz,Value.cells]
theorem zta (B:Base P N) {w:World} {a b c d:UInt8}:(Instr.buildSlice N.za 4 #[(0,zz a),(1,zz b),(2,zz c),(3,zz d)]).run P w=.ok (.slice (some ⟨w.heap.size,0,none⟩) 4 4) (w.alloc (.cells ([a,b,c,d].map zz).toArray N.zh)):=by
 obtain⟨i,hi,h1,h2,h3⟩:=B.uint8.info
 refine run_buildSlice w _ _ 4 _ _ i _ B.Lu8.und hi h3 (by omega) (by omega) ?_
 rw[h1,zzj,show Array.replicate 4 (Value.int IntKind.u8 0)=#[.int .u8 0,.int .u8 0,.int .u8 0,.int .u8 0] from rfl]
 simp [Instr.fill,zz,Value.cells]
theorem run_bsL5 (B:Base P N) {w:World} {a b c d e:UInt8}:(Instr.buildSlice N.za 5 #[(0,zz a),(1,zz b),(2,zz c),(3,zz d),(4,zz e)]).run P w=.ok (.slice (some ⟨w.heap.size,0,none⟩) 5 5) (w.alloc (.cells ([a,b,c,d,e].map zz).toArray N.zh)):=by
 obtain⟨i,hi,h1,h2,h3⟩:=B.uint8.info
 refine run_buildSlice w _ _ 5 _ _ i _ B.Lu8.und hi h3 (by omega) (by omega) ?_
 rw[h1,zzj,show Array.replicate 5 (Value.int IntKind.u8 0)=#[.int .u8 0,.int .u8 0,.int .u8 0,.int .u8 0,.int .u8 0] from rfl]
 simp [Instr.fill,zz,Value.cells]
theorem run_bsL8 (B:Base P N) {w:World} {a b c d e f g h:UInt8}:(Instr.buildSlice N.za 8 #[(0,zz a),(1,zz b),(2,zz c),(3,zz d),(4,zz e),(5,zz f),(6,zz g),(7,zz h)]).run P w=.ok (.slice (some ⟨w.heap.size,0,none⟩) 8 8) (w.alloc (.cells ([a,b,c,d,e,f,g,h].map zz).toArray N.zh)):=by
 obtain⟨i,hi,h1,h2,h3⟩:=B.uint8.info
 refine run_buildSlice w _ _ 8 _ _ i _ B.Lu8.und hi h3 (by omega) (by omega) ?_
 rw[h1,zzj,show Array.replicate 8 (Value.int IntKind.u8 0)=#[.int .u8 0,.int .u8 0,.int .u8 0,.int .u8 0,.int .u8 0,.int .u8 0,.int .u8 0,.int .u8 0] from rfl]
 simp [Instr.fill,zz,Value.cells]
theorem zhv (B:Base P N) {w:World} {lo:Nat} {v:Value} {l s:List UInt8} (ho:OwnB w lo v l) (hlo:lo≤w.heap.size) (hb:l.length+s.length < 1099511627776) {ty:TypeId} :
  ∃ v' w',(Builtin.append_ #[N.za,N.za] ty #[v,.slice (some ⟨w.heap.size,0,none⟩) s.length s.length]).run P (w.alloc (.cells (s.map zz).toArray N.zh))=.ok v' w'∧Apd w lo v l s v' w':=by
 obtain⟨w1,hw1⟩:∃ w1,w1=w.alloc (.cells (s.map zz).toArray N.zh):=⟨_,rfl⟩
 have m1:Mod w w1 zy:=by rw[hw1]; exact Mod.alloc _ _ _
 have s1:w1.heap.size=w.heap.size+1:=by rw[hw1]; exact zav _ _
 have r1:w1.rangeAt w.heap.size 0 (s.map zz):=by rw[hw1]; exact zr w (s.map zz).toArray N.zh (0,0)
 rw[← hw1]
 have ho1:OwnB w1 lo v l:=Own.stay m1 (fun _ _ _ h=>h) ho
 obtain⟨v',w',h1,h2,h3,h4⟩:=zdq (ty:=ty) B ho1 (src:=.slice (some ⟨w.heap.size,0,none⟩) s.length s.length) (s:=s) (.inr ⟨w.heap.size,0,s.length,rfl,Nat.le_refl _,r1⟩) (by omega) hb
 exact⟨v',w',h1,Apd.after m1 ⟨h2,h3,h4⟩⟩
def ApF (P:Program) (f:FuncId) (x:Value) (s:List UInt8):Prop:=∀ {w:World} {lo:Nat} {v:Value} {l:List UInt8},OwnB w lo v l→lo≤w.heap.size→l.length+s.length < 1099511627776→Call P f #[v,x] w (Apd w lo v l s)
def u8of (n:Int):UInt8:=UInt8.ofNat (IntKind.u8.wrap n).toNat
theorem zqu (n:Int):Value.int .u8 (IntKind.u8.wrap n)=zz (u8of n):=by
 unfold zz u8of
 rw[zpy,UInt8.toNat_ofNat']
 congr 1
 omega
theorem fixB2 (n:Int):[u8of (n.fdiv (2 ^ min 8 IntKind.u16.bits)),u8of n]=fixB n 2:=by
 have e:n.fdiv 1=n:=Int.fdiv_one n
 simp only [fixB,u8of,Nat.mul_zero,Int.pow_zero,e]
 rfl
theorem zaap (B:Base P N) (h:FOk P A.zed 2 (zfh N A) [.var 2]) (n:Int):ApF P A.zed (.int .u16 n) (fixB n 2):=by
 intro w lo v l ho hlo hb
 refine h.call rfl fun loc N' hlo'=>?_
 unfold zfh
 refine zd fun K hK=>zi fun τ=>?_
 simp +decide only [bK,Nat.reduceAdd]
 refine hK _ _ (zb fun σ1 hσ=>?_)
 have a0:=hσ 0
 have a1:=hσ 1
 simp +decide only [bE,Nat.reduceBeqDiff,Nat.reduceAdd,Nat.zero_add,zcx,zck] at a0 a1
 clear hσ hK K
 have e6:∀ ρ:Env,(#[(0,T 3),(1,T 5)]:Array (Nat × Operand)).map (fun p=>(p.1,ev ρ p.2))=#[(0,ρ 3),(1,ρ 5)]:=fun ρ=>by simp
 obtain⟨v',w',h1,h2⟩:=zhv (ty:=N.za) (s:=[u8of (n.fdiv (2 ^ min 8 IntKind.u16.bits)),u8of n]) B ho hlo hb
 refine zd fun K hK=>zi fun τ=>?_
 simp +decide only [bK,bE,Nat.reduceBeqDiff,BEq.rfl,Nat.reduceAdd,Int.reduceToNat,Nat.zero_add,a0,a1,e6,zdy (show (0:Int)≤8 by decide),zat B.uint16 B.uint8 ⟨_,rfl⟩,zqu,run_bsL2 B]
 have h1:(Builtin.append_ #[N.za,N.za] N.za #[v,.slice (some ⟨w.heap.size,0,none⟩) 2 2]).run P (w.alloc (.cells ([u8of (n.fdiv (2 ^ min 8 IntKind.u16.bits)),u8of n].map zz).toArray N.zh))=.ok v' w':=h1
 simp +decide only [bK,h1]
 refine hK _ _ (zb fun σ2 hσ=>zbb ?_)
 have b2:=hσ 2
 simp +decide only [bE,BEq.rfl,Nat.reduceAdd] at b2
 exact⟨.inr rfl,_,rfl,by rw[b2,← fixB2]; exact h2⟩
end
def lensS:ByteArray:=⟨#[1,1,1,1,1,1,1,1,2,2,2,2,2,2,2,3,3,3,3,3,3,3,4,4,4,4,4,4,4,5,5,5,5,5,5,5,6,6,6,6,6,6,6,7,7,7,7,7,7,7,8,8,8,8,8,8,8,9,9,9,9,9,9,9,10,0,0,0,0,0,0,0,0,0,0,0,0,0,0,0,0,0,0,0,0,0,0,0,0,0,0,0,0,0,0,0,0,0,0,0,0,0,0,0,0,0,0,0,0,0,0,0,0,0,0,0,0,0,0,0,0,0,0,0,0,0,0,0,0,0,0,0,0,0,0,0,0,0,0,0,0,0,0,0,0,0,0,0,0,0,0,0,0,0,0,0,0,0,0,0,0,0,0,0,0,0,0,0,0,0,0,0,0,0,0,0,0,0,0,0,0,0,0,0,0,0,0,0,0,0,0,0,0,0,0,0,0,0,0,0,0,0,0,0,0,0,0,0,0,0,0,0,0,0,0,0,0,0,0,0,0,0,0,0,0,0,0,0,0,0,0,0,0,0,0,0,0,0,0,0,0,0,0,0,0,0,0,0,0,0,0,0,0,0,0,0]⟩
def tabS:ByteArray:=⟨#[0,1,2,2,3,3,3,3,4,4,4,4,4,4,4,4,5,5,5,5,5,5,5,5,5,5,5,5,5,5,5,5,6,6,6,6,6,6,6,6,6,6,6,6,6,6,6,6,6,6,6,6,6,6,6,6,6,6,6,6,6,6,6,6,7,7,7,7,7,7,7,7,7,7,7,7,7,7,7,7,7,7,7,7,7,7,7,7,7,7,7,7,7,7,7,7,7,7,7,7,7,7,7,7,7,7,7,7,7,7,7,7,7,7,7,7,7,7,7,7,7,7,7,7,7,7,7,7,8,8,8,8,8,8,8,8,8,8,8,8,8,8,8,8,8,8,8,8,8,8,8,8,8,8,8,8,8,8,8,8,8,8,8,8,8,8,8,8,8,8,8,8,8,8,8,8,8,8,8,8,8,8,8,8,8,8,8,8,8,8,8,8,8,8,8,8,8,8,8,8,8,8,8,8,8,8,8,8,8,8,8,8,8,8,8,8,8,8,8,8,8,8,8,8,8,8,8,8,8,8,8,8,8,8,8,8,8,8,8,8,8,8,8,8,8,8,8,8,8,8,8,8,8,8,8,8]⟩
theorem lens_size:lensS.data.size=256:=by kernel_rfl
theorem tab_size:tabS.data.size=256:=by kernel_rfl
def lensN (n:Nat):Nat:=(lensS.data.getD n 0).toNat
def tabN (n:Nat):Nat:=(tabS.data.getD n 0).toNat
def zlt (n:Nat):Nat:=if 65536≤n then (if 256≤n / 65536 then 24+tabN (n / 65536 / 256) else 16+tabN (n / 65536)) else if 256≤n then 8+tabN (n / 256) else tabN n
theorem lens_0:((List.range 256).all fun x=>lensN (tabN x) == if x < 128 then 1 else 2)=true:=by decide +kernel
theorem lens_8:((List.range 256).all fun x=>x == 0 || lensN (8+tabN x) == if x < 64 then 2 else 3)=true:=by decide +kernel
theorem lens_16:((List.range 256).all fun x=>x == 0 || lensN (16+tabN x) == if x < 32 then 3 else 4)=true:=by decide +kernel
theorem lens_24:((List.range 256).all fun x=>x == 0 || lensN (24+tabN x) == if x < 16 then 4 else 5)=true:=by decide +kernel
theorem tab_8:((List.range 256).all fun x=>Nat.ble (tabN x) 8)=true:=by decide +kernel
def zle (n:Nat):Nat:=if n < 128 then 1 else if n < 16384 then 2 else if n < 2097152 then 3 else if n < 268435456 then 4 else 5
theorem zaau {p:Nat→Bool} (h:((List.range 256).all p)=true) {x:Nat} (hx:x < 256):p x=true:=List.all_eq_true.1 h x (List.mem_range.2 hx)
theorem lens_len {n:Nat} (hn:n < 4294967296):lensN (zlt n)=zle n:=by
 unfold zlt zle
 by_cases h1:65536≤n
 ·rw[if_pos h1]
  by_cases h2:256≤n / 65536
  ·rw[if_pos h2]
   have:=zaau lens_24 (x:=n / 65536 / 256) (by omega)
   have h0:(n / 65536 / 256 == 0)=false:=by simp; omega
   simp only [h0,Bool.false_or,beq_iff_eq] at this
   rw[this]
   have e:n / 65536 / 256=n / 16777216:=by omega
   rw[e]
   rw[if_neg (show ¬ n < 128 by omega),if_neg (show ¬ n < 16384 by omega),if_neg (show ¬ n < 2097152 by omega)]
   by_cases h3:n < 268435456
   ·rw[if_pos h3,if_pos (by omega)]
   ·rw[if_neg h3,if_neg (by omega)]
  ·rw[if_neg h2]
   have:=zaau lens_16 (x:=n / 65536) (by omega)
   have h0:(n / 65536 == 0)=false:=by simp; omega
   simp only [h0,Bool.false_or,beq_iff_eq] at this
   rw[this,if_neg (show ¬ n < 128 by omega),if_neg (show ¬ n < 16384 by omega)]
   by_cases h3:n < 2097152
   ·rw[if_pos h3,if_pos (by omega)]
   ·rw[if_neg h3,if_neg (by omega),if_pos (by omega)]
 ·rw[if_neg h1]
  by_cases h2:256≤n
  ·rw[if_pos h2]
   have:=zaau lens_8 (x:=n / 256) (by omega)
   have h0:(n / 256 == 0)=false:=by simp; omega
   simp only [h0,Bool.false_or,beq_iff_eq] at this
   rw[this,if_neg (show ¬ n < 128 by omega)]
   by_cases h3:n < 16384
   ·rw[if_pos h3,if_pos (by omega)]
   ·rw[if_neg h3,if_neg (by omega),if_pos (by omega)]
  ·rw[if_neg h2]
   have:=zaau lens_0 (x:=n) (by omega)
   simp only [beq_iff_eq] at this
   rw[this]
   by_cases h3:n < 128
   ·rw[if_pos h3,if_pos h3]
   ·rw[if_neg h3,if_neg h3,if_pos (by omega)]
theorem zzd {P:Program} {t:TypeId} {sz by':Nat} {z:Value} (h:TI P t .string sz by' z) {w:World} {s:ByteArray} {k:IntKind} {i:Nat} (hi:i < s.data.size):(Instr.index t (.string s) (.int k i)).run P w=.ok (.int .u8 (s.data.getD i 0).toNat) w:=by
 have e:s[i]?=some (s.data.getD i 0):=by
  show s.data[i]?=_
  rw[Array.getElem?_eq_getElem hi,Array.getD_eq_getD_getElem?,Array.getElem?_eq_getElem hi]; rfl
 simp [Instr.index,Sem.run_bind,h.run_und,asIntOf,e]
section
variable (N:Nums) (A:zdk)
def cL1:C:=.seq (.ops [⟨some 0,.move (V 0),0,none,[]⟩,⟨some 102,.binOp .geq N.zc (T 0) (.const (.int .u32 65536)) N.zc,0,none,[]⟩])
 (.cond 2 (.seq (.ops [⟨some 0,.move (V 0),0,none,[]⟩,⟨some 1,.binOp .shr N.zc (T 0) (.const (.int .u64 16)) N.zcq,0,none,[]⟩,⟨some 100,.assign (T 1),0,none,[]⟩]) (.ops [⟨some 101,.assign (.const (.int .i64 16)),0,none,[]⟩])) .skip)
def cL2:C:=.seq (.ops [⟨some 0,.move (V 0),0,none,[]⟩,⟨some 103,.binOp .geq N.zc (T 0) (.const (.int .u32 256)) N.zc,0,none,[]⟩])
 (.cond 3 (.seq (.ops [⟨some 0,.move (V 0),0,none,[]⟩,⟨some 1,.binOp .shr N.zc (T 0) (.const (.int .u64 8)) N.zcq,0,none,[]⟩,⟨some 100,.assign (T 1),0,none,[]⟩]) (.ops [⟨some 0,.move (V 1),0,none,[]⟩,⟨some 1,.binOp .add N.ze (T 0) (.const (.int .i64 8)) N.ze,0,none,[]⟩,⟨some 101,.assign (T 1),0,none,[]⟩])) .skip)
def cL3 (s:ByteArray):C:=.seq (.ops [⟨some 0,.move (V 1),0,none,[]⟩,⟨some 1,.move (V 0),0,none,[]⟩,⟨some 2,.convert N.zc N.zh (T 1),0,none,[]⟩,⟨some 3,.index N.zac (.const (.string s)) (T 2),0,none,[]⟩,⟨some 4,.convert N.zh N.ze (T 3),0,none,[]⟩,
 ⟨some 5,.binOp .add N.ze (T 0) (T 4) N.ze,0,none,[]⟩,⟨some 101,.assign (T 5),0,none,[]⟩]) .ret
theorem c_Len32_eq:zgw N A=.seq (.ops [⟨some 101,.assign (.const (.int .i64 0)),0,none,[]⟩]) (.seq (cL1 N) (.seq (cL2 N) (cL3 N tabS))):=rfl
def cUl (s:ByteArray):C:=.seq (.ops [⟨some 101,.assign (.const (.int .i64 0)),0,none,[]⟩]) (.seq (.ops [⟨some 0,.move (V 0),0,none,[]⟩,⟨some 1,.call ⟨.value (.func A.zev),#[T 0],#[N.zc]⟩,N.ze,none,[]⟩,⟨some 2,.convert N.ze N.zh (T 1),0,none,[]⟩,
 ⟨some 3,.index N.zac (.const (.string s)) (T 2),0,none,[]⟩,⟨some 4,.convert N.zh N.ze (T 3),0,none,[]⟩,⟨some 101,.assign (T 4),0,none,[]⟩]) .ret)
theorem c_Ul_eq:znv N A=cUl N A lensS:=rfl
end
section
variable {P:Program} {N:Nums} {A:zdk}
theorem zvt {m:Nat} (hm:m < 256):tabN m≤8:=by
 have:=zaau tab_8 hm
 simpa using this
theorem W_L3 (B:Base P N) {s:ByteArray} {loc:List Nat} {N':Nat} {Q:Value→World→Prop} {σ:Env} {w:World} {m r:Nat} (h0:σ 0=.int .u32 m) (h1:σ 1=.int .i64 r) (hm:m < s.data.size) {t:Nat} (hs:(s.data.getD m 0).toNat=t) (ht:t≤8) (hm2:m < 256) (hr:r≤24) (hQ:Q (.int .i64 ((r+t:Nat):Int)) w) :
  W P loc N' (cL3 N s) (retQ P [.var 1] Q) σ w:=by
 unfold cL3
 have hw8:IntKind.u8.wrap (m:Int)=m:=by rw[zpy]; omega
 have hwi:IntKind.i64.wrap (t:Int)=(t:Int):=zfc (by omega) (by omega)
 have hadd:IntKind.i64.wrap ((r:Int)+(t:Int))=((r+t:Nat):Int):=by rw[zfc (by omega) (by omega)]; omega
 have hix:=fun {w:World}=>zzd (P:=P) (w:=w) (k:=.u8) B.string hm
 rw[hs] at hix
 refine zd fun K hK=>zi fun τ=>?_
 simp +decide only [bK,bE,Nat.reduceBeqDiff,BEq.rfl,Nat.reduceAdd,Nat.zero_add,h0,h1,zat B.uint32 B.uint8 ⟨_,rfl⟩,hw8,zvw,hix,zat B.uint8 B.int ⟨_,rfl⟩,hwi,hadd]
 refine hK _ _ (zb fun σ1 hσ=>zbb ?_)
 have a1:=hσ 1
 simp +decide only [bE,BEq.rfl,Nat.reduceAdd] at a1
 exact⟨.inr rfl,_,rfl,by rw[a1]; exact hQ⟩
theorem call_Len32 (B:Base P N) (h:FOk P A.zev 1 (zgw N A) [.var 1]) (w:World) {n:Nat} (hn:n < 4294967296):Call P A.zev #[.int .u32 n] w fun v w'=>v=.int .i64 (zlt n:Nat)∧w=w':=by
 refine h.call rfl fun loc N' hlo=>?_
 rw[c_Len32_eq]
 refine zd fun K hK=>zi fun τ=>?_
 simp +decide only [bK]
 refine hK _ _ (zb fun σ1 hσ=>?_)
 have a0:=hσ 0
 have a1:=hσ 1
 simp +decide only [bE,Nat.reduceBeqDiff,BEq.rfl,Nat.reduceAdd,Nat.zero_add,zbh] at a0 a1
 clear hσ hK K
 have s16:∀ m:Nat,((m:Int)).fdiv (2 ^ min 16 IntKind.u32.bits)=((m / 65536:Nat):Int):=fun m=>by
  show ((m:Int)).fdiv 65536=_
  rw[Int.fdiv_eq_ediv_of_nonneg _ (by decide)]; omega
 have s8:∀ m:Nat,((m:Int)).fdiv (2 ^ min 8 IntKind.u32.bits)=((m / 256:Nat):Int):=fun m=>by
  show ((m:Int)).fdiv 256=_
  rw[Int.fdiv_eq_ediv_of_nonneg _ (by decide)]; omega
 have half:∀ {σ:Env} {m r:Nat},σ 0=.int .u32 m→σ 1=.int .i64 r→m < 65536→r≤16→((if 256≤m then r+8+tabN (m / 256) else r+tabN m)=zlt n)→W P loc N' (.seq (cL2 N) (cL3 N tabS)) (retQ P [.var 1] fun v w'=>v=.int .i64 (zlt n:Nat)∧w=w') σ w:=by
  intro σ m r h0 h1 hm hr he
  refine zd fun K hK=>zd fun K1 hK1=>zi fun τ=>?_
  simp +decide only [bK,bE,BEq.rfl,Nat.zero_add,h0]
  refine hK1 _ _ (zb fun σ2 hσ=>?_)
  have b0:=hσ 0
  have b1:=hσ 1
  have b3:=hσ 3
  simp +decide only [bE,Nat.reduceBeqDiff,BEq.rfl,Nat.reduceAdd,Nat.zero_add,h0,h1] at b0 b1 b3
  clear hσ hK1 K1
  refine W_if hlo b3 ?_
  by_cases hc:256≤m
  ·rw[if_pos (by rw[decide_eq_true_eq]; omega)]
   rw[if_pos hc] at he
   refine zd fun K2 hK2=>zi fun τ=>?_
   simp +decide only [bK,bE,BEq.rfl,Int.reduceToNat,Nat.zero_add,b0,zdy (show (0:Int)≤8 by decide),s8]
   refine hK2 _ _ (zb fun σ3 hσ=>?_)
   have d0:=hσ 0
   have d1:=hσ 1
   simp +decide only [bE,Nat.reduceBeqDiff,BEq.rfl,Nat.reduceAdd,Nat.zero_add,b1] at d0 d1
   clear hσ hK2 K2
   have hadd:IntKind.i64.wrap ((r:Int)+8)=((r+8:Nat):Int):=by rw[zfc (by omega) (by omega)]; omega
   refine zi fun τ=>?_
   simp +decide only [bK,bE,BEq.rfl,Nat.reduceAdd,d1,hadd]
   refine hK _ _ (zb fun σ4 hσ=>?_)
   have e0:=hσ 0
   have e1:=hσ 1
   simp +decide only [bE,Nat.reduceBeqDiff,BEq.rfl,Nat.reduceAdd,Nat.zero_add,d0] at e0 e1
   have hx:m / 256 < 256:=by omega
   exact W_L3 B e0 e1 (by rw[tab_size]; exact hx) rfl (zvt hx) hx (by omega) ⟨by rw[← he]; rfl,rfl⟩
  ·rw[if_neg (by rw[decide_eq_true_eq]; omega)]
   rw[if_neg hc] at he
   refine zbd (hK _ _ ?_)
   have hx:m < 256:=by omega
   exact W_L3 B b0 b1 (by rw[tab_size]; exact hx) rfl (zvt hx) hx (by omega) ⟨by rw[← he]; rfl,rfl⟩
 refine zd fun K hK=>zd fun K1 hK1=>zi fun τ=>?_
 simp +decide only [bK,bE,BEq.rfl,Nat.zero_add,a0]
 refine hK1 _ _ (zb fun σ2 hσ=>?_)
 have b0:=hσ 0
 have b1:=hσ 1
 have b2:=hσ 2
 simp +decide only [bE,Nat.reduceBeqDiff,BEq.rfl,Nat.reduceAdd,Nat.zero_add,a0,a1] at b0 b1 b2
 clear hσ hK1 K1
 refine W_if hlo b2 ?_
 by_cases hc:65536≤n
 ·rw[if_pos (by rw[decide_eq_true_eq]; omega)]
  refine zd fun K2 hK2=>zi fun τ=>?_
  simp +decide only [bK,bE,BEq.rfl,Int.reduceToNat,Nat.zero_add,b0,zdy (show (0:Int)≤16 by decide),s16]
  refine hK2 _ _ (zb fun σ3 hσ=>?_)
  have d0:=hσ 0
  simp +decide only [bE,BEq.rfl,Nat.zero_add] at d0
  clear hσ hK2 K2
  refine zi fun τ=>?_
  simp +decide only [bK]
  refine hK _ _ (zb fun σ4 hσ=>?_)
  have e0:=hσ 0
  have e1:=hσ 1
  simp +decide only [bE,Nat.reduceBeqDiff,BEq.rfl,Nat.reduceAdd,Nat.zero_add,d0] at e0 e1
  refine half (r:=16) e0 e1 (by omega) (by omega) ?_
  unfold zlt
  rw[if_pos hc]
 ·rw[if_neg (by rw[decide_eq_true_eq]; omega)]
  refine zbd (hK _ _ ?_)
  refine half (r:=0) b0 b1 (by omega) (by omega) ?_
  unfold zlt
  rw[if_neg hc]
  simp
theorem len32_le {n:Nat} (hn:n < 4294967296):zlt n≤32:=by
 unfold zlt
 split
 ·split
  ·have:=zvt (m:=n / 65536 / 256) (by omega); omega
  ·have:=zvt (m:=n / 65536) (by omega); omega
 ·split
  ·have:=zvt (m:=n / 256) (by omega); omega
  ·have:=zvt (m:=n) (by omega); omega
theorem call_Ul (B:Base P N) (h:FOk P A.zev 1 (zgw N A) [.var 1]) (h2:FOk P A.zji 1 (znv N A) [.var 1]) (w:World) {n:Nat} (hn:n < 4294967296):Call P A.zji #[.int .u32 n] w fun v w'=>v=.int .i64 (zle n:Nat)∧w=w':=by
 refine h2.call rfl fun loc N' hlo=>?_
 rw[c_Ul_eq]
 unfold cUl
 refine zd fun K hK=>zi fun τ=>?_
 simp +decide only [bK]
 refine hK _ _ (zb fun σ1 hσ=>?_)
 have a0:=hσ 0
 simp +decide only [bE,Nat.reduceBeqDiff,Nat.zero_add,zbh] at a0
 clear hσ hK K
 have hl:=len32_le hn
 have hw8:IntKind.u8.wrap ((zlt n:Nat):Int)=(zlt n:Nat):=by rw[zpy]; omega
 have hll:=lens_len hn
 have hu:zle n≤5:=by unfold zle; split<;>(try split)<;>(try split)<;>(try split)<;>omega
 have hwi:IntKind.i64.wrap (zle n:Int)=(zle n:Int):=zfc (by omega) (by omega)
 have hix:=fun {w:World}=>zzd (P:=P) (w:=w) (k:=.u8) B.string (show zlt n < lensS.data.size by rw[lens_size]; omega)
 have hll:(lensS.data.getD (zlt n) 0).toNat=zle n:=hll
 rw[hll] at hix
 generalize lensS=s at hix ⊢
 refine zd fun K hK=>zi fun τ=>?_
 simp +decide only [bK,bE,BEq.rfl,Nat.zero_add,a0]
 rw[zan h.has]
 simp +decide only [bK,bE,BEq.rfl]
 refine(call_Len32 B h w hn).mono ?_
 rintro _ w2 ⟨rfl,rfl⟩
 simp +decide only [bK,bE,BEq.rfl,zat B.int B.uint8 ⟨_,rfl⟩,hw8,zvw,hix,zat B.uint8 B.int ⟨_,rfl⟩,hwi]
 refine hK _ _ (zb fun σ2 hσ=>zbb ?_)
 have b1:=hσ 1
 simp +decide only [bE,BEq.rfl,Nat.reduceAdd] at b1
 exact⟨.inr rfl,_,rfl,by rw[b1],rfl⟩
end
section
variable (N:Nums) (A:zdk)
def cUv1:C:=.seq (.ops [⟨some 0,.move (V 0),0,none,[]⟩,⟨some 1,.move (V 1),0,none,[]⟩,⟨some 2,.convert N.zc N.zh (T 1),0,none,[]⟩,⟨some 3,.buildSlice N.za 1 #[(0,T 2)],0,none,[]⟩,⟨some 4,.call ⟨.builtin .append,#[T 0,T 3],#[N.za,N.za]⟩,N.za,none,[]⟩,⟨some 102,.assign (T 4),0,none,[]⟩]) .ret
def cUv2:C:=.seq (.ops [⟨some 0,.move (V 0),0,none,[]⟩,⟨some 1,.move (V 1),0,none,[]⟩,⟨some 2,.binOp .and N.zc (T 1) (.const (.int .u32 127)) N.zc,0,none,[]⟩,⟨some 3,.binOp .or N.zc (T 2) (.const (.int .u32 128)) N.zc,0,none,[]⟩,⟨some 4,.convert N.zc N.zh (T 3),0,none,[]⟩,⟨some 5,.move (V 1),0,none,[]⟩,⟨some 6,.binOp .shr N.zc (T 5) (.const (.int .u64 7)) N.zcq,0,none,[]⟩,⟨some 7,.convert N.zc N.zh (T 6),0,none,[]⟩,⟨some 8,.buildSlice N.za 2 #[(0,T 4),(1,T 7)],0,none,[]⟩,⟨some 9,.call ⟨.builtin .append,#[T 0,T 8],#[N.za,N.za]⟩,N.za,none,[]⟩,⟨some 102,.assign (T 9),0,none,[]⟩]) .ret
def cUv3:C:=.seq (.ops [⟨some 0,.move (V 0),0,none,[]⟩,⟨some 1,.move (V 1),0,none,[]⟩,⟨some 2,.binOp .and N.zc (T 1) (.const (.int .u32 127)) N.zc,0,none,[]⟩,⟨some 3,.binOp .or N.zc (T 2) (.const (.int .u32 128)) N.zc,0,none,[]⟩,⟨some 4,.convert N.zc N.zh (T 3),0,none,[]⟩,⟨some 5,.move (V 1),0,none,[]⟩,⟨some 6,.binOp .shr N.zc (T 5) (.const (.int .u64 7)) N.zcq,0,none,[]⟩,⟨some 7,.binOp .and N.zc (T 6) (.const (.int .u32 127)) N.zc,0,none,[]⟩,⟨some 8,.binOp .or N.zc (T 7) (.const (.int .u32 128)) N.zc,0,none,[]⟩,⟨some 9,.convert N.zc N.zh (T 8),0,none,[]⟩,⟨some 10,.move (V 1),0,none,[]⟩,⟨some 11,.binOp .shr N.zc (T 10) (.const (.int .u64 14)) N.zcq,0,none,[]⟩,⟨some 12,.convert N.zc N.zh (T 11),0,none,[]⟩,⟨some 13,.buildSlice N.za 3 #[(0,T 4),(1,T 9),(2,T 12)],0,none,[]⟩,⟨some 14,.call ⟨.builtin .append,#[T 0,T 13],#[N.za,N.za]⟩,N.za,none,[]⟩,⟨some 102,.assign (T 14),0,none,[]⟩]) .ret
def cUv4:C:=.seq (.ops [⟨some 0,.move (V 0),0,none,[]⟩,⟨some 1,.move (V 1),0,none,[]⟩,⟨some 2,.binOp .and N.zc (T 1) (.const (.int .u32 127)) N.zc,0,none,[]⟩,⟨some 3,.binOp .or N.zc (T 2) (.const (.int .u32 128)) N.zc,0,none,[]⟩,⟨some 4,.convert N.zc N.zh (T 3),0,none,[]⟩,⟨some 5,.move (V 1),0,none,[]⟩,⟨some 6,.binOp .shr N.zc (T 5) (.const (.int .u64 7)) N.zcq,0,none,[]⟩,⟨some 7,.binOp .and N.zc (T 6) (.const (.int .u32 127)) N.zc,0,none,[]⟩,⟨some 8,.binOp .or N.zc (T 7) (.const (.int .u32 128)) N.zc,0,none,[]⟩,⟨some 9,.convert N.zc N.zh (T 8),0,none,[]⟩,⟨some 10,.move (V 1),0,none,[]⟩,⟨some 11,.binOp .shr N.zc (T 10) (.const (.int .u64 14)) N.zcq,0,none,[]⟩,⟨some 12,.binOp .and N.zc (T 11) (.const (.int .u32 127)) N.zc,0,none,[]⟩,⟨some 13,.binOp .or N.zc (T 12) (.const (.int .u32 128)) N.zc,0,none,[]⟩,⟨some 14,.convert N.zc N.zh (T 13),0,none,[]⟩,⟨some 15,.move (V 1),0,none,[]⟩,⟨some 16,.binOp .shr N.zc (T 15) (.const (.int .u64 21)) N.zcq,0,none,[]⟩,⟨some 17,.convert N.zc N.zh (T 16),0,none,[]⟩,⟨some 18,.buildSlice N.za 4 #[(0,T 4),(1,T 9),(2,T 14),(3,T 17)],0,none,[]⟩,⟨some 19,.call ⟨.builtin .append,#[T 0,T 18],#[N.za,N.za]⟩,N.za,none,[]⟩,⟨some 102,.assign (T 19),0,none,[]⟩]) .ret
def cUv5:C:=.seq (.ops [⟨some 0,.move (V 0),0,none,[]⟩,⟨some 1,.move (V 1),0,none,[]⟩,⟨some 2,.binOp .and N.zc (T 1) (.const (.int .u32 127)) N.zc,0,none,[]⟩,⟨some 3,.binOp .or N.zc (T 2) (.const (.int .u32 128)) N.zc,0,none,[]⟩,⟨some 4,.convert N.zc N.zh (T 3),0,none,[]⟩,⟨some 5,.move (V 1),0,none,[]⟩,⟨some 6,.binOp .shr N.zc (T 5) (.const (.int .u64 7)) N.zcq,0,none,[]⟩,⟨some 7,.binOp .and N.zc (T 6) (.const (.int .u32 127)) N.zc,0,none,[]⟩,⟨some 8,.binOp .or N.zc (T 7) (.const (.int .u32 128)) N.zc,0,none,[]⟩,⟨some 9,.convert N.zc N.zh (T 8),0,none,[]⟩,⟨some 10,.move (V 1),0,none,[]⟩,⟨some 11,.binOp .shr N.zc (T 10) (.const (.int .u64 14)) N.zcq,0,none,[]⟩,⟨some 12,.binOp .and N.zc (T 11) (.const (.int .u32 127)) N.zc,0,none,[]⟩,⟨some 13,.binOp .or N.zc (T 12) (.const (.int .u32 128)) N.zc,0,none,[]⟩,⟨some 14,.convert N.zc N.zh (T 13),0,none,[]⟩,⟨some 15,.move (V 1),0,none,[]⟩,⟨some 16,.binOp .shr N.zc (T 15) (.const (.int .u64 21)) N.zcq,0,none,[]⟩,⟨some 17,.binOp .and N.zc (T 16) (.const (.int .u32 127)) N.zc,0,none,[]⟩,⟨some 18,.binOp .or N.zc (T 17) (.const (.int .u32 128)) N.zc,0,none,[]⟩,⟨some 19,.convert N.zc N.zh (T 18),0,none,[]⟩,⟨some 20,.move (V 1),0,none,[]⟩,⟨some 21,.binOp .shr N.zc (T 20) (.const (.int .u64 28)) N.zcq,0,none,[]⟩,⟨some 22,.convert N.zc N.zh (T 21),0,none,[]⟩,⟨some 23,.buildSlice N.za 5 #[(0,T 4),(1,T 9),(2,T 14),(3,T 19),(4,T 22)],0,none,[]⟩,⟨some 24,.call ⟨.builtin .append,#[T 0,T 23],#[N.za,N.za]⟩,N.za,none,[]⟩,⟨some 102,.assign (T 24),0,none,[]⟩]) .ret
theorem c_Uv_eq:zny N A=.seq (.ops [⟨some 102,.assign (.const (.slice none 0 0)),0,none,[]⟩]) (.seq (.seq (.ops [⟨some 0,.move (V 1),0,none,[]⟩,⟨some 103,.call ⟨.value (.func A.zji),#[T 0],#[N.zc]⟩,N.ze,none,[]⟩]) (.block 0 (.seq (.ops [⟨some 0,.binOp .eql N.ze (V 3) (.const (.int .i64 5)) N.ze,0,none,[]⟩,⟨some 104,.assign (T 0),0,none,[]⟩]) (.cond 4 (cUv5 N) (.seq (.ops [⟨some 0,.binOp .eql N.ze (V 3) (.const (.int .i64 4)) N.ze,0,none,[]⟩,⟨some 105,.assign (T 0),0,none,[]⟩]) (.cond 5 (cUv4 N) (.seq (.ops [⟨some 0,.binOp .eql N.ze (V 3) (.const (.int .i64 3)) N.ze,0,none,[]⟩,⟨some 106,.assign (T 0),0,none,[]⟩]) (.cond 6 (cUv3 N) (.seq (.ops [⟨some 0,.binOp .eql N.ze (V 3) (.const (.int .i64 2)) N.ze,0,none,[]⟩,⟨some 107,.assign (T 0),0,none,[]⟩]) (.cond 7 (cUv2 N) (.seq (.ops [⟨some 0,.binOp .eql N.ze (V 3) (.const (.int .i64 1)) N.ze,0,none,[]⟩,⟨some 108,.assign (T 0),0,none,[]⟩]) (.cond 8 (cUv1 N) (.skip))))))))))))) (.seq (.ops [⟨some 0,.move (V 0),0,none,[]⟩,⟨some 102,.assign (T 0),0,none,[]⟩]) .ret)):=rfl
end
section
variable {P:Program} {N:Nums} {A:zdk}
theorem zjb (n:Nat) (h:n < 2 ^ 32):band .u32 n 127=(n % 128:Nat):=by
 show IntKind.u32.wrap (((BitVec.ofInt 32 (n:Int) &&& BitVec.ofInt 32 127).toNat:Nat):Int)=_
 have e1:BitVec.ofInt 32 (n:Int)=BitVec.ofNat 32 n:=by simp
 have e2:BitVec.ofInt 32 127=BitVec.ofNat 32 127:=by decide
 rw[e1,e2]
 have e3:(BitVec.ofNat 32 n &&& BitVec.ofNat 32 127).toNat=n % 128:=by
  rw[BitVec.toNat_and,BitVec.toNat_ofNat,BitVec.toNat_ofNat,Nat.mod_eq_of_lt h]
  show n &&& 127=_
  exact Nat.and_two_pow_sub_one_eq_mod n 7
 rw[e3]
 exact zhg _ (by omega)
theorem zll:∀ n:Nat,n < 128→bor .u32 n 128=(n+128:Nat):=by
 have h:∀ n:Fin 128,bor .u32 (n.val:Nat) 128=(n.val+128:Nat):=by decide +kernel
 exact fun n hn=>h ⟨n,hn⟩
theorem zqi (B:Base P N) {w:World} {a:UInt8}:(Instr.buildSlice N.za 1 #[(0,zz a)]).run P w=.ok (.slice (some ⟨w.heap.size,0,none⟩) 1 1) (w.alloc (.cells ([a].map zz).toArray N.zh)):=zrh (v:=zz a) (cs:=[zz a]) B.Lu8 B.uint8 rfl rfl (by decide) (by decide)
theorem zkc (n:Nat) (h:n < 256):IntKind.u8.wrap (n:Int)=n:=by rw[zpy]; omega
theorem W_uv1 (B:Base P N) {loc:List Nat} {N':Nat} {Q:Exit→Env→World→Prop} {σ:Env} {w:World} {lo n:Nat} {v:Value} {l:List UInt8} (h0:σ 0=v) (h1:σ 1=.int .u32 n) (hn:n < 128) (ho:OwnB w lo v l) (hlo:lo≤w.heap.size) (hb:l.length+1 < 1099511627776)
  (hQ:∀ σ' w',Apd w lo v l [UInt8.ofNat n] (σ' 2) w'→Q .ret σ' w'):W P loc N' (cUv1 N) Q σ w:=by
 unfold cUv1
 have e6:∀ ρ:Env,(#[(0,T 2)]:Array (Nat × Operand)).map (fun p=>(p.1,ev ρ p.2))=#[(0,ρ 2)]:=fun ρ=>by simp
 obtain⟨v',w',h4,h5⟩:=zhv (ty:=N.za) (s:=[UInt8.ofNat n]) B ho hlo hb
 have h4:(Builtin.append_ #[N.za,N.za] N.za #[v,.slice (some ⟨w.heap.size,0,none⟩) 1 1]).run P (w.alloc (.cells ([UInt8.ofNat n].map zz).toArray N.zh))=.ok v' w':=h4
 have c0:IntKind.u8.wrap ((n:Nat):Int)=((n:Nat):Int):=zkc _ (by omega)
 have d0:Value.int .u8 ((n:Nat):Int)=zz (UInt8.ofNat n):=zil _ (by omega)
 refine zd fun K hK=>zi fun τ=>?_
 simp +decide only [bK,bE,Nat.reduceBeqDiff,BEq.rfl,Nat.reduceAdd,Nat.zero_add,h0,h1,e6,zat B.uint32 B.uint8 ⟨_,rfl⟩,c0,d0,zqi B,h4]
 refine hK _ _ (zb fun σ2 hσ=>zbb ?_)
 have b2:=hσ 2
 simp +decide only [bE,BEq.rfl,Nat.reduceAdd] at b2
 exact hQ _ _ (by rw[b2]; exact h5)
theorem W_uv2 (B:Base P N) {loc:List Nat} {N':Nat} {Q:Exit→Env→World→Prop} {σ:Env} {w:World} {lo n:Nat} {v:Value} {l:List UInt8} (h0:σ 0=v) (h1:σ 1=.int .u32 n) (hn:n < 16384) (ho:OwnB w lo v l) (hlo:lo≤w.heap.size) (hb:l.length+2 < 1099511627776)
  (hQ:∀ σ' w',Apd w lo v l [UInt8.ofNat (n % 128+128),UInt8.ofNat (n / 128)] (σ' 2) w'→Q .ret σ' w'):W P loc N' (cUv2 N) Q σ w:=by
 unfold cUv2
 have e6:∀ ρ:Env,(#[(0,T 4),(1,T 7)]:Array (Nat × Operand)).map (fun p=>(p.1,ev ρ p.2))=#[(0,ρ 4),(1,ρ 7)]:=fun ρ=>by simp
 obtain⟨v',w',h4,h5⟩:=zhv (ty:=N.za) (s:=[UInt8.ofNat (n % 128+128),UInt8.ofNat (n / 128)]) B ho hlo hb
 have h4:(Builtin.append_ #[N.za,N.za] N.za #[v,.slice (some ⟨w.heap.size,0,none⟩) 2 2]).run P (w.alloc (.cells ([UInt8.ofNat (n % 128+128),UInt8.ofNat (n / 128)].map zz).toArray N.zh))=.ok v' w':=h4
 have b0:=zjb n (by omega)
 have o0:=zll (n % 128) (by omega)
 have c0:IntKind.u8.wrap ((n % 128+128:Nat):Int)=((n % 128+128:Nat):Int):=zkc _ (by omega)
 have d0:Value.int .u8 ((n % 128+128:Nat):Int)=zz (UInt8.ofNat (n % 128+128)):=zil _ (by omega)
 have s1:((n:Int)).fdiv (2 ^ min 7 IntKind.u32.bits)=((n / 128:Nat):Int):=by
  show ((n:Int)).fdiv 128=_
  rw[Int.fdiv_eq_ediv_of_nonneg _ (by decide)]; omega
 have c1:IntKind.u8.wrap (((n / 128):Nat):Int)=(((n / 128):Nat):Int):=zkc _ (by omega)
 have d1:Value.int .u8 (((n / 128):Nat):Int)=zz (UInt8.ofNat (n / 128)):=zil _ (by omega)
 refine zd fun K hK=>zi fun τ=>?_
 simp +decide only [bK,bE,Nat.reduceBeqDiff,BEq.rfl,Nat.reduceAdd,Int.reduceToNat,Nat.zero_add,h0,h1,e6,zat B.uint32 B.uint8 ⟨_,rfl⟩,b0,o0,c0,d0,zdy (show (0:Int)≤7 by decide),s1,c1,d1,run_bsL2 B,h4]
 refine hK _ _ (zb fun σ2 hσ=>zbb ?_)
 have b2:=hσ 2
 simp +decide only [bE,BEq.rfl,Nat.reduceAdd] at b2
 exact hQ _ _ (by rw[b2]; exact h5)
theorem W_uv3 (B:Base P N) {loc:List Nat} {N':Nat} {Q:Exit→Env→World→Prop} {σ:Env} {w:World} {lo n:Nat} {v:Value} {l:List UInt8} (h0:σ 0=v) (h1:σ 1=.int .u32 n) (hn:n < 2097152) (ho:OwnB w lo v l) (hlo:lo≤w.heap.size) (hb:l.length+3 < 1099511627776)
  (hQ:∀ σ' w',Apd w lo v l [UInt8.ofNat (n % 128+128),UInt8.ofNat ((n / 128) % 128+128),UInt8.ofNat (n / 16384)] (σ' 2) w'→Q .ret σ' w'):W P loc N' (cUv3 N) Q σ w:=by
 unfold cUv3
 have e6:∀ ρ:Env,(#[(0,T 4),(1,T 9),(2,T 12)]:Array (Nat × Operand)).map (fun p=>(p.1,ev ρ p.2))=#[(0,ρ 4),(1,ρ 9),(2,ρ 12)]:=fun ρ=>by simp
 obtain⟨v',w',h4,h5⟩:=zhv (ty:=N.za) (s:=[UInt8.ofNat (n % 128+128),UInt8.ofNat ((n / 128) % 128+128),UInt8.ofNat (n / 16384)]) B ho hlo hb
 have h4:(Builtin.append_ #[N.za,N.za] N.za #[v,.slice (some ⟨w.heap.size,0,none⟩) 3 3]).run P (w.alloc (.cells ([UInt8.ofNat (n % 128+128),UInt8.ofNat ((n / 128) % 128+128),UInt8.ofNat (n / 16384)].map zz).toArray N.zh))=.ok v' w':=h4
 have b0:=zjb n (by omega)
 have o0:=zll (n % 128) (by omega)
 have c0:IntKind.u8.wrap ((n % 128+128:Nat):Int)=((n % 128+128:Nat):Int):=zkc _ (by omega)
 have d0:Value.int .u8 ((n % 128+128:Nat):Int)=zz (UInt8.ofNat (n % 128+128)):=zil _ (by omega)
 have s1:((n:Int)).fdiv (2 ^ min 7 IntKind.u32.bits)=((n / 128:Nat):Int):=by
  show ((n:Int)).fdiv 128=_
  rw[Int.fdiv_eq_ediv_of_nonneg _ (by decide)]; omega
 have b1:=zjb (n / 128) (by omega)
 have o1:=zll ((n / 128) % 128) (by omega)
 have c1:IntKind.u8.wrap (((n / 128) % 128+128:Nat):Int)=(((n / 128) % 128+128:Nat):Int):=zkc _ (by omega)
 have d1:Value.int .u8 (((n / 128) % 128+128:Nat):Int)=zz (UInt8.ofNat ((n / 128) % 128+128)):=zil _ (by omega)
 have s2:((n:Int)).fdiv (2 ^ min 14 IntKind.u32.bits)=((n / 16384:Nat):Int):=by
  show ((n:Int)).fdiv 16384=_
  rw[Int.fdiv_eq_ediv_of_nonneg _ (by decide)]; omega
 have c2:IntKind.u8.wrap (((n / 16384):Nat):Int)=(((n / 16384):Nat):Int):=zkc _ (by omega)
 have d2:Value.int .u8 (((n / 16384):Nat):Int)=zz (UInt8.ofNat (n / 16384)):=zil _ (by omega)
 refine zd fun K hK=>zi fun τ=>?_
 simp +decide only [bK,bE,Nat.reduceBeqDiff,BEq.rfl,Nat.reduceAdd,Int.reduceToNat,Nat.zero_add,h0,h1,e6,zat B.uint32 B.uint8 ⟨_,rfl⟩,b0,o0,c0,d0,zdy (show (0:Int)≤7 by decide),s1,b1,o1,c1,d1,zdy (show (0:Int)≤14 by decide),s2,c2,d2,run_bsL3 B,h4]
 refine hK _ _ (zb fun σ2 hσ=>zbb ?_)
 have b2:=hσ 2
 simp +decide only [bE,BEq.rfl,Nat.reduceAdd] at b2
 exact hQ _ _ (by rw[b2]; exact h5)
theorem W_uv4 (B:Base P N) {loc:List Nat} {N':Nat} {Q:Exit→Env→World→Prop} {σ:Env} {w:World} {lo n:Nat} {v:Value} {l:List UInt8} (h0:σ 0=v) (h1:σ 1=.int .u32 n) (hn:n < 268435456) (ho:OwnB w lo v l) (hlo:lo≤w.heap.size) (hb:l.length+4 < 1099511627776)
  (hQ:∀ σ' w',Apd w lo v l [UInt8.ofNat (n % 128+128),UInt8.ofNat ((n / 128) % 128+128),UInt8.ofNat ((n / 16384) % 128+128),UInt8.ofNat (n / 2097152)] (σ' 2) w'→Q .ret σ' w'):W P loc N' (cUv4 N) Q σ w:=by
 unfold cUv4
 have e6:∀ ρ:Env,(#[(0,T 4),(1,T 9),(2,T 14),(3,T 17)]:Array (Nat × Operand)).map (fun p=>(p.1,ev ρ p.2))=#[(0,ρ 4),(1,ρ 9),(2,ρ 14),(3,ρ 17)]:=fun ρ=>by simp
 obtain⟨v',w',h4,h5⟩:=zhv (ty:=N.za) (s:=[UInt8.ofNat (n % 128+128),UInt8.ofNat ((n / 128) % 128+128),UInt8.ofNat ((n / 16384) % 128+128),UInt8.ofNat (n / 2097152)]) B ho hlo hb
 have h4:(Builtin.append_ #[N.za,N.za] N.za #[v,.slice (some ⟨w.heap.size,0,none⟩) 4 4]).run P (w.alloc (.cells ([UInt8.ofNat (n % 128+128),UInt8.ofNat ((n / 128) % 128+128),UInt8.ofNat ((n / 16384) % 128+128),UInt8.ofNat (n / 2097152)].map zz).toArray N.zh))=.ok v' w':=h4
 have b0:=zjb n (by omega)
 have o0:=zll (n % 128) (by omega)
 have c0:IntKind.u8.wrap ((n % 128+128:Nat):Int)=((n % 128+128:Nat):Int):=zkc _ (by omega)
 have d0:Value.int .u8 ((n % 128+128:Nat):Int)=zz (UInt8.ofNat (n % 128+128)):=zil _ (by omega)
 have s1:((n:Int)).fdiv (2 ^ min 7 IntKind.u32.bits)=((n / 128:Nat):Int):=by
  show ((n:Int)).fdiv 128=_
  rw[Int.fdiv_eq_ediv_of_nonneg _ (by decide)]; omega
 have b1:=zjb (n / 128) (by omega)
 have o1:=zll ((n / 128) % 128) (by omega)
 have c1:IntKind.u8.wrap (((n / 128) % 128+128:Nat):Int)=(((n / 128) % 128+128:Nat):Int):=zkc _ (by omega)
 have d1:Value.int .u8 (((n / 128) % 128+128:Nat):Int)=zz (UInt8.ofNat ((n / 128) % 128+128)):=zil _ (by omega)
 have s2:((n:Int)).fdiv (2 ^ min 14 IntKind.u32.bits)=((n / 16384:Nat):Int):=by
  show ((n:Int)).fdiv 16384=_
  rw[Int.fdiv_eq_ediv_of_nonneg _ (by decide)]; omega
 have b2:=zjb (n / 16384) (by omega)
 have o2:=zll ((n / 16384) % 128) (by omega)
 have c2:IntKind.u8.wrap (((n / 16384) % 128+128:Nat):Int)=(((n / 16384) % 128+128:Nat):Int):=zkc _ (by omega)
 have d2:Value.int .u8 (((n / 16384) % 128+128:Nat):Int)=zz (UInt8.ofNat ((n / 16384) % 128+128)):=zil _ (by omega)
 have s3:((n:Int)).fdiv (2 ^ min 21 IntKind.u32.bits)=((n / 2097152:Nat):Int):=by
  show ((n:Int)).fdiv 2097152=_
  rw[Int.fdiv_eq_ediv_of_nonneg _ (by decide)]; omega
 have c3:IntKind.u8.wrap (((n / 2097152):Nat):Int)=(((n / 2097152):Nat):Int):=zkc _ (by omega)
 have d3:Value.int .u8 (((n / 2097152):Nat):Int)=zz (UInt8.ofNat (n / 2097152)):=zil _ (by omega)
 refine zd fun K hK=>zi fun τ=>?_
 simp +decide only [bK,bE,Nat.reduceBeqDiff,BEq.rfl,Nat.reduceAdd,Int.reduceToNat,Nat.zero_add,h0,h1,e6,zat B.uint32 B.uint8 ⟨_,rfl⟩,b0,o0,c0,d0,zdy (show (0:Int)≤7 by decide),s1,b1,o1,c1,d1,zdy (show (0:Int)≤14 by decide),s2,b2,o2,c2,d2,zdy (show (0:Int)≤21 by decide),s3,c3,d3,zta B,h4]
 refine hK _ _ (zb fun σ2 hσ=>zbb ?_)
 have b2:=hσ 2
 simp +decide only [bE,BEq.rfl,Nat.reduceAdd] at b2
 exact hQ _ _ (by rw[b2]; exact h5)
theorem W_uv5 (B:Base P N) {loc:List Nat} {N':Nat} {Q:Exit→Env→World→Prop} {σ:Env} {w:World} {lo n:Nat} {v:Value} {l:List UInt8} (h0:σ 0=v) (h1:σ 1=.int .u32 n) (hn:n < 4294967296) (ho:OwnB w lo v l) (hlo:lo≤w.heap.size) (hb:l.length+5 < 1099511627776)
  (hQ:∀ σ' w',Apd w lo v l [UInt8.ofNat (n % 128+128),UInt8.ofNat ((n / 128) % 128+128),UInt8.ofNat ((n / 16384) % 128+128),UInt8.ofNat ((n / 2097152) % 128+128),UInt8.ofNat (n / 268435456)] (σ' 2) w'→Q .ret σ' w'):W P loc N' (cUv5 N) Q σ w:=by
 unfold cUv5
 have e6:∀ ρ:Env,(#[(0,T 4),(1,T 9),(2,T 14),(3,T 19),(4,T 22)]:Array (Nat × Operand)).map (fun p=>(p.1,ev ρ p.2))=#[(0,ρ 4),(1,ρ 9),(2,ρ 14),(3,ρ 19),(4,ρ 22)]:=fun ρ=>by simp
 obtain⟨v',w',h4,h5⟩:=zhv (ty:=N.za) (s:=[UInt8.ofNat (n % 128+128),UInt8.ofNat ((n / 128) % 128+128),UInt8.ofNat ((n / 16384) % 128+128),UInt8.ofNat ((n / 2097152) % 128+128),UInt8.ofNat (n / 268435456)]) B ho hlo hb
 have h4:(Builtin.append_ #[N.za,N.za] N.za #[v,.slice (some ⟨w.heap.size,0,none⟩) 5 5]).run P (w.alloc (.cells ([UInt8.ofNat (n % 128+128),UInt8.ofNat ((n / 128) % 128+128),UInt8.ofNat ((n / 16384) % 128+128),UInt8.ofNat ((n / 2097152) % 128+128),UInt8.ofNat (n / 268435456)].map zz).toArray N.zh))=.ok v' w':=h4
 have b0:=zjb n (by omega)
 have o0:=zll (n % 128) (by omega)
 have c0:IntKind.u8.wrap ((n % 128+128:Nat):Int)=((n % 128+128:Nat):Int):=zkc _ (by omega)
 have d0:Value.int .u8 ((n % 128+128:Nat):Int)=zz (UInt8.ofNat (n % 128+128)):=zil _ (by omega)
 have s1:((n:Int)).fdiv (2 ^ min 7 IntKind.u32.bits)=((n / 128:Nat):Int):=by
  show ((n:Int)).fdiv 128=_
  rw[Int.fdiv_eq_ediv_of_nonneg _ (by decide)]; omega
 have b1:=zjb (n / 128) (by omega)
 have o1:=zll ((n / 128) % 128) (by omega)
 have c1:IntKind.u8.wrap (((n / 128) % 128+128:Nat):Int)=(((n / 128) % 128+128:Nat):Int):=zkc _ (by omega)
 have d1:Value.int .u8 (((n / 128) % 128+128:Nat):Int)=zz (UInt8.ofNat ((n / 128) % 128+128)):=zil _ (by omega)
 have s2:((n:Int)).fdiv (2 ^ min 14 IntKind.u32.bits)=((n / 16384:Nat):Int):=by
  show ((n:Int)).fdiv 16384=_
  rw[Int.fdiv_eq_ediv_of_nonneg _ (by decide)]; omega
 have b2:=zjb (n / 16384) (by omega)
 have o2:=zll ((n / 16384) % 128) (by omega)
 have c2:IntKind.u8.wrap (((n / 16384) % 128+128:Nat):Int)=(((n / 16384) % 128+128:Nat):Int):=zkc _ (by omega)
 have d2:Value.int .u8 (((n / 16384) % 128+128:Nat):Int)=zz (UInt8.ofNat ((n / 16384) % 128+128)):=zil _ (by omega)
 have s3:((n:Int)).fdiv (2 ^ min 21 IntKind.u32.bits)=((n / 2097152:Nat):Int):=by
  show ((n:Int)).fdiv 2097152=_
  rw[Int.fdiv_eq_ediv_of_nonneg _ (by decide)]; omega
 have b3:=zjb (n / 2097152) (by omega)
 have o3:=zll ((n / 2097152) % 128) (by omega)
 have c3:IntKind.u8.wrap (((n / 2097152) % 128+128:Nat):Int)=(((n / 2097152) % 128+128:Nat):Int):=zkc _ (by omega)
 have d3:Value.int .u8 (((n / 2097152) % 128+128:Nat):Int)=zz (UInt8.ofNat ((n / 2097152) % 128+128)):=zil _ (by omega)
 have s4:((n:Int)).fdiv (2 ^ min 28 IntKind.u32.bits)=((n / 268435456:Nat):Int):=by
  show ((n:Int)).fdiv 268435456=_
  rw[Int.fdiv_eq_ediv_of_nonneg _ (by decide)]; omega
 have c4:IntKind.u8.wrap (((n / 268435456):Nat):Int)=(((n / 268435456):Nat):Int):=zkc _ (by omega)
 have d4:Value.int .u8 (((n / 268435456):Nat):Int)=zz (UInt8.ofNat (n / 268435456)):=zil _ (by omega)
 refine zd fun K hK=>zi fun τ=>?_
 simp +decide only [bK,bE,Nat.reduceBeqDiff,BEq.rfl,Nat.reduceAdd,Int.reduceToNat,Nat.zero_add,h0,h1,e6,zat B.uint32 B.uint8 ⟨_,rfl⟩,b0,o0,c0,d0,zdy (show (0:Int)≤7 by decide),s1,b1,o1,c1,d1,zdy (show (0:Int)≤14 by decide),s2,b2,o2,c2,d2,zdy (show (0:Int)≤21 by decide),s3,b3,o3,c3,d3,zdy (show (0:Int)≤28 by decide),s4,c4,d4,run_bsL5 B,h4]
 refine hK _ _ (zb fun σ2 hσ=>zbb ?_)
 have b2:=hσ 2
 simp +decide only [bE,BEq.rfl,Nat.reduceAdd] at b2
 exact hQ _ _ (by rw[b2]; exact h5)
end
theorem uvB1 {n:Nat} (h:n < 128):[UInt8.ofNat n]=uvB n:=(zee h).symm
theorem uvB2 {n:Nat} (h:¬ n < 128) (h2:n < 16384):[UInt8.ofNat (n % 128+128),UInt8.ofNat (n / 128)]=uvB n:=by rw[zgi h,zee (by omega)]
theorem uvB3 {n:Nat} (h:¬ n < 16384) (h2:n < 2097152):[UInt8.ofNat (n % 128+128),UInt8.ofNat ((n / 128) % 128+128),UInt8.ofNat (n / 16384)]=uvB n:=by
 rw[zgi (by omega),zgi (n:=n / 128) (by omega),zee (by omega),Nat.div_div_eq_div_mul]
theorem uvB4 {n:Nat} (h:¬ n < 2097152) (h2:n < 268435456):[UInt8.ofNat (n % 128+128),UInt8.ofNat ((n / 128) % 128+128),UInt8.ofNat ((n / 16384) % 128+128),UInt8.ofNat (n / 2097152)]=uvB n:=by
 rw[zgi (by omega),zgi (n:=n / 128) (by omega),zgi (n:=n / 128 / 128) (by omega),zee (by omega),Nat.div_div_eq_div_mul,Nat.div_div_eq_div_mul]
theorem uvB5 {n:Nat} (h:¬ n < 268435456) (h2:n < 4294967296):[UInt8.ofNat (n % 128+128),UInt8.ofNat ((n / 128) % 128+128),UInt8.ofNat ((n / 16384) % 128+128),UInt8.ofNat ((n / 2097152) % 128+128),UInt8.ofNat (n / 268435456)]=uvB n:=by
 rw[zgi (by omega),zgi (n:=n / 128) (by omega),zgi (n:=n / 128 / 128) (by omega),zgi (n:=n / 128 / 128 / 128) (by omega),zee (by omega),Nat.div_div_eq_div_mul,Nat.div_div_eq_div_mul,Nat.div_div_eq_div_mul]
section
variable {P:Program} {N:Nums} {A:zdk}
structure UvT (P:Program) (N:Nums) (A:zdk):Prop where
 l32:FOk P A.zev 1 (zgw N A) [.var 1]
 len:FOk P A.zji 1 (znv N A) [.var 1]
 uv:FOk P A.zdg 2 (zny N A) [.var 2]
theorem zyc (B:Base P N) (h:UvT P N A) {n:Nat} (hn:n < 4294967296):ApF P A.zdg (.int .u32 n) (uvB n):=by
 intro w lo v l ho hlo hb
 refine h.uv.call rfl fun loc N' hlo'=>?_
 rw[c_Uv_eq]
 refine zd fun K hK=>zi fun τ=>?_
 simp +decide only [bK]
 refine hK _ _ (zb fun σ1 hσ=>?_)
 have a0:=hσ 0
 have a1:=hσ 1
 simp +decide only [bE,Nat.reduceBeqDiff,Nat.reduceAdd,Nat.zero_add,zcx,zck] at a0 a1
 clear hσ hK K
 refine zd fun K hK=>zd fun K1 hK1=>zi fun τ=>?_
 simp +decide only [bK,bE,Nat.reduceAdd,a1]
 rw[zan h.len.has]
 simp +decide only [bK,bE,BEq.rfl]
 refine(call_Ul B h.l32 h.len w hn).mono ?_
 rintro _ w2 ⟨rfl,rfl⟩
 refine hK1 _ _ (zb fun σ2 hσ=>?_)
 have b0:=hσ 0
 have b1:=hσ 1
 have b3:=hσ 3
 simp +decide only [bE,Nat.reduceBeqDiff,BEq.rfl,Nat.reduceAdd,Nat.zero_add,a0,a1] at b0 b1 b3
 clear hσ hK1 K1
 refine zem ?_
 have up:∀ {σ:Env} {i c:Nat} {x u:Value},σ i=x→i≠c→upd σ c u i=x:=fun h hi=>by rw[zg hi]; exact h
 have rng:∀ {m:Nat},zle n=m→(m=1→n < 128)∧(m=2→¬ n < 128∧n < 16384)∧(m=3→¬ n < 16384∧n < 2097152)∧(m=4→¬ n < 2097152∧n < 268435456)∧(m=5→¬ n < 268435456):=fun {m} e=>by
  unfold zle at e
  split at e
  ·omega
  ·split at e
   ·omega
   ·split at e
    ·omega
    ·split at e<;>omega
 refine zmc hlo' b3 ?_
 by_cases e5:((zle n:Nat):Int)=5
 ·rw[if_pos e5]
  have r:=rng (m:=5) (by omega)
  have g:=r.2.2.2.2 rfl
  have q:=uvB5 g hn
  rw[← q] at hb ⊢
  exact W_uv5 B (up b0 (by decide)) (up b1 (by decide)) hn ho hlo hb fun σ' w' h=>⟨.inr rfl,_,rfl,h⟩
 rw[if_neg e5]
 refine zmc hlo' (up b3 (by decide)) ?_
 by_cases e4:((zle n:Nat):Int)=4
 ·rw[if_pos e4]
  have r:=rng (m:=4) (by omega)
  have g:=r.2.2.2.1 rfl
  have q:=uvB4 g.1 g.2
  rw[← q] at hb ⊢
  exact W_uv4 B (up (up b0 (by decide)) (by decide)) (up (up b1 (by decide)) (by decide)) g.2 ho hlo hb fun σ' w' h=>⟨.inr rfl,_,rfl,h⟩
 rw[if_neg e4]
 refine zmc hlo' (up (up b3 (by decide)) (by decide)) ?_
 by_cases e3:((zle n:Nat):Int)=3
 ·rw[if_pos e3]
  have r:=rng (m:=3) (by omega)
  have g:=r.2.2.1 rfl
  have q:=uvB3 g.1 g.2
  rw[← q] at hb ⊢
  exact W_uv3 B (up (up (up b0 (by decide)) (by decide)) (by decide)) (up (up (up b1 (by decide)) (by decide)) (by decide)) g.2 ho hlo hb fun σ' w' h=>⟨.inr rfl,_,rfl,h⟩
 rw[if_neg e3]
 refine zmc hlo' (up (up (up b3 (by decide)) (by decide)) (by decide)) ?_
 by_cases e2:((zle n:Nat):Int)=2
 ·rw[if_pos e2]
  have r:=rng (m:=2) (by omega)
  have g:=r.2.1 rfl
  have q:=uvB2 g.1 g.2
  rw[← q] at hb ⊢
  exact W_uv2 B (up (up (up (up b0 (by decide)) (by decide)) (by decide)) (by decide)) (up (up (up (up b1 (by decide)) (by decide)) (by decide)) (by decide)) g.2 ho hlo hb fun σ' w' h=>⟨.inr rfl,_,rfl,h⟩
 rw[if_neg e2]
 refine zmc hlo' (up (up (up (up b3 (by decide)) (by decide)) (by decide)) (by decide)) ?_
 by_cases e1:((zle n:Nat):Int)=1
 ·rw[if_pos e1]
  have r:=rng (m:=1) (by omega)
  have g:=r.1 rfl
  have q:=uvB1 g
  rw[← q] at hb ⊢
  exact W_uv1 B (up (up (up (up (up b0 (by decide)) (by decide)) (by decide)) (by decide)) (by decide)) (up (up (up (up (up b1 (by decide)) (by decide)) (by decide)) (by decide)) (by decide)) g ho hlo hb fun σ' w' h=>⟨.inr rfl,_,rfl,h⟩
 rw[if_neg e1]
 exfalso
 have:zle n=1∨zle n=2∨zle n=3∨zle n=4∨zle n=5:=by unfold zle; split<;>(try split)<;>(try split)<;>(try split)<;>omega
 omega
end
section
variable {P:Program} {N:Nums} {A:zdk}
theorem fixB1 (n:Int):[u8of n]=fixB n 1:=by
 have e:n.fdiv 1=n:=Int.fdiv_one n
 simp only [fixB,u8of,Nat.mul_zero,Int.pow_zero,e]
theorem fixB4 (n:Int):[u8of (n.fdiv (2 ^ min 24 IntKind.u32.bits)),u8of (n.fdiv (2 ^ min 16 IntKind.u32.bits)),u8of (n.fdiv (2 ^ min 8 IntKind.u32.bits)),u8of n]=fixB n 4:=by
 have e:n.fdiv 1=n:=Int.fdiv_one n
 simp only [fixB,u8of,Nat.mul_zero,Int.pow_zero,e]
 rfl
theorem wrap_mod2 (K:IntKind) (m:Int):K.wrap m % 2 ^ K.bits=m % 2 ^ K.bits:=by
 unfold IntKind.wrap
 simp only
 split
 ·rw[Int.sub_emod,Int.emod_self,Int.sub_zero,Int.emod_emod_of_dvd _ (Int.dvd_refl _),Int.emod_emod_of_dvd _ (Int.dvd_refl _)]
 ·rw[Int.emod_emod_of_dvd _ (Int.dvd_refl _)]
theorem zia {K:IntKind} {k:Nat} (hk:K.bits=8 * k) (n:Int):fixB (K.wrap n) k=fixB n k:=by
 refine zrp ?_
 have hp:((256 ^ k:Nat):Int)=(2:Int) ^ K.bits:=by
  rw[hk,show (256:Nat)=2 ^ 8 from rfl,← Nat.pow_mul,Int.natCast_pow]; rfl
 rw[hp]; exact wrap_mod2 K n
theorem ap_Int8 (B:Base P N) (h8:N.zjd≠0) (h:FOk P A.zjl 2 (zoa N A) [.var 2]) (n:Int):ApF P A.zjl (.int .i8 n) (fixB n 1):=by
 intro w lo v l ho hlo hb
 refine h.call rfl fun loc N' hlo'=>?_
 unfold zoa
 refine zd fun K hK=>zi fun τ=>?_
 simp +decide only [bK,Nat.reduceAdd]
 refine hK _ _ (zb fun σ1 hσ=>?_)
 have a0:=hσ 0
 have a1:=hσ 1
 simp +decide only [bE,Nat.reduceBeqDiff,Nat.reduceAdd,Nat.zero_add,zcx,zck] at a0 a1
 clear hσ hK K
 have e6:∀ ρ:Env,(#[(0,T 2)]:Array (Nat × Operand)).map (fun p=>(p.1,ev ρ p.2))=#[(0,ρ 2)]:=fun ρ=>by simp
 obtain⟨v',w',h1,h2⟩:=zhv (ty:=N.za) (s:=[u8of n]) B ho hlo hb
 have h1:(Builtin.append_ #[N.za,N.za] N.za #[v,.slice (some ⟨w.heap.size,0,none⟩) 1 1]).run P (w.alloc (.cells ([u8of n].map zz).toArray N.zh))=.ok v' w':=h1
 refine zd fun K hK=>zi fun τ=>?_
 simp +decide only [bK,bE,Nat.reduceBeqDiff,BEq.rfl,Nat.reduceAdd,Nat.zero_add,a0,a1,e6,zat (B.int8 h8) B.uint8 ⟨_,rfl⟩,zqu,zqi B,h1]
 refine hK _ _ (zb fun σ2 hσ=>zbb ?_)
 have b2:=hσ 2
 simp +decide only [bE,BEq.rfl,Nat.reduceAdd] at b2
 exact⟨.inr rfl,_,rfl,by rw[b2,← fixB1]; exact h2⟩
theorem ap_Uint32 (B:Base P N) (h:FOk P A.zbw 2 (zch N A) [.var 2]) (n:Int):ApF P A.zbw (.int .u32 n) (fixB n 4):=by
 intro w lo v l ho hlo hb
 refine h.call rfl fun loc N' hlo'=>?_
 unfold zch
 refine zd fun K hK=>zi fun τ=>?_
 simp +decide only [bK,Nat.reduceAdd]
 refine hK _ _ (zb fun σ1 hσ=>?_)
 have a0:=hσ 0
 have a1:=hσ 1
 simp +decide only [bE,Nat.reduceBeqDiff,Nat.reduceAdd,Nat.zero_add,zcx,zck] at a0 a1
 clear hσ hK K
 have e6:∀ ρ:Env,(#[(0,T 3),(1,T 6),(2,T 9),(3,T 11)]:Array (Nat × Operand)).map (fun p=>(p.1,ev ρ p.2))=#[(0,ρ 3),(1,ρ 6),(2,ρ 9),(3,ρ 11)]:=fun ρ=>by simp
 obtain⟨v',w',h1,h2⟩:=zhv (ty:=N.za) (s:=[u8of (n.fdiv (2 ^ min 24 IntKind.u32.bits)),u8of (n.fdiv (2 ^ min 16 IntKind.u32.bits)),u8of (n.fdiv (2 ^ min 8 IntKind.u32.bits)),u8of n]) B ho hlo hb
 have h1:(Builtin.append_ #[N.za,N.za] N.za #[v,.slice (some ⟨w.heap.size,0,none⟩) 4 4]).run P (w.alloc (.cells ([u8of (n.fdiv (2 ^ min 24 IntKind.u32.bits)),u8of (n.fdiv (2 ^ min 16 IntKind.u32.bits)),u8of (n.fdiv (2 ^ min 8 IntKind.u32.bits)),u8of n].map zz).toArray N.zh))=.ok v' w':=h1
 refine zd fun K hK=>zi fun τ=>?_
 simp +decide only [bK,bE,Nat.reduceBeqDiff,BEq.rfl,Nat.reduceAdd,Int.reduceToNat,Nat.zero_add,a0,a1,e6,zdy (show (0:Int)≤24 by decide),zdy (show (0:Int)≤16 by decide),zdy (show (0:Int)≤8 by decide),zat B.uint32 B.uint8 ⟨_,rfl⟩,zqu,zta B,h1]
 refine hK _ _ (zb fun σ2 hσ=>zbb ?_)
 have b2:=hσ 2
 simp +decide only [bE,BEq.rfl,Nat.reduceAdd] at b2
 exact⟨.inr rfl,_,rfl,by rw[b2,← fixB4]; exact h2⟩
theorem zyd (B:Base P N) (hU:FOk P A.zed 2 (zfh N A) [.var 2]) (h:FOk P A.zce 2 (zgx N A) [.var 2]) (n:Int):ApF P A.zce (.int .i16 n) (fixB n 2):=by
 intro w lo v l ho hlo hb
 refine h.call rfl fun loc N' hlo'=>?_
 unfold zgx
 refine zd fun K hK=>zi fun τ=>?_
 simp +decide only [bK,Nat.reduceAdd]
 refine hK _ _ (zb fun σ1 hσ=>?_)
 have a0:=hσ 0
 have a1:=hσ 1
 simp +decide only [bE,Nat.reduceBeqDiff,Nat.reduceAdd,Nat.zero_add,zcx,zck] at a0 a1
 clear hσ hK K
 refine zd fun K hK=>zi fun τ=>?_
 simp +decide only [bK,bE,Nat.reduceBeqDiff,BEq.rfl,Nat.reduceAdd,Nat.zero_add,a0,a1,zat B.int16 B.uint16 ⟨_,rfl⟩]
 rw[zah hU.has]
 simp +decide only [bK,bE,Nat.reduceBeqDiff,BEq.rfl]
 refine(zaap B hU (IntKind.u16.wrap n) ho hlo (by rw[zaw] at hb ⊢; exact hb)).mono ?_
 rw[zia (k:=2) rfl]
 intro v' w' h2
 refine hK _ _ (zb fun σ2 hσ=>zbb ?_)
 have b2:=hσ 2
 simp +decide only [bE,BEq.rfl,Nat.reduceAdd] at b2
 exact⟨.inr rfl,_,rfl,by rw[b2]; exact h2⟩
theorem zqx (B:Base P N) (hU:FOk P A.zbw 2 (zch N A) [.var 2]) (h:FOk P A.zas 2 (zdc N A) [.var 2]) (n:Int):ApF P A.zas (.int .i32 n) (fixB n 4):=by
 intro w lo v l ho hlo hb
 refine h.call rfl fun loc N' hlo'=>?_
 unfold zdc
 refine zd fun K hK=>zi fun τ=>?_
 simp +decide only [bK,Nat.reduceAdd]
 refine hK _ _ (zb fun σ1 hσ=>?_)
 have a0:=hσ 0
 have a1:=hσ 1
 simp +decide only [bE,Nat.reduceBeqDiff,Nat.reduceAdd,Nat.zero_add,zcx,zck] at a0 a1
 clear hσ hK K
 refine zd fun K hK=>zi fun τ=>?_
 simp +decide only [bK,bE,Nat.reduceBeqDiff,BEq.rfl,Nat.reduceAdd,Nat.zero_add,a0,a1,zat B.int32 B.uint32 ⟨_,rfl⟩]
 rw[zah hU.has]
 simp +decide only [bK,bE,Nat.reduceBeqDiff,BEq.rfl]
 refine(ap_Uint32 B hU (IntKind.u32.wrap n) ho hlo (by rw[zaw] at hb ⊢; exact hb)).mono ?_
 rw[zia (k:=4) rfl]
 intro v' w' h2
 refine hK _ _ (zb fun σ2 hσ=>zbb ?_)
 have b2:=hσ 2
 simp +decide only [bE,BEq.rfl,Nat.reduceAdd] at b2
 exact⟨.inr rfl,_,rfl,by rw[b2]; exact h2⟩
theorem zacn (B:Base P N) (hU:FOk P A.zbw 2 (zch N A) [.var 2]) (hI:FOk P A.zas 2 (zdc N A) [.var 2]) (h:FOk P A.zdj 2 (zjp N A) [.var 2]) (n:Int):ApF P A.zdj (.int .i64 n) (fixB n 4):=by
 intro w lo v l ho hlo hb
 refine h.call rfl fun loc N' hlo'=>?_
 unfold zjp
 refine zd fun K hK=>zi fun τ=>?_
 simp +decide only [bK,Nat.reduceAdd]
 refine hK _ _ (zb fun σ1 hσ=>?_)
 have a0:=hσ 0
 have a1:=hσ 1
 simp +decide only [bE,Nat.reduceBeqDiff,Nat.reduceAdd,Nat.zero_add,zcx,zck] at a0 a1
 clear hσ hK K
 refine zd fun K hK=>zi fun τ=>?_
 simp +decide only [bK,bE,Nat.reduceBeqDiff,BEq.rfl,Nat.reduceAdd,Nat.zero_add,a0,a1,zat B.int B.int32 ⟨_,rfl⟩]
 rw[zah hI.has]
 simp +decide only [bK,bE,Nat.reduceBeqDiff,BEq.rfl]
 refine(zqx B hU hI (IntKind.i32.wrap n) ho hlo (by rw[zaw] at hb ⊢; exact hb)).mono ?_
 rw[zia (k:=4) rfl]
 intro v' w' h2
 refine hK _ _ (zb fun σ2 hσ=>zbb ?_)
 have b2:=hσ 2
 simp +decide only [bE,BEq.rfl,Nat.reduceAdd] at b2
 exact⟨.inr rfl,_,rfl,by rw[b2]; exact h2⟩
theorem zsw {n:Nat} (hn:n < 4294967295):IntKind.u32.wrap (1+IntKind.u32.wrap (n:Int))=((n+1:Nat):Int):=by
 have e:∀ m:Int,IntKind.u32.wrap m=m % 4294967296:=fun m=>by simp [IntKind.wrap,IntKind.signed,IntKind.bits]
 rw[e,e]; omega
theorem zaas (B:Base P N) (hU:UvT P N A) (h:FOk P A.zbp 2 (zft N A) [.var 2]) {n:Nat} (hn:n < 4294967295):ApF P A.zbp (.int .i64 n) (uvB (n+1)):=by
 intro w lo v l ho hlo hb
 refine h.call rfl fun loc N' hlo'=>?_
 unfold zft
 refine zd fun K hK=>zi fun τ=>?_
 simp +decide only [bK,Nat.reduceAdd]
 refine hK _ _ (zb fun σ1 hσ=>?_)
 have a0:=hσ 0
 have a1:=hσ 1
 simp +decide only [bE,Nat.reduceBeqDiff,Nat.reduceAdd,Nat.zero_add,zcx,zck] at a0 a1
 clear hσ hK K
 refine zd fun K hK=>zi fun τ=>?_
 simp +decide only [bK,bE,Nat.reduceBeqDiff,BEq.rfl,Nat.reduceAdd,Nat.zero_add,a0,a1,zat B.int B.uint32 ⟨_,rfl⟩,zsw hn]
 rw[zah hU.uv.has]
 simp +decide only [bK,bE,Nat.reduceBeqDiff,BEq.rfl]
 refine(zyc B hU (n:=n+1) (by omega) ho hlo hb).mono ?_
 intro v' w' h2
 refine hK _ _ (zb fun σ2 hσ=>zbb ?_)
 have b2:=hσ 2
 simp +decide only [bE,BEq.rfl,Nat.reduceAdd] at b2
 exact⟨.inr rfl,_,rfl,by rw[b2]; exact h2⟩
theorem ap_Bool (B:Base P N) (h:FOk P A.zjm 2 (zob N A) [.var 2]) (b:Bool):ApF P A.zjm (.bool b) [if b then 1 else 0]:=by
 intro w lo v l ho hlo hb
 refine h.call rfl fun loc N' hlo'=>?_
 unfold zob
 refine zd fun K hK=>zi fun τ=>?_
 simp +decide only [bK,Nat.reduceAdd]
 refine hK _ _ (zb fun σ1 hσ=>?_)
 have a0:=hσ 0
 have a1:=hσ 1
 simp +decide only [bE,Nat.reduceBeqDiff,Nat.reduceAdd,Nat.zero_add,zcx,zck] at a0 a1
 clear hσ hK K
 have e1:∀ ρ:Env,(#[(0,.const (.int .u8 1))]:Array (Nat × Operand)).map (fun p=>(p.1,ev ρ p.2))=#[(0,zz 1)]:=fun ρ=>by simp; rfl
 have e0:∀ ρ:Env,(#[(0,.const (.int .u8 0))]:Array (Nat × Operand)).map (fun p=>(p.1,ev ρ p.2))=#[(0,zz 0)]:=fun ρ=>by simp; rfl
 refine zd fun K hK=>zd fun K1 hK1=>zi fun τ=>?_
 simp +decide only [bK,bE,Nat.reduceAdd,a1]
 refine hK1 _ _ (zb fun σ2 hσ=>?_)
 have c0:=hσ 0
 have c3:=hσ 3
 simp +decide only [bE,Nat.reduceBeqDiff,BEq.rfl,Nat.reduceAdd,Nat.zero_add,a0] at c0 c3
 clear hσ hK1 K1
 refine W_if hlo' c3 ?_
 cases b with
 | true=>
  simp only [if_true] at hb ⊢
  obtain⟨v',w',h1,h2⟩:=zhv (ty:=N.za) (s:=[1]) B ho hlo hb
  have h1:(Builtin.append_ #[N.za,N.za] N.za #[v,.slice (some ⟨w.heap.size,0,none⟩) 1 1]).run P (w.alloc (.cells ([1].map zz).toArray N.zh))=.ok v' w':=h1
  refine zd fun K2 hK2=>zi fun τ=>?_
  simp +decide only [bK,bE,Nat.reduceBeqDiff,BEq.rfl,Nat.reduceAdd,Nat.zero_add,c0,e1,zqi B,h1]
  refine hK2 _ _ (zb fun σ3 hσ=>zbb ?_)
  have b2:=hσ 2
  simp +decide only [bE,BEq.rfl,Nat.reduceAdd] at b2
  exact⟨.inr rfl,_,rfl,by rw[b2]; exact h2⟩
 | false=>
  simp only [Bool.false_eq_true,if_false] at hb ⊢
  refine zbd (hK _ _ ?_)
  obtain⟨v',w',h1,h2⟩:=zhv (ty:=N.za) (s:=[0]) B ho hlo hb
  have h1:(Builtin.append_ #[N.za,N.za] N.za #[v,.slice (some ⟨w.heap.size,0,none⟩) 1 1]).run P (w.alloc (.cells ([0].map zz).toArray N.zh))=.ok v' w':=h1
  refine zd fun K2 hK2=>zi fun τ=>?_
  simp +decide only [bK,bE,Nat.reduceBeqDiff,BEq.rfl,Nat.reduceAdd,Nat.zero_add,if_false,c0,e0,zqi B,h1]
  refine hK2 _ _ (zb fun σ3 hσ=>zbb ?_)
  have b2:=hσ 2
  simp +decide only [bE,BEq.rfl,Nat.reduceAdd] at b2
  exact⟨.inr rfl,_,rfl,by rw[b2]; exact h2⟩
end
section
variable {P:Program} {N:Nums} {A:zdk}
theorem zabq {st tx et ty:TypeId} {a b sz by':Nat} {z z':Value} {d:TypeDesc} (hS:TI P st (.slice et) a b z') (ht:TI P et d sz by' z) {w:World} {lo n m:Nat} {v src:Value} {cs new:List Value} (ho:Own w lo sz v n cs)
  (hsrc:∀ i:TypeInfo,P.info? et=some i→i.size=sz→Src P i.size tx src m new w) (hnl:new.length=m * sz) (hlo:lo≤w.heap.size) (hz:z.cells.size=sz)
  (hbig:n+m < 1099511627776) (hby:by'≤128) (hm:v=.slice none 0 0→0 < m) :
  ∃ v' w',(Builtin.append_ #[st,tx] ty #[v,src]).run P w=.ok v' w'∧Own w' lo sz v' (n+m) (cs++new)∧Mod w w' (fun i _=>¬ zcl v i)∧v'.oneCell'=true∧(∀ k,k < w.heap.size→zcl v k→zcl v' k):=by
 obtain⟨i,hi,hsz,hbytes,hzero⟩:=ht.info
 have hsrc':=hsrc i hi hsz
 clear hsrc
 have hsrc:=hsrc'
 clear hsrc'
 subst hsz
 have fits:∀ c,c < n+m→Builtin.nextslicecap (n+m) c * i.bytes≤281474976710656:=by
  intro c hc
  have h1:=nextslicecap_le hc
  have h2:Builtin.nextslicecap (n+m) c * i.bytes≤(2 * (n+m)) * 128:=Nat.mul_le_mul h1 (by omega)
  omega
 have grown:∀ (base:Option Addr) (c:Nat),v=.slice base n c→c < n+m→(Builtin.firstCells i.size n (.slice base n c)).run P w.drew=.ok cs.toArray w.drew→cs.length=n * i.size→
   ∃ v' w',(Builtin.append_ #[st,tx] ty #[v,src]).run P w=.ok v' w'∧Own w' lo i.size v' (n+m) (cs++new)∧Mod w w' (fun i _=>¬ zcl v i)∧v'.oneCell'=true∧(∀ k,k < w.heap.size→zcl v k→zcl v' k):=by
  intro base c hv hc hold' hcl
  have hrun:=run_append_grow_src (P:=P) w st tx ty et i z hS.und hi hzero base n c cs hold' src m new hsrc hc (by omega) (fits c hc)
  refine⟨_,_,by rw[hv]; exact hrun,.inr ⟨w.heap.size,_,rfl,hlo,by rw[zav]; exact Nat.lt_succ_self _,grownCap_ge w (n+m) c et,?_,?_,by rw[List.length_append,hcl,hnl,Nat.add_mul]⟩,(Mod.drew w _).trans' (Mod.alloc _ _ _),rfl,fun k hk _ b o s n c e=>by injection e with e1 _ _; injection e1 with e2; injection e2 with e3; omega⟩
  ·have ht2:=zbq w.drew ((cs++new).toArray++Builtin.zeroCells z.cells (grownCap w (n+m) c et - (n+m))) et
   intro j hj
   refine ht2 j ?_
   have hzc:(Builtin.zeroCells z.cells (grownCap w (n+m) c et - (n+m))).size=(grownCap w (n+m) c et - (n+m)) * i.size:=by simp [Builtin.zeroCells,hz]
   rw[Array.size_append,hzc,List.size_toArray,List.length_append,hcl,hnl,← Nat.add_mul,← Nat.add_mul]
   have hge:=grownCap_ge w (n+m) c et
   rwa [show n+m+(grownCap w (n+m) c et - (n+m))=grownCap w (n+m) c et by omega]
  ·have hr:=zr w.drew ((cs++new).toArray++Builtin.zeroCells z.cells (grownCap w (n+m) c et - (n+m))) et (0,0)
   exact(zx.1 (by simpa using hr)).1
 rcases ho with⟨hv,hn0,hcs⟩ | ⟨b,c,hv,hb1,hb2,hnc,hth,hrg,hcl⟩
 ·subst hcs
  have:=hm hv
  exact grown none 0 (by rw[hv,hn0]) (by omega) (by rw[hn0]; rfl) (by rw[hn0]; simp)
 ·by_cases hroom:n+m≤c
  ·have hle:n * i.size+new.length≤c * i.size:=by
    rw[hnl,← Nat.add_mul]; exact Nat.mul_le_mul_right _ hroom
   have hrun:=run_append_room_src (P:=P) w st tx ty et i hS.und hi b 0 n c src m new hsrc hroom (fun j hj=>by
    have:=(hth (n * i.size+j) (by omega)).1; simpa [Nat.add_assoc] using this) (fun j hj=>by
    have:=(hth (n * i.size+j) (by omega)).2; simpa [Nat.add_assoc] using this)
   have ms:Mod w (w.setCells b (0+n * i.size) new) (rng b (0+n * i.size) new.length):=Mod.setCells _ _ _ fun _ k h1 h2=>⟨rfl,h1,h2⟩
   refine⟨_,_,by rw[hv]; exact hrun,.inr ⟨b,c,rfl,hb1,Nat.lt_of_lt_of_le hb2 ms.size,hroom,ms.there hb2 hth,?_,by rw[List.length_append,hcl,hnl,Nat.add_mul]⟩,ms.mono (fun k o _ h hn=>hn b 0 none n c hv h.1),rfl,fun k hk hn b' o' s' n' c' e=>by
    injection e with e1 _ _; injection e1 with e2; injection e2 with e3; subst e3; exact hn b 0 none n c hv⟩
   rw[zx]
   refine⟨ms.rangeAt hb2 (fun k h1 h2 h=>by have:=h.2.1; omega) hrg,?_⟩
   rw[hcl]
   have hex:∃ old:List Value,old.length=new.length∧w.rangeAt b (0+n * i.size) old:=by
    refine⟨(List.range new.length).map fun j=>(w.cell? ⟨b,(0+n * i.size)+j,none⟩).getD undef,by simp,fun j x hj=>?_⟩
    rw[List.getElem?_map] at hj
    cases hr:(List.range new.length)[j]? with
    | none=>rw[hr] at hj; simp at hj
    | some k=>
     rw[hr] at hj
     have hk:k=j:=by
      obtain⟨h1,h2⟩:=List.getElem?_eq_some_iff.1 hr
      simpa using h2.symm
     subst hk
     have hlt:k < new.length:=by have:=(List.getElem?_eq_some_iff.1 hr).1; simpa using this
     have hs:(w.cell? ⟨b,(0+n * i.size)+k,none⟩).isSome=true:=by have:=(hth (n * i.size+k) (by omega)).1; simpa [Nat.add_assoc] using this
     simp only [Option.map_some,Option.some.injEq] at hj
     cases hc:w.cell? ⟨b,(0+n * i.size)+k,none⟩ with
     | none=>rw[hc] at hs; cases hs
     | some x=>rw[hc] at hj; simp at hj; rw[hj]
   obtain⟨old,ho1,ho2⟩:=hex
   have:=zax new (0+n * i.size) w old ho2 (by omega)
   rwa [List.drop_of_length_le (by omega),List.append_nil] at this
  ·have hfc:(Builtin.firstCells i.size n (.slice (some ⟨b,0,none⟩) n c)).run P w.drew=.ok cs.toArray w.drew:=
    run_firstCells_some w.drew i.size n ⟨b,0,none⟩ n c cs hcl (fun j u hj=>by rw[Addr.add_mid]; exact hrg j u hj)
   exact grown (some ⟨b,0,none⟩) c hv (by omega) hfc hcl
theorem zwe (B:Base P N) {w:World} {lo:Nat} {v:Value} {l s:List UInt8} {ty:TypeId} (ho:OwnB w lo v l) (hlo:lo≤w.heap.size) (hb:l.length+s.length < 1099511627776) (hl:l≠[]) :
  ∃ v' w',(Builtin.append_ #[N.za,N.zac] ty #[v,strV s]).run P w=.ok v' w'∧Apd w lo v l s v' w':=by
 have hbc:byteCells ⟨s.toArray⟩=s.map zz:=by
  unfold byteCells
  simp [zz]
 obtain⟨v',w',h1,h2,h3,_,h5⟩:=zabq (P:=P) (ty:=ty) (tx:=N.zac) B.Lu8 B.uint8 (m:=s.length) (src:=strV s) (new:=s.map zz) ho (fun i hi hsz=>by
  rw[hsz,← hbc]
  exact Src.ofString (w:=w) B.string.und ⟨s.toArray⟩) (by simp) hlo rfl hb (by decide) (fun e=>by
   rcases ho with⟨_,e2,_⟩ | ⟨b,c,e2,_⟩
   ·exact absurd (List.length_eq_zero_iff.1 e2) hl
   ·rw[e] at e2; cases e2)
 exact⟨v',w',h1,by rw[OwnB,List.length_append,List.map_append]; exact h2,h3,h5⟩
theorem zoj (B:Base P N) {w:World} {s:List UInt8} {ty:TypeId}:(Builtin.len_ #[N.zac] ty #[strV s]).run P w=.ok (.int .i64 (s.length:Int)) w:=by
 simp [Builtin.len_,Sem.run_bind,B.string.run_und,goInt,strV]
 rfl
theorem ap_Int16w (B:Base P N) (hU:FOk P A.zed 2 (zfh N A) [.var 2]) (h:FOk P A.zce 2 (zgx N A) [.var 2]) (n:Int):ApF P A.zce (.int .i16 (IntKind.i16.wrap n)) (fixB n 2):=by
 intro w lo v l ho hlo hb
 have:=zyd B hU h (IntKind.i16.wrap n) ho hlo (by rw[zaw] at hb ⊢; exact hb)
 rwa [zia (k:=2) rfl] at this
theorem zmy (B:Base P N) (hU:UvT P N A) (h:FOk P A.zcs 2 (zfa N A) [.var 2]) (s:List UInt8) (hs:s.length < 4294967295):ApF P A.zcs (strV s) (uvB (s.length+1)++s):=by
 intro w lo v l ho hlo hb
 refine h.call rfl fun loc N' hlo'=>?_
 unfold zfa
 refine zd fun K hK=>zi fun τ=>?_
 simp +decide only [bK,Nat.reduceAdd]
 refine hK _ _ (zb fun σ1 hσ=>?_)
 have a0:=hσ 0
 have a1:=hσ 1
 simp +decide only [bE,Nat.reduceBeqDiff,Nat.reduceAdd,Nat.zero_add,zcx,zck] at a0 a1
 clear hσ hK K
 rw[List.length_append] at hb
 refine zd fun K hK=>zi fun τ=>?_
 simp +decide only [bK,bE,Nat.reduceBeqDiff,BEq.rfl,Nat.reduceAdd,Nat.zero_add,a0,a1,zoj B,zat B.int B.uint32 ⟨_,rfl⟩,zsw hs]
 rw[zah hU.uv.has]
 simp +decide only [bK,bE,Nat.reduceBeqDiff,BEq.rfl]
 refine(zyc B hU (n:=s.length+1) (by omega) ho hlo (by omega)).mono ?_
 intro v1 w1 h1
 refine hK _ _ (zb fun σ2 hσ=>?_)
 have c0:=hσ 0
 have c1:=hσ 1
 simp +decide only [bE,Nat.reduceBeqDiff,BEq.rfl,Nat.reduceAdd,Nat.zero_add,a1] at c0 c1
 clear hσ hK K
 have hl1:(l++uvB (s.length+1)).length+s.length < 1099511627776:=by rw[List.length_append]; omega
 obtain⟨v2,w2,h3,h4⟩:=zwe (ty:=N.za) B h1.own (Nat.le_trans hlo h1.mod.size) hl1 (by intro e; have hp:=zwv (s.length+1); rw[(List.append_eq_nil_iff.1 e).2] at hp; simp at hp)
 refine zd fun K hK=>zi fun τ=>?_
 simp +decide only [bK,bE,Nat.reduceBeqDiff,BEq.rfl,Nat.reduceAdd,Nat.zero_add,c0,c1,h3]
 refine hK _ _ (zb fun σ3 hσ=>zbb ?_)
 have b2:=hσ 2
 simp +decide only [bE,BEq.rfl,Nat.reduceAdd] at b2
 exact⟨.inr rfl,_,rfl,by rw[b2]; exact h1.trans h4⟩
theorem zaaq (B:Base P N) (hU:FOk P A.zed 2 (zfh N A) [.var 2]) (hI:FOk P A.zce 2 (zgx N A) [.var 2]) (h:FOk P A.zet 2 (zja N A) [.var 2]) (s:List UInt8) (hs:s.length < 4294967295):ApF P A.zet (strV s) (fixB s.length 2++s):=by
 intro w lo v l ho hlo hb
 refine h.call rfl fun loc N' hlo'=>?_
 unfold zja
 refine zd fun K hK=>zi fun τ=>?_
 simp +decide only [bK,Nat.reduceAdd]
 refine hK _ _ (zb fun σ1 hσ=>?_)
 have a0:=hσ 0
 have a1:=hσ 1
 simp +decide only [bE,Nat.reduceBeqDiff,Nat.reduceAdd,Nat.zero_add,zcx,zck] at a0 a1
 clear hσ hK K
 rw[List.length_append] at hb
 refine zd fun K hK=>zi fun τ=>?_
 simp +decide only [bK,bE,Nat.reduceBeqDiff,BEq.rfl,Nat.reduceAdd,Nat.zero_add,a0,a1,zoj B,zat B.int B.int16 ⟨_,rfl⟩]
 rw[zah hI.has]
 simp +decide only [bK,bE,Nat.reduceBeqDiff,BEq.rfl]
 refine(ap_Int16w B hU hI s.length ho hlo (by omega)).mono ?_
 intro v1 w1 h1
 refine hK _ _ (zb fun σ2 hσ=>?_)
 have c0:=hσ 0
 have c1:=hσ 1
 simp +decide only [bE,Nat.reduceBeqDiff,BEq.rfl,Nat.reduceAdd,Nat.zero_add,a1] at c0 c1
 clear hσ hK K
 have hl1:(l++fixB s.length 2).length+s.length < 1099511627776:=by rw[List.length_append]; omega
 obtain⟨v2,w2,h3,h4⟩:=zwe (ty:=N.za) B h1.own (Nat.le_trans hlo h1.mod.size) hl1 (by intro e; have hp:=zaw (s.length:Int) 2; rw[(List.append_eq_nil_iff.1 e).2] at hp; simp at hp)
 refine zd fun K hK=>zi fun τ=>?_
 simp +decide only [bK,bE,Nat.reduceBeqDiff,BEq.rfl,Nat.reduceAdd,Nat.zero_add,c0,c1,h3]
 refine hK _ _ (zb fun σ3 hσ=>zbb ?_)
 have b2:=hσ 2
 simp +decide only [bE,BEq.rfl,Nat.reduceAdd] at b2
 exact⟨.inr rfl,_,rfl,by rw[b2]; exact h1.trans h4⟩
end
section
variable {P:Program} {N:Nums} {A:zdk}
def ApF2 (P:Program) (f:FuncId) (x y:Value) (s:List UInt8):Prop:=∀ {w:World} {lo:Nat} {v:Value} {l:List UInt8},OwnB w lo v l→lo≤w.heap.size→l.length+s.length < 1099511627776→Call P f #[v,x,y] w (Apd w lo v l s)
theorem ap_Uuid (B:Base P N) (hU:N.zaq≠0) (h:FOk P A.zjj 2 (znz N A) [.var 3]) {s:List UInt8} (hs:s.length=16):ApF P A.zjj (.agg (s.map zz).toArray) s:=by
 intro w lo v l ho hlo hb
 refine h.call rfl fun loc N' hlo'=>?_
 unfold znz
 obtain⟨w1,hw1⟩:∃ w1,w1=w.alloc (.cells (Value.cells (.agg (s.map zz).toArray)) N.zaq):=⟨_,rfl⟩
 have m1:Mod w w1 zy:=by rw[hw1]; exact Mod.alloc _ _ _
 have s1:w1.heap.size=w.heap.size+1:=by rw[hw1]; exact zav _ _
 have r1:w1.rangeAt w.heap.size 0 (s.map zz):=by rw[hw1]; exact zr w (s.map zz).toArray N.zaq (0,0)
 refine zd fun K hK=>zi fun τ=>?_
 simp +decide only [bK,bE,Nat.reduceAdd]
 rw[← hw1]
 refine hK _ _ (zb fun σ1 hσ=>?_)
 have a0:=hσ 0
 have a2:=hσ 2
 simp +decide only [bE,Nat.reduceBeqDiff,BEq.rfl,Nat.reduceAdd,Nat.zero_add,zcx] at a0 a2
 clear hσ hK K
 obtain⟨v',w',h1,h2,h3,h4⟩:=zdq (ty:=N.za) B (Own.stay m1 (fun _ _ _ h=>h) ho) (src:=.slice (some ⟨w.heap.size,0,none⟩) 16 16) (s:=s) (.inr ⟨w.heap.size,0,16,by rw[hs],by omega,r1⟩) (by omega) hb
 have e:=fun {w:World}=>zsd (w:=w) (B.uuid hU) B.uint8 (ad:=⟨w1.heap.size - 1,0,none⟩)
 have hm:w1.heap.size - 1=w.heap.size:=by omega
 rw[hm] at e
 refine zd fun K hK=>zi fun τ=>?_
 simp +decide only [bK,bE,Nat.reduceBeqDiff,BEq.rfl,Nat.reduceAdd,Nat.zero_add,Option.map_none,a0,a2,Option.map_none,e,h1]
 refine hK _ _ (zb fun σ2 hσ=>zbb ?_)
 have b3:=hσ 3
 simp +decide only [bE,BEq.rfl,Nat.reduceAdd] at b3
 exact⟨.inr rfl,_,rfl,by rw[b3]; exact Apd.after m1 ⟨h2,h3,h4⟩⟩
theorem zaar (B:Base P N) (hU:FOk P A.zbw 2 (zch N A) [.var 2]) (hI:FOk P A.zas 2 (zdc N A) [.var 2]) (h:FOk P A.zbl 3 (zfl N A) [.var 3]) (n:Nat) (b:Bool):ApF2 P A.zbl (.int .i64 n) (.bool b) (zae false b n 4):=by
 intro w lo v l ho hlo hb
 refine h.call rfl fun loc N' hlo'=>?_
 unfold zfl
 refine zd fun K hK=>zi fun τ=>?_
 simp +decide only [bK,Nat.reduceAdd]
 refine hK _ _ (zb fun σ1 hσ=>?_)
 have a0:=hσ 0
 have a1:=hσ 1
 have a2:=hσ 2
 simp +decide only [bE,Nat.reduceBeqDiff,Nat.reduceAdd,Nat.zero_add,zqw,zkn,zod] at a0 a1 a2
 clear hσ hK K
 refine zd fun K hK=>zd fun K1 hK1=>zi fun τ=>?_
 simp +decide only [bK,bE,Nat.reduceAdd,a2]
 refine hK1 _ _ (zb fun σ2 hσ=>?_)
 have c0:=hσ 0
 have c1:=hσ 1
 have c4:=hσ 4
 simp +decide only [bE,Nat.reduceBeqDiff,BEq.rfl,Nat.reduceAdd,Nat.zero_add,a0,a1] at c0 c1 c4
 clear hσ hK1 K1
 refine W_if hlo' c4 ?_
 cases b with
 | true=>
  have e:zae false true n 4=fixB (-1) 4:=by simp [zae]
  rw[e] at hb ⊢
  simp only [if_true]
  refine zd fun K2 hK2=>zi fun τ=>?_
  simp +decide only [bK,bE,Nat.reduceAdd,Nat.zero_add,c0]
  rw[zah hI.has]
  simp +decide only [bK,bE,BEq.rfl]
  refine(zqx B hU hI (-1) ho hlo hb).mono ?_
  intro v' w' h2
  refine hK2 _ _ (zb fun σ3 hσ=>zbb ?_)
  have b3:=hσ 3
  simp +decide only [bE,BEq.rfl,Nat.reduceAdd] at b3
  exact⟨.inr rfl,_,rfl,by rw[b3]; exact h2⟩
 | false=>
  have e:zae false false n 4=fixB n 4:=by simp [zae]
  rw[e] at hb ⊢
  simp only [Bool.false_eq_true,if_false]
  refine zbd (hK _ _ ?_)
  refine zd fun K2 hK2=>zi fun τ=>?_
  simp +decide only [bK,bE,Nat.reduceBeqDiff,BEq.rfl,Nat.reduceAdd,Nat.zero_add,c0,c1,zat B.int B.int32 ⟨_,rfl⟩]
  rw[zah hI.has]
  simp +decide only [bK,bE,Nat.reduceBeqDiff,BEq.rfl]
  refine(zqx B hU hI (IntKind.i32.wrap n) ho hlo (by rw[zaw] at hb ⊢; exact hb)).mono ?_
  rw[zia (k:=4) rfl]
  intro v' w' h2
  refine hK2 _ _ (zb fun σ3 hσ=>zbb ?_)
  have b3:=hσ 3
  simp +decide only [bE,BEq.rfl,Nat.reduceAdd] at b3
  exact⟨.inr rfl,_,rfl,by rw[b3]; exact h2⟩
theorem zye (B:Base P N) (hU:UvT P N A) (h:FOk P A.zau 3 (zeb N A) [.var 3]) {n:Nat} (hn:n < 4294967295) (b:Bool):ApF2 P A.zau (.int .i64 n) (.bool b) (zae true b n 4):=by
 intro w lo v l ho hlo hb
 refine h.call rfl fun loc N' hlo'=>?_
 unfold zeb
 refine zd fun K hK=>zi fun τ=>?_
 simp +decide only [bK,Nat.reduceAdd]
 refine hK _ _ (zb fun σ1 hσ=>?_)
 have a0:=hσ 0
 have a1:=hσ 1
 have a2:=hσ 2
 simp +decide only [bE,Nat.reduceBeqDiff,Nat.reduceAdd,Nat.zero_add,zqw,zkn,zod] at a0 a1 a2
 clear hσ hK K
 refine zd fun K hK=>zd fun K1 hK1=>zi fun τ=>?_
 simp +decide only [bK,bE,Nat.reduceAdd,a2]
 refine hK1 _ _ (zb fun σ2 hσ=>?_)
 have c0:=hσ 0
 have c1:=hσ 1
 have c4:=hσ 4
 simp +decide only [bE,Nat.reduceBeqDiff,BEq.rfl,Nat.reduceAdd,Nat.zero_add,a0,a1] at c0 c1 c4
 clear hσ hK1 K1
 refine W_if hlo' c4 ?_
 cases b with
 | true=>
  have e:zae true true n 4=uvB 0:=by rw[zee (by decide)]; simp [zae]
  rw[e] at hb ⊢
  simp only [if_true]
  refine zd fun K2 hK2=>zi fun τ=>?_
  simp +decide only [bK,bE,Nat.reduceAdd,Nat.zero_add,c0]
  rw[zah hU.uv.has]
  simp +decide only [bK,bE,BEq.rfl]
  refine(zyc B hU (n:=0) (by decide) ho hlo hb).mono ?_
  intro v' w' h2
  refine hK2 _ _ (zb fun σ3 hσ=>zbb ?_)
  have b3:=hσ 3
  simp +decide only [bE,BEq.rfl,Nat.reduceAdd] at b3
  exact⟨.inr rfl,_,rfl,by rw[b3]; exact h2⟩
 | false=>
  have e:zae true false n 4=uvB (n+1):=by simp [zae]
  rw[e] at hb ⊢
  simp only [Bool.false_eq_true,if_false]
  refine zbd (hK _ _ ?_)
  refine zd fun K2 hK2=>zi fun τ=>?_
  simp +decide only [bK,bE,Nat.reduceBeqDiff,BEq.rfl,Nat.reduceAdd,Nat.zero_add,c0,c1,zat B.int B.uint32 ⟨_,rfl⟩,zsw hn]
  rw[zah hU.uv.has]
  simp +decide only [bK,bE,Nat.reduceBeqDiff,BEq.rfl]
  refine(zyc B hU (n:=n+1) (by omega) ho hlo hb).mono ?_
  intro v' w' h2
  refine hK2 _ _ (zb fun σ3 hσ=>zbb ?_)
  have b3:=hσ 3
  simp +decide only [bE,BEq.rfl,Nat.reduceAdd] at b3
  exact⟨.inr rfl,_,rfl,by rw[b3]; exact h2⟩
end
section
variable {P:Program} {N:Nums} {A:zdk}
structure JB (bB lo0 s0 lo:Nat) (v:Value) (l:List UInt8) (w:World):Prop where
 cell:w.cell? ⟨bB,0,none⟩=some v
 th:w.there bB 0 1
 own:OwnB w lo0 v l
 nb:zcl v bB
 bk:∀ k,¬ zcl v k→k < s0∨lo≤k
def JM (lo0 s0 lo:Nat):Nat→Nat→Prop:=fun k _=>(lo0≤k∧k < s0)∨lo≤k
theorem Own.one1 {w:World} {lo:Nat} {v:Value} {l:List UInt8} (ho:OwnB w lo v l):v.oneCell'=true:=by
 rcases ho with⟨e,_⟩ | ⟨b,c,e,_⟩<;>rw[e]<;>rfl
theorem JB.step {bB lo0 s0 lo:Nat} {v v1:Value} {l s:List UInt8} {w w1:World} (h:JB bB lo0 s0 lo v l w) (hb:lo0≤bB∧bB < s0) (hlo:s0≤lo∧lo≤w.heap.size) (ha:Apd w lo0 v l s v1 w1) :
  JB bB lo0 s0 lo v1 (l++s) (w1.setCell ⟨bB,0,none⟩ v1)∧Mod w (w1.setCell ⟨bB,0,none⟩ v1) (JM lo0 s0 lo):=by
 have hbw:bB < w.heap.size:=by omega
 have hb1:bB < w1.heap.size:=Nat.lt_of_lt_of_le hbw ha.mod.size
 have nb1:zcl v1 bB:=ha.keep _ hbw h.nb
 have th1:w1.there bB 0 1:=ha.mod.there hbw h.th
 have ms:Mod w1 (w1.setCell ⟨bB,0,none⟩ v1) (rng bB 0 1):=Mod.setCell fun _=>⟨rfl,Nat.le_refl _,by omega⟩
 have hc1:w1.cell? ⟨bB,0,none⟩=some v:=by rw[ha.mod.cell _ _ hbw (fun hn=>hn h.nb)]; exact h.cell
 have bk1:∀ k,¬ zcl v1 k→k < s0∨lo≤k:=fun k hk=>by
  by_cases hkw:k < w.heap.size
  ·exact h.bk k fun hn=>hk (ha.keep k hkw hn)
  ·right; omega
 refine⟨⟨World.cell?_setCell_same _ _ _ hc1,ms.there hb1 th1,Own.stay ms (fun k o hk hr=>hk (by rw[hr.1]; exact nb1)) ha.own,nb1,bk1⟩,?_⟩
 refine ha.mod.trans ms fun k o _ hh=>?_
 rcases hh with hh | hh
 ·have h1:=(h.own.blk hh).1
  rcases h.bk k hh with h2 | h2
  ·exact .inl ⟨h1,h2⟩
  ·exact .inr h2
 ·rw[hh.1]; exact .inl hb
def JI (bB lo0 s0:Nat) (d:List UInt8) (lo:Nat) (done:List (Nat × List UInt8)) (w:World):Prop:=∃ v,JB bB lo0 s0 lo v (d++done.flatMap tagW) w
theorem each_cb (B:Base P N) (hU:UvT P N A) (hF:FOk P A.zdm 3 (zeq N A) []) {bB lo0 s0 lo:Nat} {d:List UInt8} {G:Nat→Prop} {S:List (Nat × List UInt8)} (hb:lo0≤bB∧bB < s0) (hlo0:s0≤lo) (hG:∀ k,G k→k < lo0)
  (hS:∀ x∈S,x.1 < 4294967296∧x.2.length < 4294967296) (hbig:d.length+(S.flatMap tagW).length < 1099511627776) :
  CbOk P A.zdm (.pointer (some ⟨bB,0,none⟩)) lo G (fun k _=>lo0≤k∧k < s0) (JI bB lo0 s0 d) S:=by
 rintro j x w v hx ⟨vd,hJ⟩ hlo htv
 have hxS:=hS x (List.mem_of_getElem? hx)
 have hlen:(d++(S.take j).flatMap tagW).length+((uvB x.1).length+((uvB x.2.length).length+x.2.length)) < 1099511627776:=by
  have h1:S=S.take j++x :: S.drop (j+1):=by
   have hj:=(List.getElem?_eq_some_iff.1 hx)
   obtain⟨hj1,hj2⟩:=hj
   rw[← hj2,List.getElem_cons_drop,List.take_append_drop]
  have h2:(S.flatMap tagW).length=((S.take j).flatMap tagW).length+((tagW x).length+((S.drop (j+1)).flatMap tagW).length):=by
   conv=>lhs; rw[h1]
   rw[List.flatMap_append,List.flatMap_cons,List.length_append,List.length_append]
  have h3:(tagW x).length=(uvB x.1).length+((uvB x.2.length).length+x.2.length):=by simp [tagW]
  rw[List.length_append]; omega
 have htk:(S.take (j+1)).flatMap tagW=(S.take j).flatMap tagW++tagW x:=by
  rw[List.take_add_one,hx]; simp
 refine hF.call rfl fun loc N' hloc=>?_
 unfold zeq
 obtain⟨σ,hσ⟩:∃ σ,σ=zdf #[.int .u32 x.1,v,.pointer (some ⟨bB,0,none⟩)]:=⟨_,rfl⟩
 have f0:σ 0=.int .u32 x.1:=by rw[hσ]; rfl
 have f1:σ 1=v:=by rw[hσ]; rfl
 have f2:σ 2=.pointer (some ⟨bB,0,none⟩):=by rw[hσ]; rfl
 rw[← hσ]
 clear hσ
 refine zd fun K hK=>zi fun τ=>?_
 simp +decide only [bK,bE,Nat.reduceBeqDiff,Nat.reduceAdd,Nat.zero_add,f0,f2,B.Lu8.run_load1 rfl,hJ.cell]
 rw[zah hU.uv.has]
 simp +decide only [bK,bE,Nat.reduceBeqDiff,BEq.rfl,f2]
 refine(zyc B hU hxS.1 hJ.own (by omega) (by omega)).mono ?_
 intro v1 w1 a1
 obtain⟨J1,M1⟩:=hJ.step hb ⟨hlo0,hlo⟩ a1
 have st1:=B.Lu8.run_store1 (w:=w1) (b:=bB) (o:=0) (v:=v1) (Own.one1 a1.own) (a1.mod.there (by omega) hJ.th)
 simp +decide only [bK,st1]
 refine hK _ _ (zb fun σ1 hσ=>?_)
 have g1:=hσ 1
 have g2:=hσ 2
 simp +decide only [bE,Nat.reduceBeqDiff,Nat.reduceAdd,f1,f2] at g1 g2
 clear hσ hK K
 obtain⟨w2,hw2⟩:∃ w2,w2=w1.setCell ⟨bB,0,none⟩ v1:=⟨_,rfl⟩
 rw[← hw2] at J1 M1 ⊢
 have s2:=M1.size
 have hGM:∀ k,G k→∀ o,¬ JM lo0 s0 lo k o:=fun k hk o h=>by
  have:=hG k hk
  rcases h with h | h
  ·omega
  ·have:lo0≤lo:=by omega
   omega
 have hGw:∀ k,G k→k < w.heap.size:=fun k hk=>by have:=hG k hk; omega
 have htv2:tagV w2 G v x.2:=htv.imp (fun h=>⟨h.1,h.2⟩) fun h=>h.mod M1 fun k hk=>⟨hGw k hk,hGM k hk,hk⟩
 have hln:(Builtin.len_ #[N.za] N.ze #[v]).run P w2=.ok (.int .i64 (x.2.length:Int)) w2:=by
  have:=(tagV.octA htv2).argOct.run_len B (ty:=N.ze)
  exact this
 have hcv:IntKind.u32.wrap (x.2.length:Int)=x.2.length:=by
  have e:∀ m:Int,IntKind.u32.wrap m=m % 4294967296:=fun m=>by simp [IntKind.wrap,IntKind.signed,IntKind.bits]
  rw[e]; omega
 refine zd fun K hK=>zi fun τ=>?_
 simp +decide only [bK,bE,Nat.reduceBeqDiff,BEq.rfl,Nat.reduceAdd,g1,g2,B.Lu8.run_load1 rfl,J1.cell,hln,zat B.int B.uint32 ⟨_,rfl⟩,hcv]
 rw[zah hU.uv.has]
 simp +decide only [bK,bE,Nat.reduceBeqDiff,BEq.rfl,g2]
 refine(zyc B hU hxS.2 J1.own (by omega) (by rw[List.length_append]; omega)).mono ?_
 intro v3 w3 a3
 obtain⟨J3,M3⟩:=J1.step hb ⟨hlo0,by omega⟩ a3
 have st3:=B.Lu8.run_store1 (w:=w3) (b:=bB) (o:=0) (v:=v3) (Own.one1 a3.own) (a3.mod.there (by omega) J1.th)
 simp +decide only [bK,st3]
 refine hK _ _ (zb fun σ3 hσ=>?_)
 have k1:=hσ 1
 have k2:=hσ 2
 simp +decide only [bE,Nat.reduceBeqDiff,Nat.reduceAdd,g1,g2] at k1 k2
 clear hσ hK K
 obtain⟨w4,hw4⟩:∃ w4,w4=w3.setCell ⟨bB,0,none⟩ v3:=⟨_,rfl⟩
 rw[← hw4] at J3 M3 ⊢
 have s4:=M3.size
 have htv4:tagV w4 G v x.2:=htv2.imp (fun h=>⟨h.1,h.2⟩) fun h=>h.mod M3 fun k hk=>⟨by have:=hGw k hk; omega,hGM k hk,hk⟩
 obtain⟨v5,w5,h5,o5,m5,kp5⟩:=zdq (ty:=N.za) B J3.own (tagV.octA htv4) (by omega) (by rw[List.length_append,List.length_append]; omega)
 have a5:Apd w4 lo0 v3 _ x.2 v5 w5:=⟨o5,m5,kp5⟩
 obtain⟨J5,M5⟩:=J3.step hb ⟨hlo0,by omega⟩ a5
 have st5:=B.Lu8.run_store1 (w:=w5) (b:=bB) (o:=0) (v:=v5) (Own.one1 a5.own) (a5.mod.there (by omega) J3.th)
 refine zi fun τ=>?_
 simp +decide only [bK,bE,Nat.reduceBeqDiff,BEq.rfl,Nat.reduceAdd,k1,k2,B.Lu8.run_load1 rfl,J3.cell,h5,st5]
 refine zb fun σ5 hσ=>⟨.inl rfl,.tuple #[],rfl,⟨v5,?_⟩,?_⟩
 ·rw[htk]
  have e:d++((S.take j).flatMap tagW++tagW x)=d++(S.take j).flatMap tagW++uvB x.1++uvB x.2.length++x.2:=by simp [tagW,List.append_assoc]
  rw[e]; exact J5
 ·exact(M1.trans (M3.trans M5 fun _ _ _ h=>h.elim id id) fun _ _ _ h=>h.elim id id).mono fun k o _ h=>h
structure EachN (P:Program) (N:Nums):Prop where
 each:N.zhn≠0
 tags:N.zcy≠0
 lu:LU P N
 so:SortOk P N
theorem ap_Each (B:Base P N) (F:Fns P N) (hN:EachN P N) (hU:UvT P N A) (hF1:FOk P A.zdm 3 (zeq N A) []) (hF:FOk P A.zey 2 (zgg N A) [.var 3])
  {w:World} {b o lo0:Nat} {v d:Value} {G:Nat→Prop} {u:List (Nat × List UInt8)} {l:List UInt8} (hc:w.cell? ⟨b,o,none⟩=some v) (hb:b < lo0) (hG:∀ k,G k→k < lo0) (ht:zpx w G v u) (hul:u.length < 1099511627776) (hx:∀ x∈u,x.2.length < 4294967296)
  (ho:OwnB w lo0 d l) (hlo:lo0≤w.heap.size) (hbig:l.length+((zdz u).flatMap tagW).length < 1099511627776) :
  Call P A.zey #[.pointer (some ⟨b,o,none⟩),d] w fun v' w'=>OwnB w' lo0 v' (l++(zdz u).flatMap tagW)∧Mod w w' (fun k _=>lo0≤k):=by
 refine hF.call rfl fun loc N' hloc=>?_
 unfold zgg
 have hone:d.oneCell'=true:=Own.one1 ho
 obtain⟨w1,hw1⟩:∃ w1,w1=w.alloc (.cells d.cells N.za):=⟨_,rfl⟩
 have m1:Mod w w1 zy:=by rw[hw1]; exact Mod.alloc _ _ _
 have s1:w1.heap.size=w.heap.size+1:=by rw[hw1]; exact zav _ _
 have r1:w1.rangeAt w.heap.size 0 [d]:=by
  rw[hw1,zds hone]; exact zr w [d].toArray N.za (0,0)
 have t1:w1.there w.heap.size 0 1:=by
  rw[hw1,zds hone]; exact zbq w [d].toArray N.za
 refine zd fun K hK=>zi fun τ=>?_
 simp +decide only [bK,bE,Nat.reduceAdd]
 rw[← hw1]
 refine hK _ _ (zb fun σ1 hσ=>?_)
 have a0:=hσ 0
 have a2:=hσ 2
 simp +decide only [bE,Nat.reduceBeqDiff,BEq.rfl,Nat.reduceAdd,Nat.zero_add,zcx] at a0 a2
 clear hσ hK K
 obtain⟨bB,hbB⟩:∃ b,b=w.heap.size:=⟨_,rfl⟩
 rw[← hbB] at r1 t1 s1 a2 hlo
 have hcw:b < w.heap.size:=zde (by rw[hc]; rfl)
 have hc1:w1.cell? ⟨b,o,none⟩=some v:=by rw[m1.cell _ _ hcw (fun h=>h)]; exact hc
 have hGw:∀ k,G k→k < w.heap.size:=fun k hk=>by have:=hG k hk; omega
 have ht1:zpx w1 G v u:=ht.mod m1 fun k hk=>⟨hGw k hk,fun _ h=>h,hk⟩
 have hkey:∀ x∈u,x.1 < 4294967296:=by
  rcases ht with⟨_,h⟩ | ⟨_,_,_,_,_,_,_,_,_,_,h⟩
  ·rw[h]; intro x hx; cases hx
  ·exact h
 have hmem:∀ x∈zdz u,x∈u:=fun x h=>(zjw u).mem_iff.1 h
 have hEach:=call_Each B F hN.each hN.tags hN.lu hN.so (f:=A.zdm) (cap:=.pointer (some ⟨bB,0,none⟩)) hc1 (fun k hk=>by have:=hGw k hk; omega) ht1 hF1.has hul (JI bB lo0 (bB+1) l) (fun k _=>lo0≤k∧k < bB+1) (fun k o h=>by omega) (fun h=>by omega) (fun k hk o h=>by have:=hG k hk; omega)
  (fun w' m=>⟨d,by rw[m.cell _ _ (by omega) (fun h=>h)]; exact r1 0 _ rfl,m.there (by omega) t1,by
   rw[List.flatMap_nil,List.append_nil]
   exact Own.stay (m1.trans' m) (fun _ _ _ h=>h) ho,by
   by_cases hn:zcl d bB
   ·exact hn
   ·have:=(ho.blk hn).2; omega,fun k hk=>.inl (by have:=(ho.blk hk).2; omega)⟩)
  (fun lo hlo2=>each_cb B hU hF1 (by omega) (by omega) hG (fun x h=>⟨hkey x (hmem x h),hx x (hmem x h)⟩) hbig)
 refine zd fun K hK=>zi fun τ=>?_
 have e5:∀ ρ:Env,ρ 102=.pointer (some ⟨bB,0,none⟩)→(#[V 2]:Array Operand).map (ev ρ)=#[.pointer (some ⟨bB,0,none⟩)]:=fun ρ h=>by simp [h]
 have e4:∀ ρ:Env,(#[]:Array Operand).map (ev ρ)=#[]:=fun ρ=>by simp
 simp +decide only [bK,bE,Nat.zero_add,a0,zmg,zre]
 rw[zah (F.PTags_Each hN.each).1.has]
 simp +decide only [bK,bE,Nat.reduceBeqDiff,BEq.rfl,e4]
 rw[e5 _ (by simp +decide only [bE,Nat.reduceBeqDiff,a2])]
 refine Call.mono (Rt':=_) hEach ?_
 rintro _ w5 ⟨lo,hlo1,hlo2,⟨v5,J5⟩,m5⟩
 refine zb (K:=fun σ' w'=>zfd K _ .normal σ' w') fun σ5 hσ=>hK _ _ ?_
 have u2:=hσ 2
 simp +decide only [bE,Nat.reduceBeqDiff,Nat.reduceAdd,a2] at u2
 clear hσ hK K hEach
 refine zd fun K hK=>zi fun τ=>?_
 simp +decide only [bK,bE,BEq.rfl,Nat.reduceAdd,u2,B.Lu8.run_load1 rfl,J5.cell]
 refine hK _ _ (zb fun σ6 hσ=>zbb ?_)
 have b3:=hσ 3
 simp +decide only [bE,BEq.rfl,Nat.reduceAdd] at b3
 exact⟨.inr rfl,_,rfl,by rw[b3]; exact J5.own,m1.trans m5 fun k _ hk h=>h.elim False.elim fun h=>h.1⟩
end
theorem zcf.size {w:World} {G:Nat→Prop}:∀ {l:List (Nat × List UInt8)} {es:List MapEntry},zcf w G l es→es.length=l.length
 | [],es,h=>by simp only [zcf] at h; subst h; rfl
 | (k,x) :: l,es,⟨v,b,rest,h1,h2,h3⟩=>by subst h1; simp [zcf.size h3]
section
variable {P:Program} {N:Nums} {A:zdk}
theorem zaah (B:Base P N) (hT:N.zcy≠0) (hF:FOk P A.zkl 1 (zmp N A) [.var 1]) {w:World} {b o:Nat} {v:Value} {G:Nat→Prop} {u:List (Nat × List UInt8)} (hc:w.cell? ⟨b,o,none⟩=some v) (ht:zpx w G v u) :
  Call P A.zkl #[.pointer (some ⟨b,o,none⟩)] w fun r w'=>r=.int .i64 u.length∧w=w':=by
 obtain⟨_,hHF,hmt⟩:=B.tags hT
 refine hF.call rfl fun loc N' hloc=>?_
 unfold zmp
 refine zd fun K hK=>zi fun τ=>?_
 simp +decide only [bK,Nat.reduceAdd]
 refine hK _ _ (zb fun σ1 hσ=>?_)
 have a0:=hσ 0
 simp +decide only [bE,Nat.reduceBeqDiff,Nat.zero_add,zbh] at a0
 clear hσ hK K
 have hln:(Builtin.len_ #[N.zab] N.ze #[v]).run P w=.ok (.int .i64 (u.length:Int)) w:=by
  rcases ht with⟨rfl,hl⟩ | ⟨mr,es,ck,rfl,hGm,hmap,hborn,hbnd,hent,hknd,hkb⟩
  ·rw[hl]; exact ztt hmt.und
  ·have:=zrf (P:=P) hmt.und (ty:=N.ze) hmap
   rw[this]
   have e:=hent.size
   rw[Array.length_toList] at e
   rw[e]
 refine zd fun K hK=>zi fun τ=>?_
 simp +decide only [bK,bE,BEq.rfl,Nat.reduceAdd,Nat.zero_add,a0]
 rw[zw rfl]
 simp +decide only [bK,bE,BEq.rfl,Nat.add_zero,hHF.run,Nat.add_zero,hmt.run_load1 rfl,hc,hln]
 refine hK _ _ (zb fun σ2 hσ=>zbb ?_)
 have b1:=hσ 1
 simp +decide only [bE,BEq.rfl,Nat.reduceAdd] at b1
 exact⟨.inr rfl,_,rfl,by rw[b1],rfl⟩
end
section
variable (N:Nums) (A:zdk)
def PK.af:PK→FuncId
 | .bool=>A.zjm | .i8=>A.zjl | .i16=>A.zce | .u16=>A.zed | .i32=>A.zas | .i64=>A.zgu | .uuid=>A.zjj | .en _=>0
def Txt.af (fl:Bool):Txt→FuncId
 | .str=>if fl then A.zcs else A.zet
 | .nstr=>if fl then A.zcw else A.zbn
 | .byt=>if fl then A.zep else A.zic
 | .nbyt=>if fl then A.zgf else A.zjk
def PK.ldq (k:PK) (i q:Nat):List ROp:=match k with
 | .uuid=>[⟨some (q+100),.alloc N.zaq,0,none,[]⟩,⟨none,.store N.zaq (V q) (T i),0,none,[]⟩]
 | _=>[⟨some (q+100),.assign (T i),0,none,[]⟩]
def zvm (vv:Nat) (Tt:TypeId) (idx:Nat) (t:TypeId):List ROp:=[⟨some 0,.move (V vv),0,none,[]⟩,⟨some 1,.nilCheck (T 0),0,none,[]⟩,⟨some 2,.fieldAddr Tt (T 1) idx,0,none,[]⟩,⟨some 3,.load t (T 2),0,none,[]⟩]
def zabx (st:TypeId) (t:TypeId) (q:Nat):List ROp:=[⟨some 0,.move (V q),0,none,[]⟩,⟨some 1,.move (V (q+5)),0,none,[]⟩,⟨some 2,.indexAddr st (T 0) (T 1),0,none,[]⟩,⟨some 3,.load t (T 2),0,none,[]⟩]
def cAp (f t q:Nat) (src:Op):C:=.ops [⟨some 0,.move (V 1),0,none,[]⟩,⟨some 1,src,0,none,[]⟩,⟨some 2,.call ⟨.value (.func f),#[T 0,T 1],#[N.za,t]⟩,N.za,none,[]⟩,⟨some 101,.assign (T 2),0,none,[]⟩]
def PK.ap (k:PK) (q:Nat):C:=cAp N (k.af A) (k.t N) q (k.src N q)
def Txt.ap (t:Txt) (q:Nat):C:=.seq (.ops [⟨some (q+1+100),.move (V 4),0,none,[]⟩]) (.cond (q+1) (cAp N (t.af A true) (t.t N) q (.move (V q))) (cAp N (t.af A false) (t.t N) q (.move (V q))))
def Txt.apJ (t:Txt) (q j:Nat):C:=.seq (.ops [⟨some (j+100),.move (V 4),0,none,[]⟩]) (.cond j (cAp N (t.af A true) (t.t N) q (.move (V q))) (cAp N (t.af A false) (t.t N) q (.move (V q))))
def cAtv (vv:Nat) (Tt:TypeId) (idx:Nat) (k:Int) (q:Nat):C:=.seq (.ops (zvm vv Tt idx N.zbc++[⟨some (q+100),.assign (T 3),0,none,[]⟩]))
 (.seq (.ops [⟨some 0,.move (V 3),0,none,[]⟩,⟨some (q+1+100),.binOp .lss N.zbf (T 0) (.const (.int .i16 k)) N.zbf,0,none,[]⟩]) (.cond (q+1)
  (.seq (.ops [⟨some (q+2+100),.assign (.const (.string ⟨#[]⟩)),0,none,[]⟩])
   (.seq (.seq (.ops [⟨some 0,.move (V q),0,none,[]⟩,⟨some (q+3+100),.binOp .neq N.zbc (T 0) (.const (.pointer none)) N.zbc,0,none,[]⟩])
     (.cond (q+3) (.ops [⟨some 0,.move (V q),0,none,[]⟩,⟨some 1,.nilCheck (T 0),0,none,[]⟩,⟨some 2,.load N.zac (T 1),0,none,[]⟩,⟨some (q+2+100),.assign (T 2),0,none,[]⟩]) .skip))
    (.seq (.ops [⟨some 0,.move (V (q+2)),0,none,[]⟩,⟨some (q+4+100),.assign (T 0),0,none,[]⟩]) (Txt.str.apJ N A (q+4) (q+5)))))
  (Txt.nstr.apJ N A q (q+6))))
def cAp1 (x:Int):C:=.ops [⟨some 0,.move (V 1),0,none,[]⟩,⟨some 1,.buildSlice N.za 1 #[(0,.const (.int .u8 x))],0,none,[]⟩,⟨some 2,.call ⟨.builtin .append,#[T 0,T 1],#[N.za,N.za]⟩,N.za,none,[]⟩,⟨some 101,.assign (T 2),0,none,[]⟩]
def cAptr (vv:Nat) (Tt:TypeId) (idx:Nat) (pT:TypeId) (q:Nat) (fs:List C):C:=.seq (.ops (zvm vv Tt idx pT++[⟨some (q+100),.assign (T 3),0,none,[]⟩]))
 (.seq (.ops [⟨some 0,.move (V q),0,none,[]⟩,⟨some (q+1+100),.binOp .eql pT (T 0) (.const (.pointer none)) pT,0,none,[]⟩]) (.cond (q+1) (cAp1 N 255) (seqs (cAp1 N 1 :: fs))))
def cAl (nul:Option Int) (fl:Bool) (st q:Nat):C:=match nul with
 | none=>.ops [⟨some 0,.move (V 1),0,none,[]⟩,⟨some 1,.move (V q),0,none,[]⟩,⟨some 2,.call ⟨.builtin .len,#[T 1],#[st]⟩,N.ze,none,[]⟩,⟨some 3,.call ⟨.value (.func (if fl then A.zbp else A.zdj)),#[T 0,T 2],#[N.za,N.ze]⟩,N.za,none,[]⟩,⟨some 101,.assign (T 3),0,none,[]⟩]
 | some _=>.ops [⟨some 0,.move (V 1),0,none,[]⟩,⟨some 1,.move (V q),0,none,[]⟩,⟨some 2,.call ⟨.builtin .len,#[T 1],#[st]⟩,N.ze,none,[]⟩,⟨some 3,.move (V q),0,none,[]⟩,⟨some 4,.binOp .eql st (T 3) (.const (.slice none 0 0)) st,0,none,[]⟩,
   ⟨some 5,.call ⟨.value (.func (if fl then A.zau else A.zbl)),#[T 0,T 2,T 4],#[N.za,N.ze,N.zay]⟩,N.za,none,[]⟩,⟨some 101,.assign (T 5),0,none,[]⟩]
def cGdA (g:Gd) (n:Nat) (c:Nat→C):C:=
 match g with
 | .all=>c n
 | .never=>.skip
 | .ge m=>.seq (.ops [⟨some 0,.move (V 3),0,none,[]⟩,⟨some (n+100),.binOp .geq N.zbf (T 0) (.const (.int .i16 m)) N.zbf,0,none,[]⟩]) (.cond n (c (n+1)) .skip)
 | .btw a b=>.seq (.ops [⟨some 0,.move (V 3),0,none,[]⟩,⟨some 1,.binOp .geq N.zbf (T 0) (.const (.int .i16 a)) N.zbf,0,none,[]⟩,⟨some 2,.move (T 1),0,none,[]⟩,⟨some 3,.move (V 3),0,some (some 2,true),[]⟩,
   ⟨some 4,.binOp .leq N.zbf (T 3) (.const (.int .i16 b)) N.zbf,0,some (some 2,true),[]⟩,⟨some (n+100),.pick (T 2) (T 4) (.const (.bool false)),0,none,[]⟩]) (.cond n (c (n+1)) .skip)
def cAtags (vv:Nat) (Tt:TypeId) (idx q:Nat):C:=
 .seq (.ops [⟨some (q+100),.move (V 4),0,none,[]⟩]) (.cond q (.seq
  (.ops [⟨some 0,.move (V 1),0,none,[]⟩,⟨some 1,.move (V vv),0,none,[]⟩,⟨some 2,.nilCheck (T 1),0,none,[]⟩,⟨some 3,.fieldAddr Tt (T 2) idx,0,none,[]⟩,⟨some 4,.call ⟨.value (.func A.zkl),#[T 3],#[N.zcy]⟩,N.ze,none,[]⟩,
   ⟨some 5,.convert N.ze N.zc (T 4),0,none,[]⟩,⟨some 6,.binOp .add N.zc (.const (.int .u32 0)) (T 5) N.zc,0,none,[]⟩,⟨some 7,.call ⟨.value (.func A.zdg),#[T 0,T 6],#[N.za,N.zc]⟩,N.za,none,[]⟩,⟨some 101,.assign (T 7),0,none,[]⟩])
  (.ops [⟨some 0,.move (V vv),0,none,[]⟩,⟨some 1,.nilCheck (T 0),0,none,[]⟩,⟨some 2,.fieldAddr Tt (T 1) idx,0,none,[]⟩,⟨some 3,.move (V 1),0,none,[]⟩,⟨some 4,.call ⟨.value (.func A.zey),#[T 2,T 3],#[N.zcy,N.za]⟩,N.za,none,[]⟩,⟨some 101,.assign (T 4),0,none,[]⟩])) .skip)
mutual
def Ty.avn:Ty→Nat
 | .pr ..=>1
 | .txt _=>2
 | .arr _ _ e=>6+e.avn
 | .row _ _ _ fs=>1+fs.avn
 | .tv _=>7
 | .ptr _ _ _ fs=>2+fs.avn
def El.avn:El→Nat
 | .pr _=>1
 | .txt _=>2
 | .row _ _ _ fs=>1+fs.avn
def Fds.avn:Fds→Nat
 | .nil=>0
 | .tags _=>1
 | .cons g ty r=>g.vn+ty.avn+r.avn
end
mutual
def Ty.agen (vv:Nat) (Tt:TypeId) (idx:Nat):Ty→Nat→Nat→C
 | .pr p _,q,_=>.seq (.ops (zvm vv Tt idx (p.t N)++p.ldq N 3 q)) (p.ap N A q)
 | .txt t,q,_=>.seq (.ops (zvm vv Tt idx (t.t N)++[⟨some (q+100),.assign (T 3),0,none,[]⟩])) (t.ap N A q)
 | .arr st nul e,q,k=>.seq (.ops (zvm vv Tt idx st++[⟨some (q+100),.assign (T 3),0,none,[]⟩])) (
  .seq (.seq (.ops [⟨some (q+1+100),.move (V 4),0,none,[]⟩]) (.cond (q+1) (cAl N A nul true st q) (cAl N A nul false st q))) (
  .seq (.ops [⟨some 0,.move (V q),0,none,[]⟩,⟨some (q+2+100),.call ⟨.builtin .len,#[T 0],#[st]⟩,N.ze,none,[]⟩,⟨some (q+3+100),.move (.const (.int .i64 0)),0,none,[]⟩])
   (zqs N (q+3) (q+2) (q+4) k (.seq (.ops [⟨some 0,.move (V (q+3)),0,none,[]⟩,⟨some (q+5+100),.assign (T 0),0,none,[]⟩]) (e.agen st q k)))))
 | .row ..,_,_=>.skip
 | .tv k,q,_=>cAtv N A vv Tt idx k q
 | .ptr T' pT _ fs,q,k=>cAptr N vv Tt idx pT q (fs.agen q T' 0 (q+2) k)
def El.agen (st:TypeId):El→Nat→Nat→C
 | .pr p,q,_=>.seq (.ops (zabx st (p.t N) q++p.ldq N 3 (q+6))) (p.ap N A (q+6))
 | .txt t,q,_=>.seq (.ops (zabx st (t.t N) q++[⟨some (q+6+100),.assign (T 3),0,none,[]⟩])) (t.ap N A (q+6))
 | .row T' _ _ fs,q,k=>.seq (.ops [⟨some 0,.move (V q),0,none,[]⟩,⟨some 1,.move (V (q+5)),0,none,[]⟩,⟨some 2,.indexAddr st (T 0) (T 1),0,none,[]⟩,⟨some (q+6+100),.assign (T 2),0,none,[]⟩]) (seqs (fs.agen (q+6) T' 0 (q+7) (k+2)))
def Fds.agen (vv:Nat) (Tt:TypeId):Fds→Nat→Nat→Nat→List C
 | .nil,_,_,_=>[]
 | .tags _,idx,q,_=>[cAtags N A vv Tt idx q]
 | .cons g ty r,idx,q,k=>cGdA N g q (fun q=>ty.agen vv Tt idx q k) :: r.agen vv Tt (idx+1) (q+g.vn+ty.avn) (k+ty.bn)
end
def Msg.appC (m:Msg):C:=seqs ([.ops [⟨some 102,.assign (.const (.slice none 0 0)),0,none,[]⟩],
 .ops [⟨some 0,.move (V 0),0,none,[]⟩,⟨some 1,.nilCheck (T 0),0,none,[]⟩,⟨some 2,.fieldAddr m.tT (T 1) 0,0,none,[]⟩,⟨some 3,.load N.zbf (T 2),0,none,[]⟩,⟨some 103,.assign (T 3),0,none,[]⟩],
 .ops [⟨some 0,.move (V 3),0,none,[]⟩],
 .ops [⟨some 0,.move (V 3),0,none,[]⟩,⟨some 1,.binOp .geq N.zbf (T 0) (.const (.int .i16 m.fl)) N.zbf,0,none,[]⟩,⟨some 104,.assign (T 1),0,none,[]⟩],
 .ops [⟨some 0,.move (V 4),0,none,[]⟩]]++m.fs.agen N A 0 m.tT 1 5 0++[.ops [⟨some 0,.move (V 1),0,none,[]⟩,⟨some 102,.assign (T 0),0,none,[]⟩],.ret])
end
section
variable {P:Program} {N:Nums} {A:zdk}
structure AS (w0:World) (lo:Nat) (ver:Int) (fl:Bool) (d:Value) (l:List UInt8) (σ:Env) (w:World):Prop where
 f1:σ 1=d
 f3:σ 3=.int .i16 ver
 f4:σ 4=.bool fl
 own:OwnB w lo d l
 mod:Mod w0 w (fun k _=>lo≤k)
theorem AS.step {w0 w w':World} {lo:Nat} {ver:Int} {fl:Bool} {d d':Value} {l s:List UInt8} {σ σ':Env} (h:AS w0 lo ver fl d l σ w) (ha:Apd w lo d l s d' w') (h1:σ' 1=d') (h3:σ' 3=σ 3) (h4:σ' 4=σ 4):AS w0 lo ver fl d' (l++s) σ' w':=
 ⟨h1,h3.trans h.f3,h4.trans h.f4,ha.own,h.mod.trans (Apd.low h.own ha) fun _ _ _ h=>h.elim id id⟩
theorem AS.env {w0 w:World} {lo:Nat} {ver:Int} {fl:Bool} {d:Value} {l:List UInt8} {σ σ':Env} (h:AS w0 lo ver fl d l σ w) (h1:σ' 1=σ 1) (h3:σ' 3=σ 3) (h4:σ' 4=σ 4):AS w0 lo ver fl d l σ' w:=
 ⟨h1.trans h.f1,h3.trans h.f3,h4.trans h.f4,h.own,h.mod⟩
theorem AS.fresh {w0 w w':World} {lo:Nat} {ver:Int} {fl:Bool} {d:Value} {l:List UInt8} {σ:Env} (h:AS w0 lo ver fl d l σ w) (m:Mod w w' zy):AS w0 lo ver fl d l σ w':=
 ⟨h.f1,h.f3,h.f4,Own.stay m (fun _ _ _ h=>h) h.own,h.mod.trans m fun _ _ _ h=>h.elim id False.elim⟩
theorem W_cAp {f t q:Nat} {x:Value} {s:List UInt8} {loc:List Nat} {N':Nat} {Q:Exit→Env→World→Prop} {w0 w:World} {lo:Nat} {ver:Int} {fl:Bool} {d:Value} {l:List UInt8} {σ:Env} (hf:zcp P f) (h:AS w0 lo ver fl d l σ w) (hq:σ q=x)
  (hc:Call P f #[d,x] w (Apd w lo d l s)) (hQ:∀ σ' w' d',AS w0 lo ver fl d' (l++s) σ' w'→(∀ i,i≠1→σ' i=σ i)→Q .normal σ' w'):W P loc N' (cAp N f t q (.move (V q))) Q σ w:=by
 unfold cAp
 subst hq
 refine zi fun τ=>?_
 simp +decide (disch:=omega) only [bK,bE,Nat.reduceBeqDiff,Nat.reduceAdd,h.f1]
 rw[zah hf]
 simp +decide (disch:=omega) only [bK,bE,Nat.reduceBeqDiff,BEq.rfl]
 refine hc.mono ?_
 intro d' w' ha
 have fr:∀ (σ':Env),(∀ i,σ' i=if i=1 then d' else σ i)→Q .normal σ' w':=fun σ' hσ=>
  hQ σ' w' d' (h.step ha (by rw[hσ]; rfl) (by rw[hσ]; rfl) (by rw[hσ]; rfl)) fun i hi=>by rw[hσ,if_neg hi]
 refine zb (K:=fun σ' w'=>Q .normal σ' w') fun σ' hσ=>fr σ' fun i=>?_
 rw[hσ i]
 by_cases hi:i=1
 ·subst hi; rfl
 ·have e1:(i+100 == 101)=false:=beq_eq_false_iff_ne.2 (by omega)
  rw[if_neg hi]
  simp +decide only [bE,Nat.reduceBeqDiff,e1]
theorem zvr {vv idx off q b oo sz by':Nat} {Tt t:TypeId} {dt:TypeDesc} {z:Value} {cs:List Value} {loc:List Nat} {N':Nat} {Q:Exit→Env→World→Prop} {σ:Env} {w:World} (hT:HF P Tt idx off) (ht:TI P t dt sz by' z)
  (hv:σ vv=.pointer (some ⟨b,oo,none⟩)) (hr:w.rangeAt b (oo+off) cs) (hl:cs.length=sz) (h1:zqn dt=false→sz=1) (hQ:∀ σ',(∀ i,i≠q→σ' i=σ i)→σ' q=ldv dt cs→Q .normal σ' w) :
  W P loc N' (.ops (zvm vv Tt idx t++[⟨some (q+100),.assign (T 3),0,none,[]⟩])) Q σ w:=by
 have hld:=ht.run_load (w:=w) hr hl h1
 unfold zvm
 simp only [List.cons_append,List.nil_append]
 refine zi fun τ=>?_
 simp +decide (disch:=omega) only [bK,bE,BEq.rfl,hv]
 rw[zw rfl]
 simp +decide (disch:=omega) only [bK,bE,BEq.rfl,hT.run,hld]
 refine zb (K:=fun σ' w'=>Q .normal σ' w') fun σ' hσ=>hQ σ' (fun i hi=>?_) ?_
 ·rw[hσ i]
  have e1:(i+100 == q+100)=false:=beq_eq_false_iff_ne.2 (by omega)
  simp +decide (disch:=omega) only [bE,Nat.reduceBeqDiff,e1]
 ·rw[hσ q]
  simp +decide (disch:=omega) only [bE,BEq.rfl]
theorem zacr {q b n c j sz by' a1 a2:Nat} {st t:TypeId} {dt:TypeDesc} {z z2:Value} {cs:List Value} {loc:List Nat} {N':Nat} {Q:Exit→Env→World→Prop} {σ:Env} {w:World} (hS:TI P st (.slice t) a1 a2 z2) (ht:TI P t dt sz by' z)
  (hv:σ q=.slice (some ⟨b,0,none⟩) n c) (hi:σ (q+5)=.int .i64 j) (hj:j < n) (hr:w.rangeAt b (j * sz) cs) (hl:cs.length=sz) (h1:zqn dt=false→sz=1) (hQ:∀ σ',(∀ i,i≠q+6→σ' i=σ i)→σ' (q+6)=ldv dt cs→Q .normal σ' w) :
  W P loc N' (.ops (zabx st t q++[⟨some (q+6+100),.assign (T 3),0,none,[]⟩])) Q σ w:=by
 have hld:=ht.run_load (w:=w) hr hl h1
 have hix:=zcb (w:=w) hS ht (bl:=b) (o:=0) (n:=n) (c:=c) (i:=j) (k:=.i64) hj
 rw[Nat.zero_add] at hix
 unfold zabx
 simp only [List.cons_append,List.nil_append]
 refine zi fun τ=>?_
 simp +decide (disch:=omega) only [bK,bE,Nat.reduceBeqDiff,BEq.rfl,hv,hi,hix,hld]
 refine zb (K:=fun σ' w'=>Q .normal σ' w') fun σ' hσ=>hQ σ' (fun i hi=>?_) ?_
 ·rw[hσ i]
  have e1:(i+100 == q+6+100)=false:=beq_eq_false_iff_ne.2 (by omega)
  simp +decide (disch:=omega) only [bE,Nat.reduceBeqDiff,e1]
 ·rw[hσ (q+6)]
  simp +decide (disch:=omega) only [bE,BEq.rfl]
end
section
variable {P:Program} {N:Nums} {A:zdk}
theorem box_newG {t:TypeId} {dt:TypeDesc} {sz by':Nat} {z cs:List Value} (h:TI P t dt sz by' (.agg z.toArray)) (hz:∀ c∈z,c.oneCell'=true) (hzl:z.length=sz) (hl:cs.length=sz) (h1:∀ c∈cs,c.oneCell'=true) (w:World) :
  ∃ w1 w2,(∀ old:Value,(Instr.alloc t true old).run P w=.ok (.pointer (some ⟨w.heap.size,0,none⟩)) w1)∧(Instr.storeAt t (.pointer (some ⟨w.heap.size,0,none⟩)) (.agg cs.toArray)).run P w1=.ok () w2 ∧
   Mod w w1 zy∧Mod w w2 zy∧w2.heap.size=w.heap.size+1∧w2.rangeAt w.heap.size 0 cs∧w2.there w.heap.size 0 sz:=by
 have hc:Value.cells (.agg z.toArray)=z.toArray:=by
  simp [Value.cells]
 obtain⟨w1,hw1⟩:∃ w1,w1=w.alloc (.cells (Value.cells (.agg z.toArray)) t):=⟨_,rfl⟩
 have m1:Mod w w1 zy:=by rw[hw1]; exact Mod.alloc _ _ _
 have r1:w1.rangeAt w.heap.size 0 z:=by rw[hw1]; exact zr w z.toArray _ _
 have t1:w1.there w.heap.size 0 sz:=by rw[hw1,← hzl]; exact zbq w z.toArray t
 have s1:w1.heap.size=w.heap.size+1:=by rw[hw1]; exact zav _ _
 have hst:=h.run_store (w:=w1) (b:=w.heap.size) (o:=0) (v:=.agg cs.toArray) (cs:=cs) rfl hl t1 h1
 have ms:Mod w1 (w1.setCells w.heap.size 0 cs) (blk w.heap.size):=Mod.setCells _ _ _ fun _ _ _ _=>rfl
 refine⟨w1,_,fun old=>by rw[hw1]; exact h.run_alloc old,hst,m1,m1.fresh ms fun k o h=>by have:k=w.heap.size:=h; omega,by rw[zfq]; exact s1,?_,ms.there (by omega) t1⟩
 have:=zax cs 0 w1 _ r1 (by omega)
 rwa [List.drop_of_length_le (by omega),List.append_nil] at this
theorem boxU (B:Base P N) (hU:N.zaq≠0) {s:List UInt8} (hs:s.length=16) (w:World) :
  ∃ w1 w2,(∀ old:Value,(Instr.alloc N.zaq true old).run P w=.ok (.pointer (some ⟨w.heap.size,0,none⟩)) w1)∧(Instr.storeAt N.zaq (.pointer (some ⟨w.heap.size,0,none⟩)) (.agg (s.map zz).toArray)).run P w1=.ok () w2∧Mod w w2 zy∧w2.rangeAt w.heap.size 0 (s.map zz):=by
 have hT:TI P N.zaq (.array 16 N.zh) 16 16 (.agg (List.replicate 16 (.int .u8 0)).toArray):=by
  have:=B.uuid hU
  rwa [show (Array.replicate 16 (Value.int .u8 0))=(List.replicate 16 (Value.int .u8 0)).toArray from rfl] at this
 obtain⟨w1,w2,h1,h2,_,h4,_,h6,_⟩:=box_newG (cs:=s.map zz) hT (fun c hc=>by rw[List.eq_of_mem_replicate hc]; rfl) (by simp) (by simp [hs]) (zot s) w
 exact⟨w1,w2,h1,h2,h4,h6⟩
theorem W_ldFU (B:Base P N) (hU:N.zaq≠0) {vv idx off q b oo:Nat} {Tt:TypeId} {s:List UInt8} {loc:List Nat} {N':Nat} {Q:Exit→Env→World→Prop} {σ:Env} {w:World} (hT:HF P Tt idx off) (hs:s.length=16)
  (hv:σ vv=.pointer (some ⟨b,oo,none⟩)) (hr:w.rangeAt b (oo+off) (s.map zz)) (hQ:∀ σ' w' bq,Mod w w' zy→(∀ i,i≠q→σ' i=σ i)→σ' q=.pointer (some ⟨bq,0,none⟩)→w'.rangeAt bq 0 (s.map zz)→Q .normal σ' w') :
  W P loc N' (.ops (zvm vv Tt idx N.zaq++[⟨some (q+100),.alloc N.zaq,0,none,[]⟩,⟨none,.store N.zaq (V q) (T 3),0,none,[]⟩])) Q σ w:=by
 have hld:=(B.uuid hU).run_load (w:=w) hr (by simp [hs]) (fun h=>by cases h)
 have hlv:ldv (.array 16 N.zh) (s.map zz)=.agg (s.map zz).toArray:=rfl
 rw[hlv] at hld
 obtain⟨w1,w2,hal,hst,m2,r2⟩:=boxU B hU hs w
 unfold zvm
 simp only [List.cons_append,List.nil_append]
 refine zi fun τ=>?_
 simp +decide (disch:=omega) only [bK,bE,Nat.reduceBeqDiff,BEq.rfl,hv]
 rw[zw rfl]
 simp +decide (disch:=omega) only [bK,bE,BEq.rfl,hT.run,hld,hal,hst]
 refine zb (K:=fun σ' w'=>Q .normal σ' w') fun σ' hσ=>hQ σ' w2 w.heap.size m2 (fun i hi=>?_) ?_ r2
 ·rw[hσ i]
  have e1:(i+100 == q+100)=false:=beq_eq_false_iff_ne.2 (by omega)
  simp +decide (disch:=omega) only [bE,Nat.reduceBeqDiff,e1]
 ·rw[hσ q]
  simp +decide (disch:=omega) only [bE,BEq.rfl]
theorem W_ldEU (B:Base P N) (hU:N.zaq≠0) {q b n c j a1 a2:Nat} {st:TypeId} {z2:Value} {s:List UInt8} {loc:List Nat} {N':Nat} {Q:Exit→Env→World→Prop} {σ:Env} {w:World} (hS:TI P st (.slice N.zaq) a1 a2 z2) (hs:s.length=16)
  (hv:σ q=.slice (some ⟨b,0,none⟩) n c) (hi:σ (q+5)=.int .i64 j) (hj:j < n) (hr:w.rangeAt b (j * 16) (s.map zz)) (hQ:∀ σ' w' bq,Mod w w' zy→(∀ i,i≠q+6→σ' i=σ i)→σ' (q+6)=.pointer (some ⟨bq,0,none⟩)→w'.rangeAt bq 0 (s.map zz)→Q .normal σ' w') :
  W P loc N' (.ops (zabx st N.zaq q++[⟨some (q+6+100),.alloc N.zaq,0,none,[]⟩,⟨none,.store N.zaq (V (q+6)) (T 3),0,none,[]⟩])) Q σ w:=by
 have hld:=(B.uuid hU).run_load (w:=w) hr (by simp [hs]) (fun h=>by cases h)
 have hlv:ldv (.array 16 N.zh) (s.map zz)=.agg (s.map zz).toArray:=rfl
 rw[hlv] at hld
 have hix:=zcb (w:=w) hS (B.uuid hU) (bl:=b) (o:=0) (n:=n) (c:=c) (i:=j) (k:=.i64) hj
 rw[Nat.zero_add] at hix
 obtain⟨w1,w2,hal,hst,m2,r2⟩:=boxU B hU hs w
 unfold zabx
 simp only [List.cons_append,List.nil_append]
 refine zi fun τ=>?_
 simp +decide (disch:=omega) only [bK,bE,Nat.reduceBeqDiff,BEq.rfl,hv,hi,hix,hld,hal,hst]
 refine zb (K:=fun σ' w'=>Q .normal σ' w') fun σ' hσ=>hQ σ' w2 w.heap.size m2 (fun i hi=>?_) ?_ r2
 ·rw[hσ i]
  have e1:(i+100 == q+6+100)=false:=beq_eq_false_iff_ne.2 (by omega)
  simp +decide (disch:=omega) only [bE,Nat.reduceBeqDiff,e1]
 ·rw[hσ (q+6)]
  simp +decide (disch:=omega) only [bE,BEq.rfl]
theorem W_cApU (B:Base P N) (hU:N.zaq≠0) {f q bq:Nat} {s:List UInt8} {loc:List Nat} {N':Nat} {Q:Exit→Env→World→Prop} {w0 w:World} {lo:Nat} {ver:Int} {fl:Bool} {d:Value} {l:List UInt8} {σ:Env} (hf:zcp P f) (h:AS w0 lo ver fl d l σ w) (hs:s.length=16) (hq:σ q=.pointer (some ⟨bq,0,none⟩)) (hr:w.rangeAt bq 0 (s.map zz))
  (hc:Call P f #[d,.agg (s.map zz).toArray] w (Apd w lo d l s)) (hQ:∀ σ' w' d',AS w0 lo ver fl d' (l++s) σ' w'→(∀ i,i≠1→σ' i=σ i)→Q .normal σ' w'):W P loc N' (cAp N f N.zaq q (.load N.zaq (V q))) Q σ w:=by
 have hld:=(B.uuid hU).run_load (w:=w) hr (by simp [hs]) (fun h=>by cases h)
 have hlv:ldv (.array 16 N.zh) (s.map zz)=.agg (s.map zz).toArray:=rfl
 rw[hlv] at hld
 unfold cAp
 refine zi fun τ=>?_
 simp +decide (disch:=omega) only [bK,bE,Nat.reduceBeqDiff,Nat.reduceAdd,h.f1,hq,hld]
 rw[zah hf]
 simp +decide (disch:=omega) only [bK,bE,Nat.reduceBeqDiff,BEq.rfl]
 refine hc.mono ?_
 intro d' w' ha
 have fr:∀ (σ':Env),(∀ i,σ' i=if i=1 then d' else σ i)→Q .normal σ' w':=fun σ' hσ=>
  hQ σ' w' d' (h.step ha (by rw[hσ]; rfl) (by rw[hσ]; rfl) (by rw[hσ]; rfl)) fun i hi=>by rw[hσ,if_neg hi]
 refine zb (K:=fun σ' w'=>Q .normal σ' w') fun σ' hσ=>fr σ' fun i=>?_
 rw[hσ i]
 by_cases hi:i=1
 ·subst hi; rfl
 ·have e1:(i+100 == 101)=false:=beq_eq_false_iff_ne.2 (by omega)
  rw[if_neg hi]
  simp +decide only [bE,Nat.reduceBeqDiff,e1]
end
mutual
def Val.sm:Val→Prop
 | .num v=>(zgk v).length < 4294967295
 | .nstr (some l)=>l.length < 4294967295
 | .oct (some l)=>l.length < 4294967295
 | .arr _ l=>l.length < 4294967295∧smL l
 | .row l=>smL l
 | .ptr l=>smL l
 | .tags l=>l.length < 4294967295∧∀ x∈l,x.2.length < 4294967295
 | _=>True
def smL:List Val→Prop
 | []=>True
 | v :: l=>v.sm∧smL l
end
theorem smL.mem:∀ {l:List Val},smL l→∀ v∈l,v.sm
 | [],_,v,h=>by cases h
 | x :: l,h,v,hv=>by
  simp only [smL] at h
  rcases List.mem_cons.1 hv with rfl | hv
  ·exact h.1
  ·exact smL.mem h.2 v hv
structure ApC (P:Program) (N:Nums) (A:zdk):Prop where
 pr:∀ k:PK,k.af A≠0→zcp P (k.af A)∧∀ v,k.okV v→ApF P (k.af A) v (k.wr v)
 txt:∀ (t:Txt) (fl:Bool),t.af A fl≠0→zcp P (t.af A fl)∧∀ {w:World} {lo:Nat} {d c:Value} {l:List UInt8} {G:Nat→Prop} (v:Val),t.okV v→v.sm→Rep w G v [c]→(∀ k,G k→k < lo)→OwnB w lo d l→lo≤w.heap.size→
  l.length+(t.wr fl v).length < 1099511627776→Call P (t.af A fl) #[d,c] w (Apd w lo d l (t.wr fl v))
 al:∀ fl:Bool,(if fl then A.zbp else A.zdj)≠0→zcp P (if fl then A.zbp else A.zdj)∧∀ n:Nat,n < 4294967295→ApF P (if fl then A.zbp else A.zdj) (.int .i64 n) (zae fl false n 4)
 nl:∀ fl:Bool,(if fl then A.zau else A.zbl)≠0→zcp P (if fl then A.zau else A.zbl)∧∀ (n:Nat) (b:Bool),n < 4294967295→ApF2 P (if fl then A.zau else A.zbl) (.int .i64 n) (.bool b) (zae fl b n 4)
 uv:UvT P N A
 tl:FOk P A.zkl 1 (zmp N A) [.var 1]
 ea:FOk P A.zey 2 (zgg N A) [.var 3]
 e1:FOk P A.zdm 3 (zeq N A) []
 tn:EachN P N
def HeldV (k:PK) (σ:Env) (w:World) (q:Nat) (v:Value):Prop:=match k with
 | .uuid=>∃ bq,∃ s:List UInt8,v=.agg (s.map zz).toArray∧s.length=16∧σ q=.pointer (some ⟨bq,0,none⟩)∧w.rangeAt bq 0 (s.map zz)
 | _=>σ q=v
section
variable {P:Program} {N:Nums} {A:zdk}
theorem W_prAp (B:Base P N) (C:ApC P N A) {k:PK} (hk:k.af A≠0) (hu:k.nt N) {v:Value} (hv:k.okV v) {q:Nat} {loc:List Nat} {N':Nat} {Q:Exit→Env→World→Prop} {w0 w:World} {lo:Nat} {ver:Int} {fl:Bool} {d:Value} {l:List UInt8} {σ:Env}
  (hh:HeldV k σ w q v) (h:AS w0 lo ver fl d l σ w) (hlo:lo≤w0.heap.size) (hlen:l.length+(k.wr v).length < 1099511627776) (hQ:∀ σ' w' d',AS w0 lo ver fl d' (l++k.wr v) σ' w'→(∀ i,i≠1→σ' i=σ i)→Q .normal σ' w'):W P loc N' (k.ap N A q) Q σ w:=by
 obtain⟨hb,hc⟩:=C.pr k hk
 have hcall:Call P (k.af A) #[d,v] w (Apd w lo d l (k.wr v)):=hc v hv h.own (Nat.le_trans hlo h.mod.size) hlen
 cases k with
 | uuid=>
  obtain⟨bq,s,rfl,hs,hq,hr⟩:=hh
  have e:PK.wr .uuid (.agg (s.map zz).toArray)=s:=ztb s
  rw[e] at hcall hlen hQ
  exact W_cApU B (hu.1 rfl) hb h hs hq hr hcall hQ
 | _=>exact W_cAp hb h hh hcall hQ
theorem af_ne {k:PK} (h:k.af A≠0):k.isEn=false:=by cases k<;>first | rfl | exact absurd rfl h
theorem W_prF (B:Base P N) {k:PK} (hen:k.isEn=false) (hu:k.nt N) {v:Value} (hv:k.okV v) {vv idx off q b oo:Nat} {Tt:TypeId} {loc:List Nat} {N':Nat} {Q:Exit→Env→World→Prop} {σ:Env} {w:World} (hT:HF P Tt idx off)
  (hvv:σ vv=.pointer (some ⟨b,oo,none⟩)) (hr:w.rangeAt b (oo+off) v.cells.toList) (hQ:∀ σ' w',Mod w w' zy→(∀ i,i≠q→σ' i=σ i)→HeldV k σ' w' q v→Q .normal σ' w') :
  W P loc N' (.ops (zvm vv Tt idx (k.t N)++k.ldq N 3 q)) Q σ w:=by
 cases k with
 | en t=>cases hen
 | uuid=>
  obtain⟨s,rfl,hs⟩:=hv
  exact W_ldFU B (hu.1 rfl) hT hs hvv (by simpa [Value.cells] using hr) fun σ' w' bq m f1 f2 f3=>hQ σ' w' m f1 ⟨bq,s,rfl,hs,f2,f3⟩
 | bool=>obtain⟨x,rfl⟩:=hv; exact zvr hT B.bool hvv hr rfl (fun _=>rfl) fun σ' f1 f2=>hQ σ' w (.refl _ _) f1 f2
 | i8=>obtain⟨x,rfl,_⟩:=hv; exact zvr hT (B.int8 (hu.2 rfl)) hvv hr rfl (fun _=>rfl) fun σ' f1 f2=>hQ σ' w (.refl _ _) f1 f2
 | i16=>obtain⟨x,rfl,_⟩:=hv; exact zvr hT B.int16 hvv hr rfl (fun _=>rfl) fun σ' f1 f2=>hQ σ' w (.refl _ _) f1 f2
 | u16=>obtain⟨x,rfl,_⟩:=hv; exact zvr hT B.uint16 hvv hr rfl (fun _=>rfl) fun σ' f1 f2=>hQ σ' w (.refl _ _) f1 f2
 | i32=>obtain⟨x,rfl,_⟩:=hv; exact zvr hT B.int32 hvv hr rfl (fun _=>rfl) fun σ' f1 f2=>hQ σ' w (.refl _ _) f1 f2
 | i64=>obtain⟨x,rfl,_⟩:=hv; exact zvr hT B.int64 hvv hr rfl (fun _=>rfl) fun σ' f1 f2=>hQ σ' w (.refl _ _) f1 f2
theorem W_prE (B:Base P N) {k:PK} (hen:k.isEn=false) (hu:k.nt N) {v:Value} (hv:k.okV v) {q b n c j a1 a2:Nat} {st:TypeId} {z2:Value} {loc:List Nat} {N':Nat} {Q:Exit→Env→World→Prop} {σ:Env} {w:World} (hS:TI P st (.slice (k.t N)) a1 a2 z2)
  (hvq:σ q=.slice (some ⟨b,0,none⟩) n c) (hi:σ (q+5)=.int .i64 j) (hj:j < n) (hr:w.rangeAt b (j * k.sz) v.cells.toList) (hQ:∀ σ' w',Mod w w' zy→(∀ i,i≠q+6→σ' i=σ i)→HeldV k σ' w' (q+6) v→Q .normal σ' w') :
  W P loc N' (.ops (zabx st (k.t N) q++k.ldq N 3 (q+6))) Q σ w:=by
 cases k with
 | en t=>cases hen
 | uuid=>
  obtain⟨s,rfl,hs⟩:=hv
  exact W_ldEU B (hu.1 rfl) hS hs hvq hi hj (by have:w.rangeAt b (j * 16) (Value.agg (s.map zz).toArray).cells.toList:=hr; simpa [Value.cells] using this) fun σ' w' bq m f1 f2 f3=>hQ σ' w' m f1 ⟨bq,s,rfl,hs,f2,f3⟩
 | bool=>obtain⟨x,rfl⟩:=hv; exact zacr hS B.bool hvq hi hj hr rfl (fun _=>rfl) fun σ' f1 f2=>hQ σ' w (.refl _ _) f1 f2
 | i8=>obtain⟨x,rfl,_⟩:=hv; exact zacr hS (B.int8 (hu.2 rfl)) hvq hi hj hr rfl (fun _=>rfl) fun σ' f1 f2=>hQ σ' w (.refl _ _) f1 f2
 | i16=>obtain⟨x,rfl,_⟩:=hv; exact zacr hS B.int16 hvq hi hj hr rfl (fun _=>rfl) fun σ' f1 f2=>hQ σ' w (.refl _ _) f1 f2
 | u16=>obtain⟨x,rfl,_⟩:=hv; exact zacr hS B.uint16 hvq hi hj hr rfl (fun _=>rfl) fun σ' f1 f2=>hQ σ' w (.refl _ _) f1 f2
 | i32=>obtain⟨x,rfl,_⟩:=hv; exact zacr hS B.int32 hvq hi hj hr rfl (fun _=>rfl) fun σ' f1 f2=>hQ σ' w (.refl _ _) f1 f2
 | i64=>obtain⟨x,rfl,_⟩:=hv; exact zacr hS B.int64 hvq hi hj hr rfl (fun _=>rfl) fun σ' f1 f2=>hQ σ' w (.refl _ _) f1 f2
theorem W_txtAp (C:ApC P N A) {t:Txt} (ht1:t.af A true≠0) (ht0:t.af A false≠0) {v:Val} (hv:t.okV v) (hsm:v.sm) {c:Value} {G:Nat→Prop} {q:Nat} {loc:List Nat} {N':Nat} (hloc:zei loc N') {Q:Exit→Env→World→Prop} {w0 w:World} {lo:Nat} {ver:Int} {fl:Bool} {d:Value} {l:List UInt8} {σ:Env}
  (hq5:5≤q) (hq:σ q=c) (hrep:Rep w G v [c]) (hG:∀ k,G k→k < lo) (h:AS w0 lo ver fl d l σ w) (hlo:lo≤w0.heap.size) (hlen:l.length+(t.wr fl v).length < 1099511627776)
  (hQ:∀ σ' w' d',AS w0 lo ver fl d' (l++t.wr fl v) σ' w'→(∀ i,i≠1→i≠q+1→σ' i=σ i)→Q .normal σ' w'):W P loc N' (t.ap N A q) Q σ w:=by
 unfold Txt.ap
 refine zd fun K hK=>zi fun τ=>?_
 simp +decide (disch:=omega) only [runR,zln,ev_tmp,envOf_var,Nat.reduceAdd,h.f4]
 refine hK _ _ (zb fun σ1 hσ=>?_)
 have g:∀ i,i≠q+1→σ1 i=σ i:=fun i hi=>by
  rw[hσ i]
  have e1:(i+100 == q+1+100)=false:=beq_eq_false_iff_ne.2 (by omega)
  simp +decide (disch:=omega) only [zin,envOf_var,sel_false,e1]
 have gq:σ1 (q+1)=.bool fl:=by
  rw[hσ (q+1)]
  simp +decide (disch:=omega) only [zin,sel_true,BEq.rfl]
 clear hσ hK K
 have h1:AS w0 lo ver fl d l σ1 w:=h.env (g 1 (by omega)) (g 3 (by omega)) (g 4 (by omega))
 refine W_if hloc gq ?_
 cases fl with
 | true=>
  simp only [if_true]
  obtain⟨hb,hc⟩:=C.txt t true ht1
  exact W_cAp hb h1 (by rw[g q (by omega)]; exact hq) (hc v hv hsm hrep hG h.own (Nat.le_trans hlo h.mod.size) hlen) fun σ' w' d' ha f=>hQ σ' w' d' ha fun i h1 h2=>(f i h1).trans (g i h2)
 | false=>
  simp only [Bool.false_eq_true,if_false]
  obtain⟨hb,hc⟩:=C.txt t false ht0
  exact W_cAp hb h1 (by rw[g q (by omega)]; exact hq) (hc v hv hsm hrep hG h.own (Nat.le_trans hlo h.mod.size) hlen) fun σ' w' d' ha f=>hQ σ' w' d' ha fun i h1 h2=>(f i h1).trans (g i h2)
theorem W_txtApJ (C:ApC P N A) {t:Txt} (ht1:t.af A true≠0) (ht0:t.af A false≠0) {v:Val} (hv:t.okV v) (hsm:v.sm) {c:Value} {G:Nat→Prop} {q j:Nat} (hj5:5≤j) (hjq:j≠q) {loc:List Nat} {N':Nat} (hloc:zei loc N') {Q:Exit→Env→World→Prop} {w0 w:World} {lo:Nat} {ver:Int} {fl:Bool} {d:Value} {l:List UInt8} {σ:Env}
  (hq5:5≤q) (hq:σ q=c) (hrep:Rep w G v [c]) (hG:∀ k,G k→k < lo) (h:AS w0 lo ver fl d l σ w) (hlo:lo≤w0.heap.size) (hlen:l.length+(t.wr fl v).length < 1099511627776)
  (hQ:∀ σ' w' d',AS w0 lo ver fl d' (l++t.wr fl v) σ' w'→(∀ i,i≠1→i≠j→σ' i=σ i)→Q .normal σ' w'):W P loc N' (t.apJ N A q j) Q σ w:=by
 unfold Txt.apJ
 refine zd fun K hK=>zi fun τ=>?_
 simp +decide (disch:=omega) only [runR,zln,ev_tmp,envOf_var,Nat.reduceAdd,h.f4]
 refine hK _ _ (zb fun σ1 hσ=>?_)
 have g:∀ i,i≠j→σ1 i=σ i:=fun i hi=>by
  rw[hσ i]
  have e1:(i+100 == j+100)=false:=beq_eq_false_iff_ne.2 (by omega)
  simp +decide (disch:=omega) only [zin,envOf_var,sel_false,e1]
 have gq:σ1 (j)=.bool fl:=by
  rw[hσ (j)]
  simp +decide (disch:=omega) only [zin,sel_true,BEq.rfl]
 clear hσ hK K
 have h1:AS w0 lo ver fl d l σ1 w:=h.env (g 1 (by omega)) (g 3 (by omega)) (g 4 (by omega))
 refine W_if hloc gq ?_
 cases fl with
 | true=>
  simp only [if_true]
  obtain⟨hb,hc⟩:=C.txt t true ht1
  exact W_cAp hb h1 (by rw[g q (by omega)]; exact hq) (hc v hv hsm hrep hG h.own (Nat.le_trans hlo h.mod.size) hlen) fun σ' w' d' ha f=>hQ σ' w' d' ha fun i h1 h2=>(f i h1).trans (g i h2)
 | false=>
  simp only [Bool.false_eq_true,if_false]
  obtain⟨hb,hc⟩:=C.txt t false ht0
  exact W_cAp hb h1 (by rw[g q (by omega)]; exact hq) (hc v hv hsm hrep hG h.own (Nat.le_trans hlo h.mod.size) hlen) fun σ' w' d' ha f=>hQ σ' w' d' ha fun i h1 h2=>(f i h1).trans (g i h2)
end
section
variable {P:Program} {N:Nums} {A:zdk}
theorem W_al1 {nul:Option Int} {st et q n c a1 a2 f:Nat} {z:Value} {a:Option Addr} {loc:List Nat} {N':Nat} {Q:Exit→Env→World→Prop} {w0 w:World} {lo:Nat} {ver:Int} {fl:Bool} {d:Value} {l s:List UInt8} {σ:Env} (hst:TI P st (.slice et) a1 a2 z)
  (fl':Bool) (hnul:nul=none) (hf:f=if fl' then A.zbp else A.zdj) (hb:zcp P f) (hq:σ q=.slice a n c) (h:AS w0 lo ver fl d l σ w) (hc:Call P f #[d,.int .i64 n] w (Apd w lo d l s))
  (hQ:∀ σ' w' d',AS w0 lo ver fl d' (l++s) σ' w'→(∀ i,i≠1→σ' i=σ i)→Q .normal σ' w'):W P loc N' (cAl N A nul fl' st q) Q σ w:=by
 subst hnul
 unfold cAl
 simp only
 rw[← hf]
 refine zi fun τ=>?_
 simp +decide (disch:=omega) only [bK,bE,Nat.reduceBeqDiff,BEq.rfl,Nat.reduceAdd,h.f1,hq,hst.run_len]
 rw[zah hb]
 simp +decide (disch:=omega) only [bK,bE,Nat.reduceBeqDiff,BEq.rfl]
 refine hc.mono ?_
 intro d' w' ha
 have fr:∀ (σ':Env),(∀ i,σ' i=if i=1 then d' else σ i)→Q .normal σ' w':=fun σ' hσ=>
  hQ σ' w' d' (h.step ha (by rw[hσ]; rfl) (by rw[hσ]; rfl) (by rw[hσ]; rfl)) fun i hi=>by rw[hσ,if_neg hi]
 refine zb (K:=fun σ' w'=>Q .normal σ' w') fun σ' hσ=>fr σ' fun i=>?_
 rw[hσ i]
 by_cases hi:i=1
 ·subst hi; rfl
 ·have e1:(i+100 == 101)=false:=beq_eq_false_iff_ne.2 (by omega)
  rw[if_neg hi]
  simp +decide only [bE,Nat.reduceBeqDiff,e1]
theorem W_al2 {nul:Option Int} {k:Int} {st et q n c a1 a2 f:Nat} {z:Value} {a:Option Addr} {loc:List Nat} {N':Nat} {Q:Exit→Env→World→Prop} {w0 w:World} {lo:Nat} {ver:Int} {fl:Bool} {d:Value} {l s:List UInt8} {σ:Env} (hst:TI P st (.slice et) a1 a2 z)
  (fl':Bool) (hnul:nul=some k) (hf:f=if fl' then A.zau else A.zbl) (hb:zcp P f) (hq:σ q=.slice a n c) (h:AS w0 lo ver fl d l σ w) (hc:Call P f #[d,.int .i64 n,.bool a.isNone] w (Apd w lo d l s))
  (hQ:∀ σ' w' d',AS w0 lo ver fl d' (l++s) σ' w'→(∀ i,i≠1→σ' i=σ i)→Q .normal σ' w'):W P loc N' (cAl N A nul fl' st q) Q σ w:=by
 subst hnul
 unfold cAl
 simp only
 rw[← hf]
 refine zi fun τ=>?_
 simp +decide (disch:=omega) only [bK,bE,Nat.reduceBeqDiff,BEq.rfl,Nat.reduceAdd,h.f1,hq,hst.run_len,run_eqlS hst.und]
 rw[zit hb]
 simp +decide (disch:=omega) only [bK,bE,Nat.reduceBeqDiff,BEq.rfl]
 refine hc.mono ?_
 intro d' w' ha
 have fr:∀ (σ':Env),(∀ i,σ' i=if i=1 then d' else σ i)→Q .normal σ' w':=fun σ' hσ=>
  hQ σ' w' d' (h.step ha (by rw[hσ]; rfl) (by rw[hσ]; rfl) (by rw[hσ]; rfl)) fun i hi=>by rw[hσ,if_neg hi]
 refine zb (K:=fun σ' w'=>Q .normal σ' w') fun σ' hσ=>fr σ' fun i=>?_
 rw[hσ i]
 by_cases hi:i=1
 ·subst hi; rfl
 ·have e1:(i+100 == 101)=false:=beq_eq_false_iff_ne.2 (by omega)
  rw[if_neg hi]
  simp +decide only [bE,Nat.reduceBeqDiff,e1]
def alOk (A:zdk):Option Int→Prop
 | none=>A.zbp≠0∧A.zdj≠0
 | some k=>k≤0∧A.zau≠0∧A.zbl≠0
theorem W_al (C:ApC P N A) {nul:Option Int} {st et q n c a1 a2:Nat} {z:Value} {a:Option Addr} {loc:List Nat} {N':Nat} (hloc:zei loc N') {Q:Exit→Env→World→Prop} {w0 w:World} {lo:Nat} {ver:Int} {fl:Bool} {d:Value} {l:List UInt8} {σ:Env} (hst:TI P st (.slice et) a1 a2 z)
  (ho:alOk A nul) (hq5:5≤q) (hq:σ q=.slice a n c) (hn:n < 4294967295) (h:AS w0 lo ver fl d l σ w) (hlo:lo≤w0.heap.size) (hlen:l.length+(zae fl (nul.isSome && a.isNone) n 4).length < 1099511627776)
  (hQ:∀ σ' w' d',AS w0 lo ver fl d' (l++zae fl (nul.isSome && a.isNone) n 4) σ' w'→(∀ i,i≠1→i≠q+1→σ' i=σ i)→Q .normal σ' w') :
  W P loc N' (.seq (.ops [⟨some (q+1+100),.move (V 4),0,none,[]⟩]) (.cond (q+1) (cAl N A nul true st q) (cAl N A nul false st q))) Q σ w:=by
 refine zd fun K hK=>zi fun τ=>?_
 simp +decide (disch:=omega) only [bK,bE,Nat.reduceAdd,h.f4]
 refine hK _ _ (zb fun σ1 hσ=>?_)
 have g:∀ i,i≠q+1→σ1 i=σ i:=fun i hi=>by
  rw[hσ i]
  have e1:(i+100 == q+1+100)=false:=beq_eq_false_iff_ne.2 (by omega)
  simp +decide (disch:=omega) only [bE,e1]
 have gq:σ1 (q+1)=.bool fl:=by
  rw[hσ (q+1)]
  simp +decide (disch:=omega) only [bE,BEq.rfl]
 clear hσ hK K
 have h1:AS w0 lo ver fl d l σ1 w:=h.env (g 1 (by omega)) (g 3 (by omega)) (g 4 (by omega))
 have hq1:σ1 q=.slice a n c:=by rw[g q (by omega)]; exact hq
 have hlow:=Nat.le_trans hlo h.mod.size
 refine W_if hloc gq ?_
 cases nul with
 | none=>
  have e:((none:Option Int).isSome && a.isNone)=false:=rfl
  rw[e] at hlen hQ
  cases fl with
  | true=>
   simp only [if_true]
   obtain⟨hb,hc⟩:=C.al true ho.1
   exact W_al1 hst true rfl rfl hb hq1 h1 (hc n hn h.own hlow hlen) fun σ' w' d' ha f=>hQ σ' w' d' ha fun i h1 h2=>(f i h1).trans (g i h2)
  | false=>
   simp only [Bool.false_eq_true,if_false]
   obtain⟨hb,hc⟩:=C.al false ho.2
   exact W_al1 hst false rfl rfl hb hq1 h1 (hc n hn h.own hlow hlen) fun σ' w' d' ha f=>hQ σ' w' d' ha fun i h1 h2=>(f i h1).trans (g i h2)
 | some k=>
  have e:((some k:Option Int).isSome && a.isNone)=a.isNone:=by simp
  rw[e] at hlen hQ
  cases fl with
  | true=>
   simp only [if_true]
   obtain⟨hb,hc⟩:=C.nl true ho.2.1
   exact W_al2 hst true rfl rfl hb hq1 h1 (hc n a.isNone hn h.own hlow hlen) fun σ' w' d' ha f=>hQ σ' w' d' ha fun i h1 h2=>(f i h1).trans (g i h2)
  | false=>
   simp only [Bool.false_eq_true,if_false]
   obtain⟨hb,hc⟩:=C.nl false ho.2.2
   exact W_al2 hst false rfl rfl hb hq1 h1 (hc n a.isNone hn h.own hlow hlen) fun σ' w' d' ha f=>hQ σ' w' d' ha fun i h1 h2=>(f i h1).trans (g i h2)
end
section
variable (P:Program) (N:Nums) (A:zdk)
mutual
def El.aok:El→Prop
 | .pr k=>k.af A≠0∧k.nt N
 | .txt t=>t.af A true≠0∧t.af A false≠0∧(t=.nstr→N.zbc≠0)
 | .row T' _ _ fs=>fs.hf P T' 0 0∧fs.aok
def Ty.aok:Ty→Prop
 | .pr k _=>k.af A≠0∧k.nt N
 | .txt t=>t.af A true≠0∧t.af A false≠0∧(t=.nstr→N.zbc≠0)
 | .arr st nul e=>TI P st (.slice (e.ty N)) 1 24 (.slice none 0 0)∧(∃ d by' z,TI P (e.ty N) d e.sz by' z)∧alOk A nul∧e.aok
 | .row ..=>False
 | .ptr T' pT _ fs=>TI P pT (.pointer T') 1 8 (.pointer none)∧fs.hf P T' 0 0∧fs.aok
 | .tv _=>(Txt.str.af A true≠0∧Txt.str.af A false≠0)∧Txt.nstr.af A true≠0∧Txt.nstr.af A false≠0∧N.zbc≠0
def Fds.aok:Fds→Prop
 | .cons _ ty r=>ty.aok∧r.aok
 | _=>True
end
variable (ver:Int) (fl:Bool)
def TyW (ty:Ty):Prop:=∀ {w0 w:World} {G:Nat→Prop} {lo b oo vv idx off q kk:Nat} {Tt:TypeId} {d:Value} {l:List UInt8} {σ:Env} {loc:List Nat} {N':Nat} {Q:Exit→Env→World→Prop} (v:Val) (cs:List Value),
 zei loc N'→ty.okV v→v.sm→Rep w0 G v cs→w0.rangeAt b (oo+off) cs→(∀ k,G k→k < lo)→b < lo→lo≤w0.heap.size→HF P Tt idx off→σ vv=.pointer (some ⟨b,oo,none⟩)→5≤q→AS w0 lo ver fl d l σ w→l.length+(ty.wr ver fl v).length < 1099511627776→
 (∀ σ' w' d',AS w0 lo ver fl d' (l++ty.wr ver fl v) σ' w'→(∀ i,i < q→i≠1→σ' i=σ i)→Q .normal σ' w')→W P loc N' (ty.agen N A vv Tt idx q kk) Q σ w
def ElW (e:El):Prop:=∀ {w0 w:World} {G:Nat→Prop} {lo be n c j q kk:Nat} {st:TypeId} {d:Value} {l:List UInt8} {σ:Env} {loc:List Nat} {N':Nat} {Q:Exit→Env→World→Prop} (v:Val) (cs:List Value),
 zei loc N'→e.okV v→v.sm→Rep w0 G v cs→w0.rangeAt be (j * e.sz) cs→(∀ k,G k→k < lo)→be < lo→lo≤w0.heap.size→TI P st (.slice (e.ty N)) 1 24 (.slice none 0 0)→(∃ d by' z,TI P (e.ty N) d e.sz by' z)→σ q=.slice (some ⟨be,0,none⟩) n c→σ (q+5)=.int .i64 j→j < n→5≤q→
 AS w0 lo ver fl d l σ w→l.length+(e.wr ver fl v).length < 1099511627776→
 (∀ σ' w' d',AS w0 lo ver fl d' (l++e.wr ver fl v) σ' w'→(∀ i,i < q+6→i≠1→σ' i=σ i)→Q .normal σ' w')→W P loc N' (e.agen N A st q kk) Q σ w
def FdsW (fs:Fds):Prop:=∀ {w0 w:World} {G:Nat→Prop} {lo b oo vv idx off q kk:Nat} {Tt:TypeId} {d:Value} {l:List UInt8} {σ:Env} {loc:List Nat} {N':Nat} {Q:Exit→Env→World→Prop} {tl:List C} (vs:List Val) (css:List (List Value)),
 zei loc N'→fs.okV vs→smL vs→RepL w0 G vs css→w0.rangeAt b (oo+off) css.flatten→(∀ k,G k→k < lo)→b < lo→lo≤w0.heap.size→fs.hf P Tt idx off→σ vv=.pointer (some ⟨b,oo,none⟩)→vv < q→vv≠1→5≤q→AS w0 lo ver fl d l σ w→l.length+(fs.wr ver fl vs).length < 1099511627776→
 (∀ σ' w' d',AS w0 lo ver fl d' (l++fs.wr ver fl vs) σ' w'→(∀ i,i < q→i≠1→σ' i=σ i)→WL P loc N' tl Q σ' w')→WL P loc N' (fs.agen N A vv Tt idx q kk++tl) Q σ w
end
section
variable {P:Program} {N:Nums} {A:zdk}
theorem txt_tiA (B:Base P N) {t:Txt} (h:t=.nstr→N.zbc≠0):∃ d by',TI P (t.t N) d 1 by' t.zero∧zqn d=false:=by
 cases t with
 | str=>exact⟨_,_,B.string,rfl⟩
 | nstr=>exact⟨_,_,B.pstring (h rfl),rfl⟩
 | byt=>exact⟨_,_,B.Lu8,rfl⟩
 | nbyt=>exact⟨_,_,B.Lu8,rfl⟩
theorem zwy {t:Txt} {w:World} {G:Nat→Prop} {v:Val} {cs:List Value} (hv:t.okV v) (hr:Rep w G v cs):∃ c,cs=[c]:=by
 cases t<;>cases v<;>simp only [Txt.okV] at hv
 ·obtain⟨x,rfl,_⟩:=hv; simp only [Rep] at hr; exact⟨_,hr⟩
 ·rename_i o
  cases o with
  | none=>simp only [Rep] at hr; exact⟨_,hr⟩
  | some s=>simp only [Rep] at hr; obtain⟨b,e,_⟩:=hr; exact⟨_,e⟩
 ·simp only [Rep] at hr; obtain⟨u,e,_⟩:=hr; exact⟨_,e⟩
 ·simp only [Rep] at hr; obtain⟨u,e,_⟩:=hr; exact⟨_,e⟩
theorem tyW_pr (B:Base P N) (C:ApC P N A) {ver:Int} {fl:Bool} {k:PK} {dd:Option Value} (ha:(Ty.pr k dd).aok P N A):TyW P N A ver fl (.pr k dd):=by
 intro w0 w G lo b oo vv idx off q kk Tt d l σ loc N' Q v cs hloc hv hsm hrep hr hG hb hlo hT hvv hq h hlen hQ
 obtain⟨ha1,ha2⟩:=ha
 cases v with
 | num v=>
  simp only [Rep] at hrep
  subst hrep
  have hr':w.rangeAt b (oo+off) v.cells.toList:=h.mod.rangeAt (by omega) (fun _ _ _ h=>by omega) hr
  unfold Ty.agen
  refine zd fun K hK=>W_prF B (af_ne ha1) ha2 hv hT hvv hr' fun σ1 w1 m1 f1 hh=>hK _ _ ?_
  exact W_prAp B C ha1 ha2 hv hh ((h.env (σ':=σ1) (f1 1 (by omega)) (f1 3 (by omega)) (f1 4 (by omega))).fresh m1) hlo hlen fun σ' w' d' ha f=>hQ σ' w' d' ha fun i hi h1=>(f i h1).trans (f1 i (by omega))
 | _=>simp only [Ty.okV] at hv
theorem tyW_txt (B:Base P N) (C:ApC P N A) {ver:Int} {fl:Bool} {t:Txt} (ha:(Ty.txt t).aok P N A):TyW P N A ver fl (.txt t):=by
 intro w0 w G lo b oo vv idx off q kk Tt d l σ loc N' Q v cs hloc hv hsm hrep hr hG hb hlo hT hvv hq h hlen hQ
 obtain⟨ha1,ha2,ha3⟩:=ha
 have hv':t.okV v:=by cases v<;>exact hv
 obtain⟨c,rfl⟩:=zwy hv' hrep
 obtain⟨dt,by',hti,hag⟩:=txt_tiA B ha3
 have hr':w.rangeAt b (oo+off) [c]:=h.mod.rangeAt (by omega) (fun _ _ _ h=>by omega) hr
 have hrep':Rep w G v [c]:=Rep.mod h.mod (fun k hk=>⟨by have:=hG k hk; omega,fun _ h=>by have:=hG k hk; omega,hk⟩) v hrep
 have hld:ldv dt [c]=c:=by unfold ldv; rw[hag]; rfl
 unfold Ty.agen
 refine zd fun K hK=>zvr hT hti hvv hr' rfl (fun _=>rfl) fun σ1 f1 g1=>hK _ _ ?_
 rw[hld] at g1
 have e:(Ty.txt t).wr ver fl v=t.wr fl v:=by cases v<;>simp only [Ty.wr]
 rw[e] at hlen hQ
 exact W_txtAp C ha1 ha2 hv' hsm hloc hq g1 hrep' hG (h.env (f1 1 (by omega)) (f1 3 (by omega)) (f1 4 (by omega))) hlo hlen fun σ' w' d' ha f=>hQ σ' w' d' ha fun i hi h1=>(f i h1 (by omega)).trans (f1 i (by omega))
theorem elW_pr (B:Base P N) (C:ApC P N A) {ver:Int} {fl:Bool} {k:PK} (ha:(El.pr k).aok P N A):ElW P N A ver fl (.pr k):=by
 intro w0 w G lo be n c j q kk st d l σ loc N' Q v cs hloc hv hsm hrep hr hG hb hlo hst het hvq hi hj hq h hlen hQ
 obtain⟨ha1,ha2⟩:=ha
 cases v with
 | num v=>
  simp only [Rep] at hrep
  subst hrep
  have hr':w.rangeAt be (j * k.sz) v.cells.toList:=h.mod.rangeAt (by omega) (fun _ _ _ h=>by omega) hr
  unfold El.agen
  refine zd fun K hK=>W_prE B (af_ne ha1) ha2 hv hst hvq hi hj hr' fun σ1 w1 m1 f1 hh=>hK _ _ ?_
  exact W_prAp B C ha1 ha2 hv hh ((h.env (σ':=σ1) (f1 1 (by omega)) (f1 3 (by omega)) (f1 4 (by omega))).fresh m1) hlo hlen fun σ' w' d' ha f=>hQ σ' w' d' ha fun i hi h1=>(f i h1).trans (f1 i (by omega))
 | _=>simp only [El.okV] at hv
theorem elW_txt (B:Base P N) (C:ApC P N A) {ver:Int} {fl:Bool} {t:Txt} (ha:(El.txt t).aok P N A):ElW P N A ver fl (.txt t):=by
 intro w0 w G lo be n c j q kk st d l σ loc N' Q v cs hloc hv hsm hrep hr hG hb hlo hst het hvq hi hj hq h hlen hQ
 obtain⟨ha1,ha2,ha3⟩:=ha
 have hv':t.okV v:=by cases v<;>exact hv
 obtain⟨x,rfl⟩:=zwy hv' hrep
 obtain⟨dt,by',hti,hag⟩:=txt_tiA B ha3
 have hr':w.rangeAt be (j * 1) [x]:=h.mod.rangeAt (by omega) (fun _ _ _ h=>by omega) hr
 have hrep':Rep w G v [x]:=Rep.mod h.mod (fun k hk=>⟨by have:=hG k hk; omega,fun _ h=>by have:=hG k hk; omega,hk⟩) v hrep
 have hld:ldv dt [x]=x:=by unfold ldv; rw[hag]; rfl
 unfold El.agen
 refine zd fun K hK=>zacr hst hti hvq hi hj hr' rfl (fun _=>rfl) fun σ1 f1 g1=>hK _ _ ?_
 rw[hld] at g1
 have e:(El.txt t).wr ver fl v=t.wr fl v:=by cases v<;>simp only [El.wr]
 rw[e] at hlen hQ
 exact W_txtAp C ha1 ha2 hv' hsm hloc (by omega) g1 hrep' hG (h.env (f1 1 (by omega)) (f1 3 (by omega)) (f1 4 (by omega))) hlo hlen fun σ' w' d' ha f=>hQ σ' w' d' ha fun i hi h1=>(f i h1 (by omega)).trans (f1 i (by omega))
end
section
variable {P:Program} {N:Nums} {A:zdk}
section
variable {loc:List Nat} {N':Nat} {Q:Exit→Env→World→Prop} {σ:Env} {w:World}
theorem W_gdA (hlo:zei loc N') {g:Gd} {n:Nat} {c:Nat→C} {ver:Int} (h5:σ 3=.int .i16 ver) (hon:g.on ver=true→∀ σ',Ag n σ σ'→W P loc N' (c (n+g.vn)) Q σ' w) (hoff:g.on ver=false→∀ σ',Ag n σ σ'→Q .normal σ' w):W P loc N' (cGdA N g n c) Q σ w:=by
 cases g with
 | all=>exact hon rfl σ (Ag.refl _ _)
 | never=>exact zbd (hoff rfl σ (Ag.refl _ _))
 | ge m=>
  unfold cGdA
  refine zd fun K hK=>zi fun τ=>?_
  simp +decide (disch:=omega) only [bK,bE,BEq.rfl,Nat.reduceAdd,h5,zk,zai,locs_envOf]
  refine hK _ _ (W_if hlo (upd_same _ _ _) ?_)
  have a:=(Ag.refl n σ).upd (v:=.bool (decide (ver ≥ m))) (Nat.le_refl n)
  by_cases hg:ver ≥ m
  ·rw[decide_eq_true hg] at a ⊢
   exact hon (by simp [Gd.on,hg]) _ a
  ·rw[decide_eq_false hg] at a ⊢
   exact zbd (hoff (by simp [Gd.on]; omega) _ a)
 | btw x y=>
  unfold cGdA
  refine zd fun K hK=>zi fun τ=>?_
  simp +decide (disch:=omega) only [bK,bE,BEq.rfl,Nat.reduceAdd,h5]
  have fin:∀ (ρ:Env) (bb:Bool),(∀ i,ρ (i+100)=σ i)→bb=(Gd.btw x y).on ver→K (upd (locs ρ) n (.bool bb)) w:=by
   intro ρ bb hρ hb
   have e:locs ρ=σ:=by funext i; exact hρ i
   rw[e]
   refine hK _ _ (W_if hlo (upd_same _ _ _) ?_)
   have a:=(Ag.refl n σ).upd (v:=.bool bb) (Nat.le_refl n)
   cases bb with
   | true=>exact hon hb.symm _ a
   | false=>exact zbd (hoff hb.symm _ a)
  by_cases hg:ver ≥ x
  ·rw[decide_eq_true hg]
   refine Eq.mpr (zap (by simp +decide only [bE,BEq.rfl])) ?_
   simp +decide (disch:=omega) only [bK,bE,Nat.reduceBeqDiff,Nat.reduceAdd,h5]
   refine Eq.mpr (zap (by simp +decide only [bE,Nat.reduceBeqDiff,BEq.rfl])) ?_
   simp +decide (disch:=omega) only [bK,bE,Nat.reduceBeqDiff,BEq.rfl,if_true,zca]
   rw[show ∀ ρ:Env,∀ v,locs (put ρ (some (n+100)) v)=upd (locs ρ) n v from fun ρ v=>zk ρ n v]
   refine fin _ _ (fun i=>by simp +decide only [bE,Nat.reduceBeqDiff]) ?_
   simp [Gd.on,hg]
  ·rw[decide_eq_false hg]
   refine Eq.mpr (zbi (by simp +decide only [bE,BEq.rfl]; rfl)) ?_
   refine Eq.mpr (zbi (by simp +decide only [bE,Nat.reduceBeqDiff,BEq.rfl]; rfl)) ?_
   simp +decide (disch:=omega) only [bK,bE,Nat.reduceBeqDiff,BEq.rfl,if_false,zca]
   rw[show ∀ ρ:Env,∀ v,locs (put ρ (some (n+100)) v)=upd (locs ρ) n v from fun ρ v=>zk ρ n v]
   refine fin _ _ (fun i=>by simp +decide only [bE,Nat.reduceBeqDiff]) ?_
   simp [Gd.on]; omega
end
theorem fdsW_nil {ver:Int} {fl:Bool}:FdsW P N A ver fl .nil:=by
 intro w0 w G lo b oo vv idx off q kk Tt d l σ loc N' Q tl vs css hloc hv hsm hrep hr hG hb hlo hT hvv hvq hv1 hq h hlen hQ
 refine hQ σ w d ?_ fun _ _ _=>rfl
 have e:Fds.wr ver fl .nil vs=[]:=by cases vs<;>rfl
 rw[e,List.append_nil]; exact h
theorem fdsW_cons (B:Base P N) {ver:Int} {fl:Bool} {g:Gd} {ty:Ty} {r:Fds} (h1:TyW P N A ver fl ty) (h2:FdsW P N A ver fl r):FdsW P N A ver fl (.cons g ty r):=by
 intro w0 w G lo b oo vv idx off q kk Tt d l σ loc N' Q tl vs css hloc hv hsm hrep hr hG hb hlo hT hvv hvq hv1 hq h hlen hQ
 cases vs with
 | nil=>simp only [Fds.okV] at hv
 | cons v vs=>
  obtain⟨c,rest,rfl,r1,r2⟩:=hrep
  simp only [smL] at hsm
  have hcl:=Ty.rep_len ty v hv.1 r1
  rw[List.flatten_cons,zx,hcl,Nat.add_assoc] at hr
  obtain⟨hr1,hr2⟩:=hr
  have e:Fds.wr ver fl (.cons g ty r) (v :: vs)=(if g.on ver then ty.wr ver fl v else [])++r.wr ver fl vs:=by rw[Fds.wr]
  rw[e] at hlen hQ
  rw[List.length_append] at hlen
  rw[Fds.agen,List.cons_append]
  refine WL_one (W_gdA hloc h.f3 (fun hon σ1 ag=>?_) (fun hoff σ1 ag=>?_))
  ·rw[if_pos hon] at hlen hQ
   refine h1 v c hloc hv.1 hsm.1 r1 hr1 hG hb hlo hT.1 (by rw[ag vv hvq]; exact hvv) (by omega) (h.env (ag 1 (by omega)) (ag 3 (by omega)) (ag 4 (by omega))) (by omega) fun σ2 w2 d2 ha f=>?_
   refine h2 vs rest hloc hv.2 hsm.2 r2 hr2 hG hb hlo hT.2 (by rw[f vv (by omega) hv1,ag vv hvq]; exact hvv) (by omega) hv1 (by omega) ha (by rw[List.length_append]; omega) fun σ3 w3 d3 ha3 f3=>?_
   exact hQ σ3 w3 d3 (by rw[← List.append_assoc]; exact ha3) fun i hi h1=>((f3 i (by omega) h1).trans (f i (by omega) h1)).trans (ag i hi)
  ·rw[if_neg (by rw[hoff]; decide)] at hlen hQ
   rw[List.nil_append] at hQ
   refine h2 vs rest hloc hv.2 hsm.2 r2 hr2 hG hb hlo hT.2 (by rw[ag vv hvq]; exact hvv) (by omega) hv1 (by omega) (h.env (ag 1 (by omega)) (ag 3 (by omega)) (ag 4 (by omega))) (by simp at hlen; omega) fun σ3 w3 d3 ha3 f3=>?_
   exact hQ σ3 w3 d3 ha3 fun i hi h1=>(f3 i (by omega) h1).trans (ag i hi)
theorem elW_row (B:Base P N) {ver:Int} {fl:Bool} {T' pT dflt:Nat} {fs:Fds} (ha:fs.hf P T' 0 0) (h1:FdsW P N A ver fl fs):ElW P N A ver fl (.row T' pT dflt fs):=by
 intro w0 w G lo be n c j q kk st d l σ loc N' Q v cs hloc hv hsm hrep hr hG hb hlo hst het hvq hi hj hq h hlen hQ
 obtain⟨dt,by',z,het⟩:=het
 cases v with
 | row vs=>
  simp only [Rep] at hrep
  obtain⟨css,rfl,hrl⟩:=hrep
  have hix:=fun {w:World}=>zcb (P:=P) (w:=w) hst het (bl:=be) (o:=0) (n:=n) (c:=c) (i:=j) (k:=.i64) hj
  unfold El.agen
  refine zd fun K hK=>zi fun τ=>?_
  simp +decide (disch:=omega) only [bK,bE,Nat.reduceBeqDiff,BEq.rfl,Nat.zero_add,hvq,hi,hix]
  refine hK _ _ (zb fun σ1 hσ=>?_)
  have g:∀ i,i≠q+6→σ1 i=σ i:=fun i hi=>by
   rw[hσ i]
   have e1:(i+100 == q+6+100)=false:=beq_eq_false_iff_ne.2 (by omega)
   simp +decide (disch:=omega) only [bE,Nat.reduceBeqDiff,e1]
  have gq:σ1 (q+6)=.pointer (some ⟨be,j * (El.row T' pT dflt fs).sz,none⟩):=by
   rw[hσ (q+6)]
   simp +decide (disch:=omega) only [bE,BEq.rfl]
  clear hσ hK K
  have e:(El.row T' pT dflt fs).wr ver fl (.row vs)=fs.wr ver fl vs:=by simp only [El.wr]
  rw[e] at hlen hQ
  have key:=h1 (Tt:=T') (idx:=0) (off:=0) (kk:=kk+2) (vv:=q+6) (q:=q+7) (tl:=[]) (Q:=Q) vs css hloc hv (by simpa only [Val.sm] using hsm) hrl (by rw[Nat.add_zero]; exact hr) hG hb hlo ha gq (by omega) (by omega) (by omega) (h.env (g 1 (by omega)) (g 3 (by omega)) (g 4 (by omega))) hlen fun σ3 w3 d3 ha3 f3=>hQ σ3 w3 d3 ha3 fun i hi h1=>(f3 i (by omega) h1).trans (g i (by omega))
  rw[List.append_nil] at key
  cases hl:fs.agen N A (q+6) T' 0 (q+7) (kk+2) with
  | nil=>rw[hl] at key; exact zbd key
  | cons x l=>rw[hl] at key; exact zfp (by simp) key
 | _=>simp only [El.okV] at hv
end
section
variable {P:Program} {N:Nums} {A:zdk}
theorem fdsW_tags (B:Base P N) (F:Fns P N) (C:ApC P N A) {ver:Int} {fl:Bool} {kt:Option Nat}:FdsW P N A ver fl (.tags kt):=by
 intro w0 w G lo b oo vv idx off q kk Tt d l σ loc N' Q tl vs css hloc hv hsm hrep hr hG hb hlo hT hvv hvq hv1 hq h hlen hQ
 match vs,hv with
 | [.tags u],hv=>
  obtain⟨c,r,rfl,r1,r2⟩:=hrep
  simp only [RepL] at r2
  subst r2
  simp only [Rep] at r1
  obtain⟨v,rfl,ht⟩:=r1
  simp only [smL,Val.sm,and_true] at hsm
  have hT:HF P Tt idx off:=hT
  have e:Fds.wr ver fl (.tags kt) [.tags u]=if fl then zyv u else []:=rfl
  rw[e] at hlen hQ
  rw[Fds.agen]
  have hbw:b < w0.heap.size:=by omega
  have mw:=h.mod.size
  have hc0:w0.cell? ⟨b,oo+off,none⟩=some v:=by
   have:=hr 0 v (by simp); simpa using this
  have hc:w.cell? ⟨b,oo+off,none⟩=some v:=by rw[h.mod.cell _ _ hbw (fun h=>by omega)]; exact hc0
  have htw:zpx w G v u:=ht.mod h.mod fun k hk=>⟨by have:=hG k hk; omega,fun _ h=>by have:=hG k hk; omega,hk⟩
  refine WL_one ?_
  unfold cAtags
  refine zd fun K hK=>zi fun τ=>?_
  simp +decide (disch:=omega) only [bK,bE,Nat.reduceAdd,h.f4]
  refine hK _ _ (zb fun σ1 hσ=>?_)
  have g:∀ i,i≠q→σ1 i=σ i:=fun i hi=>by
   rw[hσ i]
   have e1:(i+100 == q+100)=false:=beq_eq_false_iff_ne.2 (by omega)
   simp +decide (disch:=omega) only [bE,e1]
  have gq:σ1 q=.bool fl:=by
   rw[hσ q]
   simp +decide (disch:=omega) only [bE,BEq.rfl]
  clear hσ hK K
  have h1:AS w0 lo ver fl d l σ1 w:=h.env (g 1 (by omega)) (g 3 (by omega)) (g 4 (by omega))
  have hvv1:σ1 vv=.pointer (some ⟨b,oo,none⟩):=by rw[g vv (by omega)]; exact hvv
  refine W_if hloc gq ?_
  cases fl with
  | false=>
   simp only [Bool.false_eq_true,if_false,List.append_nil] at hQ ⊢
   exact zbd (hQ σ1 w d h1 fun i hi _=>g i (by omega))
  | true=>
   simp only [if_true] at hQ hlen ⊢
   have hlt:l.length+((uvB u.length).length+((zdz u).flatMap tagW).length) < 1099511627776:=by
    have:(zyv u).length=(uvB u.length).length+((zdz u).flatMap tagW).length:=by simp [zyv]
    omega
   have e32:∀ m:Int,IntKind.u32.wrap m=m % 4294967296:=fun m=>by simp [IntKind.wrap,IntKind.signed,IntKind.bits]
   have hcv:IntKind.u32.wrap (u.length:Int)=u.length:=by rw[e32]; omega
   have hadd:IntKind.u32.wrap (0+(u.length:Int))=u.length:=by rw[e32]; omega
   refine zd fun K hK=>zi fun τ=>?_
   simp +decide (disch:=omega) only [bK,bE,Nat.reduceBeqDiff,BEq.rfl,Nat.reduceAdd,h1.f1,hvv1]
   rw[zw rfl]
   simp +decide (disch:=omega) only [bK,bE,BEq.rfl,hT.run]
   rw[zan C.tl.has]
   simp +decide (disch:=omega) only [bK,bE,BEq.rfl]
   refine(zaah B C.tn.tags C.tl hc htw).mono ?_
   rintro _ w2 ⟨rfl,rfl⟩
   simp +decide (disch:=omega) only [bK,zat B.int B.uint32 ⟨_,rfl⟩,hcv,hadd]
   rw[zah C.uv.uv.has]
   simp +decide (disch:=omega) only [bK,bE,Nat.reduceBeqDiff,BEq.rfl]
   refine(zyc B C.uv (n:=u.length) (by omega) h1.own (Nat.le_trans hlo mw) (by omega)).mono ?_
   intro d2 w2 ha2
   refine hK _ _ (zb fun σ2 hσ=>?_)
   have g2:∀ i,σ2 i=if i=1 then d2 else σ1 i:=fun i=>by
    rw[hσ i]
    by_cases hi:i=1
    ·subst hi; rfl
    ·have e1:(i+100 == 101)=false:=beq_eq_false_iff_ne.2 (by omega)
     rw[if_neg hi]
     simp +decide only [bE,Nat.reduceBeqDiff,e1]
   clear hσ hK K
   have h2:=h1.step ha2 (σ':=σ2) (by rw[g2]; rfl) (by rw[g2]; rfl) (by rw[g2]; rfl)
   have hvv2:σ2 vv=.pointer (some ⟨b,oo,none⟩):=by rw[g2,if_neg hv1]; exact hvv1
   have hc2:w2.cell? ⟨b,oo+off,none⟩=some v:=by rw[h2.mod.cell _ _ hbw (fun h=>by omega)]; exact hc0
   have htw2:zpx w2 G v u:=ht.mod h2.mod fun k hk=>⟨by have:=hG k hk; omega,fun _ h=>by have:=hG k hk; omega,hk⟩
   refine zi fun τ=>?_
   simp +decide (disch:=omega) only [bK,bE,Nat.reduceBeqDiff,Nat.reduceAdd,hvv2]
   rw[zw rfl]
   simp +decide (disch:=omega) only [bK,bE,Nat.reduceBeqDiff,BEq.rfl,hT.run,h2.f1]
   rw[zah C.ea.has]
   simp +decide (disch:=omega) only [bK,bE,Nat.reduceBeqDiff,BEq.rfl]
   refine(ap_Each B F C.tn C.uv C.e1 C.ea hc2 hb hG htw2 (by omega) (fun x hx=>by have:=hsm.2 x hx; omega) h2.own (Nat.le_trans hlo h2.mod.size) (by rw[List.length_append]; omega)).mono ?_
   rintro d3 w3 ⟨ho3,m3⟩
   have fr:∀ (σ':Env),(∀ i,σ' i=if i=1 then d3 else σ2 i)→WL P loc N' tl Q σ' w3:=fun σ' hσ=>by
    refine hQ σ' w3 d3 ⟨by rw[hσ]; rfl,by rw[hσ]; exact h2.f3,by rw[hσ]; exact h2.f4,?_,h2.mod.trans m3 fun _ _ _ h=>h.elim id id⟩ fun i hi h1=>by rw[hσ,if_neg h1,g2,if_neg h1,g i (by omega)]
    have e5:l++zyv u=l++uvB u.length++(zdz u).flatMap tagW:=by simp [zyv,List.append_assoc]
    rw[e5]; exact ho3
   refine zb (K:=fun σ' w'=>WL P loc N' tl Q σ' w') fun σ' hσ=>fr σ' fun i=>?_
   rw[hσ i]
   by_cases hi:i=1
   ·subst hi; rfl
   ·have e1:(i+100 == 101)=false:=beq_eq_false_iff_ne.2 (by omega)
    rw[if_neg hi]
    simp +decide only [bE,Nat.reduceBeqDiff,e1]
end
section
variable {P:Program} {N:Nums} {A:zdk}
def PtrAt (w:World) (c:Value) (o:Option (List UInt8)):Prop:=∃ m:Option Addr,c=.pointer m∧m.isNone=o.isNone∧∀ l,o=some l→∃ b,m=some ⟨b,0,none⟩∧w.cell? ⟨b,0,none⟩=some (strV l)
theorem zxk {w:World} {G:Nat→Prop} {o:Option (List UInt8)} {c:Value} (h:Rep w G (.nstr o) [c]):PtrAt w c o:=by
 cases o with
 | none=>
  have h:[c]=[.pointer none]:=by simpa only [Rep] using h
  injection h with h _
  exact⟨none,h,rfl,fun l e=>by cases e⟩
 | some l=>
  simp only [Rep] at h
  obtain⟨b,e,g,hr⟩:=h
  injection e with e _
  exact⟨_,e,rfl,fun l' e'=>by cases e'; exact⟨b,rfl,hr 0 _ rfl⟩⟩
theorem counted_n2:zae false true 0 2=fixB (-1) 2:=by simp [zae]
theorem zwm (n:Nat):zae false false n 2=fixB n 2:=by simp [zae]
theorem zwl (n:Nat):zae false false n 4=fixB n 4:=by simp [zae]
theorem counted_nc (k:Nat):zae true true 0 k=uvB 0:=by rw[uvB]; simp [zae]
theorem zos (n k:Nat):zae true false n k=uvB (n+1):=by simp [zae]
theorem zrw (B:Base P N) (hP:N.zbc≠0) (hU:FOk P A.zed 2 (zfh N A) [.var 2]) (hI:FOk P A.zce 2 (zgx N A) [.var 2]) (hS:FOk P A.zet 2 (zja N A) [.var 2]) (h:FOk P A.zbn 2 (zgd N A) [.var 2])
  {w:World} {lo:Nat} {d c:Value} {l:List UInt8} {o:Option (List UInt8)} (hp:PtrAt w c o) (hs:(o.getD []).length < 4294967295) (ho:OwnB w lo d l) (hlo:lo≤w.heap.size) (hb:l.length+(Txt.nstr.wr false (.nstr o)).length < 1099511627776) :
  Call P A.zbn #[d,c] w (Apd w lo d l (Txt.nstr.wr false (.nstr o))):=by
 obtain⟨m,rfl,hm,hsome⟩:=hp
 refine h.call rfl fun loc N' hlo'=>?_
 unfold zgd
 refine zd fun K hK=>zi fun τ=>?_
 simp +decide only [bK,Nat.reduceAdd]
 refine hK _ _ (zb fun σ1 hσ=>?_)
 have a0:=hσ 0
 have a1:=hσ 1
 simp +decide only [bE,Nat.reduceBeqDiff,Nat.reduceAdd,Nat.zero_add,zcx,zck] at a0 a1
 clear hσ hK K
 refine zd fun K hK=>zd fun K1 hK1=>zi fun τ=>?_
 simp +decide only [bK,bE,BEq.rfl,Nat.reduceAdd,a1,zxi (B.pstring hP).und]
 refine hK1 _ _ (zb fun σ2 hσ=>?_)
 have c0:=hσ 0
 have c1:=hσ 1
 have c3:=hσ 3
 simp +decide only [bE,Nat.reduceBeqDiff,BEq.rfl,Nat.reduceAdd,Nat.zero_add,a0,a1] at c0 c1 c3
 clear hσ hK1 K1
 refine W_if hlo' c3 ?_
 cases o with
 | none=>
  rw[if_pos (by rw[hm]; rfl)]
  have e:Txt.nstr.wr false (.nstr none)=fixB (-1) 2:=by rw[Txt.wr,counted_n2]
  rw[e] at hb ⊢
  refine zd fun K2 hK2=>zi fun τ=>?_
  simp +decide only [bK,bE,Nat.reduceAdd,Nat.zero_add,c0]
  rw[zah hI.has]
  simp +decide only [bK,bE,BEq.rfl]
  refine(zyd B hU hI (-1) ho hlo hb).mono ?_
  intro v' w' h2
  refine hK2 _ _ (zb fun σ3 hσ=>zbb ?_)
  have b3:=hσ 2
  simp +decide only [bE,BEq.rfl,Nat.reduceAdd] at b3
  exact⟨.inr rfl,_,rfl,by rw[b3]; exact h2⟩
 | some s=>
  rw[if_neg (by rw[hm]; simp)]
  refine zbd (hK _ _ ?_)
  obtain⟨b,rfl,hcell⟩:=hsome s rfl
  have e:Txt.nstr.wr false (.nstr (some s))=fixB s.length 2++s:=by rw[Txt.wr,zwm]
  rw[e] at hb ⊢
  refine zd fun K2 hK2=>zi fun τ=>?_
  simp +decide only [bK,bE,Nat.reduceBeqDiff,Nat.reduceAdd,Nat.zero_add,c0,c1]
  rw[zw rfl]
  simp +decide only [bK,bE,BEq.rfl,B.string.run_load1 rfl,hcell]
  rw[zah hS.has]
  simp +decide only [bK,bE,Nat.reduceBeqDiff,BEq.rfl]
  refine(zaaq B hU hI hS s hs ho hlo hb).mono ?_
  intro v' w' h2
  refine hK2 _ _ (zb fun σ3 hσ=>zbb ?_)
  have b3:=hσ 2
  simp +decide only [bE,BEq.rfl,Nat.reduceAdd] at b3
  exact⟨.inr rfl,_,rfl,by rw[b3]; exact h2⟩
theorem zqy (B:Base P N) (hP:N.zbc≠0) (hU:UvT P N A) (hS:FOk P A.zcs 2 (zfa N A) [.var 2]) (h:FOk P A.zcw 2 (zel N A) [.var 2])
  {w:World} {lo:Nat} {d c:Value} {l:List UInt8} {o:Option (List UInt8)} (hp:PtrAt w c o) (hs:(o.getD []).length < 4294967295) (ho:OwnB w lo d l) (hlo:lo≤w.heap.size) (hb:l.length+(Txt.nstr.wr true (.nstr o)).length < 1099511627776) :
  Call P A.zcw #[d,c] w (Apd w lo d l (Txt.nstr.wr true (.nstr o))):=by
 obtain⟨m,rfl,hm,hsome⟩:=hp
 refine h.call rfl fun loc N' hlo'=>?_
 unfold zel
 refine zd fun K hK=>zi fun τ=>?_
 simp +decide only [bK,Nat.reduceAdd]
 refine hK _ _ (zb fun σ1 hσ=>?_)
 have a0:=hσ 0
 have a1:=hσ 1
 simp +decide only [bE,Nat.reduceBeqDiff,Nat.reduceAdd,Nat.zero_add,zcx,zck] at a0 a1
 clear hσ hK K
 refine zd fun K hK=>zd fun K1 hK1=>zi fun τ=>?_
 simp +decide only [bK,bE,BEq.rfl,Nat.reduceAdd,a1,zxi (B.pstring hP).und]
 refine hK1 _ _ (zb fun σ2 hσ=>?_)
 have c0:=hσ 0
 have c1:=hσ 1
 have c3:=hσ 3
 simp +decide only [bE,Nat.reduceBeqDiff,BEq.rfl,Nat.reduceAdd,Nat.zero_add,a0,a1] at c0 c1 c3
 clear hσ hK1 K1
 refine W_if hlo' c3 ?_
 cases o with
 | none=>
  rw[if_pos (by rw[hm]; rfl)]
  have e:Txt.nstr.wr true (.nstr none)=uvB 0:=by rw[Txt.wr,counted_nc]
  rw[e] at hb ⊢
  refine zd fun K2 hK2=>zi fun τ=>?_
  simp +decide only [bK,bE,Nat.reduceAdd,Nat.zero_add,c0]
  rw[zah hU.uv.has]
  simp +decide only [bK,bE,BEq.rfl]
  refine(zyc B hU (n:=0) (by omega) ho hlo hb).mono ?_
  intro v' w' h2
  refine hK2 _ _ (zb fun σ3 hσ=>zbb ?_)
  have b3:=hσ 2
  simp +decide only [bE,BEq.rfl,Nat.reduceAdd] at b3
  exact⟨.inr rfl,_,rfl,by rw[b3]; exact h2⟩
 | some s=>
  rw[if_neg (by rw[hm]; simp)]
  refine zbd (hK _ _ ?_)
  obtain⟨b,rfl,hcell⟩:=hsome s rfl
  have e:Txt.nstr.wr true (.nstr (some s))=uvB (s.length+1)++s:=by rw[Txt.wr,zos]
  rw[e] at hb ⊢
  refine zd fun K2 hK2=>zi fun τ=>?_
  simp +decide only [bK,bE,Nat.reduceBeqDiff,Nat.reduceAdd,Nat.zero_add,c0,c1]
  rw[zw rfl]
  simp +decide only [bK,bE,BEq.rfl,B.string.run_load1 rfl,hcell]
  rw[zah hS.has]
  simp +decide only [bK,bE,Nat.reduceBeqDiff,BEq.rfl]
  refine(zmy B hU hS s hs ho hlo hb).mono ?_
  intro v' w' h2
  refine hK2 _ _ (zb fun σ3 hσ=>zbb ?_)
  have b3:=hσ 2
  simp +decide only [bE,BEq.rfl,Nat.reduceAdd] at b3
  exact⟨.inr rfl,_,rfl,by rw[b3]; exact h2⟩
theorem fixB8 (n:Int):[u8of (n.fdiv (2 ^ min 56 IntKind.u64.bits)),u8of (n.fdiv (2 ^ min 48 IntKind.u64.bits)),u8of (n.fdiv (2 ^ min 40 IntKind.u64.bits)),u8of (n.fdiv (2 ^ min 32 IntKind.u64.bits)),u8of (n.fdiv (2 ^ min 24 IntKind.u64.bits)),u8of (n.fdiv (2 ^ min 16 IntKind.u64.bits)),u8of (n.fdiv (2 ^ min 8 IntKind.u64.bits)),u8of n]=fixB n 8:=by
 have e:n.fdiv 1=n:=Int.fdiv_one n
 simp only [fixB,u8of,Nat.mul_zero,Int.pow_zero,e]
 rfl
theorem ap_uint64 (B:Base P N) (h:FOk P A.zhc 2 (ziz N A) [.var 2]) (n:Int):ApF P A.zhc (.int .u64 n) (fixB n 8):=by
 intro w lo v l ho hlo hb
 refine h.call rfl fun loc N' hlo'=>?_
 unfold ziz
 refine zd fun K hK=>zi fun τ=>?_
 simp +decide only [bK,Nat.reduceAdd]
 refine hK _ _ (zb fun σ1 hσ=>?_)
 have a0:=hσ 0
 have a1:=hσ 1
 simp +decide only [bE,Nat.reduceBeqDiff,Nat.reduceAdd,Nat.zero_add,zcx,zck] at a0 a1
 clear hσ hK K
 have e6:∀ ρ:Env,(#[(0,T 3),(1,T 6),(2,T 9),(3,T 12),(4,T 15),(5,T 18),(6,T 21),(7,T 23)]:Array (Nat × Operand)).map (fun p=>(p.1,ev ρ p.2))=#[(0,ρ 3),(1,ρ 6),(2,ρ 9),(3,ρ 12),(4,ρ 15),(5,ρ 18),(6,ρ 21),(7,ρ 23)]:=fun ρ=>by simp
 obtain⟨v',w',h1,h2⟩:=zhv (ty:=N.za) (s:=[u8of (n.fdiv (2 ^ min 56 IntKind.u64.bits)),u8of (n.fdiv (2 ^ min 48 IntKind.u64.bits)),u8of (n.fdiv (2 ^ min 40 IntKind.u64.bits)),u8of (n.fdiv (2 ^ min 32 IntKind.u64.bits)),u8of (n.fdiv (2 ^ min 24 IntKind.u64.bits)),u8of (n.fdiv (2 ^ min 16 IntKind.u64.bits)),u8of (n.fdiv (2 ^ min 8 IntKind.u64.bits)),u8of n]) B ho hlo hb
 have h1:(Builtin.append_ #[N.za,N.za] N.za #[v,.slice (some ⟨w.heap.size,0,none⟩) 8 8]).run P (w.alloc (.cells ([u8of (n.fdiv (2 ^ min 56 IntKind.u64.bits)),u8of (n.fdiv (2 ^ min 48 IntKind.u64.bits)),u8of (n.fdiv (2 ^ min 40 IntKind.u64.bits)),u8of (n.fdiv (2 ^ min 32 IntKind.u64.bits)),u8of (n.fdiv (2 ^ min 24 IntKind.u64.bits)),u8of (n.fdiv (2 ^ min 16 IntKind.u64.bits)),u8of (n.fdiv (2 ^ min 8 IntKind.u64.bits)),u8of n].map zz).toArray N.zh))=.ok v' w':=h1
 refine zd fun K hK=>zi fun τ=>?_
 simp +decide only [bK,bE,Nat.reduceBeqDiff,BEq.rfl,Nat.reduceAdd,Int.reduceToNat,Nat.zero_add,a0,a1,e6,zdy (show (0:Int)≤56 by decide),zdy (show (0:Int)≤48 by decide),zdy (show (0:Int)≤40 by decide),zdy (show (0:Int)≤32 by decide),zdy (show (0:Int)≤24 by decide),zdy (show (0:Int)≤16 by decide),zdy (show (0:Int)≤8 by decide),zat B.uint64 B.uint8 ⟨_,rfl⟩,zqu,run_bsL8 B,h1]
 refine hK _ _ (zb fun σ2 hσ=>zbb ?_)
 have b2:=hσ 2
 simp +decide only [bE,BEq.rfl,Nat.reduceAdd] at b2
 exact⟨.inr rfl,_,rfl,by rw[b2,← fixB8]; exact h2⟩
theorem ap_Int64 (B:Base P N) (hU:FOk P A.zhc 2 (ziz N A) [.var 2]) (h:FOk P A.zgu 2 (zmq N A) [.var 2]) (n:Int):ApF P A.zgu (.int .i64 n) (fixB n 8):=by
 intro w lo v l ho hlo hb
 refine h.call rfl fun loc N' hlo'=>?_
 unfold zmq
 refine zd fun K hK=>zi fun τ=>?_
 simp +decide only [bK,Nat.reduceAdd]
 refine hK _ _ (zb fun σ1 hσ=>?_)
 have a0:=hσ 0
 have a1:=hσ 1
 simp +decide only [bE,Nat.reduceBeqDiff,Nat.reduceAdd,Nat.zero_add,zcx,zck] at a0 a1
 clear hσ hK K
 refine zd fun K hK=>zi fun τ=>?_
 simp +decide only [bK,bE,Nat.reduceBeqDiff,BEq.rfl,Nat.reduceAdd,Nat.zero_add,a0,a1,zat B.int64 B.uint64 ⟨_,rfl⟩]
 rw[zah hU.has]
 simp +decide only [bK,bE,Nat.reduceBeqDiff,BEq.rfl]
 refine(ap_uint64 B hU (IntKind.u64.wrap n) ho hlo (by rw[zaw] at hb ⊢; exact hb)).mono ?_
 rw[zia (k:=8) rfl]
 intro v' w' h2
 refine hK _ _ (zb fun σ2 hσ=>zbb ?_)
 have b2:=hσ 2
 simp +decide only [bE,BEq.rfl,Nat.reduceAdd] at b2
 exact⟨.inr rfl,_,rfl,by rw[b2]; exact h2⟩
end
section
variable {P:Program} {N:Nums} {A:zdk}
theorem run_neqP {t a:TypeId} (h:P.underlying t=some (.pointer a)) {x y:Operand} {m:Option Addr} {w:World} :
  (do eqGuard .neq t x y (.pointer m) (.pointer none); binOp .neq t (.pointer m) (.pointer none):Sem Value).run P w=.ok (.bool !m.isNone) w:=by
 have e:(Op.equal t (.pointer m) (.pointer none)).run P w=.ok m.isNone w:=by
  unfold Op.equal Op.maxDepth
  rw[show (10000:Nat)=9999+1 from rfl]
  unfold Op.equalIn
  rw[Sem.run_bind,run_underlying h,Result.andThen_ok]
  cases m<;>rfl
 have e1:(eqGuard .neq t x y (.pointer m) (.pointer none)).run P w=.ok () w:=rfl
 rw[Sem.run_bind,e1,Result.andThen_ok]
 show ((do pure (.bool (!(← Op.equal t (.pointer m) (.pointer none)))):Sem Value)).run P w=_
 rw[Sem.run_bind,e,Result.andThen_ok]
 rfl
theorem tyW_tv (B:Base P N) (C:ApC P N A) {ver:Int} {fl:Bool} {k:Int} (ha:(Ty.tv k).aok P N A):TyW P N A ver fl (.tv k):=by
 intro w0 w G lo b oo vv idx off q kk Tt d l σ loc N' Q v cs hloc hv hsm hrep hr hG hb hlo hT hvv hq h hlen hQ
 obtain⟨⟨hs1,hs0⟩,hn1,hn0,hp⟩:=ha
 cases v with
 | nstr o=>
  have hv':Txt.nstr.okV (.nstr o):=hv
  obtain⟨c,rfl⟩:=zwy hv' hrep
  have hr':w.rangeAt b (oo+off) [c]:=h.mod.rangeAt (by omega) (fun _ _ _ h=>by omega) hr
  have hrep':Rep w G (.nstr o) [c]:=Rep.mod h.mod (fun k hk=>⟨by have:=hG k hk; omega,fun _ h=>by have:=hG k hk; omega,hk⟩) _ hrep
  have hld:ldv (.pointer N.zac) [c]=c:=rfl
  unfold Ty.agen cAtv
  refine zd fun K hK=>zvr hT (B.pstring hp) hvv hr' rfl (fun _=>rfl) fun σ1 f1 g1=>hK _ _ ?_
  rw[hld] at g1
  clear hK K
  have h1:AS w0 lo ver fl d l σ1 w:=h.env (f1 1 (by omega)) (f1 3 (by omega)) (f1 4 (by omega))
  refine zd fun K hK=>zi fun τ=>?_
  simp +decide (disch:=omega) only [bK,bE,BEq.rfl,Nat.reduceAdd,h1.f3]
  refine hK _ _ (zb fun σ2 hσ=>?_)
  have g2:∀ i,i≠q+1→σ2 i=σ1 i:=fun i hi=>by
   rw[hσ i]
   have e1:(i+100 == q+1+100)=false:=beq_eq_false_iff_ne.2 (by omega)
   simp +decide (disch:=omega) only [bE,Nat.reduceBeqDiff,e1]
  have gq2:σ2 (q+1)=.bool (decide (ver < k)):=by
   rw[hσ (q+1)]
   simp +decide (disch:=omega) only [bE,BEq.rfl]
  clear hσ hK K
  have h2:AS w0 lo ver fl d l σ2 w:=h1.env (g2 1 (by omega)) (g2 3 (by omega)) (g2 4 (by omega))
  have ewr:(Ty.tv k).wr ver fl (.nstr o)=if ver < k then tvW fl (.nstr o) else Txt.nstr.wr fl (.nstr o):=by simp only [Ty.wr]
  rw[ewr] at hlen hQ
  refine W_if hloc gq2 ?_
  by_cases hk:ver < k
  ·simp only [hk,decide_true,if_true] at hlen hQ ⊢
   refine zd fun K hK=>zi fun τ=>?_
   simp +decide (disch:=omega) only [bK]
   refine hK _ _ (zb fun σ3 hσ=>?_)
   have g3:∀ i,i≠q+2→σ3 i=σ2 i:=fun i hi=>by
    rw[hσ i]
    have e1:(i+100 == q+2+100)=false:=beq_eq_false_iff_ne.2 (by omega)
    simp +decide (disch:=omega) only [bE,e1]
   have gq3:σ3 (q+2)=.string ⟨#[]⟩:=by
    rw[hσ (q+2)]
    simp +decide (disch:=omega) only [bE,BEq.rfl]
   clear hσ hK K
   have gc:σ3 q=c:=(g3 q (by omega)).trans ((g2 q (by omega)).trans g1)
   obtain⟨m,rfl,hm,hsome⟩:=zxk hrep'
   have fin:∀ σ4:Env,(∀ i,i≠q+2→i≠q+3→σ4 i=σ3 i)→σ4 (q+2)=strV (o.getD [])→W P loc N' (.seq (.ops [⟨some 0,.move (V (q+2)),0,none,[]⟩,⟨some (q+4+100),.assign (T 0),0,none,[]⟩]) (Txt.str.apJ N A (q+4) (q+5))) Q σ4 w:=by
    intro σ4 g4 gs
    refine zd fun K hK=>zi fun τ=>?_
    simp +decide (disch:=omega) only [bK,bE,BEq.rfl,gs]
    refine hK _ _ (zb fun σ5 hσ=>?_)
    have g5:∀ i,i≠q+4→σ5 i=σ4 i:=fun i hi=>by
     rw[hσ i]
     have e1:(i+100 == q+4+100)=false:=beq_eq_false_iff_ne.2 (by omega)
     simp +decide (disch:=omega) only [bE,Nat.reduceBeqDiff,e1]
    have gq5:σ5 (q+4)=strV (o.getD []):=by
     rw[hσ (q+4)]
     simp +decide (disch:=omega) only [bE,BEq.rfl]
    clear hσ hK K
    have ga:∀ i,i≠q+2→i≠q+3→i≠q+4→σ5 i=σ2 i:=fun i x y z=>(g5 i z).trans ((g4 i x y).trans (g3 i x))
    have h5:AS w0 lo ver fl d l σ5 w:=h2.env (ga 1 (by omega) (by omega) (by omega)) (ga 3 (by omega) (by omega) (by omega)) (ga 4 (by omega) (by omega) (by omega))
    have hsm2:(o.getD []).length < 4294967295:=by
     cases o with
     | none=>simp
     | some s=>simpa only [Val.sm,Option.getD_some] using hsm
    have hwr:Txt.str.wr fl (.num (strV (o.getD [])))=tvW fl (.nstr o):=by rw[Txt.wr,zml,tvW]
    rw[← hwr] at hlen hQ
    refine W_txtApJ (v:=.num (strV (o.getD []))) (G:=G) C hs1 hs0 (show Txt.str.okV _ from ⟨_,rfl,by unfold big; omega⟩) (show (zgk _).length < _ by rw[zml]; exact hsm2) (by omega) (by omega) hloc (by omega) gq5 (by simp only [Rep]; rfl) hG h5 hlo hlen fun σ' w' d' ha f=>hQ σ' w' d' ha fun i hi h1'=>?_
    exact(f i h1' (by omega)).trans ((ga i (by omega) (by omega) (by omega)).trans ((g2 i (by omega)).trans (f1 i (by omega))))
   refine zd fun K hK=>zd fun K1 hK1=>zi fun τ=>?_
   simp +decide (disch:=omega) only [bK,bE,BEq.rfl,gc,run_neqP (B.pstring hp).und]
   refine hK1 _ _ (zb fun σ4 hσ=>?_)
   have g4:∀ i,i≠q+3→σ4 i=σ3 i:=fun i hi=>by
    rw[hσ i]
    have e1:(i+100 == q+3+100)=false:=beq_eq_false_iff_ne.2 (by omega)
    simp +decide (disch:=omega) only [bE,Nat.reduceBeqDiff,e1]
   have gq4:σ4 (q+3)=.bool !m.isNone:=by
    rw[hσ (q+3)]
    simp +decide (disch:=omega) only [bE,BEq.rfl]
   clear hσ hK1 K1
   refine W_if hloc gq4 ?_
   cases o with
   | none=>
    rw[hm]
    simp only [Option.isNone_none,Bool.not_true,Bool.false_eq_true,if_false]
    exact zbd (hK _ _ (fin σ4 (fun i _ y=>g4 i y) ((g4 _ (by omega)).trans gq3)))
   | some s=>
    rw[hm]
    simp only [Option.isNone_some,Bool.not_false,if_true]
    obtain⟨b',rfl,hcell⟩:=hsome s rfl
    have gc4:σ4 q=.pointer (some ⟨b',0,none⟩):=(g4 q (by omega)).trans gc
    refine zi fun τ=>?_
    simp +decide (disch:=omega) only [bK,bE,BEq.rfl,gc4]
    rw[zw rfl]
    simp +decide (disch:=omega) only [bK,bE,BEq.rfl,B.string.run_load1 rfl,hcell]
    refine hK _ _ (zb fun σ5 hσ=>fin σ5 (fun i x y=>?_) ?_)
    ·rw[hσ i]
     have e1:(i+100 == q+2+100)=false:=beq_eq_false_iff_ne.2 (by omega)
     simp +decide (disch:=omega) only [bE,Nat.reduceBeqDiff,e1]
     exact g4 i y
    ·rw[hσ (q+2)]
     simp +decide (disch:=omega) only [bE,BEq.rfl]
     rfl
  ·simp only [hk,decide_false,Bool.false_eq_true,if_false] at hlen hQ ⊢
   exact W_txtApJ (v:=.nstr o) C hn1 hn0 hv' hsm (by omega) (by omega) hloc hq ((g2 q (by omega)).trans g1) hrep' hG h2 hlo hlen fun σ' w' d' ha f=>hQ σ' w' d' ha fun i hi h1'=>(f i h1' (by omega)).trans ((g2 i (by omega)).trans (f1 i (by omega)))
 | _=>exact absurd hv (by intro h; exact h.elim)
end
section
variable {P:Program} {N:Nums} {A:zdk}
theorem tyW_arr (B:Base P N) (C:ApC P N A) {ver:Int} {fl:Bool} (hver:0≤ver) {st:Nat} {nul:Option Int} {e:El} (ha:(Ty.arr st nul e).aok P N A) (he:ElW P N A ver fl e):TyW P N A ver fl (.arr st nul e):=by
 intro w0 w G lo b oo vv idx off q kk Tt d l σ loc N' Q v cs hloc hv hsm hrep hr hG hb hlo hT hvv hq h hlen hQ
 obtain⟨hst,het,hal,hea⟩:=ha
 have go:∀ (a:Option Addr) (c:Nat) (vs:List Val),w0.cell? ⟨b,oo+off,none⟩=some (.slice a vs.length c)→vs.length < 4294967295→(∀ x∈vs,e.okV x)→(∀ x∈vs,x.sm)→
   (vs≠[]→∃ be css,a=some ⟨be,0,none⟩∧(∀ x∈css,x.length=e.sz)∧RepL w0 G vs css∧w0.rangeAt be 0 css.flatten∧be < lo)→
   l.length+(zae fl (nul.isSome && a.isNone) vs.length 4++vs.flatMap (e.wr ver fl)).length < 1099511627776→
   (∀ σ' w' d',AS w0 lo ver fl d' (l++(zae fl (nul.isSome && a.isNone) vs.length 4++vs.flatMap (e.wr ver fl))) σ' w'→(∀ i,i < q→i≠1→σ' i=σ i)→Q .normal σ' w')→W P loc N' (Ty.agen N A vv Tt idx (.arr st nul e) q kk) Q σ w:=by
  intro a c vs hcell hvl hok hsmv hmem hlen hQ
  obtain⟨cnt,hcnt⟩:∃ x,x=zae fl (nul.isSome && a.isNone) vs.length 4:=⟨_,rfl⟩
  rw[← hcnt] at hlen hQ
  rw[List.length_append] at hlen
  have hr':w.rangeAt b (oo+off) [.slice a vs.length c]:=zfe.2 (by rw[h.mod.cell _ _ (by omega) (fun h=>by omega)]; exact hcell)
  unfold Ty.agen
  refine zd fun K hK=>zvr hT hst hvv hr' rfl (fun _=>rfl) fun σ1 f1 g1=>hK _ _ ?_
  clear hK K
  have g1:σ1 q=.slice a vs.length c:=g1
  have h1:=h.env (σ':=σ1) (f1 1 (by omega)) (f1 3 (by omega)) (f1 4 (by omega))
  refine zd fun K hK=>W_al C hloc hst hal hq g1 hvl h1 hlo (by rw[← hcnt]; omega) fun σ2 w2 d2 h2 f2=>hK _ _ ?_
  clear hK K
  rw[← hcnt] at h2
  have g2:σ2 q=.slice a vs.length c:=by rw[f2 q (by omega) (by omega)]; exact g1
  refine zd fun K hK=>zi fun τ=>?_
  simp +decide (disch:=omega) only [bK,bE,BEq.rfl,g2,hst.run_len]
  refine hK _ _ (zb fun σ3 hσ=>?_)
  have f3:∀ i,i≠q+2→i≠q+3→σ3 i=σ2 i:=fun i hi1 hi2=>by
   rw[hσ i]
   have e1:(i+100 == q+2+100)=false:=beq_eq_false_iff_ne.2 (by omega)
   have e2:(i+100 == q+3+100)=false:=beq_eq_false_iff_ne.2 (by omega)
   simp +decide (disch:=omega) only [bE,Nat.reduceBeqDiff,e1,e2]
  have n3:σ3 (q+2)=.int .i64 vs.length:=by
   rw[hσ (q+2)]
   have e2:(q+2+100 == q+3+100)=false:=beq_eq_false_iff_ne.2 (by omega)
   simp +decide (disch:=omega) only [bE,BEq.rfl,e2]
  have j3:σ3 (q+3)=.int .i64 ((0:Nat):Int):=by
   rw[hσ (q+3)]
   simp +decide (disch:=omega) only [bE,BEq.rfl]
   rfl
  clear hσ hK K
  refine ztg hloc (L:=vs.length) (by omega) (fun j σ w=>(∃ d,AS w0 lo ver fl d (l++cnt++(vs.take j).flatMap (e.wr ver fl)) σ w)∧σ q=.slice a vs.length c∧σ (q+2)=.int .i64 vs.length∧σ (q+3)=.int .i64 j∧j≤vs.length∧∀ i,i < q→i≠1→σ i=σ2 i)
   (fun j σ w h=>⟨h.2.2.2.1,h.2.2.1,h.2.2.2.2.1⟩) (fun j σ w b h=>?_) ?_ (fun σ' w' h=>?_) (fun j σ4 w4 hj h=>?_)
  ·obtain⟨⟨d,hd⟩,i1,i2,i3,i4,i5⟩:=h
   exact⟨⟨d,hd.env (zg (by omega)) (zg (by omega)) (zg (by omega))⟩,by rw[zg (by omega)]; exact i1,by rw[zg (by omega)]; exact i2,by rw[zg (by omega)]; exact i3,i4,fun i hi h1=>by rw[zg (by omega)]; exact i5 i hi h1⟩
  ·exact⟨⟨d2,by rw[List.take_zero,List.flatMap_nil,List.append_nil]; exact h2.env (f3 1 (by omega) (by omega)) (f3 3 (by omega) (by omega)) (f3 4 (by omega) (by omega))⟩,by rw[f3 q (by omega) (by omega)]; exact g2,n3,j3,Nat.zero_le _,fun i hi _=>f3 i (by omega) (by omega)⟩
  ·obtain⟨⟨d5,hd⟩,_,_,_,_,i5⟩:=h
   rw[List.take_length,List.append_assoc] at hd
   exact hQ σ' w' d5 hd fun i hi h1=>((i5 i hi h1).trans (f2 i h1 (by omega))).trans (f1 i (by omega))
  ·obtain⟨⟨d5,hd⟩,i1,i2,i3,i4,i5⟩:=h
   have hx:vs[j]?=some vs[j]:=List.getElem?_eq_getElem hj
   obtain⟨be,css,rfl,hcs,hrl,hrg,hbe⟩:=hmem (fun e=>by rw[e] at hj; simp at hj)
   obtain⟨cj,hcj,hrj⟩:=hrl.get hx
   have hgj:=zmn hrg hcs hcj
   rw[Nat.zero_add] at hgj
   have htk:(vs.take (j+1)).flatMap (e.wr ver fl)=(vs.take j).flatMap (e.wr ver fl)++e.wr ver fl vs[j]:=by
    rw[List.take_add_one,hx]; simp only [Option.toList_some,List.flatMap_append,List.flatMap_cons,List.flatMap_nil,List.append_nil]
   have hlj:((vs.take j).flatMap (e.wr ver fl)).length+(e.wr ver fl vs[j]).length≤(vs.flatMap (e.wr ver fl)).length:=by
    have e1:vs.flatMap (e.wr ver fl)=(vs.take (j+1)).flatMap (e.wr ver fl)++(vs.drop (j+1)).flatMap (e.wr ver fl):=by rw[← List.flatMap_append,List.take_append_drop]
    rw[e1,htk,List.length_append,List.length_append]; omega
   refine zd fun K2 hK2=>zi fun τ=>?_
   simp +decide (disch:=omega) only [bK,bE,BEq.rfl,i3]
   refine hK2 _ _ (zb fun σ5 hσ=>?_)
   have f5:∀ i,i≠q+5→σ5 i=σ4 i:=fun i hi=>by
    rw[hσ i]
    have e1:(i+100 == q+5+100)=false:=beq_eq_false_iff_ne.2 (by omega)
    simp +decide (disch:=omega) only [bE,Nat.reduceBeqDiff,e1]
   have g5:σ5 (q+5)=.int .i64 j:=by
    rw[hσ (q+5)]
    simp +decide (disch:=omega) only [bE,BEq.rfl]
   clear hσ hK2 K2
   refine he vs[j] cj hloc (hok _ (List.getElem_mem hj)) (hsmv _ (List.getElem_mem hj)) hrj hgj hG hbe hlo hst het (by rw[f5 q (by omega)]; exact i1) g5 hj hq (hd.env (f5 1 (by omega)) (f5 3 (by omega)) (f5 4 (by omega))) (by rw[List.length_append,List.length_append]; omega) fun σ6 w6 d6 h6 f6=>?_
   have k3:σ6 (q+3)=.int .i64 j:=by rw[f6 (q+3) (by omega) (by omega),f5 (q+3) (by omega)]; exact i3
   refine⟨k3,⟨d6,?_⟩,by rw[zg (by omega),f6 q (by omega) (by omega),f5 q (by omega)]; exact i1,by rw[zg (by omega),f6 (q+2) (by omega) (by omega),f5 (q+2) (by omega)]; exact i2,upd_same _ _ _,hj,fun i hi h1=>by rw[zg (by omega),f6 i (by omega) h1,f5 i (by omega)]; exact i5 i hi h1⟩
   rw[htk,← List.append_assoc]
   exact h6.env (zg (by omega)) (zg (by omega)) (zg (by omega))
 cases v with
 | nilA=>
  simp only [Rep] at hrep
  subst hrep
  have e1:(nul.isSome && (none:Option Addr).isNone)=nulAt ver nul:=by
   cases nul with
   | none=>rfl
   | some k=>
    have:k≤ver:=by have:=hal.1; omega
    simp [nulAt,this]
  refine go none 0 [] (by have:=hr 0 _ rfl; simpa using this) (by simp) (fun x hx=>by cases hx) (fun x hx=>by cases hx) (fun h=>absurd rfl h) ?_ ?_
  ·rw[e1]; simpa [Ty.wr] using hlen
  ·rw[e1]; simpa [Ty.wr] using hQ
 | arr sz vs=>
  obtain⟨rfl,hlen2,hok⟩:=hv
  simp only [Rep] at hrep
  obtain⟨be,c,css,rfl,hle,hGb,hcs,hrl,hrg⟩:=hrep
  have e1:(nul.isSome && (some (⟨be,0,none⟩:Addr)).isNone)=false:=by simp
  refine go (some ⟨be,0,none⟩) c vs (by have:=hr 0 _ rfl; simpa using this) (by simp only [Val.sm] at hsm; exact hsm.1) hok (fun x hx=>by simp only [Val.sm] at hsm; exact smL.mem hsm.2 x hx) (fun hne=>⟨be,css,rfl,hcs,hrl,hrg,hG be (hGb hne)⟩) ?_ ?_
  ·rw[e1]; simpa [Ty.wr] using hlen
  ·rw[e1]; simpa [Ty.wr] using hQ
 | _=>simp only [Ty.okV] at hv
end
section
variable {P:Program} {N:Nums} {A:zdk}
theorem W_cAp1 (B:Base P N) {loc:List Nat} {N':Nat} {Q:Exit→Env→World→Prop} {σ:Env} {w0 w:World} {lo:Nat} {ver:Int} {fl:Bool} {d:Value} {l:List UInt8} {x:UInt8} {xi:Int} (hx:xi=x.toNat) (h:AS w0 lo ver fl d l σ w) (hlo:lo≤w0.heap.size) (hb:l.length+1 < 1099511627776)
  (hQ:∀ σ' w' d',AS w0 lo ver fl d' (l++[x]) σ' w'→(∀ i,i≠1→σ' i=σ i)→Q .normal σ' w'):W P loc N' (cAp1 N xi) Q σ w:=by
 have hbs:=zrh (w:=w) (v:=zz x) (cs:=[zz x]) B.Lu8 B.uint8 rfl rfl (by decide) (by decide)
 obtain⟨v',w',hap,ha⟩:=zhv B (ty:=N.za) (s:=[x]) h.own (Nat.le_trans hlo h.mod.size) (by simpa using hb)
 have hap:(Builtin.append_ #[N.za,N.za] N.za #[d,.slice (some ⟨w.heap.size,0,none⟩) 1 1]).run P (w.alloc (.cells [zz x].toArray N.zh))=.ok v' w':=hap
 have e1:∀ ρ:Env,(#[(0,.const (.int .u8 xi))]:Array (Nat × Operand)).map (fun p=>(p.1,ev ρ p.2))=#[(0,zz x)]:=fun ρ=>by simp [zz,hx]
 unfold cAp1
 refine zi fun τ=>?_
 simp +decide (disch:=omega) only [bK,bE,Nat.reduceBeqDiff,BEq.rfl,Nat.reduceAdd,h.f1,e1,hbs,hap]
 refine zb (K:=fun σ' w'=>Q .normal σ' w') fun σ1 hσ=>?_
 have g:∀ i,i≠1→σ1 i=σ i:=fun i hi=>by
  rw[hσ i]
  have e2:(i+100 == 101)=false:=beq_eq_false_iff_ne.2 (by omega)
  simp +decide (disch:=omega) only [bE,Nat.reduceBeqDiff,e2]
 have g1:σ1 1=v':=by
  rw[hσ 1]
  simp +decide (disch:=omega) only [bE,BEq.rfl,Nat.reduceAdd]
 exact hQ σ1 w' v' (h.step ha g1 (g 3 (by decide)) (g 4 (by decide))) g
theorem tyW_ptr (B:Base P N) {ver:Int} {fl:Bool} {T' pT:TypeId} {f:FuncId} {fs:Fds} (ha:(Ty.ptr T' pT f fs).aok P N A) (h1:FdsW P N A ver fl fs):TyW P N A ver fl (.ptr T' pT f fs):=by
 intro w0 w G lo b oo vv idx off q kk Tt d l σ loc N' Q v cs hloc hv hsm hrep hr hG hb hlo hT hvv hq h hlen hQ
 obtain⟨hp,hhf,_⟩:=ha
 rw[Ty.agen]
 unfold cAptr
 have hcell:∃ m:Option Addr,cs=[.pointer m]:=by
  cases v<;>simp only [Ty.okV] at hv
  ·simp only [Rep] at hrep; exact⟨none,hrep⟩
  ·simp only [Rep] at hrep; obtain⟨b',css,e,_⟩:=hrep; exact⟨_,e⟩
 obtain⟨m,rfl⟩:=hcell
 have hr':w.rangeAt b (oo+off) [.pointer m]:=h.mod.rangeAt (by omega) (fun _ _ _ h=>by omega) hr
 have hld:ldv (.pointer T') [.pointer m]=.pointer m:=rfl
 refine zd fun K hK=>zvr hT hp hvv hr' rfl (fun _=>rfl) fun σ1 f1 g1=>hK _ _ ?_
 rw[hld] at g1
 clear hK K
 have a1:AS w0 lo ver fl d l σ1 w:=h.env (f1 1 (by omega)) (f1 3 (by omega)) (f1 4 (by omega))
 refine zd fun K hK=>zi fun τ=>?_
 simp +decide (disch:=omega) only [bK,bE,BEq.rfl,g1,zxi hp.und]
 refine hK _ _ (zb fun σ2 hσ=>?_)
 have g2:∀ i,i≠q+1→σ2 i=σ1 i:=fun i hi=>by
  rw[hσ i]
  have e1:(i+100 == q+1+100)=false:=beq_eq_false_iff_ne.2 (by omega)
  simp +decide (disch:=omega) only [bE,Nat.reduceBeqDiff,e1]
 have gq2:σ2 (q+1)=.bool m.isNone:=by
  rw[hσ (q+1)]
  simp +decide (disch:=omega) only [bE,BEq.rfl]
 clear hσ hK K
 have a2:AS w0 lo ver fl d l σ2 w:=a1.env (g2 1 (by omega)) (g2 3 (by omega)) (g2 4 (by omega))
 refine W_if hloc gq2 ?_
 cases v with
 | nilP=>
  simp only [Rep] at hrep
  cases hrep
  have e:(Ty.ptr T' pT f fs).wr ver fl .nilP=[255]:=by simp only [Ty.wr]; decide
  rw[e] at hlen hQ
  simp only [Option.isNone_none,if_true]
  exact W_cAp1 B (x:=255) rfl a2 hlo (by simpa using hlen) fun σ' w' d' h' f'=>hQ σ' w' d' h' fun i hi h1=>(f' i h1).trans ((g2 i (by omega)).trans (f1 i (by omega)))
 | ptr vs=>
  simp only [Rep] at hrep
  obtain⟨b',css,e,hGb,hrl,hrg⟩:=hrep
  cases e
  have e:(Ty.ptr T' pT f fs).wr ver fl (.ptr vs)=[1]++fs.wr ver fl vs:=by
   simp only [Ty.wr]
   rw[show fixB 1 1=[1] from by decide]
  rw[e] at hlen hQ
  rw[List.length_append] at hlen
  simp only [Option.isNone_some,Bool.false_eq_true,if_false]
  have gq:σ2 q=.pointer (some ⟨b',0,none⟩):=(g2 q (by omega)).trans g1
  refine zfp (by simp) ?_
  refine zaa fun K hK=>W_cAp1 B (x:=1) rfl a2 hlo (by simp only [List.length_cons,List.length_nil] at hlen; omega) fun σ3 w3 d3 h3 f3=>hK _ _ ?_
  have key:=h1 (Tt:=T') (idx:=0) (oo:=0) (off:=0) (kk:=kk) (vv:=q) (q:=q+2) (tl:=[]) (Q:=Q) vs css hloc hv (by simpa only [Val.sm] using hsm) hrl hrg hG (hG b' hGb) hlo hhf (by rw[f3 q (by omega)]; exact gq) (by omega) (by omega) (by omega) h3 (by rw[List.length_append]; omega) fun σ4 w4 d4 h4 f4=>hQ σ4 w4 d4 (by rw[← List.append_assoc]; exact h4) fun i hi h1=>(f4 i (by omega) h1).trans ((f3 i h1).trans ((g2 i (by omega)).trans (f1 i (by omega))))
  rw[List.append_nil] at key
  exact key
 | _=>simp only [Ty.okV] at hv
end
section
variable {P:Program} {N:Nums} {A:zdk}
mutual
theorem Ty.wW (B:Base P N) (F:Fns P N) (C:ApC P N A) {ver:Int} {fl:Bool} (hver:0≤ver):∀ (ty:Ty),ty.aok P N A→TyW P N A ver fl ty
 | .pr k d,h=>tyW_pr B C h
 | .txt t,h=>tyW_txt B C h
 | .arr st nul e,h=>tyW_arr B C hver h (El.wW B F C hver e h.2.2.2)
 | .row ..,h=>h.elim
 | .tv _,h=>tyW_tv B C h
 | .ptr T pT d fs,h=>tyW_ptr B h (Fds.wW B F C hver fs h.2.2)
theorem El.wW (B:Base P N) (F:Fns P N) (C:ApC P N A) {ver:Int} {fl:Bool} (hver:0≤ver):∀ (e:El),e.aok P N A→ElW P N A ver fl e
 | .pr k,h=>elW_pr B C h
 | .txt t,h=>elW_txt B C h
 | .row T' pT d fs,h=>elW_row B h.1 (Fds.wW B F C hver fs h.2)
theorem Fds.wW (B:Base P N) (F:Fns P N) (C:ApC P N A) {ver:Int} {fl:Bool} (hver:0≤ver):∀ (fs:Fds),fs.aok P N A→FdsW P N A ver fl fs
 | .nil,_=>fdsW_nil
 | .tags _,_=>fdsW_tags B F C
 | .cons g ty r,h=>fdsW_cons B (Ty.wW B F C hver ty h.1) (Fds.wW B F C hver r h.2)
end
theorem zxw (B:Base P N) (F:Fns P N) (C:ApC P N A) {m:Msg} (ha:m.fs.aok P N A) (hhf:m.fs.hf P m.tT 1 1) (hv0:HF P m.tT 0 0) {f:FuncId} (hF:FOk P f 2 (m.appC N A) [.var 2])
  {w:World} {G:Nat→Prop} {M lo:Nat} {ver:Int} {d:Value} {l:List UInt8} {vs:List Val} {css:List (List Value)} (hver:0≤ver) (hc:w.cell? ⟨M,0,none⟩=some (.int .i16 ver)) (hv:m.fs.okV vs) (hsm:smL vs) (hrep:RepL w G vs css) (hr:w.rangeAt M 1 css.flatten)
  (hG:∀ k,G k→k < lo) (hM:M < lo) (hlo:lo≤w.heap.size) (ho:OwnB w lo d l) (hlen:l.length+(m.fs.wr ver (decide (ver ≥ m.fl)) vs).length < 1099511627776) :
  Call P f #[.pointer (some ⟨M,0,none⟩),d] w fun v' w'=>OwnB w' lo v' (l++m.fs.wr ver (decide (ver ≥ m.fl)) vs)∧Mod w w' (fun k _=>lo≤k):=by
 refine hF.call rfl fun loc N' hloc=>?_
 unfold Msg.appC
 rw[List.append_assoc]
 refine zfp (by simp) ?_
 simp only [List.cons_append,List.nil_append]
 refine zaa fun K hK=>zi fun τ=>?_
 simp +decide only [bK]
 refine hK _ _ (zb fun σ1 hσ=>?_)
 have a0:=hσ 0
 have a1:=hσ 1
 simp +decide only [bE,Nat.reduceBeqDiff,Nat.reduceAdd,Nat.zero_add,zcx,zck] at a0 a1
 clear hσ hK K
 refine zaa fun K hK=>zi fun τ=>?_
 simp +decide only [bK,bE,BEq.rfl,Nat.zero_add,a0]
 rw[zw rfl]
 simp +decide only [bK,bE,BEq.rfl,Nat.add_zero,hv0.run,B.int16.run_load1 rfl,hc]
 refine hK _ _ (zb fun σ2 hσ=>?_)
 have b0:=hσ 0
 have b1:=hσ 1
 have b3:=hσ 3
 simp +decide only [bE,Nat.reduceBeqDiff,BEq.rfl,Nat.reduceAdd,Nat.zero_add,a0,a1] at b0 b1 b3
 clear hσ hK K
 refine zaa fun K hK=>zi fun τ=>?_
 simp +decide only [bK,bE,Nat.reduceAdd]
 refine hK _ _ (zb fun σ3 hσ=>?_)
 have c0:=hσ 0
 have c1:=hσ 1
 have c3:=hσ 3
 simp +decide only [bE,Nat.reduceBeqDiff,Nat.reduceAdd,Nat.zero_add,b0,b1,b3] at c0 c1 c3
 clear hσ hK K
 refine zaa fun K hK=>zi fun τ=>?_
 simp +decide only [bK,bE,BEq.rfl,Nat.reduceAdd,c3]
 refine hK _ _ (zb fun σ4 hσ=>?_)
 have d0:=hσ 0
 have d1:=hσ 1
 have d3:=hσ 3
 have d4:=hσ 4
 simp +decide only [bE,Nat.reduceBeqDiff,BEq.rfl,Nat.reduceAdd,Nat.zero_add,c0,c1,c3] at d0 d1 d3 d4
 clear hσ hK K
 refine zaa fun K hK=>zi fun τ=>?_
 simp +decide only [bK,bE,Nat.reduceAdd]
 refine hK _ _ (zb fun σ5 hσ=>?_)
 have e0:=hσ 0
 have e1:=hσ 1
 have e3:=hσ 3
 have e4:=hσ 4
 simp +decide only [bE,Nat.reduceBeqDiff,Nat.reduceAdd,Nat.zero_add,d0,d1,d3,d4] at e0 e1 e3 e4
 clear hσ hK K
 refine Fds.wW B F C hver m.fs ha (idx:=1) (off:=1) (oo:=0) (vv:=0) (q:=5) (kk:=0) vs css hloc hv hsm hrep (by rw[Nat.zero_add]; exact hr) hG hM hlo hhf e0 (by decide) (by decide) (by decide) ⟨e1,e3,e4,ho,.refl _ _⟩ hlen fun σ6 w6 d6 h6 _=>?_
 refine zaa fun K hK=>zi fun τ=>?_
 simp +decide only [bK,bE,BEq.rfl,Nat.reduceAdd,h6.f1]
 refine hK _ _ (zb fun σ7 hσ=>zaa fun K2 hK2=>zbb ?_)
 have g2:=hσ 2
 simp +decide only [bE,BEq.rfl,Nat.reduceAdd] at g2
 exact⟨.inr rfl,_,rfl,by rw[g2]; exact h6.own,h6.mod⟩
end
theorem okV_sm {k:PK} {v:Value} (h:k.okV v):(Val.num v).sm:=by
 simp only [Val.sm]
 cases k with
 | bool=>obtain⟨x,rfl⟩:=h; simp [zgk]
 | uuid=>obtain⟨x,rfl,hx⟩:=h; simp [zgk,hx]
 | _=>obtain⟨x,rfl,_⟩:=h; simp [zgk]
theorem zyp (k:Txt) (fl null:Bool) (hn:k=.str∨k=.byt→null=false) (pt:Tr→List UInt8) (t:Tr) (r r':List UInt8) (kind:Int) (hk:kind=k.kind) (v:Val) (hr:k.rd fl (rs (valB fl kind pt null t++r))=(v,rs r')):v.sm:=by
 obtain⟨v',h1,h2,h3,_,_⟩:=txt_rs k fl null hn pt t r kind hk
 rw[h1] at hr
 injection hr with hr _
 subst hr
 have hw:=zir t.s
 cases k with
 | str=>
  have hn:=hn (.inl rfl)
  subst hn
  have e:∃ x,v'=.num (strV x):=⟨_,(congrArg Prod.fst h1).symm⟩
  obtain⟨x,rfl⟩:=e
  have h3:zgk (strV x)=zbv t.s:=h3 rfl
  simp only [Val.sm,h3]; omega
 | nstr=>
  have e:∃ x,v'=.nstr x:=⟨_,(congrArg Prod.fst h1).symm⟩
  obtain⟨x,rfl⟩:=e
  cases x with
  | none=>simp only [Val.sm]
  | some x=>
   have h3:x=zbv t.s:=h3 (show null=false from h2.symm)
   subst h3
   simp only [Val.sm]; omega
 | byt=>
  have hn:=hn (.inr rfl)
  have e:∃ x,v'=.oct x:=⟨_,(congrArg Prod.fst h1).symm⟩
  obtain⟨x,rfl⟩:=e
  have h3:x.getD []=zbv t.s:=h3 hn
  cases x with
  | none=>simp only [Val.sm]
  | some x=>
   have h3:x=zbv t.s:=h3
   subst h3
   simp only [Val.sm]; omega
 | nbyt=>
  have e:∃ x,v'=.oct x:=⟨_,(congrArg Prod.fst h1).symm⟩
  obtain⟨x,rfl⟩:=e
  cases x with
  | none=>simp only [Val.sm]
  | some x=>
   have h3:x=zbv t.s:=h3 (show null=false from h2.symm)
   subst h3
   simp only [Val.sm]; omega
theorem rdN_sm {e:El} {fl:Bool} {ver o:Int} {sub:List Fld} (he:ElRd fl ver e o sub) (hw:∀ (t:Tr) (r:List UInt8) (v:Val),wfT t→e.rd ver fl (rs (valB fl o (zci fl ver sub) false t++r))=some (v,rs r)→v.sm) :
  ∀ (l:List Tr) (r:List UInt8) (vs:List Val),(∀ x∈l,wfT x)→rdN (e.rd ver fl) l.length (rs (l.flatMap (valB fl o (zci fl ver sub) false)++r))=some (vs,rs r)→smL vs∧vs.length=l.length
 | [],r,vs,_,h=>by
  simp only [List.length_nil,rdN,Option.some.injEq,Prod.mk.injEq] at h
  rw[← h.1]; exact⟨by simp only [smL],rfl⟩
 | x :: l,r,vs,hwf,h=>by
  obtain⟨v,h1,_,_⟩:=he x (l.flatMap (valB fl o (zci fl ver sub) false)++r) (hwf x (by simp))
  rw[List.length_cons,rdN,List.flatMap_cons,List.append_assoc,h1] at h
  simp only at h
  split at h
  ·cases h
  ·rename_i l' s' h2
   simp only [Option.some.injEq,Prod.mk.injEq] at h
   obtain⟨rfl,rfl⟩:=h
   have:=rdN_sm he hw l r l' (fun y hy=>hwf y (by simp [hy])) h2
   exact⟨by simp only [smL]; exact⟨hw x _ v (hwf x (by simp)) h1,this.1⟩,by simp [this.2]⟩
def Ty.dE:Ty→Prop
 | .arr _ _ e=>e.dOk'
 | .ptr _ _ _ fs=>fs.dOk
 | _=>True
theorem dOk_cons {g:Gd} {ty:Ty} {r:Fds} (h:(Fds.cons g ty r).dOk):ty.dE∧r.dOk:=by
 cases ty with
 | pr k d=>exact⟨trivial,h.2⟩
 | txt k=>exact⟨trivial,h⟩
 | tv k=>exact⟨trivial,h⟩
 | arr st nul e=>exact⟨h.1,h.2⟩
 | row T p d fs=>exact⟨trivial,h.2⟩
 | ptr T p d fs=>exact⟨h.1.2,h.2⟩
theorem iniV_sm {g:Gd} {ty:Ty} {r:Fds} (h:(Fds.cons g ty r).dOk) {f:Fld} (hm:ty.dflB f=true):ty.iniV.sm:=by
 cases ty with
 | pr k d=>exact okV_sm h.1
 | txt k=>cases k<;>simp [Ty.iniV,Txt.iniV,Val.sm,zml]
 | arr st nul e=>simp [Ty.iniV,Val.sm]
 | tv k=>simp [Ty.iniV,Val.sm]
 | row T p d fs=>simp [Ty.dflB] at hm
 | ptr T p d fs=>simp [Ty.dflB] at hm
mutual
theorem Ty.sm_of {fl:Bool} {ver:Int}:∀ (ty:Ty) (f:Fld),ty.dE→ty.matB fl ver f=true→∀ (t:Tr) (r:List UInt8) (v:Val),wfT t→ty.rd ver fl (rs (zeo fl ver f t++r))=some (v,rs r)→v.sm
 | .pr k d,f,_,h,t,r,v,hw,hr=>by
  simp only [Ty.rd,Option.some.injEq] at hr
  obtain⟨rfl,_⟩:=Prod.mk.inj hr
  exact okV_sm (zzo k _)
 | .txt .str,f,_,h,t,r,v,hw,hr=>by
  simp only [Ty.matB,Bool.and_eq_true,Bool.not_eq_true',decide_eq_true_eq] at h
  rw[zgm (by omega) (by omega)] at hr
  simp only [Ty.rd,Option.some.injEq] at hr
  exact zyp .str fl _ (fun _=>zhy h.2) _ t r r _ h.1 v hr
 | .txt .nstr,f,_,h,t,r,v,hw,hr=>by
  simp only [Ty.matB,decide_eq_true_eq] at h
  rw[zgm (by omega) (by omega)] at hr
  simp only [Ty.rd,Option.some.injEq] at hr
  exact zyp .nstr fl _ (fun hc=>by rcases hc with hc | hc<;>cases hc) _ t r r _ h v hr
 | .txt .byt,f,_,h,t,r,v,hw,hr=>by
  simp only [Ty.matB,Bool.and_eq_true,Bool.not_eq_true',decide_eq_true_eq] at h
  rw[zgm (by omega) (by omega)] at hr
  simp only [Ty.rd,Option.some.injEq] at hr
  exact zyp .byt fl _ (fun _=>zhy h.2) _ t r r _ h.1 v hr
 | .txt .nbyt,f,_,h,t,r,v,hw,hr=>by
  simp only [Ty.matB,decide_eq_true_eq] at h
  rw[zgm (by omega) (by omega)] at hr
  simp only [Ty.rd,Option.some.injEq] at hr
  exact zyp .nbyt fl _ (fun hc=>by rcases hc with hc | hc<;>cases hc) _ t r r _ h v hr
 | .arr st nul e,f,hd,h,t,r,v,hw,hr=>by
  simp only [Ty.matB,Bool.and_eq_true,decide_eq_true_eq] at h
  obtain⟨⟨h11,hnul⟩,he⟩:=h
  have hesm:=El.sm_of e f.of f.sub hd he
  have he:=El.rd_of e f.of f.sub he
  rw[zki h11] at hr
  have hlz:(zef t.l).length≤32767:=by simp [zef,most]; omega
  cases v with
  | nilA=>simp only [Val.sm]
  | arr sz vs=>
   cases hnb:f.nullB ver t with
   | true=>
    rw[hnb] at hr
    simp only [if_true,List.length_nil,List.flatMap_nil,List.append_nil] at hr
    have hx:(if fl then zlj (rs (zae fl true 0 4++r)) else arrR (rs (zae fl true 0 4++r)))=(-1,rs r):=by
     unfold zae
     cases fl with
     | true=>simp only [Bool.and_true,if_true]; exact zxu r
     | false=>simp only [Bool.false_and,Bool.false_eq_true,if_false,if_true]; exact zacm r
    unfold Ty.rd at hr; rw[hx] at hr
    simp only [rs,Bool.false_eq_true,if_false] at hr
    rw[if_neg (by decide)] at hr
    injection hr with hr
    obtain⟨h1,_⟩:=Prod.mk.inj hr
    cases nul with
    | none=>cases h1
    | some k=>
     simp only at h1
     split at h1
     ·injection h1 with _ h1; subst h1; simp [Val.sm,smL]
     ·cases h1
   | false=>
    rw[hnb] at hr
    simp only [Bool.false_eq_true,if_false] at hr
    obtain⟨l,hl⟩:∃ l,l=zef t.l:=⟨_,rfl⟩
    rw[← hl] at hlz hr
    have hwl:∀ x∈l,wfT x:=fun x hx=>hw.l x (by rw[hl] at hx; exact List.mem_of_mem_take hx)
    obtain⟨us,g1,g2,g3,g4⟩:=rdN_rs he l r hwl
    have g5:=rdN_sm he hesm l r us hwl g1
    rw[List.append_assoc] at hr
    have hx:(if fl then zlj (rs (zae fl false l.length 4++(l.flatMap (valB fl f.of (zci fl ver f.sub) false)++r))) else arrR (rs (zae fl false l.length 4++(l.flatMap (valB fl f.of (zci fl ver f.sub) false)++r))))=((l.length:Int),rs (l.flatMap (valB fl f.of (zci fl ver f.sub) false)++r)):=by
     unfold zae
     cases fl with
     | true=>simp only [Bool.and_false,Bool.false_eq_true,if_false,if_true]; exact zacg hlz (by rw[List.length_append]; omega)
     | false=>simp only [Bool.and_false,Bool.false_eq_true,if_false]; exact arr_rs hlz (by rw[List.length_append]; omega)
    unfold Ty.rd at hr
    rw[hx] at hr
    simp only [rs,Bool.false_eq_true,if_false] at hr
    by_cases h0:l.length=0
    ·rw[if_neg (by omega)] at hr
     injection hr with hr
     obtain⟨h1,_⟩:=Prod.mk.inj hr
     cases nul with
     | none=>cases h1
     | some k=>
      simp only at h1
      split at h1
      ·injection h1 with _ h1; subst h1; simp [Val.sm,smL]
      ·cases h1
    ·rw[if_pos (by omega)] at hr
     have:((l.length:Nat):Int).toNat=l.length:=by omega
     simp only [rs] at g1
     rw[this,g1] at hr
     injection hr with hr
     obtain⟨h1,_⟩:=Prod.mk.inj hr
     injection h1 with _ h1
     subst h1
     simp only [Val.sm]
     exact⟨by omega,g5.1⟩
  | _=>
   exfalso
   have hok:=Ty.rd_ok _ _ (.arr st nul e) .all .nil ⟨hd,trivial⟩ _ _ _ hr
   simp only [Ty.okV] at hok
 | .row ..,f,_,h,_,_,_,_,_=>by simp [Ty.matB] at h
 | .tv _,f,_,h,_,_,_,_,_=>by simp [Ty.matB] at h
 | .ptr T pT d fs,f,hd,h,t,r,v,hw,hr=>by
  simp only [Ty.matB,Bool.and_eq_true,decide_eq_true_eq] at h
  obtain⟨⟨h10,hn⟩,hfs⟩:=h
  rw[zlv ⟨h10,hn⟩] at hr
  have hpt:zci fl ver f.sub t=zdx fl ver f.sub 0 t:=by simp [zci,endB,zdx]
  cases hnb:f.nullB ver t with
  | true=>
   rw[hnb] at hr
   simp only [if_true] at hr
   rw[Ty.rd,if_pos (.inl (by rw[zwj]; decide))] at hr
   simp only [Option.some.injEq] at hr
   obtain⟨rfl,_⟩:=Prod.mk.inj hr
   simp only [Val.sm]
  | false=>
   rw[hnb] at hr
   simp only [Bool.false_eq_true,if_false] at hr
   rw[List.append_assoc,Ty.rd,if_neg (by rw[zwj,zzx]; exact fun h=>h.elim (by decide) fun h=>nomatch (show (false:Bool)=true from h)),zzx,hpt] at hr
   simp only at hr
   split at hr
   ·cases hr
   ·rename_i l s h1
    injection hr with hr
    obtain⟨rfl,rfl⟩:=Prod.mk.inj hr
    simp only [Val.sm]
    exact Fds.sm_of fs f.sub hd hfs 0 t r l hw h1
theorem El.sm_of {fl:Bool} {ver:Int}:∀ (e:El) (o:Int) (sub:List Fld),e.dOk'→e.matB fl ver o sub=true→∀ (t:Tr) (r:List UInt8) (v:Val),wfT t→e.rd ver fl (rs (valB fl o (zci fl ver sub) false t++r))=some (v,rs r)→v.sm
 | .pr k,o,sub,_,h,t,r,v,hw,hr=>by
  simp only [El.rd,Option.some.injEq] at hr
  obtain⟨rfl,_⟩:=Prod.mk.inj hr
  exact okV_sm (zzo k _)
 | .txt k,o,sub,_,h,t,r,v,hw,hr=>by
  have hk:o=k.kind:=by cases k<;>simpa [El.matB,Txt.kind] using h
  simp only [El.rd,Option.some.injEq] at hr
  exact zyp k fl _ (fun _=>rfl) _ t r r _ hk v hr
 | .row T pT d fs,o,sub,hd,h,t,r,v,hw,hr=>by
  simp only [El.matB,Bool.and_eq_true,decide_eq_true_eq] at h
  obtain⟨⟨h10,hfs⟩,hne⟩:=h
  have hv:valB fl o (zci fl ver sub) false t=zdx fl ver sub 0 t:=by rw[h10]; simp [valB,zci,endB,zdx]
  rw[hv] at hr
  rw[El.rd] at hr
  have hkt:=Fds.matB_kt fs sub hfs
  split at hr
  ·cases hr
  ·rename_i l s h1
   injection hr with hr
   obtain⟨rfl,rfl⟩:=Prod.mk.inj hr
   split at h1
   ·cases h1
   ·rename_i l2 s2 h2
    simp only [hkt] at h1
    injection h1 with h1
    obtain⟨rfl,rfl⟩:=Prod.mk.inj h1
    simp only [Val.sm]
    exact Fds.sm_of fs sub hd hfs 0 t r l2 hw h2
theorem Fds.sm_of {fl:Bool} {ver:Int}:∀ (fs:Fds) (sf:List Fld),fs.dOk→fs.matB fl ver sf=true→∀ (i:Nat) (t:Tr) (r:List UInt8) (l:List Val),wfT t→fs.rd ver fl (rs (zdx fl ver sf i t++r))=some (l,rs r)→smL l
 | .nil,[],_,h,i,t,r,l,hw,hr=>by
  rw[Fds.rd] at hr
  injection hr with hr
  obtain⟨rfl,_⟩:=Prod.mk.inj hr
  simp only [smL]
 | .tags (some _),[],_,h,_,_,_,_,_,_=>by simp [Fds.matB] at h
 | .tags none,[],_,_,i,t,r,l,hw,hr=>by
  cases fl with
  | true=>
   simp only [zdx,zcm,Fds.rd,if_true,List.nil_append] at hr
   rw[zxa t.u hw.u r] at hr
   injection hr with hr
   obtain⟨rfl,_⟩:=Prod.mk.inj hr
   have:=zsv t.u
   simp only [smL,Val.sm,and_true,List.length_map]
   refine⟨by omega,fun x hx=>?_⟩
   obtain⟨y,_,rfl⟩:=List.mem_map.1 hx
   have:=zir y.2
   simp only; omega
  | false=>
   simp only [zdx,zcm,Fds.rd,Bool.false_eq_true,if_false,List.nil_append] at hr
   injection hr with hr
   obtain⟨rfl,_⟩:=Prod.mk.inj hr
   simp [smL,Val.sm]
 | .cons g ty r',f :: sf,hd,h,i,t,r,l,hw,hr=>by
  simp only [Fds.matB,Bool.and_eq_true,beq_iff_eq] at h
  obtain⟨⟨hg,hty⟩,hfr⟩:=h
  obtain⟨hd1,hd2⟩:=dOk_cons hd
  rw[Fds.rd] at hr
  cases hh:f.has ver with
  | true=>
   rw[hh] at hty hg
   simp only [if_true] at hty
   have e:zdx fl ver (f :: sf) i t=zeo fl ver f (atT t i)++zdx fl ver sf (i+1) t:=by
    unfold zdx; rw[zcm,hh]; simp only [if_true,List.append_assoc]
   obtain⟨v,g1,g2,_⟩:=Ty.rd_of ty f hty (atT t i) (zdx fl ver sf (i+1) t++r) (hw.at i)
   rw[e,List.append_assoc,hg,if_pos rfl,g1] at hr
   simp only at hr
   split at hr
   ·cases hr
   ·rename_i l' s' h1
    injection hr with hr
    obtain⟨rfl,rfl⟩:=Prod.mk.inj hr
    simp only [smL]
    exact⟨Ty.sm_of ty f hd1 hty (atT t i) _ v (hw.at i) g1,Fds.sm_of r' sf hd2 hfr (i+1) t r l' hw h1⟩
  | false=>
   rw[hh] at hty hg
   simp only [Bool.false_eq_true,if_false] at hty
   have e:zdx fl ver (f :: sf) i t=zdx fl ver sf (i+1) t:=by
    unfold zdx; rw[zcm,hh]; simp
   rw[e,hg] at hr
   simp only [Bool.false_eq_true,if_false] at hr
   split at hr
   ·cases hr
   ·rename_i l' s' h1
    injection hr with hr
    obtain⟨rfl,rfl⟩:=Prod.mk.inj hr
    simp only [smL]
    exact⟨iniV_sm hd hty,Fds.sm_of r' sf hd2 hfr (i+1) t r l' hw h1⟩
 | .nil,_ :: _,_,h,_,_,_,_,_,_=>by simp [Fds.matB] at h
 | .tags _,_ :: _,_,h,_,_,_,_,_,_=>by simp [Fds.matB] at h
 | .cons ..,[],_,h,_,_,_,_,_,_=>by simp [Fds.matB] at h
end
section
variable (N:Nums)
end
section
variable {P:Program} {N:Nums} {A:zdk}
end
section
variable {P:Program} {N:Nums} {M:zdd} {A:zdk}
end
section
variable (N:Nums) (A:zdk)
def zgy:C:=.seq (.ops [⟨some 102,.assign (.const (.slice none 0 0)),0,none,[]⟩]) (.seq (.ops [⟨some 0,.move (V 0),0,none,[]⟩,⟨some 1,.move (V 1),0,none,[]⟩,⟨some 2,.call ⟨.builtin .len,#[T 1],#[N.za]⟩,N.ze,none,[]⟩,
  ⟨some 3,.convert N.ze N.zc (T 2),0,none,[]⟩,⟨some 4,.binOp .add N.zc (.const (.int .u32 1)) (T 3) N.zc,0,none,[]⟩,⟨some 5,.call ⟨.value (.func A.zdg),#[T 0,T 4],#[N.za,N.zc]⟩,N.za,none,[]⟩,⟨some 100,.assign (T 5),0,none,[]⟩])
 (.seq (.ops [⟨some 0,.move (V 0),0,none,[]⟩,⟨some 1,.move (V 1),0,none,[]⟩,⟨some 2,.call ⟨.builtin .append,#[T 0,T 1],#[N.za,N.za]⟩,N.za,none,[]⟩,⟨some 102,.assign (T 2),0,none,[]⟩]) .ret))
def zmr:C:=.seq (.ops [⟨some 102,.assign (.const (.slice none 0 0)),0,none,[]⟩]) (.seq (.ops [⟨some 0,.move (V 0),0,none,[]⟩,⟨some 1,.move (V 1),0,none,[]⟩,⟨some 2,.call ⟨.builtin .len,#[T 1],#[N.za]⟩,N.ze,none,[]⟩,
  ⟨some 3,.convert N.ze N.zbr (T 2),0,none,[]⟩,⟨some 4,.call ⟨.value (.func A.zas),#[T 0,T 3],#[N.za,N.zbr]⟩,N.za,none,[]⟩,⟨some 100,.assign (T 4),0,none,[]⟩])
 (.seq (.ops [⟨some 0,.move (V 0),0,none,[]⟩,⟨some 1,.move (V 1),0,none,[]⟩,⟨some 2,.call ⟨.builtin .append,#[T 0,T 1],#[N.za,N.za]⟩,N.za,none,[]⟩,⟨some 102,.assign (T 2),0,none,[]⟩]) .ret))
end
section
variable {P:Program} {N:Nums} {A:zdk}
theorem zzf (B:Base P N) {w:World} {a:Option Addr} {n c:Nat} {ty:TypeId}:(Builtin.len_ #[N.za] ty #[.slice a n c]).run P w=.ok (.int .i64 (n:Int)) w:=by
 simp [Builtin.len_,Sem.run_bind,B.Lu8.run_und,goInt]
theorem zxn {w:World} {G:Nat→Prop} {v:Value} {o:Option (List UInt8)} (h:OctG w G v o):OctA w v (o.getD [])∧∃ a c,v=.slice a (o.getD []).length c:=by
 cases o with
 | none=>exact⟨.inl ⟨none,0,h,rfl⟩,none,0,h⟩
 | some l=>
  obtain⟨b,o,c,rfl,h2,h3,h4⟩:=h
  exact⟨.inr ⟨b,o,c,rfl,h2,h4⟩,_,_,rfl⟩
theorem zvb (B:Base P N) (hU:UvT P N A) (h:FOk P A.zep 2 (zgy N A) [.var 2]) {w:World} {lo:Nat} {d c:Value} {l s:List UInt8} {G:Nat→Prop} {o:Option (List UInt8)} (hs:s=o.getD []) (hG:OctG w G c o) (hsm:s.length < 4294967295) (hGl:∀ k,G k→k < lo)
  (ho:OwnB w lo d l) (hlo:lo≤w.heap.size) (hb:l.length+(uvB (s.length+1)++s).length < 1099511627776):Call P A.zep #[d,c] w (Apd w lo d l (uvB (s.length+1)++s)):=by
 obtain⟨hA,a,cc,e⟩:=zxn hG
 rw[← hs] at e hA
 refine h.call rfl fun loc N' hlo'=>?_
 unfold zgy
 refine zd fun K hK=>zi fun τ=>?_
 simp +decide only [bK]
 refine hK _ _ (zb fun σ1 hσ=>?_)
 have a0:=hσ 0
 have a1:=hσ 1
 simp +decide only [bE,Nat.reduceBeqDiff,Nat.reduceAdd,Nat.zero_add,zcx,zck] at a0 a1
 clear hσ hK K
 rw[List.length_append] at hb
 refine zd fun K hK=>zi fun τ=>?_
 rw[e] at a1
 simp +decide only [bK,bE,Nat.reduceBeqDiff,BEq.rfl,Nat.reduceAdd,Nat.zero_add,a0,a1,zzf B,zat B.int B.uint32 ⟨_,rfl⟩,zsw hsm]
 rw[zah hU.uv.has]
 simp +decide only [bK,bE,Nat.reduceBeqDiff,BEq.rfl]
 refine(zyc B hU (n:=s.length+1) (by omega) ho hlo (by omega)).mono ?_
 intro v1 w1 h1
 refine hK _ _ (zb fun σ2 hσ=>?_)
 have c0:=hσ 0
 have c1:=hσ 1
 simp +decide only [bE,Nat.reduceBeqDiff,BEq.rfl,Nat.reduceAdd,Nat.zero_add,a1] at c0 c1
 clear hσ hK K
 have hl1:(l++uvB (s.length+1)).length+s.length < 1099511627776:=by rw[List.length_append]; omega
 have mL:=Apd.low ho h1
 have hA1:OctA w1 (.slice a s.length cc) s:=by
  have:=(zxn (OctG.mod (G':=G) mL (fun k hk=>⟨by have:=hGl k hk; omega,fun _ h=>by have:=hGl k hk; omega,hk⟩) hG)).1
  rwa [← hs,e] at this
 obtain⟨v2,w2,h3,h4,h5,h6⟩:=zdq (ty:=N.za) B h1.own hA1 (Nat.le_trans hlo h1.mod.size) hl1
 refine zd fun K hK=>zi fun τ=>?_
 simp +decide only [bK,bE,Nat.reduceBeqDiff,BEq.rfl,Nat.reduceAdd,Nat.zero_add,c0,c1,h3]
 refine hK _ _ (zb fun σ3 hσ=>zbb ?_)
 have b2:=hσ 2
 simp +decide only [bE,BEq.rfl,Nat.reduceAdd] at b2
 exact⟨.inr rfl,_,rfl,by rw[b2]; exact h1.trans ⟨h4,h5,h6⟩⟩
theorem ap_Int32w (B:Base P N) (hU:FOk P A.zbw 2 (zch N A) [.var 2]) (h:FOk P A.zas 2 (zdc N A) [.var 2]) (n:Int):ApF P A.zas (.int .i32 (IntKind.i32.wrap n)) (fixB n 4):=by
 intro w lo v l ho hlo hb
 have:=zqx B hU h (IntKind.i32.wrap n) ho hlo (by rw[zaw] at hb ⊢; exact hb)
 rwa [zia (k:=4) rfl] at this
theorem ap_Bytes (B:Base P N) (hU:FOk P A.zbw 2 (zch N A) [.var 2]) (hI:FOk P A.zas 2 (zdc N A) [.var 2]) (h:FOk P A.zic 2 (zmr N A) [.var 2]) {w:World} {lo:Nat} {d c:Value} {l s:List UInt8} {G:Nat→Prop} {o:Option (List UInt8)} (hs:s=o.getD []) (hG:OctG w G c o) (hsm:s.length < 4294967295) (hGl:∀ k,G k→k < lo)
  (ho:OwnB w lo d l) (hlo:lo≤w.heap.size) (hb:l.length+(fixB s.length 4++s).length < 1099511627776):Call P A.zic #[d,c] w (Apd w lo d l (fixB s.length 4++s)):=by
 obtain⟨hA,a,cc,e⟩:=zxn hG
 rw[← hs] at e hA
 refine h.call rfl fun loc N' hlo'=>?_
 unfold zmr
 refine zd fun K hK=>zi fun τ=>?_
 simp +decide only [bK]
 refine hK _ _ (zb fun σ1 hσ=>?_)
 have a0:=hσ 0
 have a1:=hσ 1
 simp +decide only [bE,Nat.reduceBeqDiff,Nat.reduceAdd,Nat.zero_add,zcx,zck] at a0 a1
 clear hσ hK K
 rw[List.length_append] at hb
 refine zd fun K hK=>zi fun τ=>?_
 rw[e] at a1
 simp +decide only [bK,bE,Nat.reduceBeqDiff,BEq.rfl,Nat.reduceAdd,Nat.zero_add,a0,a1,zzf B,zat B.int B.int32 ⟨_,rfl⟩]
 rw[zah hI.has]
 simp +decide only [bK,bE,Nat.reduceBeqDiff,BEq.rfl]
 refine(ap_Int32w B hU hI s.length ho hlo (by omega)).mono ?_
 intro v1 w1 h1
 refine hK _ _ (zb fun σ2 hσ=>?_)
 have c0:=hσ 0
 have c1:=hσ 1
 simp +decide only [bE,Nat.reduceBeqDiff,BEq.rfl,Nat.reduceAdd,Nat.zero_add,a1] at c0 c1
 clear hσ hK K
 have hl1:(l++fixB s.length 4).length+s.length < 1099511627776:=by rw[List.length_append]; omega
 have mL:=Apd.low ho h1
 have hA1:OctA w1 (.slice a s.length cc) s:=by
  have:=(zxn (OctG.mod (G':=G) mL (fun k hk=>⟨by have:=hGl k hk; omega,fun _ h=>by have:=hGl k hk; omega,hk⟩) hG)).1
  rwa [← hs,e] at this
 obtain⟨v2,w2,h3,h4,h5,h6⟩:=zdq (ty:=N.za) B h1.own hA1 (Nat.le_trans hlo h1.mod.size) hl1
 refine zd fun K hK=>zi fun τ=>?_
 simp +decide only [bK,bE,Nat.reduceBeqDiff,BEq.rfl,Nat.reduceAdd,Nat.zero_add,c0,c1,h3]
 refine hK _ _ (zb fun σ3 hσ=>zbb ?_)
 have b2:=hσ 2
 simp +decide only [bE,BEq.rfl,Nat.reduceAdd] at b2
 exact⟨.inr rfl,_,rfl,by rw[b2]; exact h1.trans ⟨h4,h5,h6⟩⟩
end
structure ApFns (P:Program) (N:Nums) (A:zdk):Prop where
 b:A.zjm≠0→FOk P A.zjm 2 (zob N A) [.var 2]
 i8:A.zjl≠0→N.zjd≠0∧FOk P A.zjl 2 (zoa N A) [.var 2]
 u16:FOk P A.zed 2 (zfh N A) [.var 2]
 i16:A.zce≠0→FOk P A.zce 2 (zgx N A) [.var 2]
 u32:A.zas≠0→FOk P A.zbw 2 (zch N A) [.var 2]
 i32:A.zas≠0→FOk P A.zas 2 (zdc N A) [.var 2]
 u64:A.zgu≠0→FOk P A.zhc 2 (ziz N A) [.var 2]
 i64:A.zgu≠0→FOk P A.zgu 2 (zmq N A) [.var 2]
 uu:A.zjj≠0→N.zaq≠0∧FOk P A.zjj 2 (znz N A) [.var 3]
 str:A.zet≠0→A.zce≠0∧FOk P A.zet 2 (zja N A) [.var 2]
 cstr:A.zcs≠0→FOk P A.zcs 2 (zfa N A) [.var 2]
 nstr:A.zbn≠0→N.zbc≠0∧A.zet≠0∧FOk P A.zbn 2 (zgd N A) [.var 2]
 cnstr:A.zcw≠0→N.zbc≠0∧A.zcs≠0∧FOk P A.zcw 2 (zel N A) [.var 2]
 byt:A.zic≠0→A.zas≠0∧FOk P A.zic 2 (zmr N A) [.var 2]
 cbyt:A.zep≠0→FOk P A.zep 2 (zgy N A) [.var 2]
 nob:A.zjk=0∧A.zgf=0
 al:A.zdj≠0→A.zas≠0∧FOk P A.zdj 2 (zjp N A) [.var 2]
 cal:A.zbp≠0→FOk P A.zbp 2 (zft N A) [.var 2]
 nal:A.zbl≠0→A.zas≠0∧FOk P A.zbl 3 (zfl N A) [.var 3]
 cnal:A.zau≠0→FOk P A.zau 3 (zeb N A) [.var 3]
 uv:UvT P N A
 tl:FOk P A.zkl 1 (zmp N A) [.var 1]
 ea:FOk P A.zey 2 (zgg N A) [.var 3]
 e1:FOk P A.zdm 3 (zeq N A) []
section
variable {P:Program} {N:Nums} {A:zdk}
theorem apC_of (B:Base P N) (H:ApFns P N A) (hT:EachN P N):ApC P N A where
 pr k hk:=by
  cases k with
  | en t=>exact absurd rfl hk
  | bool=>exact⟨(H.b hk).has,fun v hv=>by obtain⟨x,rfl⟩:=hv; exact ap_Bool B (H.b hk) x⟩
  | i8=>exact⟨(H.i8 hk).2.has,fun v hv=>by obtain⟨x,rfl,_⟩:=hv; exact ap_Int8 B (H.i8 hk).1 (H.i8 hk).2 x⟩
  | i16=>exact⟨(H.i16 hk).has,fun v hv=>by obtain⟨x,rfl,_⟩:=hv; exact zyd B H.u16 (H.i16 hk) x⟩
  | u16=>exact⟨H.u16.has,fun v hv=>by obtain⟨x,rfl,_⟩:=hv; exact zaap B H.u16 x⟩
  | i32=>exact⟨(H.i32 hk).has,fun v hv=>by obtain⟨x,rfl,_⟩:=hv; exact zqx B (H.u32 hk) (H.i32 hk) x⟩
  | i64=>exact⟨(H.i64 hk).has,fun v hv=>by obtain⟨x,rfl,_⟩:=hv; exact ap_Int64 B (H.u64 hk) (H.i64 hk) x⟩
  | uuid=>
   exact⟨(H.uu hk).2.has,fun v hv=>by
    obtain⟨s,rfl,hs⟩:=hv
    have e:PK.wr .uuid (.agg (s.map zz).toArray)=s:=ztb s
    rw[e]
    intro w lo v l ho hlo hb
    exact ap_Uuid B (H.uu hk).1 (H.uu hk).2 hs ho hlo hb⟩
 txt t fl ht:=by
  obtain⟨n3,n4⟩:=H.nob
  cases t with
  | str=>
   cases fl with
   | false=>
    refine⟨(H.str ht).2.has,?_⟩
    intro w lo d c l G v hv hsm hr hG ho hlo hb
    cases v with
    | num x=>
     obtain⟨s,rfl,hs⟩:=hv
     have hr:[c]=(strV s).cells.toList:=by simpa only [Rep] using hr
     have hc:c=strV s:=by simpa [strV,Value.cells] using hr
     subst hc
     have e:Txt.str.wr false (.num (strV s))=fixB s.length 2++s:=by rw[Txt.wr,zml,zwm]
     rw[e] at hb ⊢
     have hs2:s.length < 4294967295:=by simpa only [Val.sm,zml] using hsm
     exact zaaq B H.u16 (H.i16 (H.str ht).1) (H.str ht).2 s hs2 ho hlo hb
    | _=>simp only [Txt.okV] at hv
   | true=>
    refine⟨(H.cstr ht).has,?_⟩
    intro w lo d c l G v hv hsm hr hG ho hlo hb
    cases v with
    | num x=>
     obtain⟨s,rfl,hs⟩:=hv
     have hr:[c]=(strV s).cells.toList:=by simpa only [Rep] using hr
     have hc:c=strV s:=by simpa [strV,Value.cells] using hr
     subst hc
     have e:Txt.str.wr true (.num (strV s))=uvB (s.length+1)++s:=by rw[Txt.wr,zml,zos]
     rw[e] at hb ⊢
     have hs2:s.length < 4294967295:=by simpa only [Val.sm,zml] using hsm
     exact zmy B H.uv (H.cstr ht) s hs2 ho hlo hb
    | _=>simp only [Txt.okV] at hv
  | nstr=>
   cases fl with
   | false=>
    refine⟨(H.nstr ht).2.2.has,?_⟩
    intro w lo d c l G v hv hsm hr hG ho hlo hb
    cases v with
    | nstr o=>
     have hs:(o.getD []).length < 4294967295:=by
      cases o with
      | none=>simp
      | some s=>simpa only [Val.sm,Option.getD_some] using hsm
     have h2:=H.str (H.nstr ht).2.1
     exact zrw B (H.nstr ht).1 H.u16 (H.i16 h2.1) h2.2 (H.nstr ht).2.2 (zxk hr) hs ho hlo hb
    | _=>simp only [Txt.okV] at hv
   | true=>
    refine⟨(H.cnstr ht).2.2.has,?_⟩
    intro w lo d c l G v hv hsm hr hG ho hlo hb
    cases v with
    | nstr o=>
     have hs:(o.getD []).length < 4294967295:=by
      cases o with
      | none=>simp
      | some s=>simpa only [Val.sm,Option.getD_some] using hsm
     exact zqy B (H.cnstr ht).1 H.uv (H.cstr (H.cnstr ht).2.1) (H.cnstr ht).2.2 (zxk hr) hs ho hlo hb
    | _=>simp only [Txt.okV] at hv
  | byt=>
   cases fl with
   | false=>
    refine⟨(H.byt ht).2.has,?_⟩
    intro w lo d c l G v hv hsm hr hG ho hlo hb
    cases v with
    | oct o=>
     simp only [Rep] at hr
     obtain⟨x,hx,hx2⟩:=hr
     obtain rfl:c=x:=by simpa using hx
     have e:Txt.byt.wr false (.oct o)=fixB (o.getD []).length 4++o.getD []:=by rw[Txt.wr,zwl]
     rw[e] at hb ⊢
     have hs:(o.getD []).length < 4294967295:=by
      cases o with
      | none=>simp
      | some s=>simpa only [Val.sm,Option.getD_some] using hsm
     exact ap_Bytes B (H.u32 (H.byt ht).1) (H.i32 (H.byt ht).1) (H.byt ht).2 rfl hx2 hs hG ho hlo hb
    | _=>simp only [Txt.okV] at hv
   | true=>
    refine⟨(H.cbyt ht).has,?_⟩
    intro w lo d c l G v hv hsm hr hG ho hlo hb
    cases v with
    | oct o=>
     simp only [Rep] at hr
     obtain⟨x,hx,hx2⟩:=hr
     obtain rfl:c=x:=by simpa using hx
     have e:Txt.byt.wr true (.oct o)=uvB ((o.getD []).length+1)++o.getD []:=by rw[Txt.wr,zos]
     rw[e] at hb ⊢
     have hs:(o.getD []).length < 4294967295:=by
      cases o with
      | none=>simp
      | some s=>simpa only [Val.sm,Option.getD_some] using hsm
     exact zvb B H.uv (H.cbyt ht) rfl hx2 hs hG ho hlo hb
    | _=>simp only [Txt.okV] at hv
  | nbyt=>cases fl<;>exact absurd (by assumption) ht
 al fl h:=by
  cases fl with
  | false=>
   refine⟨(H.al h).2.has,fun n hn=>?_⟩
   rw[zwl]
   exact zacn B (H.u32 (H.al h).1) (H.i32 (H.al h).1) (H.al h).2 n
  | true=>
   refine⟨(H.cal h).has,fun n hn=>?_⟩
   rw[zos]
   exact zaas B H.uv (H.cal h) hn
 nl fl h:=by
  cases fl with
  | false=>exact⟨(H.nal h).2.has,fun n b hn=>zaar B (H.u32 (H.nal h).1) (H.i32 (H.nal h).1) (H.nal h).2 n b⟩
  | true=>exact⟨(H.cnal h).has,fun n b hn=>zye B H.uv (H.cnal h) hn b⟩
 uv:=H.uv
 tl:=H.tl
 ea:=H.ea
 e1:=H.e1
 tn:=hT
end
section
variable {P:Program} {l:List ROp} {rd:Nat→Bool}
theorem zacp {Cw:World→Prop} {K:Env→World→Prop} {i j:Nat} {C:List Nat} {ρ:Env} {w:World} (hij:i≠j) (h1:seqB l (i :: C)=true) (h2:seqB l (j :: C)=true) (hn1:(i :: C).Nodup) (hn2:(j :: C).Nodup) (hC:C≠[])
  (hlast:∀ k,C.getLast?=some k→zps l rd k=true)
  (hi:zcn P (l.getD i default) ρ w fun ρ w=>Cw w∧zid P Cw K ((j :: C).map fun j=>l.getD j default) ρ w)
  (hj:zcn P (l.getD j default) ρ w fun ρ w=>Cw w∧zid P Cw K ((i :: C).map fun j=>l.getD j default) ρ w) :
  anyC P Cw l rd K (i :: j :: C).length (i :: j :: C) ρ w:=by
 have hl:∀ x k,(x :: C).getLast?=some k→zps l rd k=true:=fun x k hk=>hlast k (by
  cases C with
  | nil=>exact absurd rfl hC
  | cons y C=>rwa [List.getLast?_cons_cons] at hk)
 intro k hk
 rcases List.mem_cons.1 hk.1 with e | hm
 ·subst e
  rw[List.erase_cons_head]
  exact zhi (fun ρ w hk=>⟨.inr hk.1,zka (j :: C) ρ w h2 hn2 (hl j) hk.2⟩) hi
 ·rcases List.mem_cons.1 hm with e | hm
  ·subst e
   rw[List.erase_cons_tail (by simpa using hij),List.erase_cons_head]
   exact zhi (fun ρ w hk=>⟨.inr hk.1,zka (i :: C) ρ w h1 hn1 (hl i) hk.2⟩) hj
  ·exfalso
   simp only [seqB,Bool.and_eq_true,List.all_eq_true] at h1
   have h:=h1.1 k hm
   rw[List.any_eq_true] at h
   obtain⟨e,he1,he2⟩:=h
   have he2:e=i∨e∈C:=by simpa using he2
   exact hk.2 e he1 (by rcases he2 with e2 | e2<;>simp [e2])
theorem zpq {Cw:World→Prop} {K K':Env→Prop} (hk:∀ ρ,K ρ→K' ρ):∀ (r:List (ROp × Bool)) (ρ:Env),zfv P Cw K r ρ→zfv P Cw K' r ρ
 | [],ρ,h=>hk ρ h
 | (_,true) :: r,_,⟨v,h1,h2⟩=>⟨v,h1,zpq hk r _ h2⟩
 | (_,false) :: r,ρ,h=>zpq hk r ρ h
end
def planW2 (l:List ROp) (rd:List Bool) (i j:Nat) (C:List Nat):Bool:=
 Nat.beq rd.length l.length && zsp l (rdOf rd) && decide (zabs l rd=i :: j :: C) && seqB l (i :: C) && seqB l (j :: C) && decide ((i :: j :: C).Nodup) && (match C.getLast? with
  | some j=>zps l (rdOf rd) j
  | none=>false)
theorem W_draw2 {P:Program} {loc:List Nat} {N:Nat} {Q:Exit→Env→World→Prop} {σ:Env} {w:World} {l:List ROp} (hm:P.follows .mixedOrders=true) (rd:List Bool) (i j:Nat) (C:List Nat) (hB:planW2 l rd i j C=true) (Cw:World→Prop) (hw:Cw w.drew)
  (h:∀ τ,zfv P Cw (fun ρ1=>(zcn P (l.getD i default) ρ1 w.drew fun ρ w=>Cw w∧zid P Cw (fun ρ w=>Q .normal (locs ρ) w) ((j :: C).map fun j=>l.getD j default) ρ w) ∧
   (zcn P (l.getD j default) ρ1 w.drew fun ρ w=>Cw w∧zid P Cw (fun ρ w=>Q .normal (locs ρ) w) ((i :: C).map fun j=>l.getD j default) ρ w)) (l.zip rd) (zli σ τ)):W P loc N (.draw l) Q σ w:=by
 unfold planW2 at hB
 simp only [Bool.and_eq_true] at hB
 obtain⟨⟨⟨⟨⟨⟨hl,hp⟩,hr⟩,h1⟩,h2⟩,hn⟩,hlast⟩:=hB
 have hl:rd.length=l.length:=by simpa using hl
 have hr:zabs l rd=i :: j :: C:=of_decide_eq_true hr
 have hn:(i :: j :: C).Nodup:=of_decide_eq_true hn
 rw[List.nodup_cons] at hn
 have hn2:=List.nodup_cons.1 hn.2
 have hij:i≠j:=fun e=>hn.1 (by rw[e]; exact List.mem_cons_self)
 refine W_drawC hm rd hl hp Cw hw fun τ=>?_
 rw[hr]
 refine zpq (fun ρ1 hk=>?_) _ _ (h τ)
 refine zacp hij h1 h2 (List.nodup_cons.2 ⟨fun e=>hn.1 (List.mem_cons_of_mem _ e),hn2.2⟩) hn.2 ?_ ?_ hk.1 hk.2
 ·rintro rfl; cases hlast
 ·intro k hk
  rw[hk] at hlast
  exact hlast
end Go.Kf
