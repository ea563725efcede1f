/- A part of the calculus by which the claim's proof goes: over any program and any numbering of its functions; no condition beyond those that each theorem names. -/
import Derived.Laws.IdiomCopy
import Derived.Test.YtlildailoffclaaKb
set_option linter.unusedSimpArgs false
set_option linter.unusedVariables false
namespace Go.Kf
open Go Go.RowKit
structure zaz where
 zfa : Nat := 0
 zet : Nat := 0
 zdv : Nat := 0
 zty : Nat := 0
 f_spec_Told : Nat := 0
 f_spec_Usual : Nat := 0
 zcd : Nat := 0
 zjm : Nat := 0
 zes : Nat := 0
 zde : Nat := 0
 zhq : Nat := 0
 zhp : Nat := 0
 f_spec_number : Nat := 0
 ziw : Nat := 0
 zgm : Nat := 0
 f_spec_told : Nat := 0
 zfy : Nat := 0
 zvq : Nat := 0
 zho : Nat := 0
 zdi : Nat := 0
 zjl : Nat := 0
 znn : Nat := 0
 zqr : Nat := 0
 znm : Nat := 0
 zab : Nat := 0
 zg : Nat := 0
 zac : Nat := 0
def zqw (N : Nums) (M : zaz) : C :=
 .seq (
 .ops [
 ⟨some (1+100), .box N.zy (V 0), 0, none, []⟩,
 ⟨some (2+100), .assign (.const (.bool false)), 0, none, []⟩]) (
 .seq (
 .seq (
 .ops [
 ⟨some 0, .fieldAddr N.zy (V 1) 1, 0, none, []⟩,
 ⟨some 1, .load N.za (T 0), 0, none, []⟩,
 ⟨some 2, .call ⟨.builtin .len, #[T 1], #[N.za]⟩, N.ze, none, []⟩,
 ⟨some (3+100), .binOp .gtr N.ze (T 2) (.const (.int .i64 2147483647)) N.ze, 0, none, []⟩]) (
 .cond 3 (
 .seq (
 .ops [
 ⟨some (2+100), .assign (.const (.bool false)), 0, none, []⟩]) (
 .ret)) (
 .skip))) (
 .seq (
 .ops [
 ⟨some (2+100), .assign (.const (.bool true)), 0, none, []⟩]) (
 .ret)))
def zvz (N : Nums) (M : zaz) : C :=
 .seq (
 .ops [
 ⟨some (1+100), .assign (.const (.bool false)), 0, none, []⟩]) (
 .seq (
 .seq (
 .ops [
 ⟨some 0, .move (V 0), 0, none, []⟩,
 ⟨some 1, .call ⟨.builtin .len, #[T 0], #[N.zi]⟩, N.ze, none, []⟩,
 ⟨some (2+100), .binOp .gtr N.ze (T 1) (.const (.int .i64 2147483647)) N.ze, 0, none, []⟩]) (
 .cond 2 (
 .seq (
 .ops [
 ⟨some (1+100), .assign (.const (.bool false)), 0, none, []⟩]) (
 .ret)) (
 .skip))) (
 .seq (
 .seq (
 .ops [
 ⟨some (3+100), .move (V 0), 0, none, []⟩,
 ⟨some (4+100), .call ⟨.builtin .len, #[V 3], #[N.zi]⟩, N.ze, none, []⟩,
 ⟨some (5+100), .move (.const (.int .i64 0)), 0, none, []⟩]) (
 .block 0 (
 .loop (
 .seq (
 .ops [
 ⟨some (6+100), .binOp .lss N.ze (V 5) (V 4) N.ze, 0, none, []⟩]) (
 .seq (
 .cond 6 (
 .skip) (
 .exit 0)) (
 .seq (
 .block 1 (
 .seq (
 .ops [
 ⟨some 0, .indexAddr N.zi (V 3) (V 5), 0, none, []⟩,
 ⟨some 1, .load N.zy (T 0), 0, none, []⟩,
 ⟨some (7+100), .alloc N.zy, 0, none, []⟩,
 ⟨none, .store N.zy (V 7) (T 1), 0, none, []⟩]) (
 .seq (
 .ops [
 ⟨some 0, .load N.zy (V 7), 0, none, []⟩,
 ⟨some 1, .call ⟨.value (.func M.znm), #[T 0], #[N.zy]⟩, N.zaq, none, []⟩,
 ⟨some (8+100), .unOp .not N.zaq (T 1), 0, none, []⟩]) (
 .cond 8 (
 .seq (
 .ops [
 ⟨some (1+100), .assign (.const (.bool false)), 0, none, []⟩]) (
 .ret)) (
 .skip))))) (
 .ops [
 ⟨some 0, .binOp .add N.ze (V 5) (.const (.int .i64 1)) N.ze, 0, none, []⟩,
 ⟨some (5+100), .move (T 0), 0, none, []⟩]))))))) (
 .seq (
 .ops [
 ⟨some (1+100), .assign (.const (.bool true)), 0, none, []⟩]) (
 .ret))))
def zwa (N : Nums) (M : zaz) : C :=
 .seq (
 .ops [
 ⟨some (1+100), .box N.zb (V 0), 0, none, []⟩,
 ⟨some (2+100), .assign (.const (.bool false)), 0, none, []⟩]) (
 .seq (
 .seq (
 .ops [
 ⟨some 0, .fieldAddr N.zb (V 1) 1, 0, none, []⟩,
 ⟨some 1, .load N.za (T 0), 0, none, []⟩,
 ⟨some 2, .call ⟨.builtin .len, #[T 1], #[N.za]⟩, N.ze, none, []⟩,
 ⟨some (3+100), .binOp .gtr N.ze (T 2) (.const (.int .i64 2147483647)) N.ze, 0, none, []⟩]) (
 .cond 3 (
 .seq (
 .ops [
 ⟨some (2+100), .assign (.const (.bool false)), 0, none, []⟩]) (
 .ret)) (
 .skip))) (
 .seq (
 .seq (
 .ops [
 ⟨some 0, .fieldAddr N.zb (V 1) 3, 0, none, []⟩,
 ⟨some 1, .load N.zj (T 0), 0, none, []⟩,
 ⟨some 2, .call ⟨.builtin .len, #[T 1], #[N.zj]⟩, N.ze, none, []⟩,
 ⟨some (4+100), .binOp .gtr N.ze (T 2) (.const (.int .i64 2147483647)) N.ze, 0, none, []⟩]) (
 .cond 4 (
 .seq (
 .ops [
 ⟨some (2+100), .assign (.const (.bool false)), 0, none, []⟩]) (
 .ret)) (
 .skip))) (
 .seq (
 .seq (
 .ops [
 ⟨some 0, .fieldAddr N.zb (V 1) 4, 0, none, []⟩,
 ⟨some 1, .load N.zi (T 0), 0, none, []⟩,
 ⟨some 2, .call ⟨.value (.func M.zqr), #[T 1], #[N.zi]⟩, N.zaq, none, []⟩,
 ⟨some (5+100), .unOp .not N.zaq (T 2), 0, none, []⟩]) (
 .cond 5 (
 .seq (
 .ops [
 ⟨some (2+100), .assign (.const (.bool false)), 0, none, []⟩]) (
 .ret)) (
 .skip))) (
 .seq (
 .ops [
 ⟨some (2+100), .assign (.const (.bool true)), 0, none, []⟩]) (
 .ret)))))
def zib (N : Nums) (M : zaz) : C :=
 .seq (
 .ops [
 ⟨some (2+100), .box M.zg (V 0), 0, none, []⟩,
 ⟨some (3+100), .assign (.const (.bool false)), 0, none, []⟩]) (
 .seq (
 .ops [
 ⟨some 0, .fieldAddr M.zg (V 2) 1, 0, none, []⟩,
 ⟨some 1, .load N.ze (T 0), 0, none, []⟩,
 ⟨some 2, .move (V 1), 0, none, []⟩,
 ⟨some 3, .binOp .leq N.ze (T 1) (T 2) N.ze, 0, none, []⟩,
 ⟨some 4, .move (T 3), 0, none, []⟩,
 ⟨some 5, .fieldAddr M.zg (V 2) 2, 0, (some (some 4, true)), []⟩,
 ⟨some 6, .load N.ze (T 5), 0, (some (some 4, true)), []⟩,
 ⟨some 7, .binOp .lss N.ze (T 6) (.const (.int .i64 0)) N.ze, 0, (some (some 4, true)), []⟩,
 ⟨some 8, .move (T 7), 0, (some (some 4, true)), []⟩,
 ⟨some 9, .move (V 1), 0, (some (some 8, false)), []⟩,
 ⟨some 10, .fieldAddr M.zg (V 2) 2, 0, (some (some 8, false)), []⟩,
 ⟨some 11, .load N.ze (T 10), 0, (some (some 8, false)), []⟩,
 ⟨some 12, .binOp .leq N.ze (T 9) (T 11) N.ze, 0, (some (some 8, false)), []⟩,
 ⟨some 13, .pick (T 8) (.const (.bool true)) (T 12), 0, (some (some 4, true)), []⟩,
 ⟨some 14, .pick (T 4) (T 13) (.const (.bool false)), 0, none, []⟩,
 ⟨some (3+100), .assign (T 14), 0, none, []⟩]) (
 .ret))
def zhd (N : Nums) (M : zaz) : C :=
 .seq (
 .ops [
 ⟨some (3+100), .box M.zg (V 0), 0, none, []⟩,
 ⟨some (4+100), .box N.zb (V 2), 0, none, []⟩,
 ⟨some (5+100), .assign (.const (.bool false)), 0, none, []⟩]) (
 .seq (
 .ops [
 ⟨some 0, .fieldAddr N.zb (V 4) 2, 0, none, []⟩,
 ⟨some 1, .load N.zaq (T 0), 0, none, []⟩,
 ⟨some 2, .move (T 1), 0, none, []⟩,
 ⟨some 3, .fieldAddr M.zg (V 3) 3, 0, (some (some 2, true)), []⟩,
 ⟨some 4, .load N.ze (T 3), 0, (some (some 2, true)), []⟩,
 ⟨some 5, .binOp .geq N.ze (T 4) (.const (.int .i64 0)) N.ze, 0, (some (some 2, true)), []⟩,
 ⟨some 6, .pick (T 2) (T 5) (.const (.bool false)), 0, none, []⟩,
 ⟨some 7, .move (T 6), 0, none, []⟩,
 ⟨some 8, .move (V 1), 0, (some (some 7, true)), []⟩,
 ⟨some 9, .fieldAddr M.zg (V 3) 3, 0, (some (some 7, true)), []⟩,
 ⟨some 10, .load N.ze (T 9), 0, (some (some 7, true)), []⟩,
 ⟨some 11, .binOp .geq N.ze (T 8) (T 10) N.ze, 0, (some (some 7, true)), []⟩,
 ⟨some 12, .pick (T 7) (T 11) (.const (.bool false)), 0, none, []⟩,
 ⟨some (5+100), .assign (T 12), 0, none, []⟩]) (
 .ret))
def zlo (N : Nums) (M : zaz) : C :=
 .seq (
 .ops [
 ⟨some (1+100), .assign (.const (.slice none 0 0)), 0, none, []⟩]) (
 .seq (
 .ops [
 ⟨some 0, .move (V 0), 0, none, []⟩,
 ⟨some 1, .move (V 0), 0, none, []⟩,
 ⟨some 2, .call ⟨.builtin .len, #[T 1], #[N.za]⟩, N.ze, none, []⟩,
 ⟨some 3, .call ⟨.builtin .min, #[(T 2), (.const (.int .i64 32767))], #[N.ze, N.ze]⟩, N.ze, none, []⟩,
 ⟨some 4, .slice N.za (T 0) none (some (T 3)) none, 0, none, []⟩,
 ⟨some (1+100), .assign (T 4), 0, none, []⟩]) (
 .ret))
def zks (N : Nums) (M : zaz) : C :=
 .seq (
 .ops [
 ⟨some (1+100), .assign (.const (.slice none 0 0)), 0, none, []⟩]) (
 .seq (
 .ops [
 ⟨some 0, .move (V 0), 0, none, []⟩,
 ⟨some 1, .move (V 0), 0, none, []⟩,
 ⟨some 2, .call ⟨.builtin .len, #[T 1], #[N.zj]⟩, N.ze, none, []⟩,
 ⟨some 3, .call ⟨.builtin .min, #[(T 2), (.const (.int .i64 32767))], #[N.ze, N.ze]⟩, N.ze, none, []⟩,
 ⟨some 4, .slice N.zj (T 0) none (some (T 3)) none, 0, none, []⟩,
 ⟨some (1+100), .assign (T 4), 0, none, []⟩]) (
 .ret))
def zlq (N : Nums) (M : zaz) : C :=
 .seq (
 .ops [
 ⟨some (2+100), .box N.zb (V 0), 0, none, []⟩,
 ⟨some (3+100), .alloc N.zb, 0, none, []⟩]) (
 .seq (
 .seq (
 .ops [
 ⟨some 0, .move (V 1), 0, none, []⟩,
 ⟨some 1, .fieldAddr N.zb (V 2) 3, 0, none, []⟩,
 ⟨some 2, .load N.zj (T 1), 0, none, []⟩,
 ⟨some 3, .call ⟨.builtin .len, #[T 2], #[N.zj]⟩, N.ze, none, []⟩,
 ⟨some (4+100), .binOp .lss N.ze (T 0) (T 3) N.ze, 0, none, []⟩]) (
 .cond 4 (
 .seq (
 .ops [
 ⟨some 0, .fieldAddr N.zb (V 2) 3, 0, none, []⟩,
 ⟨some 1, .load N.zj (T 0), 0, none, []⟩,
 ⟨some 2, .move (V 1), 0, none, []⟩,
 ⟨some 3, .indexAddr N.zj (T 1) (T 2), 0, none, []⟩,
 ⟨some 4, .load N.zb (T 3), 0, none, []⟩,
 ⟨none, .store N.zb (V 3) (T 4), 0, none, []⟩]) (
 .ret)) (
 .skip))) (
 .seq (
 .ops [
 ⟨some 0, .build N.zb #[], 0, none, []⟩,
 ⟨none, .store N.zb (V 3) (T 0), 0, none, []⟩]) (
 .ret)))
def zhi (N : Nums) (M : zaz) : C :=
 .seq (
 .ops [
 ⟨some (1+100), .assign (.const (.slice none 0 0)), 0, none, []⟩]) (
 .seq (
 .ops [
 ⟨some (2+100), .assign (.const (.slice none 0 0)), 0, none, []⟩]) (
 .seq (
 .block 0 (
 .loop (
 .seq (
 .seq (
 .ops [
 ⟨some 0, .move (V 0), 0, none, []⟩,
 ⟨some (3+100), .binOp .gtr N.zad (T 0) (.const (.int .u64 127)) N.zad, 0, none, []⟩]) (
 .cond 3 (
 .skip) (
 .exit 0))) (
 .block 1 (
 .seq (
 .ops [
 ⟨some 0, .move (V 2), 0, none, []⟩,
 ⟨some 1, .move (V 0), 0, none, []⟩,
 ⟨some 2, .binOp .and N.zad (T 1) (.const (.int .u64 127)) N.zad, 0, none, []⟩,
 ⟨some 3, .convert N.zad N.zk (T 2), 0, none, []⟩,
 ⟨some 4, .binOp .or N.zk (T 3) (.const (.int .u8 128)) N.zk, 0, none, []⟩,
 ⟨some 5, .buildSlice N.za 1 #[(0, (T 4))], 0, none, []⟩,
 ⟨some 6, .call ⟨.builtin .append, #[T 0, T 5], #[N.za, N.za]⟩, N.za, none, []⟩,
 ⟨some (2+100), .assign (T 6), 0, none, []⟩]) (
 .ops [
 ⟨some 0, .move (V 0), 0, none, []⟩,
 ⟨some 1, .binOp .shr N.zad (T 0) (.const (.int .u64 7)) N.zbr, 0, none, []⟩,
 ⟨some (0+100), .assign (T 1), 0, none, []⟩])))))) (
 .seq (
 .ops [
 ⟨some 0, .move (V 2), 0, none, []⟩,
 ⟨some 1, .move (V 0), 0, none, []⟩,
 ⟨some 2, .convert N.zad N.zk (T 1), 0, none, []⟩,
 ⟨some 3, .buildSlice N.za 1 #[(0, (T 2))], 0, none, []⟩,
 ⟨some 4, .call ⟨.builtin .append, #[T 0, T 3], #[N.za, N.za]⟩, N.za, none, []⟩,
 ⟨some (1+100), .assign (T 4), 0, none, []⟩]) (
 .ret))))
def zjo (N : Nums) (M : zaz) : C :=
 .seq (
 .ops [
 ⟨some (2+100), .assign (.const (.slice none 0 0)), 0, none, []⟩]) (
 .seq (
 .ops [
 ⟨some (3+100), .assign (.const (.slice none 0 0)), 0, none, []⟩]) (
 .seq (
 .seq (
 .ops [
 ⟨some 0, .move (V 1), 0, none, []⟩,
 ⟨some 1, .binOp .sub N.ze (T 0) (.const (.int .i64 1)) N.ze, 0, none, []⟩,
 ⟨some (4+100), .assign (T 1), 0, none, []⟩]) (
 .block 0 (
 .loop (
 .seq (
 .seq (
 .ops [
 ⟨some 0, .move (V 4), 0, none, []⟩,
 ⟨some (5+100), .binOp .geq N.ze (T 0) (.const (.int .i64 0)) N.ze, 0, none, []⟩]) (
 .cond 5 (
 .skip) (
 .exit 0))) (
 .seq (
 .block 1 (
 .ops [
 ⟨some 0, .move (V 3), 0, none, []⟩,
 ⟨some 1, .move (V 0), 0, none, []⟩,
 ⟨some 2, .move (V 4), 0, none, []⟩,
 ⟨some 3, .binOp .mul N.ze (.const (.int .i64 8)) (T 2) N.ze, 0, none, []⟩,
 ⟨some 4, .binOp .shr N.zbn (T 1) (T 3) N.ze, 0, none, []⟩,
 ⟨some 5, .convert N.zbn N.zk (T 4), 0, none, []⟩,
 ⟨some 6, .buildSlice N.za 1 #[(0, (T 5))], 0, none, []⟩,
 ⟨some 7, .call ⟨.builtin .append, #[T 0, T 6], #[N.za, N.za]⟩, N.za, none, []⟩,
 ⟨some (3+100), .assign (T 7), 0, none, []⟩])) (
 .ops [
 ⟨some 0, .move (V 4), 0, none, []⟩,
 ⟨some 1, .binOp .sub N.ze (T 0) (.const (.int .i64 1)) N.ze, 0, none, []⟩,
 ⟨some (4+100), .assign (T 1), 0, none, []⟩])))))) (
 .seq (
 .ops [
 ⟨some 0, .move (V 3), 0, none, []⟩,
 ⟨some (2+100), .assign (T 0), 0, none, []⟩]) (
 .ret))))
def zln (N : Nums) (M : zaz) : C :=
 .seq (
 .ops [
 ⟨some (1+100), .assign (.const (.int .i64 0)), 0, none, []⟩]) (
 .seq (
 .seq (
 .ops [
 ⟨some (2+100), .move (V 0), 0, none, []⟩]) (
 .block 0 (
 .seq (
 .ops [
 ⟨some 0, .binOp .eql N.ze (V 2) (.const (.int .i64 1)) N.ze, 0, none, []⟩,
 ⟨some (3+100), .assign (T 0), 0, none, []⟩]) (
 .cond 3 (
 .seq (
 .ops [
 ⟨some (1+100), .assign (.const (.int .i64 1)), 0, none, []⟩]) (
 .ret)) (
 .seq (
 .seq (
 .ops [
 ⟨some 0, .binOp .eql N.ze (V 2) (.const (.int .i64 2)) N.ze, 0, none, []⟩,
 ⟨some (4+100), .assign (T 0), 0, none, []⟩]) (
 .cond 4 (
 .skip) (
 .ops [
 ⟨some 0, .binOp .eql N.ze (V 2) (.const (.int .i64 5)) N.ze, 0, none, []⟩,
 ⟨some (4+100), .assign (T 0), 0, none, []⟩]))) (
 .cond 4 (
 .seq (
 .ops [
 ⟨some (1+100), .assign (.const (.int .i64 2)), 0, none, []⟩]) (
 .ret)) (
 .seq (
 .ops [
 ⟨some 0, .binOp .eql N.ze (V 2) (.const (.int .i64 3)) N.ze, 0, none, []⟩,
 ⟨some (5+100), .assign (T 0), 0, none, []⟩]) (
 .cond 5 (
 .seq (
 .ops [
 ⟨some (1+100), .assign (.const (.int .i64 4)), 0, none, []⟩]) (
 .ret)) (
 .skip))))))))) (
 .seq (
 .ops [
 ⟨some (1+100), .assign (.const (.int .i64 8)), 0, none, []⟩]) (
 .ret)))
def zjt (N : Nums) (M : zaz) : C :=
 .seq (
 .ops [
 ⟨some (4+100), .assign (.const (.slice none 0 0)), 0, none, []⟩]) (
 .seq (
 .block 0 (
 .seq (
 .ops [
 ⟨some 0, .move (V 0), 0, none, []⟩,
 ⟨some 1, .move (T 0), 0, none, []⟩,
 ⟨some 2, .move (V 1), 0, (some (some 1, true)), []⟩,
 ⟨some 3, .pick (T 1) (T 2) (.const (.bool false)), 0, none, []⟩,
 ⟨some (5+100), .assign (T 3), 0, none, []⟩]) (
 .cond 5 (
 .seq (
 .ops [
 ⟨some 0, .buildSlice N.za 1 #[(0, (.const (.int .u8 0)))], 0, none, []⟩,
 ⟨some (4+100), .assign (T 0), 0, none, []⟩]) (
 .ret)) (
 .seq (
 .ops [
 ⟨some 0, .move (V 0), 0, none, []⟩,
 ⟨some (6+100), .assign (T 0), 0, none, []⟩]) (
 .cond 6 (
 .seq (
 .ops [
 ⟨some 0, .move (V 2), 0, none, []⟩,
 ⟨some 1, .convert N.ze N.zad (T 0), 0, none, []⟩,
 ⟨some 2, .binOp .add N.zad (T 1) (.const (.int .u64 1)) N.zad, 0, none, []⟩,
 ⟨some 3, .call ⟨.value (.func M.zcd), #[T 2], #[N.zad]⟩, N.za, none, []⟩,
 ⟨some (4+100), .assign (T 3), 0, none, []⟩]) (
 .ret)) (
 .seq (
 .ops [
 ⟨some 0, .move (V 1), 0, none, []⟩,
 ⟨some (7+100), .assign (T 0), 0, none, []⟩]) (
 .cond 7 (
 .seq (
 .ops [
 ⟨some 0, .move (V 3), 0, none, []⟩,
 ⟨some 1, .call ⟨.value (.func M.zdv), #[(.const (.int .i64 (-1))), (T 0)], #[N.zbn, N.ze]⟩, N.za, none, []⟩,
 ⟨some (4+100), .assign (T 1), 0, none, []⟩]) (
 .ret)) (
 .skip)))))))) (
 .seq (
 .ops [
 ⟨some 0, .move (V 2), 0, none, []⟩,
 ⟨some 1, .move (V 3), 0, none, []⟩,
 ⟨some 2, .call ⟨.value (.func M.zdv), #[T 0, T 1], #[N.zbn, N.ze]⟩, N.za, none, []⟩,
 ⟨some (4+100), .assign (T 2), 0, none, []⟩]) (
 .ret)))
def zpf (N : Nums) (M : zaz) : C :=
 .seq (
 .ops [
 ⟨some (6+100), .box N.zb (V 5), 0, none, []⟩,
 ⟨some (7+100), .assign (.const (.slice none 0 0)), 0, none, []⟩]) (
 .seq (
 .seq (
 .ops [
 ⟨some (8+100), .move (V 0), 0, none, []⟩]) (
 .block 0 (
 .seq (
 .ops [
 ⟨some 0, .binOp .eql N.ze (V 8) (.const (.int .i64 0)) N.ze, 0, none, []⟩,
 ⟨some (9+100), .assign (T 0), 0, none, []⟩]) (
 .cond 9 (
 .seq (
 .ops [
 ⟨some 0, .fieldAddr N.zb (V 6) 0, 0, none, []⟩,
 ⟨some 1, .load N.zbn (T 0), 0, none, []⟩,
 ⟨some 2, .binOp .and N.zbn (T 1) (.const (.int .i64 1)) N.zbn, 0, none, []⟩,
 ⟨some 3, .convert N.zbn N.zk (T 2), 0, none, []⟩,
 ⟨some 4, .buildSlice N.za 1 #[(0, (T 3))], 0, none, []⟩,
 ⟨some (7+100), .assign (T 4), 0, none, []⟩]) (
 .ret)) (
 .seq (
 .ops [
 ⟨some 0, .binOp .eql N.ze (V 8) (.const (.int .i64 7)) N.ze, 0, none, []⟩,
 ⟨some (10+100), .assign (T 0), 0, none, []⟩]) (
 .cond 10 (
 .seq (
 .ops [
 ⟨some 0, .makeSlice N.za (.const (.int .i64 16)) (.const (.int .i64 16)), 0, none, []⟩,
 ⟨some (11+100), .assign (T 0), 0, none, []⟩]) (
 .seq (
 .ops [
 ⟨some 0, .move (V 11), 0, none, []⟩,
 ⟨some 1, .fieldAddr N.zb (V 6) 1, 0, none, []⟩,
 ⟨some 2, .load N.za (T 1), 0, none, []⟩,
 ⟨some 3, .call ⟨.builtin .copy, #[T 0, T 2], #[N.za, N.za]⟩, N.ze, none, []⟩]) (
 .seq (
 .ops [
 ⟨some 0, .move (V 11), 0, none, []⟩,
 ⟨some (7+100), .assign (T 0), 0, none, []⟩]) (
 .ret)))) (
 .seq (
 .ops [
 ⟨some 0, .binOp .eql N.ze (V 8) (.const (.int .i64 8)) N.ze, 0, none, []⟩,
 ⟨some (12+100), .assign (T 0), 0, none, []⟩]) (
 .cond 12 (
 .seq (
 .ops [
 ⟨some 0, .fieldAddr N.zb (V 6) 1, 0, none, []⟩,
 ⟨some 1, .load N.za (T 0), 0, none, []⟩,
 ⟨some 2, .call ⟨.value (.func M.zdi), #[T 1], #[N.za]⟩, N.za, none, []⟩,
 ⟨some (13+100), .assign (T 2), 0, none, []⟩]) (
 .seq (
 .seq (
 .ops [
 ⟨some (14+100), .move (V 2), 0, none, []⟩]) (
 .cond 14 (
 .ops [
 ⟨some (13+100), .assign (.const (.slice none 0 0)), 0, none, []⟩]) (
 .skip))) (
 .seq (
 .ops [
 ⟨some 0, .move (V 4), 0, none, []⟩,
 ⟨some 1, .move (V 2), 0, none, []⟩,
 ⟨some 2, .move (V 13), 0, none, []⟩,
 ⟨some 3, .call ⟨.builtin .len, #[T 2], #[N.za]⟩, N.ze, none, []⟩,
 ⟨some 4, .call ⟨.value (.func M.zde), #[(T 0), (T 1), (T 3), (.const (.int .i64 2))], #[N.zaq, N.zaq, N.ze, N.ze]⟩, N.za, none, []⟩,
 ⟨some 5, .move (V 13), 0, none, []⟩,
 ⟨some 6, .call ⟨.builtin .append, #[T 4, T 5], #[N.za, N.za]⟩, N.za, none, []⟩,
 ⟨some (7+100), .assign (T 6), 0, none, []⟩]) (
 .ret)))) (
 .seq (
 .ops [
 ⟨some 0, .binOp .eql N.ze (V 8) (.const (.int .i64 9)) N.ze, 0, none, []⟩,
 ⟨some (15+100), .assign (T 0), 0, none, []⟩]) (
 .cond 15 (
 .seq (
 .ops [
 ⟨some 0, .fieldAddr N.zb (V 6) 1, 0, none, []⟩,
 ⟨some 1, .load N.za (T 0), 0, none, []⟩,
 ⟨some 2, .call ⟨.value (.func M.zdi), #[T 1], #[N.za]⟩, N.za, none, []⟩,
 ⟨some (16+100), .assign (T 2), 0, none, []⟩]) (
 .seq (
 .seq (
 .ops [
 ⟨some (17+100), .move (V 2), 0, none, []⟩]) (
 .cond 17 (
 .ops [
 ⟨some (16+100), .assign (.const (.slice none 0 0)), 0, none, []⟩]) (
 .skip))) (
 .seq (
 .ops [
 ⟨some 0, .move (V 4), 0, none, []⟩,
 ⟨some 1, .move (V 2), 0, none, []⟩,
 ⟨some 2, .move (V 16), 0, none, []⟩,
 ⟨some 3, .call ⟨.builtin .len, #[T 2], #[N.za]⟩, N.ze, none, []⟩,
 ⟨some 4, .call ⟨.value (.func M.zde), #[(T 0), (T 1), (T 3), (.const (.int .i64 4))], #[N.zaq, N.zaq, N.ze, N.ze]⟩, N.za, none, []⟩,
 ⟨some 5, .move (V 16), 0, none, []⟩,
 ⟨some 6, .call ⟨.builtin .append, #[T 4, T 5], #[N.za, N.za]⟩, N.za, none, []⟩,
 ⟨some (7+100), .assign (T 6), 0, none, []⟩]) (
 .ret)))) (
 .seq (
 .ops [
 ⟨some 0, .binOp .eql N.ze (V 8) (.const (.int .i64 10)) N.ze, 0, none, []⟩,
 ⟨some (18+100), .assign (T 0), 0, none, []⟩]) (
 .cond 18 (
 .seq (
 .ops [
 ⟨some 0, .move (V 1), 0, none, []⟩,
 ⟨some 1, .move (V 3), 0, none, []⟩,
 ⟨some 2, .move (V 4), 0, none, []⟩,
 ⟨some 3, .load N.zb (V 6), 0, none, []⟩,
 ⟨some 4, .call ⟨.value (.func M.ziw), #[T 0, T 1, T 2, T 3], #[M.zab, N.ze, N.zaq, N.zb]⟩, N.za, none, []⟩,
 ⟨some (7+100), .assign (T 4), 0, none, []⟩]) (
 .ret)) (
 .skip))))))))))))) (
 .seq (
 .draw [
 ⟨some 0, .fieldAddr N.zb (V 6) 0, 0, none, []⟩,
 ⟨some 1, .load N.zbn (T 0), 0, none, [0]⟩,
 ⟨some 2, .move (V 0), 0, none, []⟩,
 ⟨some 3, .call ⟨.value (.func M.zjl), #[T 2], #[N.ze]⟩, N.ze, none, [2]⟩,
 ⟨some 4, .call ⟨.value (.func M.zdv), #[T 1, T 3], #[N.zbn, N.ze]⟩, N.za, none, [1, 3, 3]⟩,
 ⟨some (7+100), .assign (T 4), 0, none, [4, 4, 0, 1, 2, 3, 4]⟩]) (
 .ret)))
def zpg (N : Nums) (M : zaz) : C :=
 .seq (
 .ops [
 ⟨some (4+100), .box M.zg (V 0), 0, none, []⟩,
 ⟨some (5+100), .box N.zb (V 3), 0, none, []⟩,
 ⟨some (6+100), .assign (.const (.slice none 0 0)), 0, none, []⟩]) (
 .seq (
 .ops [
 ⟨some 0, .load M.zg (V 4), 0, none, []⟩,
 ⟨some 1, .move (V 1), 0, none, []⟩,
 ⟨some 2, .load N.zb (V 5), 0, none, []⟩,
 ⟨some 3, .call ⟨.value (.func M.zet), #[T 0, T 1, T 2], #[M.zg, N.ze, N.zb]⟩, N.zaq, none, []⟩,
 ⟨some (7+100), .assign (T 3), 0, none, []⟩]) (
 .seq (
 .seq (
 .ops [
 ⟨some 0, .fieldAddr M.zg (V 4) 0, 0, none, []⟩,
 ⟨some 1, .load N.ze (T 0), 0, none, []⟩,
 ⟨some (8+100), .binOp .eql N.ze (T 1) (.const (.int .i64 11)) N.ze, 0, none, []⟩]) (
 .cond 8 (
 .seq (
 .ops [
 ⟨some 0, .fieldAddr N.zb (V 5) 3, 0, none, []⟩,
 ⟨some 1, .load N.zj (T 0), 0, none, []⟩,
 ⟨some 2, .call ⟨.value (.func M.zgm), #[T 1], #[N.zj]⟩, N.zj, none, []⟩,
 ⟨some (9+100), .assign (T 2), 0, none, []⟩]) (
 .seq (
 .seq (
 .ops [
 ⟨some (10+100), .move (V 7), 0, none, []⟩]) (
 .cond 10 (
 .ops [
 ⟨some (9+100), .assign (.const (.slice none 0 0)), 0, none, []⟩]) (
 .skip))) (
 .seq (
 .ops [
 ⟨some 0, .move (V 2), 0, none, []⟩,
 ⟨some 1, .move (V 7), 0, none, []⟩,
 ⟨some 2, .move (V 9), 0, none, []⟩,
 ⟨some 3, .call ⟨.builtin .len, #[T 2], #[N.zj]⟩, N.ze, none, []⟩,
 ⟨some 4, .call ⟨.value (.func M.zde), #[(T 0), (T 1), (T 3), (.const (.int .i64 4))], #[N.zaq, N.zaq, N.ze, N.ze]⟩, N.za, none, []⟩,
 ⟨some (11+100), .assign (T 4), 0, none, []⟩]) (
 .seq (
 .seq (
 .ops [
 ⟨some 0, .move (V 9), 0, none, []⟩,
 ⟨some (12+100), .call ⟨.builtin .len, #[T 0], #[N.zj]⟩, N.ze, none, []⟩,
 ⟨some (13+100), .move (.const (.int .i64 0)), 0, none, []⟩]) (
 .block 0 (
 .loop (
 .seq (
 .ops [
 ⟨some (14+100), .binOp .lss N.ze (V 13) (V 12) N.ze, 0, none, []⟩]) (
 .seq (
 .cond 14 (
 .skip) (
 .exit 0)) (
 .seq (
 .block 1 (
 .seq (
 .ops [
 ⟨some 0, .move (V 13), 0, none, []⟩,
 ⟨some (15+100), .assign (T 0), 0, none, []⟩]) (
 .draw [
 ⟨some 0, .move (V 11), 0, none, []⟩,
 ⟨some 1, .fieldAddr M.zg (V 4) 6, 0, none, []⟩,
 ⟨some 2, .load N.ze (T 1), 0, none, [1]⟩,
 ⟨some 3, .fieldAddr M.zg (V 4) 7, 0, none, []⟩,
 ⟨some 4, .load M.zab (T 3), 0, none, [3]⟩,
 ⟨some 5, .move (V 1), 0, none, []⟩,
 ⟨some 6, .move (V 2), 0, none, []⟩,
 ⟨some 7, .move (V 9), 0, none, []⟩,
 ⟨some 8, .move (V 15), 0, none, []⟩,
 ⟨some 9, .indexAddr N.zj (T 7) (T 8), 0, none, [7, 8]⟩,
 ⟨some 10, .load N.zb (T 9), 0, none, [9]⟩,
 ⟨some 11, .call ⟨.value (.func M.zho), #[(T 2), (T 4), (.const (.bool false)), (T 5), (T 6), (T 10)], #[N.ze, M.zab, N.zaq, N.ze, N.zaq, N.zb]⟩, N.za, none, [2, 4, 5, 6, 10]⟩,
 ⟨some 12, .call ⟨.builtin .append, #[T 0, T 11], #[N.za, N.za]⟩, N.za, none, [0, 11, 11]⟩,
 ⟨some (11+100), .assign (T 12), 0, none, [12, 12, 0, 1, 2, 3, 4, 5, 6, 7, 8, 9, 10, 11, 12]⟩]))) (
 .ops [
 ⟨some 0, .binOp .add N.ze (V 13) (.const (.int .i64 1)) N.ze, 0, none, []⟩,
 ⟨some (13+100), .move (T 0), 0, none, []⟩]))))))) (
 .seq (
 .ops [
 ⟨some 0, .move (V 11), 0, none, []⟩,
 ⟨some (6+100), .assign (T 0), 0, none, []⟩]) (
 .ret)))))) (
 .skip))) (
 .seq (
 .seq (
 .ops [
 ⟨some 0, .fieldAddr M.zg (V 4) 0, 0, none, []⟩,
 ⟨some 1, .load N.ze (T 0), 0, none, []⟩,
 ⟨some 2, .binOp .eql N.ze (T 1) (.const (.int .i64 10)) N.ze, 0, none, []⟩,
 ⟨some 3, .move (T 2), 0, none, []⟩,
 ⟨some 4, .fieldAddr M.zg (V 4) 3, 0, (some (some 3, true)), []⟩,
 ⟨some 5, .load N.ze (T 4), 0, (some (some 3, true)), []⟩,
 ⟨some 6, .binOp .geq N.ze (T 5) (.const (.int .i64 0)) N.ze, 0, (some (some 3, true)), []⟩,
 ⟨some (16+100), .pick (T 3) (T 6) (.const (.bool false)), 0, none, []⟩]) (
 .cond 16 (
 .seq (
 .seq (
 .ops [
 ⟨some (17+100), .move (V 7), 0, none, []⟩]) (
 .cond 17 (
 .seq (
 .ops [
 ⟨some 0, .call ⟨.value (.func M.zdv), #[(.const (.int .i64 (-1))), (.const (.int .i64 1))], #[N.zbn, N.ze]⟩, N.za, none, []⟩,
 ⟨some (6+100), .assign (T 0), 0, none, []⟩]) (
 .ret)) (
 .skip))) (
 .seq (
 .draw [
 ⟨some 0, .call ⟨.value (.func M.zdv), #[(.const (.int .i64 1)), (.const (.int .i64 1))], #[N.zbn, N.ze]⟩, N.za, none, []⟩,
 ⟨some 1, .fieldAddr M.zg (V 4) 7, 0, none, []⟩,
 ⟨some 2, .load M.zab (T 1), 0, none, [1]⟩,
 ⟨some 3, .move (V 1), 0, none, []⟩,
 ⟨some 4, .move (V 2), 0, none, []⟩,
 ⟨some 5, .load N.zb (V 5), 0, none, []⟩,
 ⟨some 6, .call ⟨.value (.func M.ziw), #[T 2, T 3, T 4, T 5], #[M.zab, N.ze, N.zaq, N.zb]⟩, N.za, none, [2, 3, 4, 5, 0]⟩,
 ⟨some 7, .call ⟨.builtin .append, #[T 0, T 6], #[N.za, N.za]⟩, N.za, none, [0, 6, 6]⟩,
 ⟨some (6+100), .assign (T 7), 0, none, [7, 7, 0, 1, 2, 3, 4, 5, 6, 7]⟩]) (
 .ret))) (
 .skip))) (
 .seq (
 .ops [
 ⟨some 0, .fieldAddr M.zg (V 4) 0, 0, none, []⟩,
 ⟨some 1, .load N.ze (T 0), 0, none, []⟩,
 ⟨some 2, .fieldAddr M.zg (V 4) 7, 0, none, []⟩,
 ⟨some 3, .load M.zab (T 2), 0, none, []⟩,
 ⟨some 4, .move (V 7), 0, none, []⟩,
 ⟨some 5, .move (V 1), 0, none, []⟩,
 ⟨some 6, .move (V 2), 0, none, []⟩,
 ⟨some 7, .load N.zb (V 5), 0, none, []⟩,
 ⟨some 8, .call ⟨.value (.func M.zho), #[T 1, T 3, T 4, T 5, T 6, T 7], #[N.ze, M.zab, N.zaq, N.ze, N.zaq, N.zb]⟩, N.za, none, []⟩,
 ⟨some (6+100), .assign (T 8), 0, none, []⟩]) (
 .ret)))))
def zlp (N : Nums) (M : zaz) : C :=
 .seq (
 .ops [
 ⟨some (1+100), .assign (.const (.int .u32 0)), 0, none, []⟩]) (
 .seq (
 .ops [
 ⟨some (2+100), .assign (.const (.int .u32 0)), 0, none, []⟩]) (
 .seq (
 .seq (
 .ops [
 ⟨some (3+100), .move (V 0), 0, none, []⟩,
 ⟨some (4+100), .call ⟨.builtin .len, #[V 3], #[M.zab]⟩, N.ze, none, []⟩,
 ⟨some (5+100), .move (.const (.int .i64 0)), 0, none, []⟩]) (
 .block 0 (
 .loop (
 .seq (
 .ops [
 ⟨some (6+100), .binOp .lss N.ze (V 5) (V 4) N.ze, 0, none, []⟩]) (
 .seq (
 .cond 6 (
 .skip) (
 .exit 0)) (
 .seq (
 .block 1 (
 .seq (
 .ops [
 ⟨some 0, .indexAddr M.zab (V 3) (V 5), 0, none, []⟩,
 ⟨some 1, .load M.zg (T 0), 0, none, []⟩,
 ⟨some (7+100), .alloc M.zg, 0, none, []⟩,
 ⟨none, .store M.zg (V 7) (T 1), 0, none, []⟩]) (
 .seq (
 .ops [
 ⟨some 0, .fieldAddr M.zg (V 7) 4, 0, none, []⟩,
 ⟨some 1, .load N.ze (T 0), 0, none, []⟩,
 ⟨some (8+100), .binOp .geq N.ze (T 1) (.const (.int .i64 0)) N.ze, 0, none, []⟩]) (
 .cond 8 (
 .ops [
 ⟨some 0, .move (V 2), 0, none, []⟩,
 ⟨some 1, .fieldAddr M.zg (V 7) 4, 0, none, []⟩,
 ⟨some 2, .load N.ze (T 1), 0, none, []⟩,
 ⟨some 3, .convert N.ze N.zc (T 2), 0, none, []⟩,
 ⟨some 4, .binOp .add N.zc (T 3) (.const (.int .u32 1)) N.zc, 0, none, []⟩,
 ⟨some 5, .call ⟨.builtin .max, #[T 0, T 4], #[N.zc, N.zc]⟩, N.zc, none, []⟩,
 ⟨some (2+100), .assign (T 5), 0, none, []⟩]) (
 .skip))))) (
 .ops [
 ⟨some 0, .binOp .add N.ze (V 5) (.const (.int .i64 1)) N.ze, 0, none, []⟩,
 ⟨some (5+100), .move (T 0), 0, none, []⟩]))))))) (
 .seq (
 .ops [
 ⟨some 0, .move (V 2), 0, none, []⟩,
 ⟨some (1+100), .assign (T 0), 0, none, []⟩]) (
 .ret))))
def zmm (N : Nums) (M : zaz) : C :=
 .seq (
 .ops [
 ⟨some (2+100), .assign (.const (.slice none 0 0)), 0, none, []⟩]) (
 .seq (
 .ops [
 ⟨some 0, .move (V 0), 0, none, []⟩,
 ⟨some 1, .call ⟨.value (.func M.zhp), #[T 0], #[M.zab]⟩, N.zc, none, []⟩,
 ⟨some (3+100), .assign (T 1), 0, none, []⟩]) (
 .seq (
 .ops [
 ⟨some (4+100), .assign (.const (.slice none 0 0)), 0, none, []⟩]) (
 .seq (
 .seq (
 .ops [
 ⟨some 0, .move (V 1), 0, none, []⟩,
 ⟨some 1, .move (V 1), 0, none, []⟩,
 ⟨some 2, .call ⟨.builtin .len, #[T 1], #[N.zi]⟩, N.ze, none, []⟩,
 ⟨some 3, .call ⟨.builtin .min, #[(T 2), (.const (.int .i64 32767))], #[N.ze, N.ze]⟩, N.ze, none, []⟩,
 ⟨some (5+100), .slice N.zi (T 0) none (some (T 3)) none, 0, none, []⟩,
 ⟨some (6+100), .call ⟨.builtin .len, #[V 5], #[N.zi]⟩, N.ze, none, []⟩,
 ⟨some (7+100), .move (.const (.int .i64 0)), 0, none, []⟩]) (
 .block 0 (
 .loop (
 .seq (
 .ops [
 ⟨some (8+100), .binOp .lss N.ze (V 7) (V 6) N.ze, 0, none, []⟩]) (
 .seq (
 .cond 8 (
 .skip) (
 .exit 0)) (
 .seq (
 .block 1 (
 .seq (
 .ops [
 ⟨some 0, .indexAddr N.zi (V 5) (V 7), 0, none, []⟩,
 ⟨some 1, .load N.zy (T 0), 0, none, []⟩,
 ⟨some (9+100), .alloc N.zy, 0, none, []⟩,
 ⟨none, .store N.zy (V 9) (T 1), 0, none, []⟩]) (
 .seq (
 .ops [
 ⟨some (10+100), .assign (.const (.int .i64 0)), 0, none, []⟩]) (
 .seq (
 .block 2 (
 .loop (
 .seq (
 .seq (
 .draw [
 ⟨some 0, .move (V 10), 0, none, []⟩,
 ⟨some 1, .move (V 4), 0, none, []⟩,
 ⟨some 2, .call ⟨.builtin .len, #[T 1], #[N.zi]⟩, N.ze, none, [1]⟩,
 ⟨some 3, .binOp .lss N.ze (T 0) (T 2) N.ze, 0, none, [0, 2]⟩,
 ⟨some 4, .move (T 3), 0, none, [3]⟩,
 ⟨some 5, .move (V 4), 0, (some (some 4, true)), [4]⟩,
 ⟨some 6, .move (V 10), 0, (some (some 4, true)), [4]⟩,
 ⟨some 7, .indexAddr N.zi (T 5) (T 6), 0, (some (some 4, true)), [5, 6, 4]⟩,
 ⟨some 8, .fieldAddr N.zy (T 7) 0, 0, (some (some 4, true)), [7, 4]⟩,
 ⟨some 9, .load N.zc (T 8), 0, (some (some 4, true)), [8, 4]⟩,
 ⟨some 10, .fieldAddr N.zy (V 9) 0, 0, (some (some 4, true)), [4]⟩,
 ⟨some 11, .load N.zc (T 10), 0, (some (some 4, true)), [10, 4]⟩,
 ⟨some 12, .binOp .lss N.zc (T 9) (T 11) N.zc, 0, (some (some 4, true)), [9, 11, 4]⟩,
 ⟨some (11+100), .pick (T 4) (T 12) (.const (.bool false)), 0, none, [4, 12]⟩]) (
 .cond 11 (
 .skip) (
 .exit 2))) (
 .block 3 (
 .ops [
 ⟨some 0, .move (V 10), 0, none, []⟩,
 ⟨some 1, .binOp .add N.ze (T 0) (.const (.int .i64 1)) N.ze, 0, none, []⟩,
 ⟨some (10+100), .assign (T 1), 0, none, []⟩]))))) (
 .seq (
 .seq (
 .draw [
 ⟨some 0, .fieldAddr N.zy (V 9) 0, 0, none, []⟩,
 ⟨some 1, .load N.zc (T 0), 0, none, [0]⟩,
 ⟨some 2, .move (V 3), 0, none, []⟩,
 ⟨some 3, .binOp .lss N.zc (T 1) (T 2) N.zc, 0, none, [1, 2]⟩,
 ⟨some 4, .move (T 3), 0, none, [3]⟩,
 ⟨some 5, .move (V 10), 0, (some (some 4, false)), [4]⟩,
 ⟨some 6, .move (V 4), 0, (some (some 4, false)), [4]⟩,
 ⟨some 7, .call ⟨.builtin .len, #[T 6], #[N.zi]⟩, N.ze, (some (some 4, false)), [6, 4]⟩,
 ⟨some 8, .binOp .lss N.ze (T 5) (T 7) N.ze, 0, (some (some 4, false)), [5, 7, 4]⟩,
 ⟨some 9, .move (T 8), 0, (some (some 4, false)), [8, 4, 4]⟩,
 ⟨some 10, .move (V 4), 0, (some (some 9, true)), [9]⟩,
 ⟨some 11, .move (V 10), 0, (some (some 9, true)), [9]⟩,
 ⟨some 12, .indexAddr N.zi (T 10) (T 11), 0, (some (some 9, true)), [10, 11, 9]⟩,
 ⟨some 13, .fieldAddr N.zy (T 12) 0, 0, (some (some 9, true)), [12, 9]⟩,
 ⟨some 14, .load N.zc (T 13), 0, (some (some 9, true)), [13, 9]⟩,
 ⟨some 15, .fieldAddr N.zy (V 9) 0, 0, (some (some 9, true)), [9]⟩,
 ⟨some 16, .load N.zc (T 15), 0, (some (some 9, true)), [15, 9]⟩,
 ⟨some 17, .binOp .eql N.zc (T 14) (T 16) N.zc, 0, (some (some 9, true)), [14, 16, 9]⟩,
 ⟨some 18, .pick (T 9) (T 17) (.const (.bool false)), 0, (some (some 4, false)), [9, 17, 4]⟩,
 ⟨some (12+100), .pick (T 4) (.const (.bool true)) (T 18), 0, none, [4, 18]⟩]) (
 .cond 12 (
 .exit 1) (
 .skip))) (
 .seq (
 .ops [
 ⟨some 0, .move (V 4), 0, none, []⟩,
 ⟨some 1, .build N.zy #[], 0, none, []⟩,
 ⟨some 2, .buildSlice N.zi 1 #[(0, (T 1))], 0, none, []⟩,
 ⟨some 3, .call ⟨.builtin .append, #[T 0, T 2], #[N.zi, N.zi]⟩, N.zi, none, []⟩,
 ⟨some (4+100), .assign (T 3), 0, none, []⟩]) (
 .seq (
 .seq (
 .ops [
 ⟨some 0, .move (V 4), 0, none, []⟩,
 ⟨some 1, .call ⟨.builtin .len, #[T 0], #[N.zi]⟩, N.ze, none, []⟩,
 ⟨some 2, .binOp .sub N.ze (T 1) (.const (.int .i64 1)) N.ze, 0, none, []⟩,
 ⟨some (13+100), .assign (T 2), 0, none, []⟩]) (
 .block 4 (
 .loop (
 .seq (
 .seq (
 .ops [
 ⟨some 0, .move (V 13), 0, none, []⟩,
 ⟨some 1, .move (V 10), 0, none, []⟩,
 ⟨some (14+100), .binOp .gtr N.ze (T 0) (T 1) N.ze, 0, none, []⟩]) (
 .cond 14 (
 .skip) (
 .exit 4))) (
 .seq (
 .block 5 (
 .ops [
 ⟨some 0, .move (V 4), 0, none, []⟩,
 ⟨some 1, .move (V 13), 0, none, []⟩,
 ⟨some 2, .move (V 4), 0, none, []⟩,
 ⟨some 3, .move (V 13), 0, none, []⟩,
 ⟨some 4, .binOp .sub N.ze (T 3) (.const (.int .i64 1)) N.ze, 0, none, []⟩,
 ⟨some 5, .indexAddr N.zi (T 2) (T 4), 0, none, []⟩,
 ⟨some 6, .load N.zy (T 5), 0, none, []⟩,
 ⟨some 7, .indexAddr N.zi (T 0) (T 1), 0, none, []⟩,
 ⟨none, .store N.zy (T 7) (T 6), 0, none, []⟩])) (
 .ops [
 ⟨some 0, .move (V 13), 0, none, []⟩,
 ⟨some 1, .binOp .sub N.ze (T 0) (.const (.int .i64 1)) N.ze, 0, none, []⟩,
 ⟨some (13+100), .assign (T 1), 0, none, []⟩])))))) (
 .ops [
 ⟨some 0, .move (V 4), 0, none, []⟩,
 ⟨some 1, .move (V 10), 0, none, []⟩,
 ⟨some 2, .load N.zy (V 9), 0, none, []⟩,
 ⟨some 3, .indexAddr N.zi (T 0) (T 1), 0, none, []⟩,
 ⟨none, .store N.zy (T 3) (T 2), 0, none, []⟩])))))))) (
 .ops [
 ⟨some 0, .binOp .add N.ze (V 7) (.const (.int .i64 1)) N.ze, 0, none, []⟩,
 ⟨some (7+100), .move (T 0), 0, none, []⟩]))))))) (
 .seq (
 .ops [
 ⟨some 0, .move (V 4), 0, none, []⟩,
 ⟨some (2+100), .assign (T 0), 0, none, []⟩]) (
 .ret)))))
def zqx (N : Nums) (M : zaz) : C :=
 .seq (
 .ops [
 ⟨some (4+100), .box N.zb (V 3), 0, none, []⟩,
 ⟨some (5+100), .assign (.const (.slice none 0 0)), 0, none, []⟩]) (
 .seq (
 .ops [
 ⟨some (6+100), .assign (.const (.slice none 0 0)), 0, none, []⟩,
 ⟨some (7+100), .assign (.const (.slice none 0 0)), 0, none, []⟩]) (
 .seq (
 .ops [
 ⟨some (8+100), .assign (.const (.int .i64 0)), 0, none, []⟩]) (
 .seq (
 .seq (
 .ops [
 ⟨some (9+100), .move (V 0), 0, none, []⟩,
 ⟨some (10+100), .call ⟨.builtin .len, #[V 9], #[M.zab]⟩, N.ze, none, []⟩,
 ⟨some (11+100), .move (.const (.int .i64 0)), 0, none, []⟩]) (
 .block 0 (
 .loop (
 .seq (
 .ops [
 ⟨some (12+100), .binOp .lss N.ze (V 11) (V 10) N.ze, 0, none, []⟩]) (
 .seq (
 .cond 12 (
 .skip) (
 .exit 0)) (
 .seq (
 .block 1 (
 .seq (
 .ops [
 ⟨some 0, .move (V 11), 0, none, []⟩,
 ⟨some 1, .indexAddr M.zab (V 9) (V 11), 0, none, []⟩,
 ⟨some 2, .load M.zg (T 1), 0, none, []⟩,
 ⟨some (13+100), .alloc M.zg, 0, none, []⟩,
 ⟨some (14+100), .assign (T 0), 0, none, []⟩,
 ⟨none, .store M.zg (V 13) (T 2), 0, none, []⟩]) (
 .seq (
 .ops [
 ⟨some 0, .fieldAddr M.zg (V 13) 4, 0, none, []⟩,
 ⟨some 1, .load N.ze (T 0), 0, none, []⟩,
 ⟨some 2, .binOp .lss N.ze (T 1) (.const (.int .i64 0)) N.ze, 0, none, []⟩,
 ⟨some 3, .move (T 2), 0, none, []⟩,
 ⟨some 4, .load M.zg (V 13), 0, (some (some 3, true)), []⟩,
 ⟨some 5, .move (V 1), 0, (some (some 3, true)), []⟩,
 ⟨some 6, .call ⟨.value (.func M.zfa), #[T 4, T 5], #[M.zg, N.ze]⟩, N.zaq, (some (some 3, true)), []⟩,
 ⟨some (15+100), .pick (T 3) (T 6) (.const (.bool false)), 0, none, []⟩]) (
 .cond 15 (
 .draw [
 ⟨some 0, .move (V 6), 0, none, []⟩,
 ⟨some 1, .load M.zg (V 13), 0, none, []⟩,
 ⟨some 2, .move (V 1), 0, none, []⟩,
 ⟨some 3, .move (V 2), 0, none, []⟩,
 ⟨some 4, .load N.zb (V 4), 0, none, []⟩,
 ⟨some 5, .move (V 14), 0, none, []⟩,
 ⟨some 6, .call ⟨.value (.func M.zes), #[T 4, T 5], #[N.zb, N.ze]⟩, N.zb, none, [4, 5]⟩,
 ⟨some 7, .call ⟨.value (.func M.zhq), #[T 1, T 2, T 3, T 6], #[M.zg, N.ze, N.zaq, N.zb]⟩, N.za, none, [1, 2, 3, 6, 6]⟩,
 ⟨some 8, .call ⟨.builtin .append, #[T 0, T 7], #[N.za, N.za]⟩, N.za, none, [0, 7, 7]⟩,
 ⟨some (6+100), .assign (T 8), 0, none, [8, 8, 0, 1, 2, 3, 4, 5, 6, 7, 8]⟩]) (
 .skip))))) (
 .ops [
 ⟨some 0, .binOp .add N.ze (V 11) (.const (.int .i64 1)) N.ze, 0, none, []⟩,
 ⟨some (11+100), .move (T 0), 0, none, []⟩]))))))) (
 .seq (
 .seq (
 .ops [
 ⟨some 0, .move (V 2), 0, none, []⟩,
 ⟨some (16+100), .unOp .not N.zaq (T 0), 0, none, []⟩]) (
 .cond 16 (
 .seq (
 .ops [
 ⟨some 0, .move (V 6), 0, none, []⟩,
 ⟨some (5+100), .assign (T 0), 0, none, []⟩]) (
 .ret)) (
 .skip))) (
 .seq (
 .seq (
 .ops [
 ⟨some 0, .move (V 0), 0, none, []⟩,
 ⟨some 1, .call ⟨.value (.func M.zhp), #[T 0], #[M.zab]⟩, N.zc, none, []⟩,
 ⟨some (17+100), .convert N.zc N.ze (T 1), 0, none, []⟩,
 ⟨some (18+100), .move (.const (.int .i64 0)), 0, none, []⟩]) (
 .block 2 (
 .loop (
 .seq (
 .ops [
 ⟨some (19+100), .binOp .lss N.ze (V 18) (V 17) N.ze, 0, none, []⟩]) (
 .seq (
 .cond 19 (
 .skip) (
 .exit 2)) (
 .seq (
 .block 3 (
 .seq (
 .ops [
 ⟨some 0, .move (V 18), 0, none, []⟩,
 ⟨some (20+100), .assign (T 0), 0, none, []⟩]) (
 .seq (
 .ops [
 ⟨some (21+100), .move (V 0), 0, none, []⟩,
 ⟨some (22+100), .call ⟨.builtin .len, #[V 21], #[M.zab]⟩, N.ze, none, []⟩,
 ⟨some (23+100), .move (.const (.int .i64 0)), 0, none, []⟩]) (
 .block 4 (
 .loop (
 .seq (
 .ops [
 ⟨some (24+100), .binOp .lss N.ze (V 23) (V 22) N.ze, 0, none, []⟩]) (
 .seq (
 .cond 24 (
 .skip) (
 .exit 4)) (
 .seq (
 .block 5 (
 .seq (
 .ops [
 ⟨some 0, .move (V 23), 0, none, []⟩,
 ⟨some 1, .indexAddr M.zab (V 21) (V 23), 0, none, []⟩,
 ⟨some 2, .load M.zg (T 1), 0, none, []⟩,
 ⟨some (25+100), .alloc M.zg, 0, none, []⟩,
 ⟨some (26+100), .assign (T 0), 0, none, []⟩,
 ⟨none, .store M.zg (V 25) (T 2), 0, none, []⟩]) (
 .seq (
 .draw [
 ⟨some 0, .fieldAddr M.zg (V 25) 4, 0, none, []⟩,
 ⟨some 1, .load N.ze (T 0), 0, none, [0]⟩,
 ⟨some 2, .move (V 20), 0, none, []⟩,
 ⟨some 3, .binOp .eql N.ze (T 1) (T 2) N.ze, 0, none, [1, 2]⟩,
 ⟨some 4, .move (T 3), 0, none, [3]⟩,
 ⟨some 5, .load M.zg (V 25), 0, (some (some 4, true)), [4]⟩,
 ⟨some 6, .load N.zb (V 4), 0, (some (some 4, true)), [4]⟩,
 ⟨some 7, .move (V 26), 0, (some (some 4, true)), [4]⟩,
 ⟨some 8, .call ⟨.value (.func M.zes), #[T 6, T 7], #[N.zb, N.ze]⟩, N.zb, (some (some 4, true)), [6, 7, 4, 4]⟩,
 ⟨some 9, .call ⟨.value (.func M.zvq), #[T 5, T 8], #[M.zg, N.zb]⟩, N.zaq, (some (some 4, true)), [5, 8, 8, 4]⟩,
 ⟨some 10, .unOp .not N.zaq (T 9), 0, (some (some 4, true)), [9, 4]⟩,
 ⟨some (27+100), .pick (T 4) (T 10) (.const (.bool false)), 0, none, [4, 10]⟩]) (
 .cond 27 (
 .seq (
 .draw [
 ⟨some 0, .load M.zg (V 25), 0, none, []⟩,
 ⟨some 1, .move (V 1), 0, none, []⟩,
 ⟨some 2, .move (V 2), 0, none, []⟩,
 ⟨some 3, .load N.zb (V 4), 0, none, []⟩,
 ⟨some 4, .move (V 26), 0, none, []⟩,
 ⟨some 5, .call ⟨.value (.func M.zes), #[T 3, T 4], #[N.zb, N.ze]⟩, N.zb, none, [3, 4]⟩,
 ⟨some 6, .call ⟨.value (.func M.zhq), #[T 0, T 1, T 2, T 5], #[M.zg, N.ze, N.zaq, N.zb]⟩, N.za, none, [0, 1, 2, 5, 5]⟩,
 ⟨some (28+100), .assign (T 6), 0, none, [6, 6, 0, 1, 2, 3, 4, 5, 6]⟩]) (
 .seq (
 .ops [
 ⟨some 0, .move (V 7), 0, none, []⟩,
 ⟨some 1, .move (V 20), 0, none, []⟩,
 ⟨some 2, .convert N.ze N.zad (T 1), 0, none, []⟩,
 ⟨some 3, .call ⟨.value (.func M.zcd), #[T 2], #[N.zad]⟩, N.za, none, []⟩,
 ⟨some 4, .call ⟨.builtin .append, #[T 0, T 3], #[N.za, N.za]⟩, N.za, none, []⟩,
 ⟨some 5, .move (V 28), 0, none, []⟩,
 ⟨some 6, .call ⟨.builtin .len, #[T 5], #[N.za]⟩, N.ze, none, []⟩,
 ⟨some 7, .convert N.ze N.zad (T 6), 0, none, []⟩,
 ⟨some 8, .call ⟨.value (.func M.zcd), #[T 7], #[N.zad]⟩, N.za, none, []⟩,
 ⟨some 9, .call ⟨.builtin .append, #[T 4, T 8], #[N.za, N.za]⟩, N.za, none, []⟩,
 ⟨some 10, .move (V 28), 0, none, []⟩,
 ⟨some 11, .call ⟨.builtin .append, #[T 9, T 10], #[N.za, N.za]⟩, N.za, none, []⟩,
 ⟨some (7+100), .assign (T 11), 0, none, []⟩]) (
 .ops [
 ⟨some 0, .move (V 8), 0, none, []⟩,
 ⟨some 1, .binOp .add N.ze (T 0) (.const (.int .i64 1)) N.ze, 0, none, []⟩,
 ⟨some (8+100), .assign (T 1), 0, none, []⟩]))) (
 .skip))))) (
 .ops [
 ⟨some 0, .binOp .add N.ze (V 23) (.const (.int .i64 1)) N.ze, 0, none, []⟩,
 ⟨some (23+100), .move (T 0), 0, none, []⟩]))))))))) (
 .ops [
 ⟨some 0, .binOp .add N.ze (V 18) (.const (.int .i64 1)) N.ze, 0, none, []⟩,
 ⟨some (18+100), .move (T 0), 0, none, []⟩]))))))) (
 .seq (
 .seq (
 .ops [
 ⟨some 0, .move (V 0), 0, none, []⟩,
 ⟨some 1, .fieldAddr N.zb (V 4) 4, 0, none, []⟩,
 ⟨some 2, .load N.zi (T 1), 0, none, []⟩,
 ⟨some (29+100), .call ⟨.value (.func M.zfy), #[T 0, T 2], #[M.zab, N.zi]⟩, N.zi, none, []⟩,
 ⟨some (30+100), .call ⟨.builtin .len, #[V 29], #[N.zi]⟩, N.ze, none, []⟩,
 ⟨some (31+100), .move (.const (.int .i64 0)), 0, none, []⟩]) (
 .block 6 (
 .loop (
 .seq (
 .ops [
 ⟨some (32+100), .binOp .lss N.ze (V 31) (V 30) N.ze, 0, none, []⟩]) (
 .seq (
 .cond 32 (
 .skip) (
 .exit 6)) (
 .seq (
 .block 7 (
 .seq (
 .ops [
 ⟨some 0, .indexAddr N.zi (V 29) (V 31), 0, none, []⟩,
 ⟨some 1, .load N.zy (T 0), 0, none, []⟩,
 ⟨some (33+100), .alloc N.zy, 0, none, []⟩,
 ⟨none, .store N.zy (V 33) (T 1), 0, none, []⟩]) (
 .seq (
 .ops [
 ⟨some 0, .fieldAddr N.zy (V 33) 1, 0, none, []⟩,
 ⟨some 1, .load N.za (T 0), 0, none, []⟩,
 ⟨some 2, .call ⟨.value (.func M.zdi), #[T 1], #[N.za]⟩, N.za, none, []⟩,
 ⟨some (34+100), .assign (T 2), 0, none, []⟩]) (
 .seq (
 .ops [
 ⟨some 0, .move (V 7), 0, none, []⟩,
 ⟨some 1, .fieldAddr N.zy (V 33) 0, 0, none, []⟩,
 ⟨some 2, .load N.zc (T 1), 0, none, []⟩,
 ⟨some 3, .convert N.zc N.zad (T 2), 0, none, []⟩,
 ⟨some 4, .call ⟨.value (.func M.zcd), #[T 3], #[N.zad]⟩, N.za, none, []⟩,
 ⟨some 5, .call ⟨.builtin .append, #[T 0, T 4], #[N.za, N.za]⟩, N.za, none, []⟩,
 ⟨some 6, .move (V 34), 0, none, []⟩,
 ⟨some 7, .call ⟨.builtin .len, #[T 6], #[N.za]⟩, N.ze, none, []⟩,
 ⟨some 8, .convert N.ze N.zad (T 7), 0, none, []⟩,
 ⟨some 9, .call ⟨.value (.func M.zcd), #[T 8], #[N.zad]⟩, N.za, none, []⟩,
 ⟨some 10, .call ⟨.builtin .append, #[T 5, T 9], #[N.za, N.za]⟩, N.za, none, []⟩,
 ⟨some 11, .move (V 34), 0, none, []⟩,
 ⟨some 12, .call ⟨.builtin .append, #[T 10, T 11], #[N.za, N.za]⟩, N.za, none, []⟩,
 ⟨some (7+100), .assign (T 12), 0, none, []⟩]) (
 .ops [
 ⟨some 0, .move (V 8), 0, none, []⟩,
 ⟨some 1, .binOp .add N.ze (T 0) (.const (.int .i64 1)) N.ze, 0, none, []⟩,
 ⟨some (8+100), .assign (T 1), 0, none, []⟩]))))) (
 .ops [
 ⟨some 0, .binOp .add N.ze (V 31) (.const (.int .i64 1)) N.ze, 0, none, []⟩,
 ⟨some (31+100), .move (T 0), 0, none, []⟩]))))))) (
 .seq (
 .ops [
 ⟨some 0, .move (V 6), 0, none, []⟩,
 ⟨some 1, .move (V 8), 0, none, []⟩,
 ⟨some 2, .convert N.ze N.zad (T 1), 0, none, []⟩,
 ⟨some 3, .call ⟨.value (.func M.zcd), #[T 2], #[N.zad]⟩, N.za, none, []⟩,
 ⟨some 4, .call ⟨.builtin .append, #[T 0, T 3], #[N.za, N.za]⟩, N.za, none, []⟩,
 ⟨some 5, .move (V 7), 0, none, []⟩,
 ⟨some 6, .call ⟨.builtin .append, #[T 4, T 5], #[N.za, N.za]⟩, N.za, none, []⟩,
 ⟨some (5+100), .assign (T 6), 0, none, []⟩]) (
 .ret))))))))
def zph (N : Nums) (M : zaz) : C :=
 .seq (
 .ops [
 ⟨some (3+100), .box M.zac (V 0), 0, none, []⟩,
 ⟨some (4+100), .box N.zb (V 2), 0, none, []⟩,
 ⟨some (5+100), .assign (.const (.slice none 0 0)), 0, none, []⟩]) (
 .seq (
 .ops [
 ⟨some 0, .fieldAddr M.zac (V 3) 0, 0, none, []⟩,
 ⟨some 1, .load M.zab (T 0), 0, none, []⟩,
 ⟨some 2, .move (V 1), 0, none, []⟩,
 ⟨some 3, .fieldAddr M.zac (V 3) 1, 0, none, []⟩,
 ⟨some 4, .load N.ze (T 3), 0, none, []⟩,
 ⟨some 5, .binOp .geq N.ze (T 4) (.const (.int .i64 0)) N.ze, 0, none, []⟩,
 ⟨some 6, .move (T 5), 0, none, []⟩,
 ⟨some 7, .move (V 1), 0, (some (some 6, true)), []⟩,
 ⟨some 8, .fieldAddr M.zac (V 3) 1, 0, (some (some 6, true)), []⟩,
 ⟨some 9, .load N.ze (T 8), 0, (some (some 6, true)), []⟩,
 ⟨some 10, .binOp .geq N.ze (T 7) (T 9) N.ze, 0, (some (some 6, true)), []⟩,
 ⟨some 11, .pick (T 6) (T 10) (.const (.bool false)), 0, none, []⟩,
 ⟨some 12, .load N.zb (V 4), 0, none, []⟩,
 ⟨some 13, .call ⟨.value (.func M.ziw), #[T 1, T 2, T 11, T 12], #[M.zab, N.ze, N.zaq, N.zb]⟩, N.za, none, []⟩,
 ⟨some (5+100), .assign (T 13), 0, none, []⟩]) (
 .ret))
structure SZ (P : Program) (N : Nums) (M : zaz) : Prop where
 zzFits3 : FOk P M.znm 1 (zqw N M) [.var 2]
 zzFits2 : FOk P M.zqr 1 (zvz N M) [.var 1]
 zzFits1 : FOk P M.znn 1 (zwa N M) [.var 2]
structure SW (P : Program) (N : Nums) (M : zaz) : Prop where
 Field_has : FOk P M.zfa 2 (zib N M) [.var 3]
 Field_null : FOk P M.zet 3 (zhd N M) [.var 5]
 whole : FOk P M.zdi 1 (zlo N M) [.var 1]
 things : FOk P M.zgm 1 (zks N M) [.var 1]
 at_ : FOk P M.zes 2 (zlq N M) [.cell 3 N.zb]
 Uvarint : FOk P M.zcd 1 (zhi N M) [.var 1]
 Fixed : FOk P M.zdv 2 (zjo N M) [.var 2]
 width : FOk P M.zjl 1 (zln N M) [.var 1]
 counted : FOk P M.zde 4 (zjt N M) [.var 4]
 value : FOk P M.zho 6 (zpf N M) [.var 7]
 field : FOk P M.zhq 4 (zpg N M) [.var 6]
 known : FOk P M.zhp 1 (zlp N M) [.var 1]
 unknown : FOk P M.zfy 2 (zmm N M) [.var 2]
 part : FOk P M.ziw 4 (zqx N M) [.var 5]
 Write : FOk P M.zjm 3 (zph N M) [.var 5]
inductive Fld where
 | mk (kind frm to null tag dflt of : Int) (sub : List Fld)
def Fld.kind : Fld → Int | .mk k .. => k
def Fld.frm : Fld → Int | .mk _ f .. => f
def Fld.to : Fld → Int | .mk _ _ t .. => t
def Fld.null : Fld → Int | .mk _ _ _ n .. => n
def Fld.tag : Fld → Int | .mk _ _ _ _ g .. => g
def Fld.dflt : Fld → Int | .mk _ _ _ _ _ d .. => d
def Fld.of : Fld → Int | .mk _ _ _ _ _ _ o _ => o
def Fld.sub : Fld → List Fld | .mk _ _ _ _ _ _ _ s => s
def most : Nat := 32767
def Tr.n : Tr → Int | .mk n .. => n
def Tr.s : Tr → List UInt8 | .mk _ s .. => s
def Tr.nl : Tr → Bool | .mk _ _ b .. => b
def Tr.l : Tr → List Tr | .mk _ _ _ l _ => l
def Tr.u : Tr → List (Nat × List UInt8) | .mk _ _ _ _ u => u
def tr0 : Tr := .mk 0 [] false [] []
def Fld.has (f : Fld) (v : Int) : Bool := decide (f.frm ≤ v) && (decide (f.to < 0) || decide (v ≤ f.to))
def Fld.nullB (f : Fld) (v : Int) (t : Tr) : Bool := t.nl && decide (0 ≤ f.null) && decide (f.null ≤ v)
def zbq (s : List UInt8) : List UInt8 := s.take most
def zev (l : List Tr) : List Tr := l.take most
def atT (t : Tr) (i : Nat) : Tr := t.l.getD i tr0
def uvB (n : Nat) : List UInt8 := if n < 128 then [UInt8.ofNat n] else UInt8.ofNat (n % 128 + 128) :: uvB (n / 128)
termination_by n
def fixB (n : Int) : Nat → List UInt8
 | 0 => []
 | k + 1 => UInt8.ofNat (IntKind.u8.wrap (n.fdiv (2 ^ (8 * k)))).toNat :: fixB n k
def zgl (k : Int) : Nat := if k = 1 then 1 else if k = 2 ∨ k = 5 then 2 else if k = 3 then 4 else 8
def zao (flex null : Bool) (n size : Nat) : List UInt8 := if flex && null then [0] else if flex then uvB (n + 1) else if null then fixB (-1) size else fixB n size
def insT (k : Nat) (x : List UInt8) : List (Nat × List UInt8) → List (Nat × List UInt8)
 | [] => [(k, x)]
 | (k', y) :: r => if k' < k then (k', y) :: insT k x r else if k' = k then (k', y) :: r else (k, x) :: (k', y) :: r
def unkT (u : List (Nat × List UInt8)) : List (Nat × List UInt8) := (u.take most).foldl (fun a x => insT x.1 x.2 a) []
def tagB (x : Nat × List UInt8) : List UInt8 := uvB x.1 ++ (uvB (zbq x.2).length ++ zbq x.2)
def valB (flex : Bool) (kind : Int) (pt : Tr → List UInt8) (null : Bool) (t : Tr) : List UInt8 :=
 if kind = 0 then [UInt8.ofNat (t.n % 2).toNat]
 else if kind = 7 then t.s.take 16 ++ List.replicate (16 - t.s.length) 0
 else if kind = 8 then zao flex null (if null then [] else zbq t.s).length 2 ++ (if null then [] else zbq t.s)
 else if kind = 9 then zao flex null (if null then [] else zbq t.s).length 4 ++ (if null then [] else zbq t.s)
 else if kind = 10 then pt t
 else fixB t.n (zgl kind)
def endB (flex : Bool) (x : List UInt8) (u : List (Nat × List UInt8)) : List UInt8 :=
 x ++ if flex then uvB (unkT u).length ++ (unkT u).flatMap tagB else []
mutual
def zfe (flex : Bool) (v : Int) : Fld → Tr → List UInt8
 | .mk k f t' n g d o sub, t =>
  if k = 11 then zao flex (Fld.nullB (.mk k f t' n g d o []) v t) (if Fld.nullB (.mk k f t' n g d o []) v t then [] else zev t.l).length 4 ++
   (if Fld.nullB (.mk k f t' n g d o []) v t then [] else zev t.l).flatMap (valB flex o (fun t => endB flex (zcs flex v sub 0 t) t.u) false)
  else valB flex k (fun t => endB flex (zcs flex v sub 0 t) t.u) (Fld.nullB (.mk k f t' n g d o []) v t) t
def zcs (flex : Bool) (v : Int) : List Fld → Nat → Tr → List UInt8
 | [], _, _ => []
 | f :: r, i, t => (if f.has v then zfe flex v f (atT t i) else []) ++ zcs flex v r (i + 1) t
end
def zeh (flex : Bool) (v : Int) (fs : List Fld) (t : Tr) : List UInt8 := endB flex (zcs flex v fs 0 t) t.u
mutual
def wfT : Tr → Prop
 | .mk n _ _ l u => (-9223372036854775808 ≤ n ∧ n < 9223372036854775808) ∧ (∀ x ∈ u, x.1 < 4294967296) ∧ wfTs l
def wfTs : List Tr → Prop
 | [] => True
 | t :: l => wfT t ∧ wfTs l
end
theorem wfTs.mem : ∀ {l : List Tr}, wfTs l → ∀ x ∈ l, wfT x
 | [], _, x, hx => by cases hx
 | t :: l, h, x, hx => by
  simp only [wfTs] at h
  rcases List.mem_cons.1 hx with rfl | hx
  ·exact h.1
  ·exact wfTs.mem h.2 x hx
theorem wfT.l {t : Tr} (h : wfT t) : ∀ x ∈ t.l, wfT x := by
 cases t; simp only [wfT] at h; exact wfTs.mem h.2.2
theorem wfT.u {t : Tr} (h : wfT t) : ∀ x ∈ t.u, x.1 < 4294967296 := by
 cases t; simp only [wfT] at h; exact h.2.1
theorem wfT.at {t : Tr} (h : wfT t) (i : Nat) : wfT (atT t i) := by
 unfold atT
 cases hx : t.l[i]? with
 | none =>
  rw [List.getD, hx]
  simp only [Option.getD_none, tr0, wfT, wfTs]
  exact ⟨by decide, (fun x hx => by cases hx), trivial⟩
 | some y => rw [List.getD, hx]; exact h.l y (List.mem_of_getElem? hx)
def OctA (w : World) (v : Value) (s : List UInt8) : Prop :=
 (∃ ad c, v = .slice ad 0 c ∧ s = []) ∨ ∃ b o c, v = .slice (some ⟨b, o, none⟩) s.length c ∧ s.length ≤ c ∧ w.rangeAt b o (s.map zam)
def UsA (w : World) : List (Nat × List UInt8) → List Value → Prop
 | [], cs => cs = []
 | (k, l) :: r, cs => ∃ v rest, cs = .int .u32 k :: v :: rest ∧ OctA w v l ∧ UsA w r rest
def zje (w : World) (v : Value) (u : List (Nat × List UInt8)) : Prop :=
 (∃ ad c, v = .slice ad 0 c ∧ u = []) ∨ ∃ b o c cs, v = .slice (some ⟨b, o, none⟩) u.length c ∧ u.length ≤ c ∧ UsA w u cs ∧ w.rangeAt b o cs
mutual
def RepA (w : World) : Tr → List Value → Prop
 | .mk n s nl l u, cs => ∃ vs vl vu, cs = [.int .i64 n, vs, .bool nl, vl, vu] ∧ OctA w vs s ∧
   ((∃ ad c, vl = .slice ad 0 c ∧ l = []) ∨ ∃ b o c css, vl = .slice (some ⟨b, o, none⟩) l.length c ∧ l.length ≤ c ∧ zjf w l css ∧ w.rangeAt b o css.flatten) ∧ zje w vu u
def zjf (w : World) : List Tr → List (List Value) → Prop
 | [], css => css = []
 | t :: l, css => ∃ c r, css = c :: r ∧ RepA w t c ∧ zjf w l r
end
mutual
def RepF (w : World) : Fld → List Value → Prop
 | .mk k f t n g d o sub, cs => ∃ v, cs = [.int .i64 k, .int .i64 f, .int .i64 t, .int .i64 n, .int .i64 g, .int .i64 d, .int .i64 o, v] ∧
   ((∃ ad c, v = .slice ad 0 c ∧ sub = []) ∨ ∃ b o c css, v = .slice (some ⟨b, o, none⟩) sub.length c ∧ sub.length ≤ c ∧ zgc w sub css ∧ w.rangeAt b o css.flatten)
def zgc (w : World) : List Fld → List (List Value) → Prop
 | [], css => css = []
 | t :: l, css => ∃ c r, css = c :: r ∧ RepF w t c ∧ zgc w l r
end
def zgd (w : World) (v : Value) (fs : List Fld) : Prop :=
 (∃ ad c, v = .slice ad 0 c ∧ fs = []) ∨ ∃ b o c css, v = .slice (some ⟨b, o, none⟩) fs.length c ∧ fs.length ≤ c ∧ zgc w fs css ∧ w.rangeAt b o css.flatten
def zgb (w : World) (v : Value) (l : List Tr) : Prop :=
 (∃ ad c, v = .slice ad 0 c ∧ l = []) ∨ ∃ b o c css, v = .slice (some ⟨b, o, none⟩) l.length c ∧ l.length ≤ c ∧ zjf w l css ∧ w.rangeAt b o css.flatten
theorem OctA.stay {w w' : World} (h : Mod w w' zw) {v : Value} {s : List UInt8} (hs : OctA w v s) : OctA w' v s :=
 hs.imp id fun ⟨b, o, c, h1, h2, h3⟩ => ⟨b, o, c, h1, h2, zh h h3⟩
theorem UsA.stay {w w' : World} (h : Mod w w' zw) : ∀ {u : List (Nat × List UInt8)} {cs : List Value}, UsA w u cs → UsA w' u cs
 | [], _, hu => hu
 | (k, l) :: r, _, ⟨v, rest, h1, h2, h3⟩ => ⟨v, rest, h1, h2.stay h, UsA.stay h h3⟩
theorem zje.stay {w w' : World} (h : Mod w w' zw) {v : Value} {u : List (Nat × List UInt8)} (hu : zje w v u) : zje w' v u :=
 hu.imp id fun ⟨b, o, c, cs, h1, h2, h3, h4⟩ => ⟨b, o, c, cs, h1, h2, h3.stay h, zh h h4⟩
mutual
theorem RepA.stay {w w' : World} (h : Mod w w' zw) : ∀ (t : Tr) {cs : List Value}, RepA w t cs → RepA w' t cs
 | .mk n s nl l u, _, ⟨vs, vl, vu, h1, h2, h3, h4⟩ => ⟨vs, vl, vu, h1, h2.stay h, h3.imp id fun ⟨b, o, c, css, g1, g2, g3, g4⟩ => ⟨b, o, c, css, g1, g2, zjf.stay h l g3, zh h g4⟩, h4.stay h⟩
theorem zjf.stay {w w' : World} (h : Mod w w' zw) : ∀ (l : List Tr) {css : List (List Value)}, zjf w l css → zjf w' l css
 | [], _, hr => hr
 | t :: l, _, ⟨c, r, h1, h2, h3⟩ => ⟨c, r, h1, RepA.stay h t h2, zjf.stay h l h3⟩
end
mutual
theorem RepF.stay {w w' : World} (h : Mod w w' zw) : ∀ (t : Fld) {cs : List Value}, RepF w t cs → RepF w' t cs
 | .mk _ _ _ _ _ _ _ sub, _, ⟨v, h1, h3⟩ => ⟨v, h1, h3.imp id fun ⟨b, o, c, css, g1, g2, g3, g4⟩ => ⟨b, o, c, css, g1, g2, zgc.stay h sub g3, zh h g4⟩⟩
theorem zgc.stay {w w' : World} (h : Mod w w' zw) : ∀ (l : List Fld) {css : List (List Value)}, zgc w l css → zgc w' l css
 | [], _, hr => hr
 | t :: l, _, ⟨c, r, h1, h2, h3⟩ => ⟨c, r, h1, RepF.stay h t h2, zgc.stay h l h3⟩
end
theorem zgd.stay {w w' : World} (h : Mod w w' zw) {v : Value} {fs : List Fld} (hs : zgd w v fs) : zgd w' v fs :=
 hs.imp id fun ⟨b, o, c, css, h1, h2, h3, h4⟩ => ⟨b, o, c, css, h1, h2, zgc.stay h fs h3, zh h h4⟩
theorem zgb.stay {w w' : World} (h : Mod w w' zw) {v : Value} {l : List Tr} (hs : zgb w v l) : zgb w' v l :=
 hs.imp id fun ⟨b, o, c, css, h1, h2, h3, h4⟩ => ⟨b, o, c, css, h1, h2, zjf.stay h l h3, zh h h4⟩
theorem tagV.octA {w : World} {G : Nat → Prop} {v : Value} {l : List UInt8} (h : tagV w G v l) : OctA w v l := by
 rcases h with ⟨e, _, _, h⟩ | ⟨b, o, c, h1, h2, h3, h4⟩
 ·exact .inl ⟨_, _, h, e⟩
 ·exact .inr ⟨b, o, c, h1, h2, h4⟩
theorem UsG.usA {w : World} {G : Nat → Prop} : ∀ {u : List (Nat × List UInt8)} {cs : List Value}, UsG w G u cs → UsA w u cs
 | [], _, hu => hu
 | (k, l) :: r, _, ⟨v, rest, h1, h2, h3⟩ => ⟨v, rest, h1, h2.octA, h3.usA⟩
theorem RepU.tagsA {w : World} {G : Nat → Prop} {v : Value} {u : List (Nat × List UInt8)} (h : RepU w G v u) : zje w v u := by
 rcases h with ⟨h, e⟩ | ⟨b, c, cs, h1, h2, _, h4, h5⟩
 ·exact .inl ⟨_, _, h, e⟩
 ·exact .inr ⟨b, 0, c, cs, h1, h2, h4.usA, h5⟩
mutual
theorem RepT.repA {w : World} {G : Nat → Prop} : ∀ (t : Tr) {cs : List Value}, RepT w G t cs → RepA w t cs
 | .mk n s nl l u, _, ⟨vs, vl, vu, h1, h2, h3, h4⟩ => by
  refine ⟨vs, vl, vu, h1, h2.octA, ?_, h4.tagsA⟩
  rcases h3 with ⟨e1, e2⟩ | ⟨b, c, css, g1, g2, _, g4, g5⟩
  ·exact .inl ⟨_, _, e1, e2⟩
  ·exact .inr ⟨b, 0, c, css, g1, g2, zcu.repA l g4, g5⟩
theorem zcu.repA {w : World} {G : Nat → Prop} : ∀ (l : List Tr) {css : List (List Value)}, zcu w G l css → zjf w l css
 | [], _, hr => hr
 | t :: l, _, ⟨c, r, h1, h2, h3⟩ => ⟨c, r, h1, RepT.repA t h2, zcu.repA l h3⟩
end
structure SpT (P : Program) (N : Nums) (M : zaz) : Prop where
 fld : SF P M.zg [(0, 1), (1, 1), (2, 1), (3, 1), (4, 1), (5, 1), (6, 1), (7, 1)] 80 [.int .i64 0, .int .i64 0, .int .i64 0, .int .i64 0, .int .i64 0, .int .i64 0, .int .i64 0, .slice none 0 0]
 f0 : HF P M.zg 0 0
 f1 : HF P M.zg 1 1
 f2 : HF P M.zg 2 2
 f3 : HF P M.zg 3 3
 f4 : HF P M.zg 4 4
 f5 : HF P M.zg 5 5
 f6 : HF P M.zg 6 6
 f7 : HF P M.zg 7 7
 lf : TI P M.zab (.slice M.zg) 1 24 (.slice none 0 0)
 msg : SF P M.zac [(0, 1), (1, 1)] 32 [.slice none 0 0, .int .i64 0]
 m0 : HF P M.zac 0 0
 m1 : HF P M.zac 1 1
 tr : zct P N N.zb N.zy N.zj N.zi
section
variable {P : Program} {N : Nums} {M : zaz}
theorem ztf {d : Option Nat} {x y : Operand} {ty : TypeId} {ts : Array TypeId} {af : List Nat} {ρ : Env} {w : World} {K : Env → World → Prop} : zbk P ⟨d, .call ⟨.builtin .min, #[x, y], ts⟩, ty, none, af⟩ ρ w K = zfx (fun v w => K (put ρ d v) w) ((Builtin.min_ ts ty #[ev ρ x, ev ρ y]).run P w) := by
 rw [zas rfl, ← zbg]
 simp [exec, execOp, resolve, invoke, builtin]
theorem zxa {ts : Array TypeId} {ty : TypeId} {k k' : IntKind} {a b : Int} {w : World} : (Builtin.min_ ts ty #[.int k a, .int k' b]).run P w = .ok (.int k (if b < a then b else a)) w := by
 simp [Builtin.min_, Builtin.min2]
theorem zdm {t : TypeId} {x y : Operand} {k yk : IntKind} {a b : Int} {w : World} (hb : 0 ≤ b) : (do eqGuard .shr t x y (.int k a) (.int yk b); binOp .shr t (.int k a) (.int yk b) : Sem Value).run P w = .ok (.int k (a.fdiv (2 ^ min b.toNat k.bits))) w := by
 simp [eqGuard, binOp, Op.shift, show ¬ b < 0 by omega]
theorem OctA.cut {w : World} {v : Value} {s : List UInt8} (h : OctA w v s) : ∃ ad c, v = .slice ad s.length c ∧ s.length ≤ c ∧ ∀ n, n ≤ s.length → OctA w (.slice ad n c) (s.take n) := by
 rcases h with ⟨ad, c, rfl, rfl⟩ | ⟨b, o, c, rfl, h1, h2⟩
 ·exact ⟨ad, c, rfl, Nat.zero_le _, fun n hn => .inl ⟨ad, c, by rw [show n = 0 by simpa using hn], by simp⟩⟩
 ·refine ⟨_, c, rfl, h1, fun n hn => .inr ⟨b, o, c, by rw [List.length_take, Nat.min_eq_left hn], by rw [List.length_take]; omega, fun j x hj => h2 j x ?_⟩⟩
  rw [List.getElem?_map] at hj ⊢
  cases hx : (s.take n)[j]? with
  | none => rw [hx] at hj; simp at hj
  | some y =>
   have : j < n := by have := (List.getElem?_eq_some_iff.1 hx).1; rw [List.length_take] at this; omega
   rw [List.getElem?_take_of_lt this] at hx
   rw [hx]
   have h2 : (s.take n)[j]? = some y := by rw [List.getElem?_take_of_lt this]; exact hx
   rw [h2] at hj; exact hj
theorem OctA.one {w : World} {v : Value} {s : List UInt8} (h : OctA w v s) : v.oneCell' = true := by
 rcases h with ⟨ad, c, rfl, _⟩ | ⟨b, o, c, rfl, _⟩ <;> rfl
theorem OctA.run_len (B : Base P N) {w w' : World} {v : Value} {l : List UInt8} (h : OctA w v l) {ty : TypeId} : (Builtin.len_ #[N.za] ty #[v]).run P w' = .ok (.int .i64 l.length) w' := by
 rcases h with ⟨ad, c, rfl, rfl⟩ | ⟨b, o, c, rfl, _⟩
 ·exact B.Lu8.run_len
 ·exact B.Lu8.run_len
theorem zmg (B : Base P N) (hF : FOk P M.zdi 1 (zlo N M) [.var 1]) {w w0 : World} {v : Value} {s : List UInt8} (h : OctA w0 v s) : Call P M.zdi #[v] w fun v' w' => w = w' ∧ OctA w0 v' (zbq s) := by
 refine hF.call rfl fun loc N' hlo => ?_
 unfold zlo
 obtain ⟨ad, c, hv, hc, hcut⟩ := h.cut
 refine zf fun K hK => zcy (hK _ _ ?_)
 clear hK K
 obtain ⟨σ, hσ⟩ : ∃ σ, σ = upd (zef #[v]) 1 (.slice none 0 0) := ⟨_, rfl⟩
 have f0 : σ 0 = v := by rw [hσ, zq (by decide)]; rfl
 rw [← hσ]
 clear hσ
 refine zf fun K hK => zn fun τ => ?_
 have hn : (if (32767 : Int) < (s.length : Int) then (32767 : Int) else (s.length : Int)) = ((min 32767 s.length : Nat) : Int) := by split <;> omega
 have hsl := fun {w : World} => zle (P := P) (w := w) B.Lu8 B.uint8 (ad := ad) (n := s.length) (c := c) (h := min 32767 s.length) (k := .i64) (by omega)
 simp +decide only [bK, bE, Nat.reduceBeqDiff, BEq.rfl, Nat.reduceAdd, Nat.zero_add, Option.map_some, Option.map_none, f0, h.run_len B, ztf, zxa, hn]
 rw [hv]
 simp +decide only [bK, hsl]
 refine hK _ _ (zd fun σ' hσ => zbl ⟨.inr rfl, _, rfl, rfl, ?_⟩)
 have g1 := hσ 1
 simp +decide only [bE, BEq.rfl, Nat.reduceAdd] at g1
 rw [g1]
 have h2 := hcut (min 32767 s.length) (by omega)
 rwa [show s.take (min 32767 s.length) = zbq s by unfold zbq most; rw [List.take_eq_take_iff]; omega] at h2
theorem zgb.cut {w : World} {v : Value} {s : List Tr} (h : zgb w v s) : ∃ ad c, v = .slice ad s.length c ∧ s.length ≤ c ∧ ∀ n, n ≤ s.length → zgb w (.slice ad n c) (s.take n) := by
 rcases h with ⟨ad, c, rfl, rfl⟩ | ⟨b, o, c, css, rfl, h1, h2, h3⟩
 ·exact ⟨ad, c, rfl, Nat.zero_le _, fun n hn => .inl ⟨ad, c, by rw [show n = 0 by simpa using hn], by simp⟩⟩
 ·have key : ∀ (l : List Tr) (css : List (List Value)) (n o : Nat), zjf w l css → w.rangeAt b o css.flatten → zjf w (l.take n) (css.take n) ∧ w.rangeAt b o (css.take n).flatten := by
   intro l
   induction l with
   | nil => intro css n o hr hg; simp only [zjf] at hr; subst hr; simp [zjf]; intro j v hj; simp at hj
   | cons t l ih =>
    rintro _ n o ⟨c, r, rfl, h1, h2⟩ hg
    cases n with
    | zero => simp [zjf]; intro j v hj; simp at hj
    | succ n =>
     rw [List.flatten_cons, zx] at hg
     obtain ⟨g1, g2⟩ := ih r n _ h2 hg.2
     refine ⟨⟨c, r.take n, by simp, h1, g1⟩, ?_⟩
     rw [List.take_succ_cons, List.flatten_cons, zx]
     exact ⟨hg.1, g2⟩
  refine ⟨_, c, rfl, h1, fun n hn => .inr ⟨b, o, c, css.take n, by rw [List.length_take, Nat.min_eq_left hn], by rw [List.length_take]; omega, (key s css n o h2 h3).1, (key s css n o h2 h3).2⟩⟩
theorem zgb.run_len (S : SpT P N M) {w w' : World} {v : Value} {l : List Tr} (h : zgb w v l) {ty : TypeId} : (Builtin.len_ #[N.zj] ty #[v]).run P w' = .ok (.int .i64 l.length) w' := by
 rcases h with ⟨ad, c, rfl, rfl⟩ | ⟨b, o, c, css, rfl, _⟩
 ·exact S.tr.lt.run_len
 ·exact S.tr.lt.run_len
theorem zqv (S : SpT P N M) (hF : FOk P M.zgm 1 (zks N M) [.var 1]) {w w0 : World} {v : Value} {s : List Tr} (h : zgb w0 v s) : Call P M.zgm #[v] w fun v' w' => w = w' ∧ zgb w0 v' (zev s) := by
 obtain ⟨fs, ht⟩ := S.tr.ti
 refine hF.call rfl fun loc N' hlo => ?_
 unfold zks
 obtain ⟨ad, c, hv, hc, hcut⟩ := h.cut
 refine zf fun K hK => zcy (hK _ _ ?_)
 clear hK K
 obtain ⟨σ, hσ⟩ : ∃ σ, σ = upd (zef #[v]) 1 (.slice none 0 0) := ⟨_, rfl⟩
 have f0 : σ 0 = v := by rw [hσ, zq (by decide)]; rfl
 rw [← hσ]
 clear hσ
 refine zf fun K hK => zn fun τ => ?_
 have hn : (if (32767 : Int) < (s.length : Int) then (32767 : Int) else (s.length : Int)) = ((min 32767 s.length : Nat) : Int) := by split <;> omega
 have hsl := fun {w : World} => zle (P := P) (w := w) S.tr.lt ht (ad := ad) (n := s.length) (c := c) (h := min 32767 s.length) (k := .i64) (by omega)
 simp +decide only [bK, bE, Nat.reduceBeqDiff, BEq.rfl, Nat.reduceAdd, Nat.zero_add, Option.map_some, Option.map_none, f0, h.run_len S, ztf, zxa, hn]
 rw [hv]
 simp +decide only [bK, hsl]
 refine hK _ _ (zd fun σ' hσ => zbl ⟨.inr rfl, _, rfl, rfl, ?_⟩)
 have g1 := hσ 1
 simp +decide only [bE, BEq.rfl, Nat.reduceAdd] at g1
 rw [g1]
 have h2 := hcut (min 32767 s.length) (by omega)
 rwa [show s.take (min 32767 s.length) = zev s by unfold zev most; rw [List.take_eq_take_iff]; omega] at h2
end
theorem RepA.out {w : World} {t : Tr} {cs : List Value} (h : RepA w t cs) : ∃ vs vl vu, cs = [.int .i64 t.n, vs, .bool t.nl, vl, vu] ∧ OctA w vs t.s ∧ zgb w vl t.l ∧ zje w vu t.u := by
 cases t with
 | mk n s nl l u =>
  simp only [RepA] at h
  obtain ⟨vs, vl, vu, h1, h2, h3, h4⟩ := h
  exact ⟨vs, vl, vu, h1, h2, h3, h4⟩
theorem RepA.mk' {w : World} {t : Tr} {vs vl vu : Value} (h2 : OctA w vs t.s) (h3 : zgb w vl t.l) (h4 : zje w vu t.u) : RepA w t [.int .i64 t.n, vs, .bool t.nl, vl, vu] := by
 cases t with
 | mk n s nl l u => simp only [RepA]; exact ⟨vs, vl, vu, rfl, h2, h3, h4⟩
theorem zgb.one {w : World} {v : Value} {l : List Tr} (h : zgb w v l) : v.oneCell' = true := by
 rcases h with ⟨ad, c, rfl, _⟩ | ⟨b, o, c, css, rfl, _⟩ <;> rfl
theorem zje.one {w : World} {v : Value} {l : List (Nat × List UInt8)} (h : zje w v l) : v.oneCell' = true := by
 rcases h with ⟨ad, c, rfl, _⟩ | ⟨b, o, c, css, rfl, _⟩ <;> rfl
theorem RepA.len {w : World} {t : Tr} {cs : List Value} (h : RepA w t cs) : cs.length = 5 := by
 obtain ⟨vs, vl, vu, rfl, _⟩ := h.out; rfl
theorem RepA.ones {w : World} {t : Tr} {cs : List Value} (h : RepA w t cs) : ∀ c ∈ cs, c.oneCell' = true := by
 obtain ⟨vs, vl, vu, rfl, h1, h2, h3⟩ := h.out
 intro c hc
 simp at hc
 rcases hc with rfl | rfl | rfl | rfl | rfl
 ·rfl
 ·exact h1.one
 ·rfl
 ·exact h2.one
 ·exact h3.one
theorem zjf.get {w : World} : ∀ {l : List Tr} {css : List (List Value)} {j : Nat} {t : Tr}, zjf w l css → l[j]? = some t → ∃ c, css[j]? = some c ∧ RepA w t c
 | [], _, j, t, _, hj => by simp at hj
 | t' :: l, _, 0, t, ⟨c, r, h1, h2, h3⟩, hj => by subst h1; simp at hj; subst hj; exact ⟨c, rfl, h2⟩
 | t' :: l, _, j + 1, t, ⟨c, r, h1, h2, h3⟩, hj => by subst h1; simpa using zjf.get h3 (by simpa using hj)
theorem zjf.len5 {w : World} : ∀ {l : List Tr} {css : List (List Value)}, zjf w l css → ∀ x ∈ css, x.length = 5
 | [], _, h, x, hx => by simp only [zjf] at h; subst h; simp at hx
 | t :: l, _, ⟨c, r, h1, h2, h3⟩, x, hx => by
  subst h1
  rcases List.mem_cons.1 hx with rfl | hx
  ·exact h2.len
  ·exact zjf.len5 h3 x hx
theorem zgb.get {w : World} {v : Value} {l : List Tr} (h : zgb w v l) {j : Nat} {t : Tr} (hj : l[j]? = some t) : ∃ b o c cs, v = .slice (some ⟨b, o, none⟩) l.length c ∧ RepA w t cs ∧ w.rangeAt b (o + j * 5) cs := by
 rcases h with ⟨ad, c, rfl, rfl⟩ | ⟨b, o, c, css, rfl, h1, h2, h3⟩
 ·simp at hj
 ·obtain ⟨cs, g1, g2⟩ := h2.get hj
  exact ⟨b, o, c, cs, rfl, g2, zit h3 h2.len5 g1⟩
theorem tr0_rep {w : World} : RepA w tr0 zT := by
 exact RepA.mk' (t := tr0) (.inl ⟨_, _, rfl, rfl⟩) (.inl ⟨_, _, rfl, rfl⟩) (.inl ⟨_, _, rfl, rfl⟩)
section
variable {P : Program} {N : Nums} {M : zaz}
theorem zbo {tt tg lt lg : TypeId} (hT : zct P N tt tg lt lg) {w1 : World} {b o : Nat} {cs : List Value} (hr : w1.rangeAt b o cs) (hl : cs.length = 5) : (Instr.loadAt tt (.pointer (some ⟨b, o, none⟩))).run P w1 = .ok (.agg cs.toArray) w1 := by
 obtain ⟨fs, h⟩ := hT.ti
 have hlv : ∀ (f : Array Field) (x : List Value), ldv (.struct f) x = .agg x.toArray := fun _ _ => rfl
 have hl2 := h.run_load (w := w1) (b := b) (o := o) hr hl (fun h => by cases h)
 rw [hl2, hlv]
theorem zub (B : Base P N) (S : SpT P N M) (hF : FOk P M.zes 2 (zlq N M) [.cell 3 N.zb]) {wS w : World} {t : Tr} {cs : List Value} (mS : Mod wS w zw) (h : RepA wS t cs) (i : Nat) :
  Call P M.zes #[.agg cs.toArray, .int .i64 i] w fun v w' => ∃ cs', v = .agg cs'.toArray ∧ RepA wS (atT t i) cs' ∧ Mod w w' zw := by
 refine hF.call rfl fun loc N' hlo => ?_
 unfold zlq
 obtain ⟨vs, vl, vu, rfl, h1, h2, h3⟩ := h.out
 obtain ⟨fs, hti⟩ := S.tr.ti
 refine zf fun K hK => zn fun τ => ?_
 simp +decide only [bK, bE, Nat.reduceAdd, Nat.zero_add]
 obtain ⟨w1, hw1⟩ : ∃ w1, w1 = w.alloc (.cells (Value.cells (.agg [.int .i64 t.n, vs, .bool t.nl, vl, vu].toArray)) N.zb) := ⟨_, rfl⟩
 have m1 : Mod w w1 zw := by rw [hw1]; exact Mod.alloc _ _ _
 have s1 : w1.heap.size = w.heap.size + 1 := by rw [hw1]; exact zae _ _
 have r1 : w1.rangeAt w.heap.size 0 [.int .i64 t.n, vs, .bool t.nl, vl, vu] := by rw [hw1]; exact zu w _ _ _
 rw [← hw1]
 clear hw1
 have hal := hti.run_alloc (w := w1) (.tuple #[])
 obtain ⟨w2, hw2⟩ : ∃ w2, w2 = w1.alloc (.cells (Value.cells (.agg zT.toArray)) N.zb) := ⟨_, rfl⟩
 have m2 : Mod w1 w2 zw := by rw [hw2]; exact Mod.alloc _ _ _
 have s2 : w2.heap.size = w1.heap.size + 1 := by rw [hw2]; exact zae _ _
 have r2 : w2.rangeAt w1.heap.size 0 zT := by rw [hw2]; exact zu w1 zT.toArray _ _
 have t2 : w2.there w1.heap.size 0 5 := by rw [hw2]; exact zbe w1 zT.toArray N.zb
 rw [← hw2] at hal
 simp +decide only [bK, hal]
 clear hal hw2
 refine hK _ _ (zd fun σ hσ => ?_)
 have f1 := hσ 1
 have f2 := hσ 2
 have f3 := hσ 3
 simp +decide only [bE, Nat.reduceBeqDiff, BEq.rfl, Nat.reduceAdd, zcc] at f1 f2 f3
 clear hσ hK K
 have r1' := zh m2 r1
 have m02 : Mod w w2 zw := m1.trans' m2
 have x3 := r1' 3 _ rfl
 refine zf fun K hK => zf fun K1 hK1 => zn fun τ => ?_
 simp +decide only [bK, bE, Nat.reduceBeqDiff, BEq.rfl, Nat.reduceAdd, Nat.zero_add, f1, f2, S.tr.h3.run, S.tr.lt.run_load1 rfl, x3, h2.run_len S]
 refine hK1 _ _ (zd fun σ1 hσ => ?_)
 have g1 := hσ 1
 have g2 := hσ 2
 have g3 := hσ 3
 have g4 := hσ 4
 simp +decide only [bE, Nat.reduceBeqDiff, BEq.rfl, Nat.reduceAdd, f1, f2, f3] at g1 g2 g3 g4
 clear hσ hK1 K1 f1 f2 f3
 refine W_if hlo g4 ?_
 by_cases hi : i < t.l.length
 ·have hi' : (i : Int) < (t.l.length : Int) := by omega
  simp only [hi', decide_true, if_true]
  obtain ⟨b, o, c, cs', hv, hr, hg⟩ := h2.get (List.getElem?_eq_getElem hi)
  have hg2 := zh (mS.trans' m02) hg
  obtain ⟨w3, hst, m3, s3, r3, _⟩ := zpw S.tr r2 rfl t2 hr.len hr.ones
  have hix := fun {w : World} => zbf (P := P) (w := w) S.tr.lt hti (bl := b) (o := o) (n := t.l.length) (c := c) (i := i) (k := .i64) hi
  refine zf fun K2 hK2 => zn fun τ => ?_
  simp +decide only [bK, bE, Nat.reduceBeqDiff, BEq.rfl, Nat.reduceAdd, Nat.zero_add, g1, g2, g3, S.tr.h3.run, S.tr.lt.run_load1 rfl, x3]
  rw [hv]
  simp +decide only [bK, hix, zbo S.tr hg2 hr.len, hst]
  refine hK2 _ _ (zd fun σ2 hσ => zbl ⟨.inr rfl, .agg cs'.toArray, ?_, cs', rfl, ?_, m02.fresh m3 fun k o h => by have : k = w1.heap.size := h; omega⟩)
  ·have p3 := hσ 3
   simp +decide only [bE, Nat.reduceBeqDiff, Nat.reduceAdd, g3] at p3
   exact ⟨_, p3, zpv S.tr r3 hr.len⟩
  ·rw [show atT t i = t.l[i] by simp [atT, List.getD, hi]]
   exact hr
 ·have hi' : ¬ (i : Int) < (t.l.length : Int) := by omega
  simp only [hi', decide_false, Bool.false_eq_true, if_false]
  refine zbv (hK _ _ ?_)
  obtain ⟨w3, hst, m3, s3, r3, _⟩ := zpw S.tr r2 rfl t2 (cs := zT) rfl (by decide)
  have e0 : ∀ ρ : Env, (#[] : Array (Nat × Operand)).map (fun p => (p.1, ev ρ p.2)) = #[] := fun ρ => by simp
  refine zf fun K2 hK2 => zn fun τ => ?_
  simp +decide only [bK, bE, Nat.reduceBeqDiff, BEq.rfl, Nat.reduceAdd, e0, build0 S.tr, g3, hst]
  refine hK2 _ _ (zd fun σ2 hσ => zbl ⟨.inr rfl, .agg zT.toArray, ?_, zT, rfl, ?_, m02.fresh m3 fun k o h => by have : k = w1.heap.size := h; omega⟩)
  ·have p3 := hσ 3
   simp +decide only [bE, Nat.reduceBeqDiff, Nat.reduceAdd, g3] at p3
   exact ⟨_, p3, zpv S.tr r3 rfl⟩
  ·rw [show atT t i = tr0 by simp [atT, List.getD, List.getElem?_eq_none (show t.l.length ≤ i by omega)]]
   exact tr0_rep
theorem call_at (B : Base P N) (S : SpT P N M) (hF : FOk P M.zes 2 (zlq N M) [.cell 3 N.zb]) {w : World} {t : Tr} {cs : List Value} (h : RepA w t cs) (i : Nat) :
  Call P M.zes #[.agg cs.toArray, .int .i64 i] w fun v w' => ∃ cs', v = .agg cs'.toArray ∧ RepA w' (atT t i) cs' ∧ Mod w w' zw :=
 (zub B S hF (.refl w zw) h i).mono fun _ _ ⟨cs', h1, h2, h3⟩ => ⟨cs', h1, RepA.stay h3 _ h2, h3⟩
end
theorem RepF.out {w : World} {f : Fld} {cs : List Value} (h : RepF w f cs) : ∃ v, cs = [.int .i64 f.kind, .int .i64 f.frm, .int .i64 f.to, .int .i64 f.null, .int .i64 f.tag, .int .i64 f.dflt, .int .i64 f.of, v] ∧ zgd w v f.sub := by
 cases f with
 | mk a b c d e f g sub =>
  simp only [RepF] at h
  exact h
theorem RepF.mk' {w : World} {f : Fld} {v : Value} (h : zgd w v f.sub) : RepF w f [.int .i64 f.kind, .int .i64 f.frm, .int .i64 f.to, .int .i64 f.null, .int .i64 f.tag, .int .i64 f.dflt, .int .i64 f.of, v] := by
 cases f with
 | mk a b c d e f g sub => simp only [RepF]; exact ⟨v, rfl, h⟩
theorem zgd.one {w : World} {v : Value} {l : List Fld} (h : zgd w v l) : v.oneCell' = true := by
 rcases h with ⟨ad, c, rfl, _⟩ | ⟨b, o, c, css, rfl, _⟩ <;> rfl
theorem RepF.len {w : World} {t : Fld} {cs : List Value} (h : RepF w t cs) : cs.length = 8 := by
 obtain ⟨v, rfl, _⟩ := h.out; rfl
theorem RepF.ones {w : World} {t : Fld} {cs : List Value} (h : RepF w t cs) : ∀ c ∈ cs, c.oneCell' = true := by
 obtain ⟨v, rfl, h1⟩ := h.out
 intro c hc
 simp only [List.mem_cons, List.not_mem_nil, or_false] at hc
 rcases hc with rfl | rfl | rfl | rfl | rfl | rfl | rfl | rfl
 all_goals first | rfl | exact h1.one
theorem zgc.get {w : World} : ∀ {l : List Fld} {css : List (List Value)} {j : Nat} {t : Fld}, zgc w l css → l[j]? = some t → ∃ c, css[j]? = some c ∧ RepF w t c
 | [], _, j, t, _, hj => by simp at hj
 | t' :: l, _, 0, t, ⟨c, r, h1, h2, h3⟩, hj => by subst h1; simp at hj; subst hj; exact ⟨c, rfl, h2⟩
 | t' :: l, _, j + 1, t, ⟨c, r, h1, h2, h3⟩, hj => by subst h1; simpa using zgc.get h3 (by simpa using hj)
theorem zgc.len8 {w : World} : ∀ {l : List Fld} {css : List (List Value)}, zgc w l css → ∀ x ∈ css, x.length = 8
 | [], _, h, x, hx => by simp only [zgc] at h; subst h; simp at hx
 | t :: l, _, ⟨c, r, h1, h2, h3⟩, x, hx => by
  subst h1
  rcases List.mem_cons.1 hx with rfl | hx
  ·exact h2.len
  ·exact zgc.len8 h3 x hx
theorem zgd.get {w : World} {v : Value} {l : List Fld} (h : zgd w v l) {j : Nat} {t : Fld} (hj : l[j]? = some t) : ∃ b o c cs, v = .slice (some ⟨b, o, none⟩) l.length c ∧ RepF w t cs ∧ w.rangeAt b (o + j * 8) cs := by
 rcases h with ⟨ad, c, rfl, rfl⟩ | ⟨b, o, c, css, rfl, h1, h2, h3⟩
 ·simp at hj
 ·obtain ⟨cs, g1, g2⟩ := h2.get hj
  exact ⟨b, o, c, cs, rfl, g2, zit h3 h2.len8 g1⟩
section
variable {P : Program} {N : Nums} {M : zaz}
theorem zgd.run_len (S : SpT P N M) {w w' : World} {v : Value} {l : List Fld} (h : zgd w v l) {ty : TypeId} : (Builtin.len_ #[M.zab] ty #[v]).run P w' = .ok (.int .i64 l.length) w' := by
 rcases h with ⟨ad, c, rfl, rfl⟩ | ⟨b, o, c, css, rfl, _⟩
 ·exact S.lf.run_len
 ·exact S.lf.run_len
theorem call_has (B : Base P N) (S : SpT P N M) (hF : FOk P M.zfa 2 (zib N M) [.var 3]) {w : World} {f : Fld} {cs : List Value} (h : RepF w f cs) (v : Int) :
  Call P M.zfa #[.agg cs.toArray, .int .i64 v] w fun r w' => r = .bool (f.has v) ∧ Mod w w' zw := by
 refine hF.call rfl fun loc N' hlo => ?_
 unfold zib
 obtain ⟨vs, rfl, h1⟩ := h.out
 refine zf fun K hK => zn fun τ => ?_
 simp +decide only [bK, bE, Nat.reduceAdd, Nat.zero_add]
 obtain ⟨w1, hw1⟩ : ∃ w1, w1 = w.alloc (.cells (Value.cells (.agg [.int .i64 f.kind, .int .i64 f.frm, .int .i64 f.to, .int .i64 f.null, .int .i64 f.tag, .int .i64 f.dflt, .int .i64 f.of, vs].toArray)) M.zg) := ⟨_, rfl⟩
 have m1 : Mod w w1 zw := by rw [hw1]; exact Mod.alloc _ _ _
 have r1 : w1.rangeAt w.heap.size 0 [.int .i64 f.kind, .int .i64 f.frm, .int .i64 f.to, .int .i64 f.null, .int .i64 f.tag, .int .i64 f.dflt, .int .i64 f.of, vs] := by rw [hw1]; exact zu w _ _ _
 rw [← hw1]
 clear hw1
 refine hK _ _ (zd fun σ hσ => ?_)
 have f1 := hσ 1
 have f2 := hσ 2
 simp +decide only [bE, Nat.reduceBeqDiff, BEq.rfl, Nat.reduceAdd, zcc] at f1 f2
 clear hσ hK K
 have x1 := r1 1 _ rfl
 have x2 := r1 2 _ rfl
 refine zf fun K hK => zn fun τ => ?_
 have key : ∀ σ' : Env, σ' 3 = .bool (f.has v) → K σ' w1 := fun σ' h => hK _ _ (zbl ⟨.inr rfl, _, rfl, h, m1⟩)
 by_cases a : f.frm ≤ v
 ·by_cases b : f.to < 0
  ·simp +decide only [bK, bE, Nat.reduceBeqDiff, decide_true, BEq.rfl, Nat.reduceAdd, Nat.zero_add, if_true, f1, f2, S.f1.run, S.f2.run, B.int.run_load1 rfl, x1, x2, a, b, zbw, zcf, Bool.not_false, zcw]
   refine zd fun σ' hσ => key σ' ?_
   have g := hσ 3
   simp +decide only [bE, BEq.rfl, Nat.reduceAdd] at g
   rw [g]; simp [Fld.has, a, b]
  ·simp +decide only [bK, bE, Nat.reduceBeqDiff, decide_true, decide_false, BEq.rfl, Nat.reduceAdd, Nat.zero_add, if_false, if_true, f1, f2, S.f1.run, S.f2.run, B.int.run_load1 rfl, x1, x2, a, b, zbw, zcw]
   refine zd fun σ' hσ => key σ' ?_
   have g := hσ 3
   simp +decide only [bE, BEq.rfl, Nat.reduceAdd] at g
   rw [g]; simp [Fld.has, a, b]
 ·simp +decide only [bK, bE, Nat.reduceBeqDiff, decide_false, BEq.rfl, Nat.reduceAdd, Nat.zero_add, f1, f2, S.f1.run, B.int.run_load1 rfl, x1, a, zcf, Bool.not_true, zcw]
  refine zd fun σ' hσ => key σ' ?_
  have g := hσ 3
  simp +decide only [bE, BEq.rfl, Nat.reduceAdd] at g
  rw [g]; simp [Fld.has, a]
theorem zvw (B : Base P N) (S : SpT P N M) (hF : FOk P M.zet 3 (zhd N M) [.var 5]) {w : World} {f : Fld} {t : Tr} {cs ct : List Value} (h : RepF w f cs) (ht : RepA w t ct) (v : Int) :
  Call P M.zet #[.agg cs.toArray, .int .i64 v, .agg ct.toArray] w fun r w' => r = .bool (f.nullB v t) ∧ Mod w w' zw := by
 refine hF.call rfl fun loc N' hlo => ?_
 unfold zhd
 obtain ⟨vs, rfl, h1⟩ := h.out
 obtain ⟨ts, tl, tu, rfl, h2, h3, h4⟩ := ht.out
 refine zf fun K hK => zn fun τ => ?_
 simp +decide only [bK, bE, Nat.reduceBeqDiff, Nat.reduceAdd, Nat.zero_add]
 obtain ⟨w1, hw1⟩ : ∃ w1, w1 = w.alloc (.cells (Value.cells (.agg [.int .i64 f.kind, .int .i64 f.frm, .int .i64 f.to, .int .i64 f.null, .int .i64 f.tag, .int .i64 f.dflt, .int .i64 f.of, vs].toArray)) M.zg) := ⟨_, rfl⟩
 have m1 : Mod w w1 zw := by rw [hw1]; exact Mod.alloc _ _ _
 have r1 : w1.rangeAt w.heap.size 0 [.int .i64 f.kind, .int .i64 f.frm, .int .i64 f.to, .int .i64 f.null, .int .i64 f.tag, .int .i64 f.dflt, .int .i64 f.of, vs] := by rw [hw1]; exact zu w _ _ _
 rw [← hw1]
 clear hw1
 obtain ⟨w2, hw2⟩ : ∃ w2, w2 = w1.alloc (.cells (Value.cells (.agg [.int .i64 t.n, ts, .bool t.nl, tl, tu].toArray)) N.zb) := ⟨_, rfl⟩
 have m2 : Mod w1 w2 zw := by rw [hw2]; exact Mod.alloc _ _ _
 have r2 : w2.rangeAt w1.heap.size 0 [.int .i64 t.n, ts, .bool t.nl, tl, tu] := by rw [hw2]; exact zu w1 _ _ _
 rw [← hw2]
 clear hw2
 have m02 := m1.trans' m2
 refine hK _ _ (zd fun σ hσ => ?_)
 have f1 := hσ 1
 have f3 := hσ 3
 have f4 := hσ 4
 simp +decide only [bE, Nat.reduceBeqDiff, BEq.rfl, Nat.reduceAdd, zgt] at f1 f3 f4
 clear hσ hK K
 have x3 := zh m2 r1 3 _ rfl
 have y2 := r2 2 _ rfl
 refine zf fun K hK => zn fun τ => ?_
 have key : ∀ σ' : Env, σ' 5 = .bool (f.nullB v t) → K σ' w2 := fun σ' h => hK _ _ (zbl ⟨.inr rfl, _, rfl, h, m02⟩)
 cases hn : t.nl with
 | true =>
  rw [hn] at y2
  by_cases a : f.null ≥ 0
  ·simp +decide only [bK, bE, Nat.reduceBeqDiff, decide_true, BEq.rfl, Nat.reduceAdd, Nat.zero_add, if_true, f1, f3, f4, S.f3.run, S.tr.h2.run, B.int.run_load1 rfl, B.bool.run_load1 rfl, x3, y2, a, zbw, zcw]
   refine zd fun σ' hσ => key σ' ?_
   have g := hσ 5
   simp +decide only [bE, BEq.rfl, Nat.reduceAdd] at g
   rw [g]
   have a' : 0 ≤ f.null := a
   simp [Fld.nullB, hn, a']
  ·simp +decide only [bK, bE, Nat.reduceBeqDiff, decide_false, BEq.rfl, Nat.reduceAdd, Nat.zero_add, if_false, if_true, f3, f4, S.f3.run, S.tr.h2.run, B.int.run_load1 rfl, B.bool.run_load1 rfl, x3, y2, a, zbw, zcf, Bool.not_true, zcw]
   refine zd fun σ' hσ => key σ' ?_
   have g := hσ 5
   simp +decide only [bE, BEq.rfl, Nat.reduceAdd] at g
   rw [g]
   have a' : ¬ 0 ≤ f.null := a
   simp [Fld.nullB, hn, a']
 | false =>
  rw [hn] at y2
  simp +decide only [bK, bE, Nat.reduceBeqDiff, BEq.rfl, Nat.reduceAdd, Nat.zero_add, if_false, f4, S.tr.h2.run, B.bool.run_load1 rfl, y2, zcf, Bool.not_true, zcw]
  refine zd fun σ' hσ => key σ' ?_
  have g := hσ 5
  simp +decide only [bE, BEq.rfl, Nat.reduceAdd] at g
  rw [g]; simp [Fld.nullB, hn]
theorem zjc {loc : List Nat} {N' : Nat} {Q : Exit → Env → World → Prop} {σ : Env} {w : World} {ti i c : Nat} {k n : Int} {x y : C} (hlo : zhy loc N') (hi : σ i = .int .i64 k) (h : W P loc N' (if k = n then x else y) Q (upd σ c (.bool (decide (k = n)))) w) :
  W P loc N' (.seq (.ops [⟨some 0, .binOp .eql ti (V i) (.const (.int .i64 n)) ti, 0, none, []⟩, ⟨some (c + 100), .assign (T 0), 0, none, []⟩]) (.cond c x y)) Q σ w := by
 refine zf fun K hK => zn fun τ => ?_
 simp +decide only [bK, bE, BEq.rfl, hi]
 rw [zci, zei (by decide), locs_envOf, show (k == n) = decide (k = n) by by_cases e : k = n <;> simp [e]]
 refine hK _ _ (W_if hlo (upd_same _ _ _) ?_)
 by_cases e : k = n
 ·rw [if_pos e] at h; rw [if_pos (by simpa using e)]; exact h
 ·rw [if_neg e] at h; rw [if_neg (by simpa using e)]; exact h
theorem W_case2 {loc : List Nat} {N' : Nat} {Q : Exit → Env → World → Prop} {σ : Env} {w : World} {ti i c : Nat} {k n n' : Int} {x y : C} (hlo : zhy loc N') (hi : σ i = .int .i64 k) (hic : i ≠ c) (h : W P loc N' (if k = n ∨ k = n' then x else y) Q (upd σ c (.bool (decide (k = n ∨ k = n')))) w) :
  W P loc N' (.seq (.seq (.ops [⟨some 0, .binOp .eql ti (V i) (.const (.int .i64 n)) ti, 0, none, []⟩, ⟨some (c + 100), .assign (T 0), 0, none, []⟩]) (.cond c .skip (.ops [⟨some 0, .binOp .eql ti (V i) (.const (.int .i64 n')) ti, 0, none, []⟩, ⟨some (c + 100), .assign (T 0), 0, none, []⟩]))) (.cond c x y)) Q σ w := by
 refine zf fun K hK => zjc hlo hi ?_
 by_cases e : k = n
 ·rw [if_pos e]
  refine zbv (hK _ _ ?_)
  rw [show decide (k = n) = decide (k = n ∨ k = n') by simp [e]]
  refine W_if hlo (upd_same _ _ _) ?_
  rw [if_pos (.inl e)] at h
  rw [if_pos (by simp [e])]; exact h
 ·rw [if_neg e]
  refine zn fun τ => ?_
  have hi' : upd σ c (.bool (decide (k = n))) i = .int .i64 k := by rw [zq hic]; exact hi
  simp +decide only [bK, bE, BEq.rfl, hi']
  rw [zci, zei (by decide), locs_envOf, show (k == n') = decide (k = n') by by_cases e : k = n' <;> simp [e]]
  have hu : upd (upd σ c (.bool (decide (k = n)))) c (.bool (decide (k = n'))) = upd σ c (.bool (decide (k = n ∨ k = n'))) := by
   funext j
   by_cases hj : j = c
   ·subst hj; simp [e]
   ·rw [zq hj, zq hj, zq hj]
  rw [hu]
  refine hK _ _ (W_if hlo (upd_same _ _ _) ?_)
  by_cases e' : k = n'
  ·rw [if_pos (.inr e')] at h; rw [if_pos (by simp [e'])]; exact h
  ·rw [if_neg (by simp [e, e'])] at h; rw [if_neg (by simp [e, e'])]; exact h
theorem sp_width (B : Base P N) (hF : FOk P M.zjl 1 (zln N M) [.var 1]) (w : World) (k : Int) : Call P M.zjl #[.int .i64 k] w fun r w' => r = .int .i64 (zgl k) ∧ w = w' := by
 refine hF.call rfl fun loc N' hlo => ?_
 unfold zln
 refine zf fun K hK => zcy (hK _ _ ?_)
 clear hK K
 obtain ⟨σ, hσ⟩ : ∃ σ, σ = upd (zef #[.int .i64 k]) 1 (.int .i64 0) := ⟨_, rfl⟩
 have f0 : σ 0 = .int .i64 k := by rw [hσ, zq (by decide)]; rfl
 rw [← hσ]
 clear hσ
 have fin : ∀ {Q : Exit → Env → World → Prop} {σ : Env} (n : Int), (∀ σ', σ' 1 = .int .i64 n → Q .ret σ' w) → W P loc N' (.seq (zgr 1 (.int .i64 n)) .ret) Q σ w := fun n h => zf fun K hK => zcy (hK _ _ (zbl (h _ (upd_same _ _ _))))
 have R : ∀ {σ' : Env} {n : Int}, n = zgl k → σ' 1 = .int .i64 n → retQ P [.var 1] (fun r w' => r = .int .i64 (zgl k) ∧ w = w') .ret σ' w := fun {σ' n} hn h => ⟨.inr rfl, _, rfl, by rw [h, hn], rfl⟩
 refine zf fun K hK => zf fun K1 hK1 => zn fun τ => ?_
 simp +decide only [bK, bE, Nat.reduceAdd, Nat.zero_add, f0]
 refine hK1 _ _ (zd fun σ1 hσ => ?_)
 have g2 := hσ 2
 simp +decide only [bE, BEq.rfl, Nat.reduceAdd] at g2
 clear hσ
 refine zey (zjc hlo g2 ?_)
 by_cases e1 : k = 1
 ·rw [if_pos e1]
  exact fin 1 fun σ' h => R (by simp [zgl, e1]) h
 rw [if_neg e1]
 refine W_case2 hlo (by rw [zq (by decide)]; exact g2) (by decide) ?_
 by_cases e2 : k = 2 ∨ k = 5
 ·rw [if_pos e2]
  exact fin 2 fun σ' h => R (by simp [zgl, e1, e2]) h
 rw [if_neg e2]
 refine zjc hlo (by rw [zq (by decide), zq (by decide)]; exact g2) ?_
 by_cases e3 : k = 3
 ·rw [if_pos e3]
  exact fin 4 fun σ' h => R (by simp [zgl, e3]) h
 rw [if_neg e3]
 refine zbv (hK _ _ ?_)
 exact fin 8 fun σ' h => R (by simp [zgl, e1, e2, e3]) h
end
abbrev OwnB (w : World) (lo : Nat) (v : Value) (l : List UInt8) : Prop := Own w lo 1 v l.length (l.map zam)
theorem Own.mono_lo {w : World} {lo lo' sz n : Nat} {v : Value} {cs : List Value} (h : lo' ≤ lo) (ho : Own w lo sz v n cs) : Own w lo' sz v n cs :=
 ho.imp id fun ⟨b, c, e, h1, r⟩ => ⟨b, c, e, Nat.le_trans h h1, r⟩
theorem Own.octA {w : World} {lo : Nat} {v : Value} {l : List UInt8} (ho : OwnB w lo v l) : OctA w v l := by
 rcases ho with ⟨e, h1, _⟩ | ⟨b, c, e, _, _, h1, _, h2, _⟩
 ·exact .inl ⟨_, _, e, List.length_eq_zero_iff.1 h1⟩
 ·exact .inr ⟨b, 0, c, e, h1, h2⟩
theorem zkp {w : World} {lo : Nat} : OwnB w lo (.slice none 0 0) [] := .inl ⟨rfl, rfl, rfl⟩
theorem zkh (l : List UInt8) : ∀ c ∈ l.map zam, c.oneCell' = true := fun c hc => by
 obtain ⟨x, _, rfl⟩ := List.mem_map.1 hc; rfl
theorem Mod.ofOwn {w0 w w' : World} {sz n : Nat} {v : Value} {cs : List Value} (ho : Own w w0.heap.size sz v n cs) (m0 : Mod w0 w zw) (m : Mod w w' fun i _ => ¬ zaj v i) : Mod w0 w' zw :=
 m0.fresh m fun _ _ h => (ho.blk h).1
section
variable {P : Program} {N : Nums} {M : zaz}
theorem zxc {st et ty : TypeId} {a b sz by' : Nat} {z z' : Value} {d : TypeDesc} (hS : TI P st (.slice et) a b z') (ht : TI P et d sz by' z) {w : World} {lo n m : Nat} {v src : Value} {cs new : List Value} (ho : Own w lo sz v n cs)
  (hsrc : ∀ i : TypeInfo, P.info? et = some i → i.size = sz → Src P i.size st src m new w) (hnl : new.length = m * sz) (hlo : lo ≤ w.heap.size) (hz : z.cells.size = sz)
  (hbig : n + m < 1099511627776) (hby : by' ≤ 128) (hm : v = .slice none 0 0 → 0 < m) :
  ∃ v' w', (Builtin.append_ #[st, st] ty #[v, src]).run P w = .ok v' w' ∧ Own w' lo sz v' (n + m) (cs ++ new) ∧ Mod w w' (fun i _ => ¬ zaj v i) ∧ v'.oneCell' = true ∧ (∀ k, k < w.heap.size → zaj v k → zaj v' k) := by
 obtain ⟨i, hi, hsz, hbytes, hzero⟩ := ht.info
 have hsrc' := hsrc i hi hsz
 clear hsrc
 have hsrc := hsrc'
 clear hsrc'
 subst hsz
 have fits : ∀ c, c < n + m → Builtin.nextslicecap (n + m) c * i.bytes ≤ 281474976710656 := by
  intro c hc
  have h1 := nextslicecap_le hc
  have h2 : Builtin.nextslicecap (n + m) c * i.bytes ≤ (2 * (n + m)) * 128 := Nat.mul_le_mul h1 (by omega)
  omega
 have grown : ∀ (base : Option Addr) (c : Nat), v = .slice base n c → c < n + m → (Builtin.firstCells i.size n (.slice base n c)).run P w.drew = .ok cs.toArray w.drew → cs.length = n * i.size →
   ∃ v' w', (Builtin.append_ #[st, st] ty #[v, src]).run P w = .ok v' w' ∧ Own w' lo i.size v' (n + m) (cs ++ new) ∧ Mod w w' (fun i _ => ¬ zaj v i) ∧ v'.oneCell' = true ∧ (∀ k, k < w.heap.size → zaj v k → zaj v' k) := by
  intro base c hv hc hold' hcl
  have hrun := run_append_grow_src (P := P) w st st ty et i z hS.und hi hzero base n c cs hold' src m new hsrc hc (by omega) (fits c hc)
  refine ⟨_, _, by rw [hv]; exact hrun, .inr ⟨w.heap.size, _, rfl, hlo, by rw [zae]; exact Nat.lt_succ_self _, grownCap_ge w (n + m) c et, ?_, ?_, by rw [List.length_append, hcl, hnl, Nat.add_mul]⟩, (Mod.drew w _).trans' (Mod.alloc _ _ _), rfl, fun k hk _ b o s n c e => by injection e with e1 _ _; injection e1 with e2; injection e2 with e3; omega⟩
  ·have ht2 := zbe w.drew ((cs ++ new).toArray ++ Builtin.zeroCells z.cells (grownCap w (n + m) c et - (n + m))) et
   intro j hj
   refine ht2 j ?_
   have hzc : (Builtin.zeroCells z.cells (grownCap w (n + m) c et - (n + m))).size = (grownCap w (n + m) c et - (n + m)) * i.size := by simp [Builtin.zeroCells, hz]
   rw [Array.size_append, hzc, List.size_toArray, List.length_append, hcl, hnl, ← Nat.add_mul, ← Nat.add_mul]
   have hge := grownCap_ge w (n + m) c et
   rwa [show n + m + (grownCap w (n + m) c et - (n + m)) = grownCap w (n + m) c et by omega]
  ·have hr := zu w.drew ((cs ++ new).toArray ++ Builtin.zeroCells z.cells (grownCap w (n + m) c et - (n + m))) et (0, 0)
   exact (zx.1 (by simpa using hr)).1
 rcases ho with ⟨hv, hn0, hcs⟩ | ⟨b, c, hv, hb1, hb2, hnc, hth, hrg, hcl⟩
 ·subst hcs
  have := hm hv
  exact grown none 0 (by rw [hv, hn0]) (by omega) (by rw [hn0]; rfl) (by rw [hn0]; simp)
 ·by_cases hroom : n + m ≤ c
  ·have hle : n * i.size + new.length ≤ c * i.size := by
    rw [hnl, ← Nat.add_mul]; exact Nat.mul_le_mul_right _ hroom
   have hrun := run_append_room_src (P := P) w st st ty et i hS.und hi b 0 n c src m new hsrc hroom (fun j hj => by
    have := (hth (n * i.size + j) (by omega)).1; simpa [Nat.add_assoc] using this) (fun j hj => by
    have := (hth (n * i.size + j) (by omega)).2; simpa [Nat.add_assoc] using this)
   have ms : Mod w (w.setCells b (0 + n * i.size) new) (rng b (0 + n * i.size) new.length) := Mod.setCells _ _ _ fun _ k h1 h2 => ⟨rfl, h1, h2⟩
   refine ⟨_, _, by rw [hv]; exact hrun, .inr ⟨b, c, rfl, hb1, Nat.lt_of_lt_of_le hb2 ms.size, hroom, ms.there hb2 hth, ?_, by rw [List.length_append, hcl, hnl, Nat.add_mul]⟩, ms.mono (fun k o _ h hn => hn b 0 none n c hv h.1), rfl, fun k hk hn b' o' s' n' c' e => by
    injection e with e1 _ _; injection e1 with e2; injection e2 with e3; subst e3; exact hn b 0 none n c hv⟩
   rw [zx]
   refine ⟨ms.rangeAt hb2 (fun k h1 h2 h => by have := h.2.1; omega) hrg, ?_⟩
   rw [hcl]
   have hex : ∃ old : List Value, old.length = new.length ∧ w.rangeAt b (0 + n * i.size) old := by
    refine ⟨(List.range new.length).map fun j => (w.cell? ⟨b, (0 + n * i.size) + j, none⟩).getD undef, by simp, fun j x hj => ?_⟩
    rw [List.getElem?_map] at hj
    cases hr : (List.range new.length)[j]? with
    | none => rw [hr] at hj; simp at hj
    | some k =>
     rw [hr] at hj
     have hk : k = j := by
      obtain ⟨h1, h2⟩ := List.getElem?_eq_some_iff.1 hr
      simpa using h2.symm
     subst hk
     have hlt : k < new.length := by have := (List.getElem?_eq_some_iff.1 hr).1; simpa using this
     have hs : (w.cell? ⟨b, (0 + n * i.size) + k, none⟩).isSome = true := by have := (hth (n * i.size + k) (by omega)).1; simpa [Nat.add_assoc] using this
     simp only [Option.map_some, Option.some.injEq] at hj
     cases hc : w.cell? ⟨b, (0 + n * i.size) + k, none⟩ with
     | none => rw [hc] at hs; cases hs
     | some x => rw [hc] at hj; simp at hj; rw [hj]
   obtain ⟨old, ho1, ho2⟩ := hex
   have := zar new (0 + n * i.size) w old ho2 (by omega)
   rwa [List.drop_of_length_le (by omega), List.append_nil] at this
  ·have hfc : (Builtin.firstCells i.size n (.slice (some ⟨b, 0, none⟩) n c)).run P w.drew = .ok cs.toArray w.drew :=
    run_firstCells_some w.drew i.size n ⟨b, 0, none⟩ n c cs hcl (fun j u hj => by rw [Addr.add_mid]; exact hrg j u hj)
   exact grown (some ⟨b, 0, none⟩) c hv (by omega) hfc hcl
theorem zee (B : Base P N) {w : World} {lo : Nat} {v src : Value} {l s : List UInt8} {ty : TypeId} (ho : OwnB w lo v l) (hs : OctA w src s) (hlo : lo ≤ w.heap.size) (hbig : l.length + s.length < 1099511627776) :
  ∃ v' w', (Builtin.append_ #[N.za, N.za] ty #[v, src]).run P w = .ok v' w' ∧ OwnB w' lo v' (l ++ s) ∧ Mod w w' (fun i _ => ¬ zaj v i) ∧ (∀ k, k < w.heap.size → zaj v k → zaj v' k) := by
 have main : (v = .slice none 0 0 → 0 < s.length) → ∃ v' w', (Builtin.append_ #[N.za, N.za] ty #[v, src]).run P w = .ok v' w' ∧ OwnB w' lo v' (l ++ s) ∧ Mod w w' (fun i _ => ¬ zaj v i) ∧ (∀ k, k < w.heap.size → zaj v k → zaj v' k) := by
  intro hm
  obtain ⟨v', w', h1, h2, h3, _, h5⟩ := zxc (P := P) (ty := ty) B.Lu8 B.uint8 (m := s.length) (src := src) (new := s.map zam) ho (fun i hi hsz => by
   rcases hs with ⟨ad, c, rfl, rfl⟩ | ⟨b, o, c, rfl, _, hr⟩
   ·cases ad with
    | none => exact Src.ofNil w B.Lu8.und c
    | some a => exact Src.ofSlice w B.Lu8.und a 0 c [] (by simp) (fun j u hj => by simp at hj) (fun u hu => by cases hu)
   ·exact Src.ofSlice w B.Lu8.und _ _ c _ (by rw [hsz]; simp) (fun j u hj => by rw [Addr.add_mid]; exact hr j u hj) (zkh s)) (by simp) hlo rfl hbig (by decide) hm
  exact ⟨v', w', h1, by rw [OwnB, List.length_append, List.map_append]; exact h2, h3, h5⟩
 by_cases hv : v = .slice none 0 0
 ·by_cases h0 : s = []
  ·subst h0
   have hl : l = [] := by
    rcases ho with ⟨_, e, _⟩ | ⟨b, c, e, _⟩
    ·exact List.length_eq_zero_iff.1 e
    ·rw [hv] at e; cases e
   subst hl hv
   have hsv : ∃ ad c, src = .slice ad 0 c := by
    rcases hs with ⟨ad, c, e, _⟩ | ⟨b, o, c, e, _⟩
    ·exact ⟨ad, c, e⟩
    ·exact ⟨_, c, e⟩
   obtain ⟨ad, c, rfl⟩ := hsv
   exact ⟨_, _, zxd B.Lu8 B.uint8, zkp, .refl _ _, fun k hk h => h⟩
  ·exact main fun _ => List.length_pos_iff.2 h0
 ·exact main fun h => absurd h hv
theorem zqk (B : Base P N) {w : World} {x : UInt8} : ∃ w', (Instr.buildSlice N.za 1 #[(0, zam x)]).run P w = .ok (.slice (some ⟨w.heap.size, 0, none⟩) 1 1) w' ∧ Mod w w' zw ∧ w'.heap.size = w.heap.size + 1 ∧ OwnB w' w.heap.size (.slice (some ⟨w.heap.size, 0, none⟩) 1 1) [x] := by
 have h := ziq (w := w) (v := zam x) (cs := [zam x]) B.Lu8 B.uint8 rfl rfl (by decide) (by decide)
 refine ⟨_, h, Mod.alloc _ _ _, zae _ _, .inr ⟨w.heap.size, 1, rfl, Nat.le_refl _, by rw [zae]; exact Nat.lt_succ_self _, Nat.le_refl _, ?_, zu w _ _ _, rfl⟩⟩
 exact zbe w [zam x].toArray N.zk
end
theorem u8_octet (z : Int) : Value.int .u8 (IntKind.u8.wrap z) = zam (UInt8.ofNat (IntKind.u8.wrap z).toNat) := octet_of (Go.wf_wrap .u8 z)
theorem zgx (m : Nat) (h : m < 256) : Value.int .u8 (m : Int) = zam (UInt8.ofNat m) := by
 have := u8_octet m
 rw [show IntKind.u8.wrap (m : Int) = m by simp [IntKind.wrap, IntKind.signed, IntKind.bits]; omega, Int.toNat_natCast] at this
 exact this
theorem zfl {n : Nat} (h : n < 128) : uvB n = [UInt8.ofNat n] := by rw [uvB, if_pos h]
theorem zgz {n : Nat} (h : ¬ n < 128) : uvB n = UInt8.ofNat (n % 128 + 128) :: uvB (n / 128) := by rw [uvB, if_neg h]
theorem uvB_len : ∀ (k n : Nat), n < 128 ^ (k + 1) → (uvB n).length ≤ k + 1
 | 0, n, h => by rw [zfl (by omega)]; simp
 | k + 1, n, h => by
  by_cases h1 : n < 128
  ·rw [zfl h1]; simp
  ·rw [zgz h1, List.length_cons]
   have := uvB_len k (n / 128) (by rw [Nat.pow_succ] at h; omega)
   omega
theorem zil {n : Nat} (h : n < 2 ^ 64) : (uvB n).length ≤ 10 := uvB_len 9 n (by
 have : (2 : Nat) ^ 64 ≤ 128 ^ (9 + 1) := by decide
 omega)
theorem band127u (n : Nat) (h : n < 2 ^ 64) : band .u64 n 127 = (n % 128 : Nat) := by
 show IntKind.u64.wrap (((BitVec.ofInt 64 (n : Int) &&& BitVec.ofInt 64 127).toNat : Nat) : Int) = _
 have e1 : BitVec.ofInt 64 (n : Int) = BitVec.ofNat 64 n := by simp
 have e2 : BitVec.ofInt 64 127 = BitVec.ofNat 64 127 := by decide
 rw [e1, e2]
 have e3 : (BitVec.ofNat 64 n &&& BitVec.ofNat 64 127).toNat = n % 128 := by
  rw [BitVec.toNat_and, BitVec.toNat_ofNat, BitVec.toNat_ofNat, Nat.mod_eq_of_lt h]
  show n &&& 127 = _
  exact Nat.and_two_pow_sub_one_eq_mod n 7
 rw [e3]
 exact zly _ (by omega)
theorem bor128 : ∀ n : Nat, n < 128 → bor .u8 n 128 = (n + 128 : Nat) := by
 have h : ∀ n : Fin 128, bor .u8 (n.val : Nat) 128 = (n.val + 128 : Nat) := by decide +kernel
 exact fun n hn => h ⟨n, hn⟩
theorem zwp (n : Nat) (h : n < 256) : IntKind.u8.wrap n = n := by
 simp [IntKind.wrap, IntKind.signed, IntKind.bits]; omega
section
variable {P : Program} {N : Nums} {M : zaz}
theorem zma (B : Base P N) (hF : FOk P M.zcd 1 (zhi N M) [.var 1]) (w : World) (n : Nat) (hn : n < 2 ^ 64) : Call P M.zcd #[.int .u64 n] w fun r w' => OwnB w' w.heap.size r (uvB n) ∧ Mod w w' zw := by
 refine hF.call rfl fun loc N' hlo => ?_
 unfold zhi
 refine zf fun K hK => zcy (hK _ _ ?_)
 clear hK K
 refine zf fun K hK => zcy (hK _ _ ?_)
 clear hK K
 obtain ⟨σ, hσ⟩ : ∃ σ, σ = upd (upd (zef #[.int .u64 n]) 1 (.slice none 0 0)) 2 (.slice none 0 0) := ⟨_, rfl⟩
 have f0 : σ 0 = .int .u64 n := by rw [hσ, zq (by decide), zq (by decide)]; rfl
 have f2 : σ 2 = .slice none 0 0 := by rw [hσ, upd_same]
 rw [← hσ]
 clear hσ
 have hlen := zil hn
 refine zf fun K hK => zey (zri (fun m σ w' => ∃ v acc, m < 2 ^ 64 ∧ σ 0 = .int .u64 (m : Nat) ∧ σ 2 = v ∧ OwnB w' w.heap.size v acc ∧ acc ++ uvB m = uvB n ∧ Mod w w' zw) (n := n) ⟨_, [], hn, f0, f2, zkp, by simp, .refl _ _⟩ ?_)
 rintro m σ1 w1 ⟨v, acc, hm, g0, g2, ho, hacc, m1⟩
 have hal : acc.length + (uvB m).length ≤ 10 := by rw [← hacc] at hlen; simpa using hlen
 refine zf fun K1 hK1 => zf fun K2 hK2 => zn fun τ => ?_
 simp +decide only [bK, bE, BEq.rfl, Nat.reduceAdd, Nat.zero_add, g0]
 refine hK2 _ _ (zd fun σ2 hσ => ?_)
 have p0 := hσ 0
 have p2 := hσ 2
 have p3 := hσ 3
 simp +decide only [bE, Nat.reduceBeqDiff, BEq.rfl, Nat.reduceAdd, Nat.zero_add, g0, g2] at p0 p2 p3
 clear hσ hK2 K2 g0 g2
 refine W_if hlo p3 ?_
 by_cases hs : m < 128
 ·have : ¬ (m : Int) > 127 := by omega
  simp only [this, decide_false, Bool.false_eq_true, if_false]
  refine zpk ?_
  simp only [zgw, inB, if_true]
  refine hK _ _ (zf fun K3 hK3 => zn fun τ => ?_)
  have hcv := fun {w : World} => zax (P := P) (w := w) (k' := .u64) B.uint64 B.uint8 (n := m) ⟨_, rfl⟩
  have e1 : ∀ ρ : Env, (#[(0, T 2)] : Array (Nat × Operand)).map (fun p => (p.1, ev ρ p.2)) = #[(0, ρ 2)] := fun ρ => by simp
  simp +decide only [bK, bE, Nat.reduceBeqDiff, BEq.rfl, Nat.reduceAdd, Nat.zero_add, p0, p2, hcv, e1, zwp m (by omega)]
  rw [zgx m (by omega)]
  obtain ⟨w3, hbs, m3, s3, ho3⟩ := zqk (w := w1) B (x := UInt8.ofNat m)
  simp +decide only [bK, hbs]
  obtain ⟨v4, w4, hap, ho4, m4, _⟩ := zee (ty := N.za) B (ho.stay m3 fun _ _ _ h => h) ho3.octA (by have := m1.size; omega) (by rw [zfl hs] at hal; simp at hal ⊢; omega)
  simp +decide only [bK, hap]
  refine hK3 _ _ (zd fun σ4 hσ => zbl ⟨.inr rfl, _, rfl, ?_⟩)
  have q1 := hσ 1
  simp +decide only [bE, BEq.rfl, Nat.reduceAdd] at q1
  rw [q1]
  refine ⟨?_, Mod.ofOwn (ho.stay m3 fun _ _ _ h => h) (m1.trans' m3) m4⟩
  rw [← hacc, zfl hs]; exact ho4
 ·have : (m : Int) > 127 := by omega
  simp only [this, decide_true, if_true]
  refine zbv (hK1 _ _ (zey (zf fun K3 hK3 => zn fun τ => ?_)))
  have hcv := fun {w : World} => zax (P := P) (w := w) (k' := .u64) B.uint64 B.uint8 (n := ((m % 128 : Nat) : Int)) ⟨_, rfl⟩
  have e1 : ∀ ρ : Env, (#[(0, T 4)] : Array (Nat × Operand)).map (fun p => (p.1, ev ρ p.2)) = #[(0, ρ 4)] := fun ρ => by simp
  simp +decide only [bK, bE, Nat.reduceBeqDiff, BEq.rfl, Nat.reduceAdd, Nat.zero_add, p0, p2, band127u m hm, hcv, e1, zwp (m % 128) (by omega), bor128 (m % 128) (by omega)]
  rw [zgx (m % 128 + 128) (by omega)]
  obtain ⟨w3, hbs, m3, s3, ho3⟩ := zqk (w := w1) B (x := UInt8.ofNat (m % 128 + 128))
  simp +decide only [bK, hbs]
  obtain ⟨v4, w4, hap, ho4, m4, _⟩ := zee (ty := N.za) B (ho.stay m3 fun _ _ _ h => h) ho3.octA (by have := m1.size; omega) (by simp; omega)
  simp +decide only [bK, hap]
  refine hK3 _ _ (zd fun σ4 hσ => zn fun τ => ?_)
  have q0 := hσ 0
  have q2 := hσ 2
  simp +decide only [bE, Nat.reduceBeqDiff, BEq.rfl, Nat.reduceAdd, Nat.zero_add, p0] at q0 q2
  clear hσ
  have hsh : (m : Int).fdiv (2 ^ min (7 : Int).toNat IntKind.u64.bits) = ((m / 128 : Nat) : Int) := by
   show (m : Int).fdiv (2 ^ 7) = _
   rw [Int.fdiv_eq_ediv_of_nonneg _ (by decide)]
   omega
  simp +decide only [bK, bE, BEq.rfl, Nat.zero_add, q0]
  rw [zdm (by decide), hsh]
  simp +decide only [bK]
  simp only [inB, zgw]
  refine zd (K := fun σ' w' => ∃ m', m' < m ∧ ∃ v acc, m' < 2 ^ 64 ∧ σ' 0 = .int .u64 (m' : Nat) ∧ σ' 2 = v ∧ OwnB w' w.heap.size v acc ∧ acc ++ uvB m' = uvB n ∧ Mod w w' zw) fun σ5 hσ => ?_
  have r0 := hσ 0
  have r2 := hσ 2
  simp +decide only [bE, Nat.reduceBeqDiff, BEq.rfl, Nat.reduceAdd, Nat.zero_add, q2] at r0 r2
  exact ⟨m / 128, by omega, v4, _, by omega, r0, r2, ho4, by rw [← hacc, zgz hs]; simp, Mod.ofOwn (ho.stay m3 fun _ _ _ h => h) (m1.trans' m3) m4⟩
end
theorem zdr (n : Int) : ∀ k, (fixB n k).length = k
 | 0 => rfl
 | k + 1 => by rw [fixB, List.length_cons, zdr n k]
section
variable {P : Program} {N : Nums} {M : zaz}
theorem run_imul {t : TypeId} {x y : Operand} {k : IntKind} {a b : Int} {w : World} : (do eqGuard .mul t x y (.int k a) (.int k b); binOp .mul t (.int k a) (.int k b) : Sem Value).run P w = .ok (.int k (k.wrap (a * b))) w := by
 simp [eqGuard, binOp, Op.intArith]
theorem zps (B : Base P N) (hF : FOk P M.zdv 2 (zjo N M) [.var 2]) (w : World) (n : Int) (size : Nat) (hs : size ≤ 8) : Call P M.zdv #[.int .i64 n, .int .i64 size] w fun r w' => OwnB w' w.heap.size r (fixB n size) ∧ Mod w w' zw := by
 refine hF.call rfl fun loc N' hlo => ?_
 unfold zjo
 refine zf fun K hK => zcy (hK _ _ ?_)
 clear hK K
 refine zf fun K hK => zcy (hK _ _ ?_)
 clear hK K
 obtain ⟨σ, hσ⟩ : ∃ σ, σ = upd (upd (zef #[.int .i64 n, .int .i64 size]) 2 (.slice none 0 0)) 3 (.slice none 0 0) := ⟨_, rfl⟩
 have f0 : σ 0 = .int .i64 n := by rw [hσ, zq (by decide), zq (by decide)]; rfl
 have f1 : σ 1 = .int .i64 size := by rw [hσ, zq (by decide), zq (by decide)]; rfl
 have f3 : σ 3 = .slice none 0 0 := by rw [hσ, upd_same]
 rw [← hσ]
 clear hσ
 refine zf fun K hK => zf fun K1 hK1 => zn fun τ => ?_
 simp +decide only [bK, bE, BEq.rfl, Nat.reduceAdd, f1]
 rw [wrap_i64 (by omega) (by omega)]
 refine hK1 _ _ (zd fun σ1 hσ => ?_)
 have g0 := hσ 0
 have g3 := hσ 3
 have g4 := hσ 4
 simp +decide only [bE, Nat.reduceBeqDiff, BEq.rfl, Nat.reduceAdd, Nat.zero_add, f0, f3] at g0 g3 g4
 clear hσ f0 f1 f3
 refine zey (zri (fun m σ w' => ∃ v acc, m ≤ size ∧ σ 0 = .int .i64 n ∧ σ 4 = .int .i64 ((m : Int) - 1) ∧ σ 3 = v ∧ OwnB w' w.heap.size v acc ∧ acc ++ fixB n m = fixB n size ∧ Mod w w' zw) (n := size) ⟨_, [], Nat.le_refl _, g0, g4, g3, zkp, by simp, .refl _ _⟩ ?_)
 clear g0 g3 g4
 rintro m σ1 w1 ⟨v, acc, hm, g0, g4, g3, ho, hacc, m1⟩
 have hal : acc.length + m = size := by
  have := congrArg List.length hacc
  simpa [zdr] using this
 refine zf fun K2 hK2 => zf fun K3 hK3 => zn fun τ => ?_
 simp +decide only [bK, bE, BEq.rfl, Nat.reduceAdd, g4]
 refine hK3 _ _ (zd fun σ2 hσ => ?_)
 have p0 := hσ 0
 have p3 := hσ 3
 have p4 := hσ 4
 have p5 := hσ 5
 simp +decide only [bE, Nat.reduceBeqDiff, BEq.rfl, Nat.reduceAdd, Nat.zero_add, g0, g3, g4] at p0 p3 p4 p5
 clear hσ hK3 K3 g0 g3 g4
 refine W_if hlo p5 ?_
 cases m with
 | zero =>
  rw [if_neg (by decide)]
  refine zpk ?_
  simp only [zgw, inB, if_true]
  refine hK _ _ (zf fun K3 hK3 => zn fun τ => ?_)
  simp +decide only [bK, bE, BEq.rfl, Nat.reduceAdd, p3]
  refine hK3 _ _ (zd fun σ4 hσ => zbl ⟨.inr rfl, _, rfl, ?_⟩)
  have q2 := hσ 2
  simp +decide only [bE, BEq.rfl, Nat.reduceAdd] at q2
  rw [q2, ← hacc]
  simp only [fixB, List.append_nil]
  exact ⟨ho, m1⟩
 | succ k =>
  rw [if_pos (by simp)]
  refine zbv (hK2 _ _ (zf fun K3 hK3 => zey (zn fun τ => ?_)))
  have e1 : ∀ ρ : Env, (#[(0, T 5)] : Array (Nat × Operand)).map (fun p => (p.1, ev ρ p.2)) = #[(0, ρ 5)] := fun ρ => by simp
  have hk : (((k + 1 : Nat) : Int) - 1) = (k : Int) := by omega
  rw [hk] at p4
  have hmul : IntKind.i64.wrap (8 * (k : Int)) = ((8 * k : Nat) : Int) := by rw [wrap_i64 (by omega) (by omega)]; omega
  have hsh : n.fdiv (2 ^ min (((8 * k : Nat) : Int)).toNat IntKind.i64.bits) = n.fdiv (2 ^ (8 * k)) := by
   rw [show min (((8 * k : Nat) : Int)).toNat IntKind.i64.bits = 8 * k by
    show min _ 64 = _
    omega]
  have hcv := fun {w : World} => zax (P := P) (w := w) (k' := .i64) B.int64 B.uint8 (n := n.fdiv (2 ^ (8 * k))) ⟨_, rfl⟩
  simp +decide only [bK, bE, Nat.reduceBeqDiff, BEq.rfl, Nat.reduceAdd, Nat.zero_add, p0, p3, p4, run_imul, hmul]
  rw [zdm (by omega), hsh]
  simp +decide only [bK, bE, BEq.rfl, hcv, e1]
  rw [u8_octet]
  obtain ⟨w3, hbs, m3, s3, ho3⟩ := zqk (w := w1) B (x := UInt8.ofNat (IntKind.u8.wrap (n.fdiv (2 ^ (8 * k)))).toNat)
  simp +decide only [bK, hbs]
  obtain ⟨v4, w4, hap, ho4, m4, _⟩ := zee (ty := N.za) B (ho.stay m3 fun _ _ _ h => h) ho3.octA (by have := m1.size; omega) (by simp; omega)
  simp +decide only [bK, hap]
  simp only [inB]
  refine zd (K := fun σ' w' => zgw K3 _ .normal σ' w') fun σ4 hσ => hK3 _ _ ?_
  have q0 := hσ 0
  have q3 := hσ 3
  have q4 := hσ 4
  simp +decide only [bE, Nat.reduceBeqDiff, BEq.rfl, Nat.reduceAdd, Nat.zero_add, p0, p4] at q0 q3 q4
  clear hσ
  refine zn fun τ => ?_
  simp +decide only [bK, bE, BEq.rfl, Nat.reduceAdd, q4]
  rw [wrap_i64 (by omega) (by omega)]
  simp only [zgw]
  refine zd (K := fun σ' w' => ∃ m', m' < k + 1 ∧ ∃ v acc, m' ≤ size ∧ σ' 0 = .int .i64 n ∧ σ' 4 = .int .i64 ((m' : Int) - 1) ∧ σ' 3 = v ∧ OwnB w' w.heap.size v acc ∧ acc ++ fixB n m' = fixB n size ∧ Mod w w' zw) fun σ5 hσ => ?_
  have r0 := hσ 0
  have r3 := hσ 3
  have r4 := hσ 4
  simp +decide only [bE, Nat.reduceBeqDiff, BEq.rfl, Nat.reduceAdd, Nat.zero_add, q0, q3] at r0 r3 r4
  exact ⟨k, by omega, v4, _, by omega, r0, r4, r3, ho4, by rw [← hacc]; simp [fixB], Mod.ofOwn (ho.stay m3 fun _ _ _ h => h) (m1.trans' m3) m4⟩
theorem zse (B : Base P N) (hU : FOk P M.zcd 1 (zhi N M) [.var 1]) (hX : FOk P M.zdv 2 (zjo N M) [.var 2]) (hF : FOk P M.zde 4 (zjt N M) [.var 4]) (w : World) (flex null : Bool) (n size : Nat) (hn : n ≤ 32767) (hs : size ≤ 8) :
  Call P M.zde #[.bool flex, .bool null, .int .i64 n, .int .i64 size] w fun r w' => OwnB w' w.heap.size r (zao flex null n size) ∧ Mod w w' zw := by
 refine hF.call rfl fun loc N' hlo => ?_
 unfold zjt
 refine zf fun K hK => zcy (hK _ _ ?_)
 clear hK K
 obtain ⟨σ, hσ⟩ : ∃ σ, σ = upd (zef #[.bool flex, .bool null, .int .i64 n, .int .i64 size]) 4 (.slice none 0 0) := ⟨_, rfl⟩
 have f0 : σ 0 = .bool flex := by rw [hσ, zq (by decide)]; rfl
 have f1 : σ 1 = .bool null := by rw [hσ, zq (by decide)]; rfl
 have f2 : σ 2 = .int .i64 n := by rw [hσ, zq (by decide)]; rfl
 have f3 : σ 3 = .int .i64 size := by rw [hσ, zq (by decide)]; rfl
 rw [← hσ]
 clear hσ
 refine zf fun K hK => zey (zf fun K1 hK1 => zn fun τ => ?_)
 have st : ∀ {σ' : Env}, σ' 5 = .bool (flex && null) → σ' 0 = .bool flex → σ' 1 = .bool null → σ' 2 = .int .i64 n → σ' 3 = .int .i64 size → K1 σ' w := by
  intro σ' h5 h0 h1 h2 h3
  refine hK1 _ _ (W_if hlo h5 ?_)
  by_cases a : (flex && null) = true
  ·rw [if_pos a]
   refine zf fun K2 hK2 => zn fun τ => ?_
   have e1 : ∀ ρ : Env, (#[(0, .const (.int .u8 0))] : Array (Nat × Operand)).map (fun p => (p.1, ev ρ p.2)) = #[(0, zam 0)] := fun ρ => by simp [zam]
   obtain ⟨w3, hbs, m3, s3, ho3⟩ := zqk (P := P) (w := w) B (x := 0)
   simp +decide only [bK, bE, BEq.rfl, Nat.reduceAdd, e1, hbs]
   refine hK2 _ _ (zd fun σ4 hσ => zbl ?_)
   simp only [inB]
   refine ⟨.inr rfl, _, rfl, ?_⟩
   have q := hσ 4
   simp +decide only [bE, BEq.rfl, Nat.reduceAdd] at q
   rw [q, zao, if_pos a]
   exact ⟨ho3, m3⟩
  ·rw [if_neg a]
   refine zf fun K2 hK2 => zn fun τ => ?_
   simp +decide only [bK, bE, BEq.rfl, Nat.reduceAdd, Nat.zero_add, h0]
   refine hK2 _ _ (zd fun σ4 hσ => ?_)
   have q1 := hσ 1
   have q2 := hσ 2
   have q3 := hσ 3
   have q6 := hσ 6
   simp +decide only [bE, Nat.reduceBeqDiff, BEq.rfl, Nat.reduceAdd, h1, h2, h3] at q1 q2 q3 q6
   clear hσ hK2 K2
   refine W_if hlo q6 ?_
   cases flex with
   | true =>
    simp only [if_true]
    refine zf fun K2 hK2 => zn fun τ => ?_
    have hcv := fun {w : World} => zax (P := P) (w := w) (k' := .i64) B.int B.uint64 (n := n) ⟨_, rfl⟩
    simp +decide only [bK, bE, BEq.rfl, Nat.reduceAdd, q2, hcv]
    rw [zly n (by omega), show (n : Int) + 1 = ((n + 1 : Nat) : Int) by omega, zly (n + 1) (by omega), zbb hU.has]
    simp +decide only [bK, bE, BEq.rfl]
    refine (zma B hU w (n + 1) (by omega)).mono ?_
    rintro r w1 ⟨ho, m1⟩
    refine hK2 _ _ (zd fun σ5 hσ => zbl ?_)
    simp only [inB]
    refine ⟨.inr rfl, _, rfl, ?_⟩
    have q := hσ 4
    simp +decide only [bE, BEq.rfl, Nat.reduceAdd] at q
    rw [q, zao, if_neg a, if_pos rfl]
    exact ⟨ho, m1⟩
   | false =>
    simp only [Bool.false_eq_true, if_false]
    refine zf fun K2 hK2 => zn fun τ => ?_
    simp +decide only [bK, bE, BEq.rfl, Nat.reduceAdd, q1]
    refine hK2 _ _ (zd fun σ5 hσ => ?_)
    have p2 := hσ 2
    have p3 := hσ 3
    have p7 := hσ 7
    simp +decide only [bE, Nat.reduceBeqDiff, BEq.rfl, Nat.reduceAdd, q2, q3] at p2 p3 p7
    clear hσ hK2 K2
    refine W_if hlo p7 ?_
    cases null with
    | true =>
     simp only [if_true]
     refine zf fun K2 hK2 => zn fun τ => ?_
     simp +decide only [bK, bE, Nat.reduceAdd, p3]
     rw [zah hX.has]
     simp +decide only [bK, bE, BEq.rfl]
     refine (zps B hX w (-1) size hs).mono ?_
     rintro r w1 ⟨ho, m1⟩
     refine hK2 _ _ (zd fun σ6 hσ => zbl ?_)
     simp only [inB]
     refine ⟨.inr rfl, _, rfl, ?_⟩
     have q := hσ 4
     simp +decide only [bE, BEq.rfl, Nat.reduceAdd] at q
     rw [q, zao, if_neg a, if_neg (by decide), if_pos rfl]
     exact ⟨ho, m1⟩
    | false =>
     simp only [Bool.false_eq_true, if_false]
     refine zbv ?_
     simp only [inB]
     refine hK _ _ (zf fun K2 hK2 => zn fun τ => ?_)
     simp +decide only [bK, bE, Nat.reduceBeqDiff, Nat.reduceAdd, p2, p3]
     rw [zah hX.has]
     simp +decide only [bK, bE, Nat.reduceBeqDiff, BEq.rfl]
     refine (zps B hX w n size hs).mono ?_
     rintro r w1 ⟨ho, m1⟩
     refine hK2 _ _ (zd fun σ6 hσ => zbl ⟨.inr rfl, _, rfl, ?_⟩)
     have q := hσ 4
     simp +decide only [bE, BEq.rfl, Nat.reduceAdd] at q
     rw [q, zao, if_neg a, if_neg (by decide), if_neg (by decide)]
     exact ⟨ho, m1⟩
 cases flex with
 | true =>
  simp +decide only [bK, bE, Nat.reduceBeqDiff, BEq.rfl, Nat.reduceAdd, Nat.zero_add, if_true, f0, f1, zbw, zcw]
  refine zd fun σ' hσ => st ?_ ?_ ?_ ?_ ?_
  ·have q := hσ 5; simp +decide only [bE, BEq.rfl, Nat.reduceAdd] at q; simpa using q
  ·have q := hσ 0; simp +decide only [bE, Nat.reduceBeqDiff, Nat.zero_add, f0] at q; exact q
  ·have q := hσ 1; simp +decide only [bE, Nat.reduceBeqDiff, Nat.reduceAdd, f1] at q; exact q
  ·have q := hσ 2; simp +decide only [bE, Nat.reduceBeqDiff, Nat.reduceAdd, f2] at q; exact q
  ·have q := hσ 3; simp +decide only [bE, Nat.reduceBeqDiff, Nat.reduceAdd, f3] at q; exact q
 | false =>
  simp +decide only [bK, bE, Nat.reduceBeqDiff, BEq.rfl, Nat.reduceAdd, Nat.zero_add, if_false, f0, zcf, Bool.not_true, zcw]
  refine zd fun σ' hσ => st ?_ ?_ ?_ ?_ ?_
  ·have q := hσ 5; simp +decide only [bE, BEq.rfl, Nat.reduceAdd] at q; simpa using q
  ·have q := hσ 0; simp +decide only [bE, Nat.reduceBeqDiff, Nat.zero_add, f0] at q; exact q
  ·have q := hσ 1; simp +decide only [bE, Nat.reduceBeqDiff, Nat.reduceAdd, f1] at q; exact q
  ·have q := hσ 2; simp +decide only [bE, Nat.reduceBeqDiff, Nat.reduceAdd, f2] at q; exact q
  ·have q := hσ 3; simp +decide only [bE, Nat.reduceBeqDiff, Nat.reduceAdd, f3] at q; exact q
end
theorem UsA.get : ∀ {u : List (Nat × List UInt8)} {w : World} {cs : List Value} {j : Nat} {x : Nat × List UInt8}, UsA w u cs → u[j]? = some x → ∃ v, cs[j * 2]? = some (.int .u32 x.1) ∧ cs[j * 2 + 1]? = some v ∧ OctA w v x.2
 | [], _, _, j, x, _, hj => by simp at hj
 | (k, l) :: r, _, _, 0, x, ⟨v, rest, h1, h2, h3⟩, hj => by subst h1; simp at hj; subst hj; exact ⟨v, rfl, rfl, h2⟩
 | (k, l) :: r, _, _, j + 1, x, ⟨v, rest, h1, h2, h3⟩, hj => by
  subst h1
  obtain ⟨v', g1, g2, g3⟩ := UsA.get h3 (by simpa using hj)
  exact ⟨v', by rw [show (j + 1) * 2 = j * 2 + 2 by omega]; simpa using g1, by rw [show (j + 1) * 2 + 1 = j * 2 + 1 + 2 by omega]; simpa using g2, g3⟩
theorem zje.get {w : World} {v : Value} {u : List (Nat × List UInt8)} (h : zje w v u) {j : Nat} {x : Nat × List UInt8} (hj : u[j]? = some x) : ∃ b o c s, v = .slice (some ⟨b, o, none⟩) u.length c ∧ OctA w s x.2 ∧ w.rangeAt b (o + j * 2) [.int .u32 x.1, s] := by
 rcases h with ⟨ad, c, rfl, rfl⟩ | ⟨b, o, c, cs, rfl, h1, h2, h3⟩
 ·simp at hj
 ·obtain ⟨s, g1, g2, g3⟩ := h2.get hj
  refine ⟨b, o, c, s, rfl, g3, fun i y hy => ?_⟩
  match i, hy with
  | 0, hy => simp at hy; subst hy; exact h3 _ _ g1
  | 1, hy => simp at hy; subst hy; have := h3 _ _ g2; rwa [show o + (j * 2 + 1) = o + j * 2 + 1 by omega] at this
section
variable {P : Program} {N : Nums} {M : zaz}
theorem zjd {loc : List Nat} {N' : Nat} {Q : Exit → Env → World → Prop} {σ : Env} {w : World} (hlo : zhy loc N') {i l c k L : Nat} {body : C} (hL : L < 4611686018427387904) (I : Nat → Env → World → Prop)
  (hI : ∀ j σ w, I j σ w → σ i = .int .i64 j ∧ σ l = .int .i64 L ∧ j ≤ L) (hc : ∀ j σ w b, I j σ w → I j (upd σ c (.bool b)) w)
  (h0 : I 0 σ w) (hend : ∀ σ w, I L σ w → Q .normal σ w)
  (hb : ∀ j σ w, j < L → I j σ w → W P loc N' body (fun e σ' w' => match e with
   | .normal => σ' i = .int .i64 j ∧ I (j + 1) (upd σ' i (.int .i64 ((j + 1 : Nat) : Int))) w'
   | .exit m => m = k + 1 ∧ σ' i = .int .i64 j ∧ I (j + 1) (upd σ' i (.int .i64 ((j + 1 : Nat) : Int))) w'
   | .ret => Q .ret σ' w'
   | _ => False) σ w) : W P loc N' (zny N i l c k body) Q σ w := by
 refine zey (zri (fun m σ w => ∃ j, m = L - j ∧ I j σ w) (n := L) ⟨0, by omega, h0⟩ ?_)
 rintro m σ1 w1 ⟨j, rfl, hj⟩
 obtain ⟨f1, f2, f3⟩ := hI j σ1 w1 hj
 refine zf fun K hK => zn fun τ => ?_
 simp +decide (disch := omega) only [bK, bE, f1, f2, zci, locs_envOf]
 refine hK _ _ ?_
 clear hK K
 refine zf fun K hK => W_if hlo (upd_same _ _ _) ?_
 by_cases hlt : (j : Int) < L
 ·rw [decide_eq_true hlt, if_pos rfl]
  refine zbv (hK _ _ ?_)
  clear hK K
  have hj2 := hc j σ1 w1 true hj
  refine zf fun K hK => zey (zpj (hb j _ w1 (by omega) hj2) ?_)
  have next : ∀ (σ2 : Env) (w2 : World), σ2 i = .int .i64 j → I (j + 1) (upd σ2 i (.int .i64 ((j + 1 : Nat) : Int))) w2 → K σ2 w2 := by
   intro σ2 w2 g1 g2
   refine hK _ _ (zn fun τ => ?_)
   have hw : IntKind.i64.wrap ((j : Int) + 1) = (((j + 1 : Nat) : Int)) := by
    rw [show ((j : Int) + 1) = ((j + 1 : Nat) : Int) by omega]
    exact wrap_i64 (by omega) (by omega)
   simp +decide (disch := omega) only [bK, bE, BEq.rfl, g1, hw, zci, zjj, locs_envOf]
   exact ⟨L - (j + 1), by omega, j + 1, rfl, g2⟩
  rintro e σ2 w2 hq
  cases e with
  | normal => exact next _ _ hq.1 hq.2
  | exit m =>
   obtain ⟨rfl, g1, g2⟩ := hq
   simp only [inB, if_true]
   exact next _ _ g1 g2
  | ret => exact hq
  | _ => exact hq.elim
 ·rw [decide_eq_false hlt, if_neg (by simp)]
  refine zpk ?_
  simp only [zgw, inB, if_true]
  have hjL : j = L := by omega
  subst hjL
  exact hend _ _ (hc _ _ _ _ hj)
theorem zgs {t : TypeId} {fs : Array Field} {sz by' : Nat} {z cs : List Value} (h : TI P t (.struct fs) sz by' (.agg z.toArray)) (hz : ∀ c ∈ z, c.oneCell' = true) (hzl : z.length = sz) (hl : cs.length = sz) (h1 : ∀ c ∈ cs, c.oneCell' = true) (w : World) :
  ∃ w1 w2, (∀ old : Value, (Instr.alloc t true old).run P w = .ok (.pointer (some ⟨w.heap.size, 0, none⟩)) w1) ∧ (Instr.storeAt t (.pointer (some ⟨w.heap.size, 0, none⟩)) (.agg cs.toArray)).run P w1 = .ok () w2 ∧
   Mod w w1 zw ∧ Mod w w2 zw ∧ w2.heap.size = w.heap.size + 1 ∧ w2.rangeAt w.heap.size 0 cs ∧ w2.there w.heap.size 0 sz := by
 have hc : Value.cells (.agg z.toArray) = z.toArray := by
  simp [Value.cells]
 obtain ⟨w1, hw1⟩ : ∃ w1, w1 = w.alloc (.cells (Value.cells (.agg z.toArray)) t) := ⟨_, rfl⟩
 have m1 : Mod w w1 zw := by rw [hw1]; exact Mod.alloc _ _ _
 have r1 : w1.rangeAt w.heap.size 0 z := by rw [hw1]; exact zu w z.toArray _ _
 have t1 : w1.there w.heap.size 0 sz := by rw [hw1, ← hzl]; exact zbe w z.toArray t
 have s1 : w1.heap.size = w.heap.size + 1 := by rw [hw1]; exact zae _ _
 have hst := h.run_store (w := w1) (b := w.heap.size) (o := 0) (v := .agg cs.toArray) (cs := cs) rfl hl t1 h1
 have ms : Mod w1 (w1.setCells w.heap.size 0 cs) (blk w.heap.size) := Mod.setCells _ _ _ fun _ _ _ _ => rfl
 refine ⟨w1, _, fun old => by rw [hw1]; exact h.run_alloc old, hst, m1, m1.fresh ms fun k o h => by have : k = w.heap.size := h; omega, by rw [zco]; exact s1, ?_, ms.there (by omega) t1⟩
 have := zar cs 0 w1 _ r1 (by omega)
 rwa [List.drop_of_length_le (by omega), List.append_nil] at this
theorem zje.run_len (S : SpT P N M) {w w' : World} {v : Value} {l : List (Nat × List UInt8)} (h : zje w v l) {ty : TypeId} : (Builtin.len_ #[N.zi] ty #[v]).run P w' = .ok (.int .i64 l.length) w' := by
 rcases h with ⟨ad, c, rfl, rfl⟩ | ⟨b, o, c, css, rfl, _⟩
 ·exact S.tr.lg.run_len
 ·exact S.tr.lg.run_len
theorem sp_fits3 (B : Base P N) (S : SpT P N M) (hF : FOk P M.znm 1 (zqw N M) [.var 2]) (w : World) (k : Int) {v : Value} {s : List UInt8} (hs : OctA w v s) (hl : s.length ≤ 2147483647) :
  Call P M.znm #[.agg #[.int .u32 k, v]] w fun r w' => r = .bool true ∧ Mod w w' zw := by
 refine hF.call rfl fun loc N' hlo => ?_
 unfold zqw
 refine zf fun K hK => zn fun τ => ?_
 simp +decide only [bK, bE, Nat.reduceAdd, Nat.zero_add]
 obtain ⟨w1, hw1⟩ : ∃ w1, w1 = w.alloc (.cells (Value.cells (.agg [.int .u32 k, v].toArray)) N.zy) := ⟨_, rfl⟩
 have m1 : Mod w w1 zw := by rw [hw1]; exact Mod.alloc _ _ _
 have r1 : w1.rangeAt w.heap.size 0 [.int .u32 k, v] := by
  rw [hw1]
  have e : Value.cells (.agg [.int .u32 k, v].toArray) = [.int .u32 k, v].toArray := rfl
  exact zu w _ _ _
 rw [← hw1]
 clear hw1
 refine hK _ _ (zd fun σ hσ => ?_)
 have f1 := hσ 1
 simp +decide only [bE, Nat.reduceBeqDiff, BEq.rfl, Nat.reduceAdd] at f1
 clear hσ hK K
 have x1 := r1 1 _ rfl
 have hle : ¬ (s.length : Int) > 2147483647 := by omega
 refine zf fun K hK => zf fun K1 hK1 => zn fun τ => ?_
 simp +decide only [bK, bE, decide_false, BEq.rfl, Nat.reduceAdd, Nat.zero_add, f1, S.tr.g1.run, B.Lu8.run_load1 rfl, x1, hs.run_len B, hle]
 refine hK1 _ _ (zd fun σ1 hσ => ?_)
 have g3 := hσ 3
 simp +decide only [bE, BEq.rfl, Nat.reduceAdd] at g3
 clear hσ hK1 K1
 refine W_if hlo g3 ?_
 simp only [Bool.false_eq_true, if_false]
 refine zbv (hK _ _ (zf fun K2 hK2 => zcy (hK2 _ _ (zbl ⟨.inr rfl, _, rfl, upd_same _ _ _, m1⟩))))
theorem sp_fits2 (B : Base P N) (S : SpT P N M) (hZ : SZ P N M) {w : World} {v : Value} {u : List (Nat × List UInt8)} (hu : zje w v u) (hl : u.length ≤ 2147483647) (hx : ∀ x ∈ u, x.2.length ≤ 2147483647) :
  Call P M.zqr #[v] w fun r w' => r = .bool true ∧ Mod w w' zw := by
 obtain ⟨fsT, hT⟩ := S.tr.tu
 refine hZ.zzFits2.call rfl fun loc N' hlo => ?_
 unfold zvz
 refine zf fun K hK => zcy (hK _ _ ?_)
 clear hK K
 obtain ⟨σ, hσ⟩ : ∃ σ, σ = upd (zef #[v]) 1 (.bool false) := ⟨_, rfl⟩
 have f0 : σ 0 = v := by rw [hσ, zq (by decide)]; rfl
 rw [← hσ]
 clear hσ
 have hle : ¬ (u.length : Int) > 2147483647 := by omega
 refine zf fun K hK => zf fun K1 hK1 => zn fun τ => ?_
 simp +decide only [bK, bE, decide_false, BEq.rfl, Nat.reduceAdd, Nat.zero_add, f0, hu.run_len S, hle]
 refine hK1 _ _ (zd fun σ1 hσ => ?_)
 have g0 := hσ 0
 have g2 := hσ 2
 simp +decide only [bE, Nat.reduceBeqDiff, BEq.rfl, Nat.reduceAdd, Nat.zero_add, f0] at g0 g2
 clear hσ hK1 K1 f0
 refine W_if hlo g2 ?_
 simp only [Bool.false_eq_true, if_false]
 refine zbv (hK _ _ ?_)
 clear hK K g2
 refine zf fun K hK => zf fun K1 hK1 => zn fun τ => ?_
 simp +decide only [bK, bE, BEq.rfl, Nat.reduceAdd, Nat.zero_add, g0, hu.run_len S]
 refine hK1 _ _ (zd fun σ2 hσ => ?_)
 have p3 := hσ 3
 have p4 := hσ 4
 have p5 := hσ 5
 simp +decide only [bE, Nat.reduceBeqDiff, BEq.rfl, Nat.reduceAdd] at p3 p4 p5
 clear hσ hK1 K1 g0
 refine zjd (i := 5) (l := 4) (c := 6) (k := 0) hlo (L := u.length) (by omega) (fun j σ w' => σ 3 = v ∧ σ 4 = .int .i64 u.length ∧ σ 5 = .int .i64 j ∧ j ≤ u.length ∧ Mod w w' zw) (fun j σ w h => ⟨h.2.2.1, h.2.1, h.2.2.2.1⟩) (fun j σ w b h => ?_) ⟨p3, p4, p5, Nat.zero_le _, .refl _ _⟩ (fun σ' w' h => hK _ _ ?_) (fun j σ' w' hj h => ?_)
 ·obtain ⟨a, b, c, d, e⟩ := h
  exact ⟨by rw [zq (by decide)]; exact a, by rw [zq (by decide)]; exact b, by rw [zq (by decide)]; exact c, d, e⟩
 ·exact zf fun K4 hK4 => zcy (hK4 _ _ (zbl ⟨.inr rfl, _, rfl, upd_same _ _ _, h.2.2.2.2⟩))
 ·obtain ⟨a, b, c, d, e⟩ := h
  obtain ⟨bb, oo, cc, s, hv, hs, hr⟩ := (hu.stay e).get (List.getElem?_eq_getElem hj)
  have hix := fun {w : World} => zbf (P := P) (w := w) S.tr.lg hT (bl := bb) (o := oo) (n := u.length) (c := cc) (i := j) (k := .i64) hj
  have hld := hT.run_load (w := w') (b := bb) (o := oo + j * 2) hr rfl (fun h => by cases h)
  have hlv : ldv (.struct fsT) [.int .u32 (u[j]).1, s] = .agg [.int .u32 (u[j]).1, s].toArray := rfl
  rw [hlv] at hld
  obtain ⟨w1, w2, hal, hst, _, m02, s2, r2, _⟩ := zgs (cs := [.int .u32 (u[j]).1, s]) hT (by decide) rfl rfl (by
   intro c hc; simp at hc; rcases hc with rfl | rfl
   ·rfl
   ·exact hs.one) w'
  refine zf fun K4 hK4 => zn fun τ => ?_
  simp +decide only [bK, bE, Nat.reduceBeqDiff, BEq.rfl, Nat.reduceAdd, Nat.zero_add, a, c]
  rw [hv]
  simp +decide only [bK, hix, hld, hal, hst]
  refine hK4 _ _ (zd fun σ3 hσ => ?_)
  have q3 := hσ 3
  have q4 := hσ 4
  have q5 := hσ 5
  have q7 := hσ 7
  simp +decide only [bE, Nat.reduceBeqDiff, BEq.rfl, Nat.reduceAdd, a, b, c] at q3 q4 q5 q7
  clear hσ hK4 K4
  have hld2 := hT.run_load (w := w2) (b := w'.heap.size) (o := 0) r2 rfl (fun h => by cases h)
  rw [hlv] at hld2
  refine zf fun K4 hK4 => zn fun τ => ?_
  simp +decide only [bK, bE, Nat.reduceAdd, Nat.zero_add, q7, hld2]
  rw [zbb hZ.zzFits3.has]
  simp +decide only [bK, bE, BEq.rfl]
  refine (sp_fits3 B S hZ.zzFits3 w2 _ (hs.stay m02) (hx _ (List.getElem_mem hj))).mono ?_
  rintro r w3 ⟨rfl, m3⟩
  simp +decide only [bK]
  refine hK4 _ _ (zd fun σ4 hσ => ?_)
  have k3 := hσ 3
  have k4 := hσ 4
  have k5 := hσ 5
  have k8 := hσ 8
  simp +decide only [bE, Nat.reduceBeqDiff, BEq.rfl, Nat.reduceAdd, q3, q4, q5, Bool.not_true] at k3 k4 k5 k8
  refine W_if hlo k8 ?_
  simp only [Bool.false_eq_true, if_false]
  refine zbv ⟨k5, ?_, ?_, upd_same _ _ _, by omega, (e.trans' m02).trans' m3⟩
  ·rw [zq (by decide)]; exact k3
  ·rw [zq (by decide)]; exact k4
end
def fitsT (t : Tr) : Prop := t.s.length ≤ 2147483647 ∧ t.l.length ≤ 2147483647 ∧ t.u.length ≤ 2147483647 ∧ ∀ x ∈ t.u, x.2.length ≤ 2147483647
section
variable {P : Program} {N : Nums} {M : zaz}
theorem sp_fits1 (B : Base P N) (S : SpT P N M) (hZ : SZ P N M) {w : World} {t : Tr} {cs : List Value} (ht : RepA w t cs) (hf : fitsT t) : Call P M.znn #[.agg cs.toArray] w fun r w' => r = .bool true ∧ Mod w w' zw := by
 refine hZ.zzFits1.call rfl fun loc N' hlo => ?_
 unfold zwa
 obtain ⟨vs, vl, vu, rfl, h1, h2, h3⟩ := ht.out
 obtain ⟨f1, f2, f3, f4⟩ := hf
 refine zf fun K hK => zn fun τ => ?_
 simp +decide only [bK, bE, Nat.reduceAdd, Nat.zero_add]
 obtain ⟨w1, hw1⟩ : ∃ w1, w1 = w.alloc (.cells (Value.cells (.agg [.int .i64 t.n, vs, .bool t.nl, vl, vu].toArray)) N.zb) := ⟨_, rfl⟩
 have m1 : Mod w w1 zw := by rw [hw1]; exact Mod.alloc _ _ _
 have r1 : w1.rangeAt w.heap.size 0 [.int .i64 t.n, vs, .bool t.nl, vl, vu] := by rw [hw1]; exact zu w _ _ _
 rw [← hw1]
 clear hw1
 refine hK _ _ (zd fun σ hσ => ?_)
 have g1 := hσ 1
 simp +decide only [bE, Nat.reduceBeqDiff, BEq.rfl, Nat.reduceAdd] at g1
 clear hσ hK K
 have x1 := r1 1 _ rfl
 have x3 := r1 3 _ rfl
 have x4 := r1 4 _ rfl
 have l1 : ¬ (t.s.length : Int) > 2147483647 := by omega
 have l2 : ¬ (t.l.length : Int) > 2147483647 := by omega
 refine zf fun K hK => zf fun K1 hK1 => zn fun τ => ?_
 simp +decide only [bK, bE, decide_false, BEq.rfl, Nat.reduceAdd, Nat.zero_add, g1, S.tr.h1.run, B.Lu8.run_load1 rfl, x1, h1.run_len B, l1]
 refine hK1 _ _ (zd fun σ1 hσ => ?_)
 have p1 := hσ 1
 have p3 := hσ 3
 simp +decide only [bE, Nat.reduceBeqDiff, BEq.rfl, Nat.reduceAdd, g1] at p1 p3
 clear hσ hK1 K1 g1
 refine W_if hlo p3 ?_
 simp only [Bool.false_eq_true, if_false]
 refine zbv (hK _ _ ?_)
 clear hK K
 refine zf fun K hK => zf fun K1 hK1 => zn fun τ => ?_
 simp +decide only [bK, bE, decide_false, BEq.rfl, Nat.reduceAdd, Nat.zero_add, p1, S.tr.h3.run, S.tr.lt.run_load1 rfl, x3, h2.run_len S, l2]
 refine hK1 _ _ (zd fun σ2 hσ => ?_)
 have q1 := hσ 1
 have q4 := hσ 4
 simp +decide only [bE, Nat.reduceBeqDiff, BEq.rfl, Nat.reduceAdd, p1] at q1 q4
 clear hσ hK1 K1 p1
 refine W_if hlo q4 ?_
 simp only [Bool.false_eq_true, if_false]
 refine zbv (hK _ _ ?_)
 clear hK K
 refine zf fun K hK => zf fun K1 hK1 => zn fun τ => ?_
 simp +decide only [bK, bE, BEq.rfl, Nat.reduceAdd, Nat.zero_add, q1, S.tr.h4.run, S.tr.lg.run_load1 rfl, x4]
 rw [zbb hZ.zzFits2.has]
 simp +decide only [bK, bE, BEq.rfl]
 refine (sp_fits2 B S hZ (h3.stay m1) f3 f4).mono ?_
 rintro r w3 ⟨rfl, m3⟩
 simp +decide only [bK]
 refine hK1 _ _ (zd fun σ3 hσ => ?_)
 have k5 := hσ 5
 simp +decide only [bE, BEq.rfl, Nat.reduceAdd, Bool.not_true] at k5
 clear hσ hK1 K1
 refine W_if hlo k5 ?_
 simp only [Bool.false_eq_true, if_false]
 exact zbv (hK _ _ (zf fun K2 hK2 => zcy (hK2 _ _ (zbl ⟨.inr rfl, _, rfl, upd_same _ _ _, m1.trans' m3⟩))))
end
def idB (s : List UInt8) : List UInt8 := s.take 16 ++ List.replicate (16 - s.length) 0
theorem band1 (n : Int) : band .i64 n 1 = n % 2 := by
 show IntKind.i64.wrap (((BitVec.ofInt 64 n &&& BitVec.ofInt 64 1).toNat : Nat) : Int) = _
 have e2 : BitVec.ofInt 64 1 = BitVec.ofNat 64 1 := by decide
 rw [e2, BitVec.toNat_and, BitVec.toNat_ofInt, BitVec.toNat_ofNat]
 have e3 : (n % (2 ^ 64 : Nat)).toNat &&& (1 % 2 ^ 64) = (n % 2).toNat := by
  show (n % (2 ^ 64 : Nat)).toNat &&& 1 = _
  rw [Nat.and_one_is_mod]
  omega
 rw [e3]
 rw [wrap_i64 (by omega) (by omega)]
 omega
section
variable {P : Program} {N : Nums} {M : zaz}
theorem run_mk16 (B : Base P N) (w : World) : ∃ w1, (Instr.makeSlice N.za (.int .i64 16) (.int .i64 16)).run P w = .ok (.slice (some ⟨w.heap.size, 0, none⟩) 16 16) w1 ∧ Mod w w1 zw ∧ w1.heap.size = w.heap.size + 1 ∧ OwnB w1 w.heap.size (.slice (some ⟨w.heap.size, 0, none⟩) 16 16) (List.replicate 16 0) := by
 obtain ⟨i, hi, hsz, hbytes, hzero⟩ := B.uint8.info
 have hr := run_make (P := P) w N.za N.zk i _ B.Lu8.und hi hzero .i64 .i64 16 16 (by decide) (by decide) (by rw [hbytes]; decide) (by omega)
 rw [hsz] at hr
 refine ⟨_, hr, Mod.alloc _ _ _, zae _ _, .inr ⟨w.heap.size, 16, rfl, Nat.le_refl _, by rw [zae]; exact Nat.lt_succ_self _, Nat.le_refl _, ?_, ?_, rfl⟩⟩
 ·have := zbe w (madeCells (Value.cells (.int .u8 0)) (16 * 1)) N.zk
  rw [size_madeCells] at this
  exact this
 ·have := zu w (madeCells (Value.cells (.int .u8 0)) (16 * 1)) N.zk (0, 0)
  have e : (madeCells (Value.cells (.int .u8 0)) (16 * 1)).toList = (List.replicate 16 (0 : UInt8)).map zam := by kernel_rfl
  rw [e] at this
  exact this
theorem run_cp16 (B : Base P N) {w : World} {b : Nat} {src : Value} {s : List UInt8} {ty : TypeId} (ho : OwnB w b (.slice (some ⟨b, 0, none⟩) 16 16) (List.replicate 16 0)) (hs : OctA w src s) :
  ∃ v w2, (Builtin.copy_ #[N.za, N.za] ty #[.slice (some ⟨b, 0, none⟩) 16 16, src]).run P w = .ok v w2 ∧ OwnB w2 b (.slice (some ⟨b, 0, none⟩) 16 16) (idB s) ∧ Mod w w2 (blk b) ∧ w2.heap.size = w.heap.size := by
 obtain ⟨i, hi, hsz, _, _⟩ := B.uint8.info
 have hs1 : (P.info? N.zk).map (·.size) = some 1 := by rw [hi]; simp [hsz]
 rcases ho with ⟨e, _, _⟩ | ⟨b', c, e, h1, h2, h3, h4, h5, h6⟩
 ·cases e
 injection e with e1 _ e3
 injection e1 with e2
 injection e2 with e4
 subst e4 e3
 have hidl : (idB s).length = 16 := by simp [idB]; omega
 have hset : ∀ l : List UInt8, l.length ≤ 16 → (w.setCells b 0 (l.map zam)).rangeAt b 0 ((l ++ List.replicate (16 - l.length) 0).map zam) := by
  intro l hl
  have := zar (l.map zam) 0 w _ h5 (by simp; omega)
  rw [List.map_append]
  rwa [show ((List.replicate 16 (0 : UInt8)).map zam).drop (l.map zam).length = (List.replicate (16 - l.length) 0).map zam by rw [List.length_map, ← List.map_drop, List.drop_replicate]] at this
 have ms : ∀ l : List UInt8, Mod w (w.setCells b 0 (l.map zam)) (blk b) := fun l => Mod.setCells _ _ _ fun _ _ _ _ => rfl
 have fin : ∀ l : List UInt8, l = s.take 16 → ∃ v w2, (goInt l.length, w.setCells b 0 (l.map zam)) = (v, w2) ∧ OwnB w2 b (.slice (some ⟨b, 0, none⟩) 16 16) (idB s) ∧ Mod w w2 (blk b) ∧ w2.heap.size = w.heap.size := by
  rintro l rfl
  refine ⟨_, _, rfl, .inr ⟨b, 16, by rw [hidl], Nat.le_refl _, by rw [zco]; exact h2, by rw [hidl]; exact Nat.le_refl _, (ms _).there h2 h4, ?_, by simp⟩, ms _, zco _ _ _⟩
  have := hset (s.take 16) (by simp; omega)
  rwa [show s.take 16 ++ List.replicate (16 - (s.take 16).length) 0 = idB s by
   unfold idB; rw [List.length_take]; congr 2; omega] at this
 rcases hs with ⟨ad, c', rfl, rfl⟩ | ⟨b2, o2, c2, rfl, g1, g2⟩
 ·obtain ⟨v, w2, he, r⟩ := fin [] rfl
  cases he
  exact ⟨_, _, run_copy_none w _ _ _ _ _ _ _ _ _ _ B.Lu8.und hs1 (by simp []), r⟩
 ·obtain ⟨v, w2, he, r⟩ := fin (s.take 16) rfl
  cases he
  refine ⟨goInt (s.take 16).length, _, ?_, r⟩
  have := run_copy_cells (P := P) w N.za N.za ty N.zk b 0 16 16 ⟨b2, o2, none⟩ s.length c2 ((s.take 16).map zam) B.Lu8.und hs1 (by rw [List.length_map, List.length_take, Nat.min_comm]) (fun j u hj => by
   rw [Addr.add_mid]
   refine g2 j u ?_
   rw [List.getElem?_map] at hj ⊢
   cases hx : (s.take 16)[j]? with
   | none => rw [hx] at hj; simp at hj
   | some y =>
    have hj16 : j < 16 := by have := (List.getElem?_eq_some_iff.1 hx).1; rw [List.length_take] at this; omega
    rw [hx] at hj
    rw [List.getElem?_take_of_lt hj16] at hx
    rw [hx]; exact hj) (fun j hj => by
   have := (h4 j (by simp at hj; omega)).1
   simpa using this) (fun j hj => by
   have := (h4 j (by simp at hj; omega)).2
   simpa using this) (zkh _)
  rw [List.length_map] at this
  exact this
end
def Gave (w : World) (x : List UInt8) (r : Value) (w' : World) : Prop := OwnB w' w.heap.size r x ∧ Mod w w' zw
def zsy (P : Program) (M : zaz) (flex : Bool) (v : Int) (fs : List Fld) : Prop := ∀ (w : World) (fv : Value) (t : Tr) (cs : List Value), zgd w fv fs → RepA w t cs → wfT t → (zeh flex v fs t).length < 549755813888 →
 Call P M.ziw #[fv, .int .i64 v, .bool flex, .agg cs.toArray] w (Gave w (zeh flex v fs t))
structure VSt (σ : Env) (kind : Int) (fv : Value) (null : Bool) (v : Int) (flex : Bool) (b : Nat) : Prop where
 h0 : σ 0 = .int .i64 kind
 h1 : σ 1 = fv
 h2 : σ 2 = .bool null
 h3 : σ 3 = .int .i64 v
 h4 : σ 4 = .bool flex
 h6 : σ 6 = .pointer (some ⟨b, 0, none⟩)
 h8 : σ 8 = .int .i64 kind
theorem VSt.upd {σ : Env} {kind : Int} {fv : Value} {null : Bool} {v : Int} {flex : Bool} {b : Nat} (h : VSt σ kind fv null v flex b) {i : Nat} (hi : 9 ≤ i) (x : Value) : VSt (upd σ i x) kind fv null v flex b := by
 obtain ⟨h0, h1, h2, h3, h4, h6, h8⟩ := h
 constructor <;> (rw [zq (by omega)]; assumption)
section
variable {P : Program} {N : Nums} {M : zaz}
theorem zwo (B : Base P N) (S : SpT P N M) (hW : SW P N M) {loc : List Nat} {N' : Nat} (hlo : zhy loc N') {σ : Env} {w0 w : World} {kind v : Int} {fv vs : Value} {null flex : Bool} {b k k2 size : Nat} {s : List UInt8} (hst : VSt σ kind fv null v flex b) (hb : w.cell? ⟨b, 1, none⟩ = some vs) (ho : OctA w vs s) (m0 : Mod w0 w zw) (hk : 9 ≤ k) (hk2 : 9 ≤ k2) (hkk : k ≠ k2) (hs : size ≤ 8) :
  W P loc N' (.seq (.ops [⟨some 0, .fieldAddr N.zb (V 6) 1, 0, none, []⟩, ⟨some 1, .load N.za (T 0), 0, none, []⟩, ⟨some 2, .call ⟨.value (.func M.zdi), #[T 1], #[N.za]⟩, N.za, none, []⟩, ⟨some (k + 100), .assign (T 2), 0, none, []⟩])
   (.seq (.seq (.ops [⟨some (k2 + 100), .move (V 2), 0, none, []⟩]) (.cond k2 (.ops [⟨some (k + 100), .assign (.const (.slice none 0 0)), 0, none, []⟩]) .skip))
   (.seq (.ops [⟨some 0, .move (V 4), 0, none, []⟩, ⟨some 1, .move (V 2), 0, none, []⟩, ⟨some 2, .move (V k), 0, none, []⟩, ⟨some 3, .call ⟨.builtin .len, #[T 2], #[N.za]⟩, N.ze, none, []⟩, ⟨some 4, .call ⟨.value (.func M.zde), #[T 0, T 1, T 3, .const (.int .i64 (size : Nat))], #[N.zaq, N.zaq, N.ze, N.ze]⟩, N.za, none, []⟩, ⟨some 5, .move (V k), 0, none, []⟩, ⟨some 6, .call ⟨.builtin .append, #[T 4, T 5], #[N.za, N.za]⟩, N.za, none, []⟩, ⟨some 107, .assign (T 6), 0, none, []⟩]) .ret)))
   (fun e σ' w' => e = .ret ∧ Gave w0 (zao flex null (if null then [] else zbq s).length size ++ (if null then [] else zbq s)) (σ' 7) w') σ w := by
 have hal : (zbq s).length ≤ 32767 := by simp [zbq, most]; omega
 refine zf fun K hK => zn fun τ => ?_
 simp +decide only [bK, bE, BEq.rfl, Nat.reduceAdd, Nat.zero_add, hst.h6, S.tr.h1.run, B.Lu8.run_load1 rfl, hb]
 rw [zbb hW.whole.has]
 simp +decide only [bK, bE, BEq.rfl]
 refine (zmg B hW.whole ho).mono ?_
 rintro x _ ⟨rfl, hx⟩
 rw [zci, zei (by decide), zei (by decide), zei (by decide), locs_envOf]
 refine hK _ _ ?_
 clear hK K
 have h1 : VSt (upd σ k x) kind fv null v flex b := hst.upd hk x
 have g1 : (upd σ k x) k = x := upd_same _ _ _
 obtain ⟨σ1, hσ1⟩ : ∃ σ1, σ1 = upd σ k x := ⟨_, rfl⟩
 rw [← hσ1] at h1 g1 ⊢
 clear hσ1 hst
 have tail : ∀ {σ2 : Env} {y : Value} {s2 : List UInt8}, VSt σ2 kind fv null v flex b → σ2 k = y → OctA w y s2 → s2 = (if null then [] else zbq s) →
   W P loc N' (.seq (.ops [⟨some 0, .move (V 4), 0, none, []⟩, ⟨some 1, .move (V 2), 0, none, []⟩, ⟨some 2, .move (V k), 0, none, []⟩, ⟨some 3, .call ⟨.builtin .len, #[T 2], #[N.za]⟩, N.ze, none, []⟩, ⟨some 4, .call ⟨.value (.func M.zde), #[T 0, T 1, T 3, .const (.int .i64 (size : Nat))], #[N.zaq, N.zaq, N.ze, N.ze]⟩, N.za, none, []⟩, ⟨some 5, .move (V k), 0, none, []⟩, ⟨some 6, .call ⟨.builtin .append, #[T 4, T 5], #[N.za, N.za]⟩, N.za, none, []⟩, ⟨some 107, .assign (T 6), 0, none, []⟩]) .ret)
   (fun e σ' w' => e = .ret ∧ Gave w0 (zao flex null (if null then [] else zbq s).length size ++ (if null then [] else zbq s)) (σ' 7) w') σ2 w := by
  rintro σ2 y s2 h2 g2 hy hs2
  rw [← hs2]
  have hl2 : s2.length ≤ 32767 := by
   rw [hs2]
   cases null
   ·simpa using hal
   ·simp
  refine zf fun K hK => zn fun τ => ?_
  simp +decide only [bK, bE, Nat.reduceBeqDiff, BEq.rfl, Nat.reduceAdd, h2.h4, h2.h2, g2, hy.run_len B]
  rw [zik hW.counted.has]
  simp +decide only [bK, bE, Nat.reduceBeqDiff, BEq.rfl]
  refine (zse B hW.Uvarint hW.Fixed hW.counted w flex null s2.length size hl2 hs).mono ?_
  rintro r w3 ⟨hr, m3⟩
  have hcl : (zao flex null s2.length size).length ≤ 10 := by
   unfold zao
   split
   ·simp
   ·split
    ·exact zil (by omega)
    ·split <;> (rw [zdr]; omega)
  obtain ⟨v4, w4, hap, ho4, m4, _⟩ := zee (ty := N.za) B hr (hy.stay m3) m3.size (by omega)
  simp +decide only [bK, g2, hap]
  refine hK _ _ (zd fun σ4 hσ => zbl ⟨rfl, ?_⟩)
  have q := hσ 7
  simp +decide only [bE, BEq.rfl, Nat.reduceAdd] at q
  rw [q]
  have hr0 := hr.mono_lo m0.size
  exact ⟨ho4.mono_lo m0.size, m0.trans' (m3.fresh m4 fun _ _ h => (hr.blk h).1)⟩
 refine zf fun K hK => zf fun K1 hK1 => zn fun τ => ?_
 simp +decide only [bK, bE, Nat.reduceAdd, h1.h2]
 rw [zci, locs_envOf]
 refine hK1 _ _ (W_if hlo (upd_same _ _ _) ?_)
 have h3 := h1.upd hk2 (.bool null)
 cases null with
 | true =>
  simp only [if_true]
  refine zcy (hK _ _ ?_)
  exact tail (h3.upd hk _) (upd_same _ _ _) (.inl ⟨none, 0, rfl, rfl⟩) rfl
 | false =>
  simp only [Bool.false_eq_true, if_false]
  refine zbv (hK _ _ ?_)
  exact tail h3 (by rw [zq hkk]; exact g1) hx rfl
end
section
variable {P : Program} {N : Nums} {M : zaz}
theorem sp_value (B : Base P N) (S : SpT P N M) (hW : SW P N M) {w : World} {kind v : Int} {fv : Value} {null flex : Bool} {t : Tr} {cs : List Value} {sub : List Fld} (hp : kind = 10 → zsy P M flex v sub) (hf : zgd w fv sub) (ht : RepA w t cs) (hwf : wfT t)
  (hl : (valB flex kind (zeh flex v sub) null t).length < 549755813888) :
  Call P M.zho #[.int .i64 kind, fv, .bool null, .int .i64 v, .bool flex, .agg cs.toArray] w (Gave w (valB flex kind (zeh flex v sub) null t)) := by
 refine hW.value.call rfl fun loc N' hlo => ?_
 unfold zpf
 obtain ⟨vs, vl, vu, rfl, h1, h2, h3⟩ := ht.out
 obtain ⟨σ, hσ⟩ : ∃ σ, σ = zef #[.int .i64 kind, fv, .bool null, .int .i64 v, .bool flex, .agg [.int .i64 t.n, vs, .bool t.nl, vl, vu].toArray] := ⟨_, rfl⟩
 have f0 : σ 0 = .int .i64 kind := by rw [hσ]; rfl
 have f1 : σ 1 = fv := by rw [hσ]; rfl
 have f2 : σ 2 = .bool null := by rw [hσ]; rfl
 have f3 : σ 3 = .int .i64 v := by rw [hσ]; rfl
 have f4 : σ 4 = .bool flex := by rw [hσ]; rfl
 have f5 : σ 5 = .agg [.int .i64 t.n, vs, .bool t.nl, vl, vu].toArray := by rw [hσ]; rfl
 rw [← hσ]
 clear hσ
 refine zf fun K hK => zn fun τ => ?_
 simp +decide only [bK, bE, Nat.reduceAdd, f5]
 obtain ⟨w1, hw1⟩ : ∃ w1, w1 = w.alloc (.cells (Value.cells (.agg [.int .i64 t.n, vs, .bool t.nl, vl, vu].toArray)) N.zb) := ⟨_, rfl⟩
 have m1 : Mod w w1 zw := by rw [hw1]; exact Mod.alloc _ _ _
 have r1 : w1.rangeAt w.heap.size 0 [.int .i64 t.n, vs, .bool t.nl, vl, vu] := by rw [hw1]; exact zu w _ _ _
 rw [← hw1]
 clear hw1
 refine hK _ _ (zd fun σ1 hσ => ?_)
 have a0 := hσ 0
 have a1 := hσ 1
 have a2 := hσ 2
 have a3 := hσ 3
 have a4 := hσ 4
 have a6 := hσ 6
 simp +decide only [bE, Nat.reduceBeqDiff, BEq.rfl, Nat.reduceAdd, Nat.zero_add, f0, f1, f2, f3, f4] at a0 a1 a2 a3 a4 a6
 clear hσ hK K f0 f1 f2 f3 f4 f5
 have x0 := r1 0 _ rfl
 have x1 := r1 1 _ rfl
 refine zf fun K hK => zf fun K1 hK1 => zn fun τ => ?_
 simp +decide only [bK, bE, Nat.reduceAdd, Nat.zero_add, a0]
 refine hK1 _ _ (zd fun σ2 hσ => ?_)
 have b0 := hσ 0
 have b1 := hσ 1
 have b2 := hσ 2
 have b3 := hσ 3
 have b4 := hσ 4
 have b6 := hσ 6
 have b8 := hσ 8
 simp +decide only [bE, Nat.reduceBeqDiff, BEq.rfl, Nat.reduceAdd, Nat.zero_add, a0, a1, a2, a3, a4, a6] at b0 b1 b2 b3 b4 b6 b8
 clear hσ hK1 K1 a0 a1 a2 a3 a4 a6
 have st : VSt σ2 kind fv null v flex w.heap.size := ⟨b0, b1, b2, b3, b4, b6, b8⟩
 clear b0 b1 b2 b3 b4 b6 b8
 refine zey (zjc hlo st.h8 ?_)
 by_cases e0 : kind = 0
 ·rw [if_pos e0]
  have st := st.upd (i := 9) (by omega) (.bool (decide (kind = 0)))
  refine zf fun K2 hK2 => zn fun τ => ?_
  have hcv := fun {w : World} => zax (P := P) (w := w) (k' := .i64) B.int64 B.uint8 (n := t.n % 2) ⟨_, rfl⟩
  have hw8 : IntKind.u8.wrap (t.n % 2) = ((t.n % 2).toNat : Nat) := by
   have e : t.n % 2 = (((t.n % 2).toNat : Nat) : Int) := by omega
   rw [e, zwp _ (by omega)]
   omega
  have e1 : ∀ ρ : Env, (#[(0, T 3)] : Array (Nat × Operand)).map (fun p => (p.1, ev ρ p.2)) = #[(0, ρ 3)] := fun ρ => by simp
  simp +decide only [bK, bE, BEq.rfl, Nat.reduceAdd, Nat.add_zero, st.h6, S.tr.h0.run, B.int64.run_load1 rfl, x0, band1, hcv, e1, hw8]
  rw [zgx _ (by omega)]
  obtain ⟨w3, hbs, m3, s3, ho3⟩ := zqk (w := w1) B (x := UInt8.ofNat (t.n % 2).toNat)
  simp +decide only [bK, hbs]
  refine hK2 _ _ (zd fun σ4 hσ => zbl ?_)
  simp only [inB]
  refine ⟨.inr rfl, _, rfl, ?_⟩
  have q := hσ 7
  simp +decide only [bE, BEq.rfl, Nat.reduceAdd] at q
  rw [q, valB, if_pos e0]
  exact ⟨ho3.mono_lo m1.size, m1.trans' m3⟩
 rw [if_neg e0]
 have st := st.upd (i := 9) (by omega) (.bool (decide (kind = 0)))
 refine zjc hlo st.h8 ?_
 by_cases e7 : kind = 7
 ·rw [if_pos e7]
  have st := st.upd (i := 10) (by omega) (.bool (decide (kind = 7)))
  obtain ⟨w3, hmk, m3, s3, ho3⟩ := run_mk16 B w1
  obtain ⟨cv, w4, hcp, ho4, m4, s4⟩ := run_cp16 (ty := N.ze) B ho3 ((h1.stay m1).stay m3)
  refine zf fun K2 hK2 => zn fun τ => ?_
  simp +decide only [bK, bE, BEq.rfl, Nat.reduceAdd, zjq, hmk]
  refine hK2 _ _ (zd fun σ4 hσ => ?_)
  have c6 := hσ 6
  have c11 := hσ 11
  simp +decide only [bE, Nat.reduceBeqDiff, BEq.rfl, Nat.reduceAdd, st.h6] at c6 c11
  clear hσ hK2 K2
  have x1' := zh m3 r1 1 _ rfl
  refine zf fun K2 hK2 => zn fun τ => ?_
  simp +decide only [bK, bE, Nat.reduceBeqDiff, BEq.rfl, Nat.reduceAdd, Nat.zero_add, c6, c11, S.tr.h1.run, B.Lu8.run_load1 rfl, x1', zuv, hcp]
  refine hK2 _ _ (zd fun σ5 hσ => ?_)
  have d11 := hσ 11
  simp +decide only [bE, Nat.reduceBeqDiff, Nat.reduceAdd, c11] at d11
  clear hσ hK2 K2
  refine zf fun K2 hK2 => zn fun τ => ?_
  simp +decide only [bK, bE, BEq.rfl, Nat.reduceAdd, d11]
  refine hK2 _ _ (zd fun σ6 hσ => zbl ?_)
  simp only [inB]
  refine ⟨.inr rfl, _, rfl, ?_⟩
  have q := hσ 7
  simp +decide only [bE, BEq.rfl, Nat.reduceAdd] at q
  rw [q, valB, if_neg e0, if_pos e7]
  exact ⟨ho4.mono_lo m1.size, (m1.trans' m3).fresh m4 fun k o h => by have : k = w1.heap.size := h; have := m1.size; omega⟩
 rw [if_neg e7]
 have st := st.upd (i := 10) (by omega) (.bool (decide (kind = 7)))
 refine zjc hlo st.h8 ?_
 by_cases e8 : kind = 8
 ·rw [if_pos e8]
  have st := st.upd (i := 12) (by omega) (.bool (decide (kind = 8)))
  refine zpj (zwo B S hW hlo (k := 13) (k2 := 14) (size := 2) (w0 := w) st x1 (h1.stay m1) m1 (by omega) (by omega) (by omega) (by omega)) ?_
  rintro e σ' w' ⟨rfl, hg⟩
  exact ⟨.inr rfl, _, rfl, by rw [valB, if_neg e0, if_neg e7, if_pos e8]; exact hg⟩
 rw [if_neg e8]
 have st := st.upd (i := 12) (by omega) (.bool (decide (kind = 8)))
 refine zjc hlo st.h8 ?_
 by_cases e9 : kind = 9
 ·rw [if_pos e9]
  have st := st.upd (i := 15) (by omega) (.bool (decide (kind = 9)))
  refine zpj (zwo B S hW hlo (k := 16) (k2 := 17) (size := 4) (w0 := w) st x1 (h1.stay m1) m1 (by omega) (by omega) (by omega) (by omega)) ?_
  rintro e σ' w' ⟨rfl, hg⟩
  exact ⟨.inr rfl, _, rfl, by rw [valB, if_neg e0, if_neg e7, if_neg e8, if_pos e9]; exact hg⟩
 rw [if_neg e9]
 have st := st.upd (i := 15) (by omega) (.bool (decide (kind = 9)))
 refine zjc hlo st.h8 ?_
 by_cases e10 : kind = 10
 ·rw [if_pos e10]
  have st := st.upd (i := 18) (by omega) (.bool (decide (kind = 10)))
  have hv : valB flex kind (zeh flex v sub) null t = zeh flex v sub t := by rw [valB, if_neg e0, if_neg e7, if_neg e8, if_neg e9, if_pos e10]
  rw [hv] at hl ⊢
  refine zf fun K2 hK2 => zn fun τ => ?_
  simp +decide only [bK, bE, Nat.reduceBeqDiff, Nat.reduceAdd, st.h1, st.h3, st.h4, st.h6, zbo S.tr r1 rfl]
  rw [zik hW.part.has]
  simp +decide only [bK, bE, Nat.reduceBeqDiff, BEq.rfl]
  refine (hp e10 w1 fv t _ (hf.stay m1) (RepA.stay m1 _ ht) hwf hl).mono ?_
  rintro r w3 ⟨ho3, m3⟩
  refine hK2 _ _ (zd fun σ4 hσ => zbl ?_)
  simp only [inB]
  refine ⟨.inr rfl, _, rfl, ?_⟩
  have q := hσ 7
  simp +decide only [bE, BEq.rfl, Nat.reduceAdd] at q
  rw [q]
  exact ⟨ho3.mono_lo m1.size, m1.trans' m3⟩
 rw [if_neg e10]
 have st := st.upd (i := 18) (by omega) (.bool (decide (kind = 10)))
 have hv : valB flex kind (zeh flex v sub) null t = fixB t.n (zgl kind) := by rw [valB, if_neg e0, if_neg e7, if_neg e8, if_neg e9, if_neg e10]
 refine zbv ?_
 simp only [inB]
 refine hK _ _ ?_
 clear hK K
 have hw8 : zgl kind ≤ 8 := by unfold zgl; (repeat' split) <;> omega
 obtain ⟨σ5, hσ5⟩ : ∃ σ5, σ5 = upd (upd (upd (upd (upd σ2 9 (.bool (decide (kind = 0)))) 10 (.bool (decide (kind = 7)))) 12 (.bool (decide (kind = 8)))) 15 (.bool (decide (kind = 9)))) 18 (.bool (decide (kind = 10))) := ⟨_, rfl⟩
 rw [← hσ5] at st ⊢
 clear hσ5
 have md : Mod w1 w1.drew zw := Mod.drew _ _
 refine zf fun K hK => zky B.mixed [true, true, true, false, false, false] (by kernel_rfl) (fun w' => Mod w1 w' zw) md fun τ => ?_
 refine zp (.pointer (some ⟨w.heap.size, 0, none⟩)) (fun w' _ => zap (by
  simp +decide only [bE, Nat.reduceAdd, Nat.zero_add, ev_tmp, st.h6, S.tr.h0.run])) rfl ?_
 refine zp (.int .i64 t.n) (fun w' hw => zap (by
  simp +decide only [bE, BEq.rfl, ev_tmp, B.int64.run_load1 rfl, zh hw r1 0 _ rfl, ldc_some])) rfl ?_
 refine zp (.int .i64 kind) (fun w' hw => by
  rw [zby, ev_tmp]
  simp +decide only [bE, Nat.reduceBeqDiff, Nat.zero_add, st.h0]) rfl ?_
 simp only [zeb, zer, List.zip_cons_cons, List.zip_nil_right, List.zipWith_cons_cons, List.zipWith_nil_right, List.filter, Bool.not_true, Bool.not_false, List.map, zgq]
 rw [zbb hW.width.has]
 simp +decide only [bK, bE, BEq.rfl, Nat.reduceAdd]
 refine (sp_width B hW.width w1.drew kind).mono ?_
 rintro r w3 ⟨rfl, hw3⟩
 refine ⟨by rw [← hw3]; exact md, ?_⟩
 rw [zah hW.Fixed.has]
 simp +decide only [bK, bE, Nat.reduceBeqDiff, BEq.rfl]
 refine (zps B hW.Fixed w3 t.n (zgl kind) hw8).mono ?_
 rintro r w4 ⟨ho4, m4⟩
 have m14 : Mod w1 w4 zw := by rw [← hw3] at m4; exact md.trans' m4
 refine ⟨m14, ?_⟩
 refine hK _ _ (zd fun σ6 hσ => zbl ⟨.inr rfl, _, rfl, ?_⟩)
 have q := hσ 7
 simp +decide only [bE, BEq.rfl, Nat.reduceAdd] at q
 rw [q, hv]
 refine ⟨ho4.mono_lo ?_, m1.trans' m14⟩
 rw [← hw3]; exact m1.size
end
theorem ziu {α β : Type} (f : α → List β) : ∀ (l : List α) (j : Nat), ((l.take j).flatMap f).length ≤ (l.flatMap f).length
 | [], j => by simp
 | a :: l, 0 => by simp
 | a :: l, j + 1 => by
  have := ziu f l j
  simp only [List.take_succ_cons, List.flatMap_cons, List.length_append]; omega
theorem zhb {α β : Type} (f : α → List β) {l : List α} {j : Nat} (hj : j < l.length) : (l.take (j + 1)).flatMap f = (l.take j).flatMap f ++ f l[j] := by
 rw [← List.take_append_getElem hj, List.flatMap_append]; simp
theorem zrq {α β : Type} (f : α → List β) {l : List α} {j : Nat} (hj : j < l.length) : ((l.take j).flatMap f).length + (f l[j]).length ≤ (l.flatMap f).length := by
 have := ziu f l (j + 1)
 rw [zhb f hj, List.length_append] at this
 exact this
section
variable {P : Program} {N : Nums} {M : zaz}
def bodyF (N : Nums) (M : zaz) : C := .seq (.ops [⟨some 0, .move (V 13), 0, none, []⟩, ⟨some 115, .assign (T 0), 0, none, []⟩]) (.draw [
 ⟨some 0, .move (V 11), 0, none, []⟩,
 ⟨some 1, .fieldAddr M.zg (V 4) 6, 0, none, []⟩,
 ⟨some 2, .load N.ze (T 1), 0, none, [1]⟩,
 ⟨some 3, .fieldAddr M.zg (V 4) 7, 0, none, []⟩,
 ⟨some 4, .load M.zab (T 3), 0, none, [3]⟩,
 ⟨some 5, .move (V 1), 0, none, []⟩,
 ⟨some 6, .move (V 2), 0, none, []⟩,
 ⟨some 7, .move (V 9), 0, none, []⟩,
 ⟨some 8, .move (V 15), 0, none, []⟩,
 ⟨some 9, .indexAddr N.zj (T 7) (T 8), 0, none, [7, 8]⟩,
 ⟨some 10, .load N.zb (T 9), 0, none, [9]⟩,
 ⟨some 11, .call ⟨.value (.func M.zho), #[T 2, T 4, .const (.bool false), T 5, T 6, T 10], #[N.ze, M.zab, N.zaq, N.ze, N.zaq, N.zb]⟩, N.za, none, [2, 4, 5, 6, 10]⟩,
 ⟨some 12, .call ⟨.builtin .append, #[T 0, T 11], #[N.za, N.za]⟩, N.za, none, [0, 11, 11]⟩,
 ⟨some 111, .assign (T 12), 0, none, [12, 12, 0, 1, 2, 3, 4, 5, 6, 7, 8, 9, 10, 11, 12]⟩])
structure LSt (w1 : World) (σ : Env) (w : World) (v : Int) (flex : Bool) (b n j : Nat) (vl : Value) (acc : List UInt8) : Prop where
 h1 : σ 1 = .int .i64 v
 h2 : σ 2 = .bool flex
 h4 : σ 4 = .pointer (some ⟨b, 0, none⟩)
 h9 : σ 9 = vl
 h11 : OwnB w w1.heap.size (σ 11) acc
 h12 : σ 12 = .int .i64 n
 h13 : σ 13 = .int .i64 j
 le : j ≤ n
 mod : Mod w1 w zw
theorem zsd {f : FuncId} {xs : Array Operand} {ts : Array TypeId} {d : Option Nat} {ty : TypeId} {af : List Nat} {ρ : Env} {w : World} {K : Env → World → Prop} (hf : zdh P f) : zbk P ⟨d, .call ⟨.value (.func f), xs, ts⟩, ty, none, af⟩ ρ w K = Call P f (xs.map (ev ρ)) w fun v w' => K (put ρ d v) w' := zij hf
theorem W_bodyF (B : Base P N) (S : SpT P N M) (hW : SW P N M) {loc : List Nat} {N' : Nat} (hlo : zhy loc N') {σ : Env} {w1 w : World} {v : Int} {flex : Bool} {b j : Nat} {vl : Value} {l : List Tr} {acc : List UInt8} {fv : Value} {f : Fld}
  (h : LSt w1 σ w v flex b l.length j vl acc) (hb : w1.rangeAt b 0 [.int .i64 f.kind, .int .i64 f.frm, .int .i64 f.to, .int .i64 f.null, .int .i64 f.tag, .int .i64 f.dflt, .int .i64 f.of, fv]) (hfv : zgd w1 fv f.sub) (hvl : zgb w1 vl l) (hp : f.of = 10 → zsy P M flex v f.sub) (hj : j < l.length) (hwl : ∀ x ∈ l, wfT x)
  (hbig : acc.length + (valB flex f.of (zeh flex v f.sub) false l[j]).length < 549755813888) {Q : Exit → Env → World → Prop}
  (hQ : ∀ (σ' : Env) (w' : World), LSt w1 σ' w' v flex b l.length j vl (acc ++ valB flex f.of (zeh flex v f.sub) false l[j]) → Q .normal σ' w') :
  W P loc N' (bodyF N M) Q σ w := by
 obtain ⟨h1, h2, h4, h9, h11, h12, h13, hle, m1w⟩ := h
 obtain ⟨fs, hti⟩ := S.tr.ti
 unfold bodyF
 obtain ⟨bb, oo, cc, ct, hv, hr, hg⟩ := hvl.get (List.getElem?_eq_getElem hj)
 refine zf fun K hK => zn fun τ => ?_
 simp +decide only [bK, bE, BEq.rfl, Nat.reduceAdd, h13]
 refine hK _ _ (zd fun σ1 hσ => ?_)
 have a1 := hσ 1
 have a2 := hσ 2
 have a4 := hσ 4
 have a9 := hσ 9
 have a11 := hσ 11
 have a12 := hσ 12
 have a13 := hσ 13
 have a15 := hσ 15
 simp +decide only [bE, Nat.reduceBeqDiff, BEq.rfl, Nat.reduceAdd, h1, h2, h4, h9, h12, h13] at a1 a2 a4 a9 a11 a12 a13 a15
 clear hσ hK K
 rw [← a11] at h11
 have md : Mod w w.drew zw := Mod.drew _ _
 have cw : ∀ {w' : World}, Mod w w' (fun i _ => ¬ zaj (σ1 11) i) → Mod w1 w' zw := fun h => Mod.ofOwn h11 m1w h
 refine W_drawZ B.mixed [true, true, true, true, true, true, true, true, true, true, true, false, false, false] (by kernel_rfl) (fun w' => Mod w w' (fun i _ => ¬ zaj (σ1 11) i)) (Mod.drew _ _) fun τ => ?_
 refine zp (σ1 11) (fun w' _ => by
  rw [zby, ev_tmp]
  simp +decide only [bE, Nat.reduceAdd]) rfl ?_
 refine zp (.pointer (some ⟨b, 6, none⟩)) (fun w' _ => zap (by
  simp +decide only [bE, Nat.reduceBeqDiff, Nat.reduceAdd, Nat.zero_add, ev_tmp, a4, S.f6.run])) rfl ?_
 refine zp (.int .i64 f.of) (fun w' hw => zap (by
  simp +decide only [bE, BEq.rfl, ev_tmp, B.int.run_load1 rfl, zh (cw hw) hb 6 _ rfl, ldc_some])) rfl ?_
 refine zp (.pointer (some ⟨b, 7, none⟩)) (fun w' _ => zap (by
  simp +decide only [bE, Nat.reduceBeqDiff, Nat.reduceAdd, Nat.zero_add, ev_tmp, a4, S.f7.run])) rfl ?_
 refine zp fv (fun w' hw => zap (by
  simp +decide only [bE, BEq.rfl, ev_tmp, S.lf.run_load1 rfl, zh (cw hw) hb 7 _ rfl, ldc_some])) rfl ?_
 refine zp (.int .i64 v) (fun w' _ => by
  rw [zby, ev_tmp]
  simp +decide only [bE, Nat.reduceBeqDiff, Nat.reduceAdd, a1]) rfl ?_
 refine zp (.bool flex) (fun w' _ => by
  rw [zby, ev_tmp]
  simp +decide only [bE, Nat.reduceBeqDiff, Nat.reduceAdd, a2]) rfl ?_
 refine zp vl (fun w' _ => by
  rw [zby, ev_tmp]
  simp +decide only [bE, Nat.reduceBeqDiff, Nat.reduceAdd, a9]) rfl ?_
 refine zp (.int .i64 j) (fun w' _ => by
  rw [zby, ev_tmp]
  simp +decide only [bE, Nat.reduceBeqDiff, Nat.reduceAdd, a15]) rfl ?_
 refine zp (.pointer (some ⟨bb, oo + j * 5, none⟩)) (fun w' hw => zap (by
  have := fun {w : World} => zbf (P := P) (w := w) S.tr.lt hti (bl := bb) (o := oo) (n := l.length) (c := cc) (i := j) (k := .i64) hj
  simp +decide only [bE, Nat.reduceBeqDiff, BEq.rfl, ev_tmp]
  rw [hv]; exact this)) rfl ?_
 refine zp (.agg ct.toArray) (fun w' hw => zap (by
  simp +decide only [bE, BEq.rfl, ev_tmp]
  exact zbo S.tr (zh (cw hw) hg) hr.len)) rfl ?_
 simp only [zeb, zer, List.zip_cons_cons, List.zip_nil_right, List.zipWith_cons_cons, List.zipWith_nil_right, List.filter, Bool.not_true, Bool.not_false, List.map, zgq]
 have m1d := m1w.trans' md
 rw [zsd hW.value.has]
 have eargs : ∀ ρ : Env, (#[T 2, T 4, .const (.bool false), T 5, T 6, T 10] : Array Operand).map (ev ρ) = #[ρ 2, ρ 4, .bool false, ρ 5, ρ 6, ρ 10] := fun ρ => by simp
 rw [eargs]
 simp +decide only [bE, Nat.reduceBeqDiff, BEq.rfl]
 refine (sp_value B S hW (sub := f.sub) (null := false) hp (hfv.stay m1d) (RepA.stay m1d _ hr) (hwl _ (List.getElem_mem hj)) (by omega)).mono ?_
 rintro r w3 ⟨ho3, m3⟩
 have mw3 : Mod w w3 zw := md.trans' m3
 refine ⟨mw3.mono fun _ _ _ h => h.elim, ?_⟩
 obtain ⟨v4, w4, hap, ho4, m4, _⟩ := zee (ty := N.za) B (h11.stay mw3 fun _ _ _ h => h) (ho3.octA) (Nat.le_trans m1w.size mw3.size) (by omega)
 have m04 : Mod w1 w4 zw := Mod.ofOwn (h11.stay mw3 fun _ _ _ h => h) (m1w.trans' mw3) m4
 simp +decide only [bK, bE, Nat.reduceBeqDiff, BEq.rfl, hap]
 refine ⟨(mw3.mono fun _ _ _ h => h.elim).trans m4 fun k o hk h => h.elim id id, ?_⟩
 refine zd fun σ2 hσ => hQ σ2 w4 ?_
 have b1 := hσ 1
 have b2 := hσ 2
 have b4 := hσ 4
 have b9 := hσ 9
 have b11 := hσ 11
 have b12 := hσ 12
 have b13 := hσ 13
 simp +decide only [bE, Nat.reduceBeqDiff, BEq.rfl, Nat.reduceAdd, a1, a2, a4, a9, a12, a13] at b1 b2 b4 b9 b11 b12 b13
 exact ⟨b1, b2, b4, b9, by rw [b11]; exact ho4, b12, b13, hle, m04⟩
end
theorem zmx {flex : Bool} {v : Int} {f : Fld} {t : Tr} (h : f.kind = 11) : zfe flex v f t = zao flex (f.nullB v t) (if f.nullB v t then [] else zev t.l).length 4 ++ (if f.nullB v t then [] else zev t.l).flatMap (valB flex f.of (zeh flex v f.sub) false) := by
 cases f with
 | mk k a b c d e o sub =>
  have h : k = 11 := h
  subst h
  rw [zfe, if_pos rfl]
  rfl
theorem zor {flex : Bool} {v : Int} {f : Fld} {t : Tr} (h : f.kind ≠ 11) : zfe flex v f t = valB flex f.kind (zeh flex v f.sub) (f.nullB v t) t := by
 cases f with
 | mk k a b c d e o sub =>
  have h : k ≠ 11 := h
  rw [zfe, if_neg h]
  rfl
theorem zpd (flex null : Bool) (n size : Nat) (hn : n ≤ 32767) (hs : size ≤ 8) : (zao flex null n size).length ≤ 10 := by
 unfold zao
 split
 ·simp
 ·split
  ·exact zil (by omega)
  ·split <;> (rw [zdr]; omega)
section
variable {P : Program} {N : Nums} {M : zaz}
theorem sp_field (B : Base P N) (S : SpT P N M) (hW : SW P N M) {w : World} {v : Int} {flex : Bool} {f : Fld} {t : Tr} {cf ct : List Value} (hp : f.kind = 11 → f.of = 10 → zsy P M flex v f.sub) (hk : f.kind ≠ 10) (hf : RepF w f cf) (ht : RepA w t ct) (hwf : wfT t) (hl : (zfe flex v f t).length < 549755813888) :
  Call P M.zhq #[.agg cf.toArray, .int .i64 v, .bool flex, .agg ct.toArray] w (Gave w (zfe flex v f t)) := by
 refine hW.field.call rfl fun loc N' hlo => ?_
 unfold zpg
 obtain ⟨fv, rfl, hfv⟩ := hf.out
 obtain ⟨vs, vl, vu, rfl, h1, h2, h3⟩ := ht.out
 refine zf fun K hK => zn fun τ => ?_
 simp +decide only [bK, bE, Nat.reduceBeqDiff, Nat.reduceAdd, Nat.zero_add]
 obtain ⟨w1, hw1⟩ : ∃ w1, w1 = w.alloc (.cells (Value.cells (.agg [.int .i64 f.kind, .int .i64 f.frm, .int .i64 f.to, .int .i64 f.null, .int .i64 f.tag, .int .i64 f.dflt, .int .i64 f.of, fv].toArray)) M.zg) := ⟨_, rfl⟩
 have m1 : Mod w w1 zw := by rw [hw1]; exact Mod.alloc _ _ _
 have r1 : w1.rangeAt w.heap.size 0 [.int .i64 f.kind, .int .i64 f.frm, .int .i64 f.to, .int .i64 f.null, .int .i64 f.tag, .int .i64 f.dflt, .int .i64 f.of, fv] := by rw [hw1]; exact zu w _ _ _
 rw [← hw1]
 clear hw1
 obtain ⟨w2, hw2⟩ : ∃ w2, w2 = w1.alloc (.cells (Value.cells (.agg [.int .i64 t.n, vs, .bool t.nl, vl, vu].toArray)) N.zb) := ⟨_, rfl⟩
 have m2 : Mod w1 w2 zw := by rw [hw2]; exact Mod.alloc _ _ _
 have r2 : w2.rangeAt w1.heap.size 0 [.int .i64 t.n, vs, .bool t.nl, vl, vu] := by rw [hw2]; exact zu w1 _ _ _
 rw [← hw2]
 clear hw2
 have m02 := m1.trans' m2
 have r1' := zh m2 r1
 clear r1
 refine hK _ _ (zd fun σ hσ => ?_)
 have f1 := hσ 1
 have f2 := hσ 2
 have f4 := hσ 4
 have f5 := hσ 5
 simp +decide only [bE, Nat.reduceBeqDiff, BEq.rfl, Nat.reduceAdd, zoa, znz] at f1 f2 f4 f5
 clear hσ hK K
 have hF2 := RepF.stay m02 _ hf
 have hT2 := RepA.stay m02 _ ht
 obtain ⟨bF, hbF⟩ : ∃ b, b = w.heap.size := ⟨_, rfl⟩
 obtain ⟨bT, hbT⟩ : ∃ b, b = w1.heap.size := ⟨_, rfl⟩
 rw [← hbF] at r1' f4
 rw [← hbT] at r2 f5
 obtain ⟨fs, hfd⟩ := S.fld.out
 have hfl : ∀ {w' : World}, Mod w2 w' zw → (Instr.loadAt M.zg (.pointer (some ⟨bF, 0, none⟩))).run P w' = .ok (.agg [.int .i64 f.kind, .int .i64 f.frm, .int .i64 f.to, .int .i64 f.null, .int .i64 f.tag, .int .i64 f.dflt, .int .i64 f.of, fv].toArray) w' := by
  intro w' hm
  have := hfd.1.run_load (w := w') (b := bF) (o := 0) (zh hm r1') rfl (fun h => by cases h)
  rw [this]; rfl
 have hlz : (zev t.l).length ≤ 32767 := by simp [zev, most]; omega
 refine zf fun K hK => zn fun τ => ?_
 simp +decide only [bK, bE, Nat.reduceBeqDiff, Nat.reduceAdd, f1, f4, f5, hfl (.refl _ _), zbo S.tr r2 rfl]
 rw [zdy hW.Field_null.has]
 simp +decide only [bK, bE, Nat.reduceBeqDiff, BEq.rfl]
 refine (zvw B S hW.Field_null hF2 hT2 v).mono ?_
 rintro _ w3 ⟨rfl, m3⟩
 refine hK _ _ (zd fun σ1 hσ => ?_)
 have a1 := hσ 1
 have a2 := hσ 2
 have a4 := hσ 4
 have a5 := hσ 5
 have a7 := hσ 7
 simp +decide only [bE, Nat.reduceBeqDiff, BEq.rfl, Nat.reduceAdd, f1, f2, f4, f5] at a1 a2 a4 a5 a7
 clear hσ hK K f1 f2 f4 f5
 have r3 := zh m3 r1'
 have q3 := zh m3 r2
 have m03 := m02.trans' m3
 have k0 := r3 0 _ rfl
 refine zf fun K hK => zf fun K1 hK1 => zn fun τ => ?_
 simp +decide only [bK, bE, BEq.rfl, Nat.reduceAdd, Nat.add_zero, a4, S.f0.run, B.int.run_load1 rfl, k0]
 refine hK1 _ _ (zd fun σ2 hσ => ?_)
 have b1 := hσ 1
 have b2 := hσ 2
 have b4 := hσ 4
 have b5 := hσ 5
 have b7 := hσ 7
 have b8 := hσ 8
 simp +decide only [bE, Nat.reduceBeqDiff, BEq.rfl, Nat.reduceAdd, a1, a2, a4, a5, a7] at b1 b2 b4 b5 b7 b8
 clear hσ hK1 K1 a1 a2 a4 a5 a7
 refine W_if hlo b8 ?_
 by_cases e11 : f.kind = 11
 ·rw [if_pos (by simpa using e11)]
  have hfB := zmx (flex := flex) (v := v) (t := t) e11
  obtain ⟨l, hl'⟩ : ∃ l, l = (if f.nullB v t then [] else zev t.l) := ⟨_, rfl⟩
  rw [← hl'] at hfB
  have hll : l.length ≤ 32767 := by
   rw [hl']
   cases f.nullB v t
   ·simpa using hlz
   ·simp
  have hwl : ∀ x ∈ l, wfT x := by
   rw [hl']
   cases f.nullB v t
   ·intro x hx; exact hwf.l x (List.mem_of_mem_take (by simpa [zev] using hx))
   ·intro x hx; cases hx
  refine zf fun K2 hK2 => zn fun τ => ?_
  simp +decide only [bK, bE, BEq.rfl, Nat.reduceAdd, Nat.zero_add, b5, S.tr.h3.run, S.tr.lt.run_load1 rfl, q3 3 _ rfl]
  rw [zbb hW.things.has]
  simp +decide only [bK, bE, BEq.rfl]
  refine (zqv S hW.things (h2.stay m03)).mono ?_
  rintro x w3' ⟨hww, hx⟩
  obtain rfl := hww
  refine hK2 _ _ (zd fun σ3 hσ => ?_)
  have c1 := hσ 1
  have c2 := hσ 2
  have c4 := hσ 4
  have c5 := hσ 5
  have c7 := hσ 7
  have c9 := hσ 9
  simp +decide only [bE, Nat.reduceBeqDiff, BEq.rfl, Nat.reduceAdd, b1, b2, b4, b5, b7] at c1 c2 c4 c5 c7 c9
  clear hσ hK2 K2 b1 b2 b4 b5 b7 b8
  have tail : ∀ {σ4 : Env} {y : Value}, σ4 1 = .int .i64 v → σ4 2 = .bool flex → σ4 4 = .pointer (some ⟨bF, 0, none⟩) → σ4 7 = .bool (f.nullB v t) → σ4 9 = y → zgb w3 y l → ∀ {Q : Exit → Env → World → Prop}, (∀ (σ' : Env) (w' : World) (r : Value), σ' 6 = r → Gave w (zfe flex v f t) r w' → Q .ret σ' w') →
    W P loc N' (.seq (.ops [⟨some 0, .move (V 2), 0, none, []⟩, ⟨some 1, .move (V 7), 0, none, []⟩, ⟨some 2, .move (V 9), 0, none, []⟩, ⟨some 3, .call ⟨.builtin .len, #[T 2], #[N.zj]⟩, N.ze, none, []⟩, ⟨some 4, .call ⟨.value (.func M.zde), #[T 0, T 1, T 3, .const (.int .i64 4)], #[N.zaq, N.zaq, N.ze, N.ze]⟩, N.za, none, []⟩, ⟨some 111, .assign (T 4), 0, none, []⟩])
     (.seq (.seq (.ops [⟨some 0, .move (V 9), 0, none, []⟩, ⟨some 112, .call ⟨.builtin .len, #[T 0], #[N.zj]⟩, N.ze, none, []⟩, ⟨some 113, .move (.const (.int .i64 0)), 0, none, []⟩]) (zny N 13 12 14 0 (bodyF N M)))
     (.seq (.ops [⟨some 0, .move (V 11), 0, none, []⟩, ⟨some 106, .assign (T 0), 0, none, []⟩]) .ret))) Q σ4 w3 := by
   rintro σ4 y d1 d2 d4 d7 d9 hy Q hQ
   refine zf fun K2 hK2 => zn fun τ => ?_
   simp +decide only [bK, bE, Nat.reduceBeqDiff, BEq.rfl, Nat.reduceAdd, d2, d7, d9, hy.run_len S]
   rw [zik hW.counted.has]
   simp +decide only [bK, bE, Nat.reduceBeqDiff, BEq.rfl]
   refine (zse B hW.Uvarint hW.Fixed hW.counted w3 flex (f.nullB v t) l.length 4 hll (by omega)).mono ?_
   rintro r w4 ⟨ho4, m4⟩
   refine hK2 _ _ (zd fun σ5 hσ => ?_)
   have e1 := hσ 1
   have e2 := hσ 2
   have e4 := hσ 4
   have e9 := hσ 9
   have e11 := hσ 11
   simp +decide only [bE, Nat.reduceBeqDiff, BEq.rfl, Nat.reduceAdd, d1, d2, d4, d9] at e1 e2 e4 e9 e11
   clear hσ hK2 K2 d1 d2 d4 d7 d9
   refine zf fun K2 hK2 => zf fun K3 hK3 => zn fun τ => ?_
   simp +decide only [bK, bE, BEq.rfl, Nat.reduceAdd, e9, hy.run_len S]
   refine hK3 _ _ (zd fun σ6 hσ => ?_)
   have g1 := hσ 1
   have g2 := hσ 2
   have g4 := hσ 4
   have g9 := hσ 9
   have g11 := hσ 11
   have g12 := hσ 12
   have g13 := hσ 13
   simp +decide only [bE, Nat.reduceBeqDiff, BEq.rfl, Nat.reduceAdd, e1, e2, e4, e9, e11] at g1 g2 g4 g9 g11 g12 g13
   clear hσ hK3 K3 e1 e2 e4 e9 e11
   have hbl := zpd flex (f.nullB v t) l.length 4 hll (by omega)
   refine zjd (i := 13) (l := 12) (c := 14) (k := 0) hlo (L := l.length) (by omega) (fun j σ w' => LSt w3 σ w' v flex bF l.length j y (zao flex (f.nullB v t) l.length 4 ++ (l.take j).flatMap (valB flex f.of (zeh flex v f.sub) false))) (fun j σ w h => ⟨h.h13, h.h12, h.le⟩) (fun j σ w b h => ?_) ⟨g1, g2, g4, g9, by rw [g11]; simpa using ho4, g12, g13, Nat.zero_le _, m4⟩ (fun σ' w' h => hK2 _ _ ?_) (fun j σ' w' hj h => ?_)
   ·obtain ⟨x1, x2, x4, x9, x11, x12, x13, xl, xm⟩ := h
    exact ⟨by rw [zq (by decide)]; exact x1, by rw [zq (by decide)]; exact x2, by rw [zq (by decide)]; exact x4, by rw [zq (by decide)]; exact x9, by rw [zq (by decide)]; exact x11, by rw [zq (by decide)]; exact x12, by rw [zq (by decide)]; exact x13, xl, xm⟩
   ·have h11 := h.h11
    rw [List.take_length, ← hfB] at h11
    refine zf fun K3 hK3 => zn fun τ => ?_
    simp +decide only [bK, bE, BEq.rfl, Nat.reduceAdd]
    refine hK3 _ _ (zd fun σ7 hσ => zbl (hQ σ7 _ _ rfl ?_))
    have q := hσ 6
    simp +decide only [bE, BEq.rfl, Nat.reduceAdd] at q
    rw [q]
    exact ⟨h11.mono_lo m03.size, m03.trans' h.mod⟩
   ·have hm := zrq (valB flex f.of (zeh flex v f.sub) false) hj
    have htot : (zao flex (f.nullB v t) l.length 4).length + (l.flatMap (valB flex f.of (zeh flex v f.sub) false)).length < 549755813888 := by
     rw [hfB, List.length_append] at hl; exact hl
    refine W_bodyF B S hW hlo (f := f) h r3 (hfv.stay m03) hy (hp e11) hj hwl (by rw [List.length_append]; omega) fun σ8 w8 h8 => ?_
    refine ⟨h8.h13, ?_⟩
    obtain ⟨x1, x2, x4, x9, x11, x12, x13, xl, xm⟩ := h8
    refine ⟨by rw [zq (by decide)]; exact x1, by rw [zq (by decide)]; exact x2, by rw [zq (by decide)]; exact x4, by rw [zq (by decide)]; exact x9, ?_, by rw [zq (by decide)]; exact x12, upd_same _ _ _, by omega, xm⟩
    rw [zq (by decide), zhb _ hj, ← List.append_assoc]; exact x11
  have fin : ∀ (σ' : Env) (w' : World) (r : Value), σ' 6 = r → Gave w (zfe flex v f t) r w' → zgw K (retQ P [.var 6] (Gave w (zfe flex v f t))) .ret σ' w' := fun σ' w' r h g => ⟨.inr rfl, _, rfl, by rw [h]; exact g⟩
  refine zf fun K2 hK2 => zf fun K3 hK3 => zn fun τ => ?_
  simp +decide only [bK, bE, Nat.reduceAdd, c7]
  refine hK3 _ _ (zd fun σ4 hσ => ?_)
  have d1 := hσ 1
  have d2 := hσ 2
  have d4 := hσ 4
  have d7 := hσ 7
  have d9 := hσ 9
  have d10 := hσ 10
  simp +decide only [bE, Nat.reduceBeqDiff, BEq.rfl, Nat.reduceAdd, c1, c2, c4, c7, c9] at d1 d2 d4 d7 d9 d10
  clear hσ hK3 K3 c1 c2 c4 c5 c7 c9
  refine W_if hlo d10 ?_
  cases hn : f.nullB v t with
  | true =>
   simp only [if_true]
   refine zcy (hK2 _ _ ?_)
   exact tail (y := .slice none 0 0) (by rw [zq (by decide)]; exact d1) (by rw [zq (by decide)]; exact d2) (by rw [zq (by decide)]; exact d4) (by rw [zq (by decide)]; exact d7) (upd_same _ _ _) (.inl ⟨none, 0, rfl, by rw [hl', hn]; rfl⟩) fin
  | false =>
   simp only [Bool.false_eq_true, if_false]
   refine zbv (hK2 _ _ ?_)
   exact tail d1 d2 d4 d7 d9 (by rw [hl', hn]; exact hx) fin
 ·rw [if_neg (by simpa using e11)]
  refine zbv (hK _ _ ?_)
  clear hK K
  have hfB := zor (flex := flex) (v := v) (t := t) e11
  rw [hfB] at hl
  refine zf fun K hK => zf fun K1 hK1 => zn fun τ => ?_
  simp +decide only [bK, bE, BEq.rfl, Nat.reduceAdd, Nat.add_zero, b4, S.f0.run, B.int.run_load1 rfl, k0]
  have hk' : (f.kind == 10) = false := by simpa using hk
  simp +decide only [bK, bE, Nat.reduceBeqDiff, BEq.rfl, if_false, hk', zcf, Bool.not_true, zcw]
  refine hK1 _ _ (zd fun σ3 hσ => ?_)
  have c1 := hσ 1
  have c2 := hσ 2
  have c4 := hσ 4
  have c5 := hσ 5
  have c7 := hσ 7
  have c16 := hσ 16
  simp +decide only [bE, Nat.reduceBeqDiff, BEq.rfl, Nat.reduceAdd, b1, b2, b4, b5, b7] at c1 c2 c4 c5 c7 c16
  clear hσ hK1 K1 b1 b2 b4 b5 b7 b8
  refine W_if hlo c16 ?_
  simp only [Bool.false_eq_true, if_false]
  refine zbv (hK _ _ ?_)
  clear hK K
  refine zf fun K hK => zn fun τ => ?_
  simp +decide only [bK, bE, Nat.reduceBeqDiff, BEq.rfl, Nat.reduceAdd, Nat.add_zero, Nat.zero_add, c1, c2, c4, c5, c7, S.f0.run, S.f7.run, B.int.run_load1 rfl, S.lf.run_load1 rfl, k0, r3 7 _ rfl, zbo S.tr q3 rfl]
  rw [zsd hW.value.has]
  have eargs : ∀ ρ : Env, (#[T 1, T 3, T 4, T 5, T 6, T 7] : Array Operand).map (ev ρ) = #[ρ 1, ρ 3, ρ 4, ρ 5, ρ 6, ρ 7] := fun ρ => by simp
  rw [eargs]
  simp +decide only [bE, Nat.reduceBeqDiff, BEq.rfl]
  refine (sp_value B S hW (sub := f.sub) (null := f.nullB v t) (fun h => absurd h hk) (hfv.stay m03) (RepA.stay m03 _ ht) hwf hl).mono ?_
  rintro r w4 ⟨ho4, m4⟩
  refine hK _ _ (zd fun σ4 hσ => zbl ⟨.inr rfl, _, rfl, ?_⟩)
  have q := hσ 6
  simp +decide only [bE, BEq.rfl, Nat.reduceAdd] at q
  rw [q, hfB]
  exact ⟨ho4.mono_lo m03.size, m03.trans' m4⟩
end
section
variable {P : Program} {N : Nums} {M : zaz}
theorem zxn (S : SpT P N M) {w : World} {fv : Value} {fs : List Fld} (hf : zgd w fv fs) {j : Nat} (hj : j < fs.length) :
  ∃ b o c cs w1 w2, fv = .slice (some ⟨b, o, none⟩) fs.length c ∧ RepF w fs[j] cs ∧ (∀ w', (Instr.indexAt M.zab fv (.int .i64 j)).run P w' = .ok (.pointer (some ⟨b, o + j * 8, none⟩)) w') ∧
   (Instr.loadAt M.zg (.pointer (some ⟨b, o + j * 8, none⟩))).run P w = .ok (.agg cs.toArray) w ∧ (∀ old : Value, (Instr.alloc M.zg true old).run P w = .ok (.pointer (some ⟨w.heap.size, 0, none⟩)) w1) ∧
   (Instr.storeAt M.zg (.pointer (some ⟨w.heap.size, 0, none⟩)) (.agg cs.toArray)).run P w1 = .ok () w2 ∧ Mod w w2 zw ∧ w2.heap.size = w.heap.size + 1 ∧ w2.rangeAt w.heap.size 0 cs := by
 obtain ⟨b, o, c, cs, hv, hr, hg⟩ := hf.get (List.getElem?_eq_getElem hj)
 obtain ⟨fs', hti⟩ := S.fld.out
 have hld := hti.1.run_load (w := w) (b := b) (o := o + j * 8) hg hr.len (fun h => by cases h)
 have hlv : ldv (.struct fs') cs = .agg cs.toArray := rfl
 rw [hlv] at hld
 obtain ⟨w1, w2, hal, hst, _, m02, s2, r2, _⟩ := zgs (cs := cs) hti.1 (by decide) rfl hr.len hr.ones w
 exact ⟨b, o, c, cs, w1, w2, hv, hr, fun w' => by rw [hv]; exact zbf S.lf hti.1 hj, hld, hal, hst, m02, s2, r2⟩
theorem zmd (S : SpT P N M) {w : World} {b : Nat} {cs : List Value} (h : w.rangeAt b 0 cs) (hl : cs.length = 8) : (Instr.loadAt M.zg (.pointer (some ⟨b, 0, none⟩))).run P w = .ok (.agg cs.toArray) w := by
 obtain ⟨fs', hti⟩ := S.fld.out
 have hld := hti.1.run_load (w := w) (b := b) (o := 0) h hl (fun h => by cases h)
 rw [hld]; rfl
theorem sp_known (B : Base P N) (S : SpT P N M) (hF : FOk P M.zhp 1 (zlp N M) [.var 1]) {w : World} {fv : Value} {fs : List Fld} (hf : zgd w fv fs) (hl : fs.length < 4611686018427387904) (ht : ∀ f ∈ fs, f.tag < 0) :
  Call P M.zhp #[fv] w fun r w' => r = .int .u32 0 ∧ Mod w w' zw := by
 refine hF.call rfl fun loc N' hlo => ?_
 unfold zlp
 refine zf fun K hK => zcy (hK _ _ ?_)
 clear hK K
 refine zf fun K hK => zcy (hK _ _ ?_)
 clear hK K
 obtain ⟨σ, hσ⟩ : ∃ σ, σ = upd (upd (zef #[fv]) 1 (.int .u32 0)) 2 (.int .u32 0) := ⟨_, rfl⟩
 have f0 : σ 0 = fv := by rw [hσ, zq (by decide), zq (by decide)]; rfl
 have f2 : σ 2 = .int .u32 0 := by rw [hσ, upd_same]
 rw [← hσ]
 clear hσ
 refine zf fun K hK => zf fun K1 hK1 => zn fun τ => ?_
 simp +decide only [bK, bE, BEq.rfl, Nat.reduceAdd, Nat.zero_add, f0, hf.run_len S]
 refine hK1 _ _ (zd fun σ2 hσ => ?_)
 have p2 := hσ 2
 have p3 := hσ 3
 have p4 := hσ 4
 have p5 := hσ 5
 simp +decide only [bE, Nat.reduceBeqDiff, BEq.rfl, Nat.reduceAdd, f2] at p2 p3 p4 p5
 clear hσ hK1 K1 f0 f2
 refine zjd (i := 5) (l := 4) (c := 6) (k := 0) hlo (L := fs.length) hl (fun j σ w' => σ 2 = .int .u32 0 ∧ σ 3 = fv ∧ σ 4 = .int .i64 fs.length ∧ σ 5 = .int .i64 j ∧ j ≤ fs.length ∧ Mod w w' zw) (fun j σ w h => ⟨h.2.2.2.1, h.2.2.1, h.2.2.2.2.1⟩) (fun j σ w b h => ?_) ⟨p2, p3, p4, p5, Nat.zero_le _, .refl _ _⟩ (fun σ' w' h => hK _ _ ?_) (fun j σ' w' hj h => ?_)
 ·obtain ⟨z, a, b, c, d, e⟩ := h
  exact ⟨by rw [zq (by decide)]; exact z, by rw [zq (by decide)]; exact a, by rw [zq (by decide)]; exact b, by rw [zq (by decide)]; exact c, d, e⟩
 ·refine zf fun K3 hK3 => zn fun τ => ?_
  simp +decide only [bK, bE, BEq.rfl, Nat.reduceAdd, h.1]
  refine hK3 _ _ (zd fun σ7 hσ => zbl ⟨.inr rfl, _, rfl, ?_⟩)
  have q := hσ 1
  simp +decide only [bE, BEq.rfl, Nat.reduceAdd] at q
  exact ⟨q, h.2.2.2.2.2⟩
 ·obtain ⟨z, a, b, c, d, e⟩ := h
  obtain ⟨bb, oo, cc, cs, w1, w2, hv, hr, hix, hld, hal, hst, m02, s2, r2⟩ := zxn S (hf.stay e) hj
  obtain ⟨gv, rfl, hgv⟩ := hr.out
  refine zf fun K4 hK4 => zn fun τ => ?_
  simp +decide only [bK, bE, Nat.reduceBeqDiff, BEq.rfl, Nat.reduceAdd, Nat.zero_add, a, c, hix, hld, hal, hst]
  refine hK4 _ _ (zd fun σ3 hσ => ?_)
  have q2 := hσ 2
  have q3 := hσ 3
  have q4 := hσ 4
  have q5 := hσ 5
  have q7 := hσ 7
  simp +decide only [bE, Nat.reduceBeqDiff, BEq.rfl, Nat.reduceAdd, z, a, b, c] at q2 q3 q4 q5 q7
  clear hσ hK4 K4
  have hneg : ¬ (fs[j]).tag ≥ 0 := by have := ht _ (List.getElem_mem hj); omega
  refine zf fun K4 hK4 => zn fun τ => ?_
  simp +decide only [bK, bE, decide_false, BEq.rfl, Nat.reduceAdd, Nat.zero_add, q7, S.f4.run, B.int.run_load1 rfl, r2 4 _ rfl, hneg]
  refine hK4 _ _ (zd fun σ4 hσ => ?_)
  have k2 := hσ 2
  have k3 := hσ 3
  have k4 := hσ 4
  have k5 := hσ 5
  have k8 := hσ 8
  simp +decide only [bE, Nat.reduceBeqDiff, BEq.rfl, Nat.reduceAdd, q2, q3, q4, q5] at k2 k3 k4 k5 k8
  refine W_if hlo k8 ?_
  simp only [Bool.false_eq_true, if_false]
  refine zbv ⟨k5, ?_, ?_, ?_, upd_same _ _ _, by omega, e.trans' m02⟩
  ·rw [zq (by decide)]; exact k2
  ·rw [zq (by decide)]; exact k3
  ·rw [zq (by decide)]; exact k4
end
def OwnT (w : World) (lo : Nat) (v : Value) (a : List (Nat × List UInt8)) : Prop := ∃ cs, Own w lo 2 v a.length cs ∧ UsA w a cs
theorem OwnT.at {w : World} {lo : Nat} {v : Value} {a : List (Nat × List UInt8)} (h : OwnT w lo v a) {i : Nat} {x : Nat × List UInt8} (hi : a[i]? = some x) : ∃ b c, v = .slice (some ⟨b, 0, none⟩) a.length c ∧ w.cell? ⟨b, i * 2, none⟩ = some (.int .u32 x.1) := by
 obtain ⟨cs, ho, hu⟩ := h
 rcases ho with ⟨_, e, _⟩ | ⟨b, c, e, _, _, _, _, hr, _⟩
 ·rw [List.length_eq_zero_iff.1 e] at hi; simp at hi
 ·obtain ⟨s, g1, _, _⟩ := hu.get hi
  refine ⟨b, c, e, ?_⟩
  have := hr _ _ g1
  rwa [Nat.zero_add] at this
theorem OwnT.stay {w w' : World} (m : Mod w w' zw) {lo : Nat} {v : Value} {a : List (Nat × List UInt8)} (h : OwnT w lo v a) : OwnT w' lo v a := by
 obtain ⟨cs, ho, hu⟩ := h
 exact ⟨cs, ho.stay m fun _ _ _ h => h, hu.stay m⟩
section
variable {P : Program} {N : Nums} {M : zaz}
theorem OwnT.run_len (S : SpT P N M) {w w' : World} {lo : Nat} {v : Value} {a : List (Nat × List UInt8)} (h : OwnT w lo v a) {ty : TypeId} : (Builtin.len_ #[N.zi] ty #[v]).run P w' = .ok (.int .i64 a.length) w' := by
 obtain ⟨cs, ho, _⟩ := h
 rcases ho with ⟨rfl, e, _⟩ | ⟨b, c, rfl, _⟩
 ·rw [e]; exact S.tr.lg.run_len
 ·exact S.tr.lg.run_len
def cU1 (N : Nums) : C := .draw [
 ⟨some 0, .move (V 10), 0, none, []⟩,
 ⟨some 1, .move (V 4), 0, none, []⟩,
 ⟨some 2, .call ⟨.builtin .len, #[T 1], #[N.zi]⟩, N.ze, none, [1]⟩,
 ⟨some 3, .binOp .lss N.ze (T 0) (T 2) N.ze, 0, none, [0, 2]⟩,
 ⟨some 4, .move (T 3), 0, none, [3]⟩,
 ⟨some 5, .move (V 4), 0, some (some 4, true), [4]⟩,
 ⟨some 6, .move (V 10), 0, some (some 4, true), [4]⟩,
 ⟨some 7, .indexAddr N.zi (T 5) (T 6), 0, some (some 4, true), [5, 6, 4]⟩,
 ⟨some 8, .fieldAddr N.zy (T 7) 0, 0, some (some 4, true), [7, 4]⟩,
 ⟨some 9, .load N.zc (T 8), 0, some (some 4, true), [8, 4]⟩,
 ⟨some 10, .fieldAddr N.zy (V 9) 0, 0, some (some 4, true), [4]⟩,
 ⟨some 11, .load N.zc (T 10), 0, some (some 4, true), [10, 4]⟩,
 ⟨some 12, .binOp .lss N.zc (T 9) (T 11) N.zc, 0, some (some 4, true), [9, 11, 4]⟩,
 ⟨some 111, .pick (T 4) (T 12) (.const (.bool false)), 0, none, [4, 12]⟩]
theorem W_U1 (B : Base P N) (S : SpT P N M) {loc : List Nat} {N' : Nat} {Q : Exit → Env → World → Prop} {σ : Env} {w : World} {lo b9 i k : Nat} {v : Value} {a : List (Nat × List UInt8)} (f4 : σ 4 = v) (f9 : σ 9 = .pointer (some ⟨b9, 0, none⟩)) (f10 : σ 10 = .int .i64 i)
  (ho : OwnT w lo v a) (h9 : w.cell? ⟨b9, 0, none⟩ = some (.int .u32 k))
  (hQ : ∀ σ' : Env, σ' 11 = .bool (match a[i]? with | some x => decide (x.1 < k) | none => false) → (∀ i, i ≠ 11 → σ' i = σ i) → Q .normal σ' w.drew) : W P loc N' (cU1 N) Q σ w := by
 obtain ⟨fs, hT⟩ := S.tr.tu
 have ho' := ho.stay (Mod.drew w zw)
 have h9' : w.drew.cell? ⟨b9, 0, none⟩ = some (.int .u32 k) := h9
 refine zuk B.mixed (by kernel_rfl) fun τ => ?_
 by_cases hi : i < a.length
 ·have hx := List.getElem?_eq_getElem hi
  obtain ⟨b, c, hv, hc⟩ := ho'.at hx
  rw [hx] at hQ
  have hlt : ((i : Int) < (a.length : Int)) := by omega
  have hix := fun {w : World} => zbf (P := P) (w := w) S.tr.lg hT (bl := b) (o := 0) (n := a.length) (c := c) (i := i) (k := .i64) hi
  have hln := ho'.run_len S (w' := w.drew) (ty := N.ze)
  rw [hv] at f4 hln
  simp +decide only [bK, bE, zmi, Nat.reduceBeqDiff, decide_true, BEq.rfl, Nat.reduceAdd, Nat.add_zero, Nat.zero_add, if_true, true_and, f4, f9, f10, hln, hlt, zbw, hix, S.tr.g0.run, B.uint32.run_load1 rfl, hc, h9', zcw]
  refine zd (K := fun σ' w' => Q .normal σ' w') fun σ' hσ => hQ _ ?_ fun j hj => ?_
  ·have := hσ 11
   simp +decide only [bE, BEq.rfl, Nat.reduceAdd] at this
   rw [this]
   simp
  ·rw [hσ]
   have e1 : (j + 100 == 111) = false := beq_eq_false_iff_ne.2 (by omega)
   simp +decide only [bE, Nat.reduceBeqDiff, e1]
 ·have hx : a[i]? = none := List.getElem?_eq_none (by omega)
  rw [hx] at hQ
  have hlt : ¬ ((i : Int) < (a.length : Int)) := by omega
  have hln := ho'.run_len S (w' := w.drew) (ty := N.ze)
  simp +decide only [bK, bE, zmi, Nat.reduceBeqDiff, decide_false, BEq.rfl, Nat.reduceAdd, if_false, true_and, f4, f10, hln, hlt, zcf, Bool.not_true, zcw]
  refine zd (K := fun σ' w' => Q .normal σ' w') fun σ' hσ => hQ _ ?_ fun j hj => ?_
  ·have := hσ 11
   simp +decide only [bE, BEq.rfl, Nat.reduceAdd] at this
   rw [this]
  ·rw [hσ]
   have e1 : (j + 100 == 111) = false := beq_eq_false_iff_ne.2 (by omega)
   simp +decide only [bE, Nat.reduceBeqDiff, e1]
def cU2 (N : Nums) : C := .draw [
 ⟨some 0, .fieldAddr N.zy (V 9) 0, 0, none, []⟩,
 ⟨some 1, .load N.zc (T 0), 0, none, [0]⟩,
 ⟨some 2, .move (V 3), 0, none, []⟩,
 ⟨some 3, .binOp .lss N.zc (T 1) (T 2) N.zc, 0, none, [1, 2]⟩,
 ⟨some 4, .move (T 3), 0, none, [3]⟩,
 ⟨some 5, .move (V 10), 0, some (some 4, false), [4]⟩,
 ⟨some 6, .move (V 4), 0, some (some 4, false), [4]⟩,
 ⟨some 7, .call ⟨.builtin .len, #[T 6], #[N.zi]⟩, N.ze, some (some 4, false), [6, 4]⟩,
 ⟨some 8, .binOp .lss N.ze (T 5) (T 7) N.ze, 0, some (some 4, false), [5, 7, 4]⟩,
 ⟨some 9, .move (T 8), 0, some (some 4, false), [8, 4, 4]⟩,
 ⟨some 10, .move (V 4), 0, some (some 9, true), [9]⟩,
 ⟨some 11, .move (V 10), 0, some (some 9, true), [9]⟩,
 ⟨some 12, .indexAddr N.zi (T 10) (T 11), 0, some (some 9, true), [10, 11, 9]⟩,
 ⟨some 13, .fieldAddr N.zy (T 12) 0, 0, some (some 9, true), [12, 9]⟩,
 ⟨some 14, .load N.zc (T 13), 0, some (some 9, true), [13, 9]⟩,
 ⟨some 15, .fieldAddr N.zy (V 9) 0, 0, some (some 9, true), [9]⟩,
 ⟨some 16, .load N.zc (T 15), 0, some (some 9, true), [15, 9]⟩,
 ⟨some 17, .binOp .eql N.zc (T 14) (T 16) N.zc, 0, some (some 9, true), [14, 16, 9]⟩,
 ⟨some 18, .pick (T 9) (T 17) (.const (.bool false)), 0, some (some 4, false), [9, 17, 4]⟩,
 ⟨some 112, .pick (T 4) (.const (.bool true)) (T 18), 0, none, [4, 18]⟩]
theorem W_U2 (B : Base P N) (S : SpT P N M) {loc : List Nat} {N' : Nat} {Q : Exit → Env → World → Prop} {σ : Env} {w : World} {lo b9 i k : Nat} {v : Value} {a : List (Nat × List UInt8)} (f3 : σ 3 = .int .u32 0) (f4 : σ 4 = v) (f9 : σ 9 = .pointer (some ⟨b9, 0, none⟩)) (f10 : σ 10 = .int .i64 i)
  (ho : OwnT w lo v a) (h9 : w.cell? ⟨b9, 0, none⟩ = some (.int .u32 k))
  (hQ : ∀ σ' : Env, σ' 12 = .bool (match a[i]? with | some x => decide (x.1 = k) | none => false) → (∀ i, i ≠ 12 → σ' i = σ i) → Q .normal σ' w.drew) : W P loc N' (cU2 N) Q σ w := by
 obtain ⟨fs, hT⟩ := S.tr.tu
 have ho' := ho.stay (Mod.drew w zw)
 have h9' : w.drew.cell? ⟨b9, 0, none⟩ = some (.int .u32 k) := h9
 have hk : ¬ ((k : Int) < 0) := by omega
 refine zuk B.mixed (by kernel_rfl) fun τ => ?_
 by_cases hi : i < a.length
 ·have hx := List.getElem?_eq_getElem hi
  obtain ⟨b, c, hv, hc⟩ := ho'.at hx
  rw [hx] at hQ
  have hlt : ((i : Int) < (a.length : Int)) := by omega
  have hix := fun {w : World} => zbf (P := P) (w := w) S.tr.lg hT (bl := b) (o := 0) (n := a.length) (c := c) (i := i) (k := .i64) hi
  have hln := ho'.run_len S (w' := w.drew) (ty := N.ze)
  rw [hv] at f4 hln
  simp +decide only [bK, bE, zmi, Nat.reduceBeqDiff, decide_true, decide_false, BEq.rfl, Nat.reduceAdd, Nat.add_zero, Nat.zero_add, if_false, if_true, true_and, f3, f4, f9, f10, hln, hlt, hk, zbw, hix, S.tr.g0.run, B.uint32.run_load1 rfl, hc, h9', zcw]
  refine zd (K := fun σ' w' => Q .normal σ' w') fun σ' hσ => hQ _ ?_ fun j hj => ?_
  ·have := hσ 12
   simp +decide only [bE, BEq.rfl, Nat.reduceAdd] at this
   rw [this]
   by_cases e : (a[i]).1 = k
   ·simp [e]
   ·have : ¬ (((a[i]).1 : Int) = (k : Int)) := by omega
    simp [e, this]
  ·rw [hσ]
   have e1 : (j + 100 == 112) = false := beq_eq_false_iff_ne.2 (by omega)
   simp +decide only [bE, Nat.reduceBeqDiff, e1]
 ·have hx : a[i]? = none := List.getElem?_eq_none (by omega)
  rw [hx] at hQ
  have hlt : ¬ ((i : Int) < (a.length : Int)) := by omega
  have hln := ho'.run_len S (w' := w.drew) (ty := N.ze)
  simp +decide only [bK, bE, zmi, Nat.reduceBeqDiff, decide_false, BEq.rfl, Nat.reduceAdd, Nat.add_zero, if_false, true_and, f3, f4, f9, f10, hln, hlt, hk, h9', S.tr.g0.run, B.uint32.run_load1 rfl, zbw, zcf, Bool.not_true, zcw]
  refine zd (K := fun σ' w' => Q .normal σ' w') fun σ' hσ => hQ _ ?_ fun j hj => ?_
  ·have := hσ 12
   simp +decide only [bE, BEq.rfl, Nat.reduceAdd] at this
   rw [this]
  ·rw [hσ]
   have e1 : (j + 100 == 112) = false := beq_eq_false_iff_ne.2 (by omega)
   simp +decide only [bE, Nat.reduceBeqDiff, e1]
end
theorem zvk {k : Nat} {x : List UInt8} : ∀ {a : List (Nat × List UInt8)} {i : Nat} {y : Nat × List UInt8}, (∀ j z, j < i → a[j]? = some z → z.1 < k) → a[i]? = some y → y.1 = k → insT k x a = a
 | [], i, y, _, h, _ => by simp at h
 | (k', l) :: a, 0, y, _, h, e => by
  simp at h; subst h
  have e : k' = k := e
  subst e
  simp [insT]
 | (k', l) :: a, i + 1, y, hj, h, e => by
  have h0 : k' < k := hj 0 (k', l) (by omega) rfl
  rw [insT, if_pos h0, zvk (i := i) (fun j z hji hz => hj (j + 1) z (by omega) (by simpa using hz)) (by simpa using h) e]
theorem insT_new {k : Nat} {x : List UInt8} : ∀ {a : List (Nat × List UInt8)} {i : Nat}, i ≤ a.length → (∀ j z, j < i → a[j]? = some z → z.1 < k) → (∀ y, a[i]? = some y → k < y.1) → insT k x a = a.take i ++ (k, x) :: a.drop i
 | [], i, hi, _, _ => by
  have : i = 0 := by simpa using hi
  subst this; simp [insT]
 | (k', l) :: a, 0, _, _, h => by
  have h0 : k < k' := h (k', l) rfl
  simp [insT, show ¬ k' < k by omega, show k' ≠ k by omega]
 | (k', l) :: a, i + 1, hi, hj, h => by
  have h0 : k' < k := hj 0 (k', l) (by omega) rfl
  rw [insT, if_pos h0, insT_new (i := i) (by simpa using hi) (fun j z hji hz => hj (j + 1) z (by omega) (by simpa using hz)) (fun y hy => h y (by simpa using hy))]
  simp
theorem insT_len (k : Nat) (x : List UInt8) : ∀ (a : List (Nat × List UInt8)), (insT k x a).length ≤ a.length + 1
 | [] => by simp [insT]
 | (k', l) :: a => by
  have := insT_len k x a
  simp only [insT]
  split
  ·simp; omega
  ·split <;> simp
def TgA (w : World) (x : Nat × List UInt8) (p : List Value) : Prop := ∃ s, p = [.int .u32 x.1, s] ∧ OctA w s x.2
def TgsA (w : World) : List (Nat × List UInt8) → List (List Value) → Prop
 | [], ps => ps = []
 | x :: r, ps => ∃ p q, ps = p :: q ∧ TgA w x p ∧ TgsA w r q
theorem TgsA.us {w : World} : ∀ {a : List (Nat × List UInt8)} {ps : List (List Value)}, TgsA w a ps → UsA w a ps.flatten
 | [], ps, h => by rw [show ps = [] from h]; rfl
 | (k, l) :: r, ps, ⟨p, q, e, ⟨s, e1, h1⟩, h2⟩ => by
  subst e e1
  exact ⟨s, q.flatten, rfl, h1, h2.us⟩
theorem TgsA.length {w : World} : ∀ {a : List (Nat × List UInt8)} {ps : List (List Value)}, TgsA w a ps → ps.length = a.length
 | [], ps, h => by rw [show ps = [] from h]; rfl
 | x :: r, ps, ⟨p, q, e, _, h2⟩ => by subst e; simp [h2.length]
theorem TgsA.two {w : World} : ∀ {a : List (Nat × List UInt8)} {ps : List (List Value)}, TgsA w a ps → ∀ p ∈ ps, p.length = 2 ∧ ∀ c ∈ p, c.oneCell' = true
 | [], ps, h, p, hp => by rw [show ps = [] from h] at hp; cases hp
 | x :: r, ps, ⟨p', q, e, ⟨s, e1, h1⟩, h2⟩, p, hp => by
  subst e
  rcases List.mem_cons.1 hp with rfl | hp
  ·subst e1
   exact ⟨rfl, fun c hc => by
    simp at hc
    rcases hc with rfl | rfl
    ·rfl
    ·exact h1.one⟩
  ·exact h2.two p hp
theorem TgsA.append {w : World} : ∀ {a b : List (Nat × List UInt8)} {ps qs : List (List Value)}, TgsA w a ps → TgsA w b qs → TgsA w (a ++ b) (ps ++ qs)
 | [], b, ps, qs, h, h' => by rw [show ps = [] from h]; exact h'
 | x :: r, b, ps, qs, ⟨p, q, e, h1, h2⟩, h' => by subst e; exact ⟨p, q ++ qs, rfl, h1, h2.append h'⟩
theorem TgsA.take {w : World} : ∀ {a : List (Nat × List UInt8)} {ps : List (List Value)} (i : Nat), TgsA w a ps → TgsA w (a.take i) (ps.take i)
 | [], ps, i, h => by rw [show ps = [] from h]; simp [TgsA]
 | x :: r, ps, 0, _ => by simp [TgsA]
 | x :: r, ps, i + 1, ⟨p, q, e, h1, h2⟩ => by subst e; exact ⟨p, q.take i, by simp, h1, h2.take i⟩
theorem TgsA.drop {w : World} : ∀ {a : List (Nat × List UInt8)} {ps : List (List Value)} (i : Nat), TgsA w a ps → TgsA w (a.drop i) (ps.drop i)
 | [], ps, i, h => by rw [show ps = [] from h]; simp [TgsA]
 | x :: r, ps, 0, h => by simpa using h
 | x :: r, ps, i + 1, ⟨p, q, e, h1, h2⟩ => by subst e; simpa using h2.drop i
theorem TgsA.stay {w w' : World} (m : Mod w w' zw) : ∀ {a : List (Nat × List UInt8)} {ps : List (List Value)}, TgsA w a ps → TgsA w' a ps
 | [], ps, h => h
 | x :: r, ps, ⟨p, q, e, ⟨s, e1, h1⟩, h2⟩ => ⟨p, q, e, ⟨s, e1, h1.stay m⟩, h2.stay m⟩
theorem flat2 : ∀ {ps : List (List Value)}, (∀ p ∈ ps, p.length = 2) → ps.flatten.length = ps.length * 2
 | [], _ => rfl
 | p :: ps, h => by
  rw [List.flatten_cons, List.length_append, h p (by simp), flat2 fun q hq => h q (by simp [hq]), List.length_cons]; omega
section
variable {P : Program} {N : Nums} {M : zaz}
theorem zxg {et : TypeId} {fs : Array Field} {by' : Nat} {z : Value} (hT : TI P et (.struct fs) 2 by' z) {w : World} {lo n i : Nat} {v : Value} {A B : List (List Value)} {X Y : List Value}
  (ho : Own w lo 2 v n (A ++ X :: B).flatten) (h2 : ∀ p ∈ A ++ X :: B, p.length = 2) (hA : A.length = i) (hY : Y.length = 2) (h1 : ∀ c ∈ Y, c.oneCell' = true) :
  ∃ b c w', v = .slice (some ⟨b, 0, none⟩) n c ∧ i < n ∧ (Instr.loadAt et (.pointer (some ⟨b, 0 + i * 2, none⟩))).run P w = .ok (.agg X.toArray) w ∧ (Instr.storeAt et (.pointer (some ⟨b, 0 + i * 2, none⟩)) (.agg Y.toArray)).run P w = .ok () w' ∧ Own w' lo 2 v n (A ++ Y :: B).flatten ∧ Mod w w' (fun k _ => ¬ zaj v k) ∧ w'.heap.size = w.heap.size := by
 have hX : X.length = 2 := h2 X (by simp)
 have hAl : A.flatten.length = i * 2 := by rw [flat2 fun p hp => h2 p (by simp [hp]), hA]
 have hBl : B.flatten.length = B.length * 2 := flat2 fun p hp => h2 p (by simp [hp])
 have htot : (A ++ X :: B).flatten.length = n * 2 := by
  rcases ho with ⟨_, e1, e2⟩ | ⟨b, c, _, _, _, _, _, _, e⟩
  ·rw [e2, e1]; rfl
  ·exact e
 rw [List.flatten_append, List.flatten_cons, List.length_append, List.length_append, hAl, hX, hBl] at htot
 rcases ho with ⟨_, e1, _⟩ | ⟨b, c, hv, hb1, hb2, hnc, hth, hrg, hcl⟩
 ·omega
 rw [List.flatten_append, List.flatten_cons, zx, zx, hAl, hX] at hrg
 obtain ⟨g1, g2, g3⟩ := hrg
 have hin : i < n := by omega
 have hld := hT.run_load (w := w) (b := b) (o := 0 + i * 2) g2 hX (fun h => by cases h)
 have hlv : ldv (.struct fs) X = .agg X.toArray := rfl
 rw [hlv] at hld
 have hst := hT.run_store (w := w) (b := b) (o := 0 + i * 2) (v := .agg Y.toArray) (cs := Y) rfl hY (fun j hj => by
  have := hth (i * 2 + j) (by have : i * 2 + 2 ≤ c * 2 := (by omega); omega)
  rw [show 0 + i * 2 + j = 0 + (i * 2 + j) by omega]; exact this) h1
 have ms : Mod w (w.setCells b (0 + i * 2) Y) (rng b (0 + i * 2) Y.length) := Mod.setCells _ _ _ fun _ k h1 h2 => ⟨rfl, h1, h2⟩
 refine ⟨b, c, _, hv, hin, hld, hst, .inr ⟨b, c, hv, hb1, Nat.lt_of_lt_of_le hb2 ms.size, hnc, ms.there hb2 hth, ?_, ?_⟩, ms.mono fun k o _ h hn => hn b 0 none n c hv h.1, zco _ _ _⟩
 ·rw [List.flatten_append, List.flatten_cons, zx, zx, hAl, hY]
  refine ⟨ms.rangeAt hb2 (fun k h1 h2 h => by have := h.2.1; omega) g1, ?_, ms.rangeAt hb2 (fun k h1 h2 h => by have := h.2.2; omega) g3⟩
  have := zar Y (0 + i * 2) w X g2 (by omega)
  rwa [List.drop_of_length_le (by omega), List.append_nil] at this
 ·rw [List.flatten_append, List.flatten_cons, List.length_append, List.length_append, hAl, hY, hBl]; omega
end
section
variable {P : Program} {N : Nums} {M : zaz}
def cShift (N : Nums) : C := .block 4 (.loop (.seq (.seq (.ops [⟨some 0, .move (V 13), 0, none, []⟩, ⟨some 1, .move (V 10), 0, none, []⟩, ⟨some 114, .binOp .gtr N.ze (T 0) (T 1) N.ze, 0, none, []⟩]) (.cond 14 .skip (.exit 4)))
 (.seq (.block 5 (.ops [⟨some 0, .move (V 4), 0, none, []⟩, ⟨some 1, .move (V 13), 0, none, []⟩, ⟨some 2, .move (V 4), 0, none, []⟩, ⟨some 3, .move (V 13), 0, none, []⟩, ⟨some 4, .binOp .sub N.ze (T 3) (.const (.int .i64 1)) N.ze, 0, none, []⟩, ⟨some 5, .indexAddr N.zi (T 2) (T 4), 0, none, []⟩, ⟨some 6, .load N.zy (T 5), 0, none, []⟩, ⟨some 7, .indexAddr N.zi (T 0) (T 1), 0, none, []⟩, ⟨none, .store N.zy (T 7) (T 6), 0, none, []⟩]))
  (.ops [⟨some 0, .move (V 13), 0, none, []⟩, ⟨some 1, .binOp .sub N.ze (T 0) (.const (.int .i64 1)) N.ze, 0, none, []⟩, ⟨some 113, .assign (T 1), 0, none, []⟩]))))
theorem W_shift (S : SpT P N M) {loc : List Nat} {N' : Nat} (hlo : zhy loc N') {Q : Exit → Env → World → Prop} {σ : Env} {w0 wS w : World} {v : Value} {i : Nat} {a : List (Nat × List UInt8)} {ps : List (List Value)} {g : List Value}
  (f4 : σ 4 = v) (f10 : σ 10 = .int .i64 i) (f13 : σ 13 = .int .i64 a.length) (hi : i ≤ a.length) (hn : a.length < 1099511627776) (m0 : Mod w0 w zw) (hps : TgsA wS a ps) (hg : g.length = 2)
  (ho : Own w w0.heap.size 2 v (a.length + 1) (ps ++ [g]).flatten)
  (hQ : ∀ (σ' : Env) (w' : World) (g' : List Value), (∀ j, j ≠ 13 → j ≠ 14 → σ' j = σ j) → g'.length = 2 → Own w' w0.heap.size 2 v (a.length + 1) (ps.take i ++ g' :: ps.drop i).flatten → Mod w0 w' zw → Mod w w' (fun k _ => ¬ zaj v k) → Q .normal σ' w') :
  W P loc N' (cShift N) Q σ w := by
 obtain ⟨fs, hT⟩ := S.tr.tu
 have hpl := hps.length
 have hp2 := hps.two
 refine zey (zri (fun m σ' w' => ∃ k g', m = k ∧ i ≤ k ∧ k ≤ a.length ∧ g'.length = 2 ∧ (∀ j, j ≠ 13 → j ≠ 14 → σ' j = σ j) ∧ σ' 13 = .int .i64 k ∧ Own w' w0.heap.size 2 v (a.length + 1) (ps.take k ++ g' :: ps.drop k).flatten ∧ Mod w0 w' zw ∧ Mod w w' (fun k _ => ¬ zaj v k)) (n := a.length)
  ⟨a.length, g, rfl, hi, Nat.le_refl _, hg, fun _ _ _ => rfl, f13, by
   have e1 : ps.take a.length = ps := by rw [← hpl, List.take_length]
   have e2 : ps.drop a.length = [] := by rw [← hpl, List.drop_length]
   rw [e1, e2]; exact ho, m0, .refl _ _⟩ ?_)
 rintro k σ1 w1 ⟨_, g', rfl, hik, hk, hg', hag, h13, hw, m1, mw⟩
 have h4 : σ1 4 = v := (hag 4 (by decide) (by decide)).trans f4
 have h10 : σ1 10 = .int .i64 i := (hag 10 (by decide) (by decide)).trans f10
 refine zf fun K hK => zf fun K1 hK1 => zn fun τ => ?_
 simp +decide only [bK, bE, Nat.reduceBeqDiff, BEq.rfl, Nat.reduceAdd, h13, h10]
 refine hK1 _ _ (zd fun σ2 hσ => ?_)
 have q4 := hσ 4
 have q13 := hσ 13
 have q14 := hσ 14
 simp +decide only [bE, Nat.reduceBeqDiff, BEq.rfl, Nat.reduceAdd, h4, h13] at q4 q13 q14
 have hag2 : ∀ j, j ≠ 13 → j ≠ 14 → σ2 j = σ j := fun j h1 h2 => by
  rw [hσ j, ← hag j h1 h2]
  have e1 : (j + 100 == 114) = false := beq_eq_false_iff_ne.2 (by omega)
  simp +decide only [bE, Nat.reduceBeqDiff, e1]
 clear hσ hK1 K1
 refine W_if hlo q14 ?_
 by_cases hgt : i < k
 ·have hgt' : (k : Int) > (i : Int) := by omega
  simp only [hgt', decide_true, if_true]
  refine zbv (hK _ _ ?_)
  clear hK K
  obtain ⟨k', rfl⟩ : ∃ k', k = k' + 1 := ⟨k - 1, by omega⟩
  have hk' : k' < ps.length := by omega
  have hX := List.getElem?_eq_getElem hk'
  obtain ⟨X, hXe⟩ : ∃ X, X = ps[k'] := ⟨_, rfl⟩
  have htk : ps.take (k' + 1) = ps.take k' ++ [X] := by rw [hXe]; exact (List.take_append_getElem hk').symm
  have hdk : ps.drop k' = X :: ps.drop (k' + 1) := by rw [hXe]; exact List.drop_eq_getElem_cons hk'
  have hX2 := hp2 X (by rw [hXe]; exact List.getElem_mem hk')
  have hall : ∀ p ∈ ps.take (k' + 1) ++ g' :: ps.drop (k' + 1), p.length = 2 := by
   intro p hp
   rcases List.mem_append.1 hp with hp | hp
   ·exact (hp2 p (List.mem_of_mem_take hp)).1
   ·rcases List.mem_cons.1 hp with rfl | hp
    ·exact hg'
    ·exact (hp2 p (List.mem_of_mem_drop hp)).1
  have hw' := hw
  rw [htk, List.append_assoc, List.singleton_append] at hw'
  have hall' := hall
  rw [htk, List.append_assoc, List.singleton_append] at hall'
  obtain ⟨b, c, wx, hv, hi1, hld, _⟩ := zxg hT hw' hall' (i := k') (by simp; omega) (Y := X) hX2.1 hX2.2
  obtain ⟨b2, c2, w3, hv2, hi2, _, hst, ho3, m3, s3⟩ := zxg hT hw hall (i := k' + 1) (by simp; omega) (Y := X) hX2.1 hX2.2
  have hbb : b2 = b ∧ c2 = c := by
   rw [hv] at hv2
   injection hv2 with e1 _ e3
   injection e1 with e2
   injection e2 with e4
   exact ⟨e4.symm, e3.symm⟩
  obtain ⟨rfl, rfl⟩ := hbb
  have hix1 := fun {w : World} => zbf (P := P) (w := w) S.tr.lg hT (bl := b2) (o := 0) (n := a.length + 1) (c := c2) (i := k') (k := .i64) hi1
  have hix2 := fun {w : World} => zbf (P := P) (w := w) S.tr.lg hT (bl := b2) (o := 0) (n := a.length + 1) (c := c2) (i := k' + 1) (k := .i64) hi2
  rw [Nat.zero_add] at hld hst
  have hsub : IntKind.i64.wrap (((k' + 1 : Nat) : Int) - 1) = (k' : Int) := by rw [wrap_i64 (by omega) (by omega)]; omega
  refine zf fun K hK => zey (zn fun τ => ?_)
  simp +decide only [bK, bE, Nat.reduceBeqDiff, BEq.rfl, Nat.reduceAdd, q4, q13, hsub]
  rw [hv]
  simp +decide only [bK, Nat.zero_add, hix1, hld, hix2, hst]
  simp only [inB]
  refine zd (K := fun σ' w' => zgw K _ .normal σ' w') fun σ3 hσ => hK _ _ ?_
  have p13 := hσ 13
  simp +decide only [bE, Nat.reduceBeqDiff, Nat.reduceAdd, q13] at p13
  have hag3 : ∀ j, j ≠ 13 → j ≠ 14 → σ3 j = σ j := fun j h1 h2 => by
   rw [hσ j, ← hag2 j h1 h2]
   simp +decide only [bE, Nat.reduceBeqDiff]
  clear hσ hK K
  refine zn fun τ => ?_
  simp +decide only [bK, bE, BEq.rfl, Nat.reduceAdd, p13, hsub]
  simp only [zgw]
  refine zd (K := fun σ' w' => ∃ m', m' < k' + 1 ∧ ∃ k g', m' = k ∧ i ≤ k ∧ k ≤ a.length ∧ g'.length = 2 ∧ (∀ j, j ≠ 13 → j ≠ 14 → σ' j = σ j) ∧ σ' 13 = .int .i64 k ∧ Own w' w0.heap.size 2 v (a.length + 1) (ps.take k ++ g' :: ps.drop k).flatten ∧ Mod w0 w' zw ∧ Mod w w' (fun k _ => ¬ zaj v k)) fun σ4 hσ => ?_
  have r13 := hσ 13
  simp +decide only [bE, BEq.rfl, Nat.reduceAdd] at r13
  refine ⟨k', by omega, k', X, rfl, by omega, by omega, hX2.1, fun j h1 h2 => ?_, r13, ?_, Mod.ofOwn hw m1 m3, mw.trans' m3⟩
  ·rw [hσ j, ← hag3 j h1 h2]
   have e1 : (j + 100 == 113) = false := beq_eq_false_iff_ne.2 (by omega)
   simp +decide only [bE, Nat.reduceBeqDiff, e1]
  ·rw [hdk]
   rw [htk, List.append_assoc, List.singleton_append] at ho3
   exact ho3
 ·have hgt' : ¬ (k : Int) > (i : Int) := by omega
  simp only [hgt', decide_false, Bool.false_eq_true, if_false]
  refine zpk ?_
  simp only [zgw, inB, if_true]
  obtain rfl : k = i := by omega
  exact hQ _ _ g' hag2 hg' hw m1 mw
end
section
variable {P : Program} {N : Nums} {M : zaz}
def cFind (N : Nums) : C := .block 2 (.loop (.seq (.seq (cU1 N) (.cond 11 .skip (.exit 2)))
 (.block 3 (.ops [⟨some 0, .move (V 10), 0, none, []⟩, ⟨some 1, .binOp .add N.ze (T 0) (.const (.int .i64 1)) N.ze, 0, none, []⟩, ⟨some 110, .assign (T 1), 0, none, []⟩]))))
theorem W_find (B : Base P N) (S : SpT P N M) {loc : List Nat} {N' : Nat} (hlo : zhy loc N') {Q : Exit → Env → World → Prop} {σ : Env} {w : World} {lo b9 k : Nat} {v : Value} {a : List (Nat × List UInt8)} (f4 : σ 4 = v) (f9 : σ 9 = .pointer (some ⟨b9, 0, none⟩)) (f10 : σ 10 = .int .i64 0)
  (ho : OwnT w lo v a) (h9 : w.cell? ⟨b9, 0, none⟩ = some (.int .u32 k)) (hn : a.length < 1099511627776)
  (hQ : ∀ (σ' : Env) (w' : World) (i : Nat), (∀ j, j ≠ 10 → j ≠ 11 → σ' j = σ j) → σ' 10 = .int .i64 i → i ≤ a.length → (∀ j z, j < i → a[j]? = some z → z.1 < k) → (∀ y, a[i]? = some y → ¬ y.1 < k) → Mod w w' zw → Q .normal σ' w') :
  W P loc N' (cFind N) Q σ w := by
 refine zey (zri (fun m σ' w' => ∃ i : Nat, m = a.length - i ∧ i ≤ a.length ∧ (∀ j, j ≠ 10 → j ≠ 11 → σ' j = σ j) ∧ σ' 10 = .int .i64 i ∧ (∀ j z, j < i → a[j]? = some z → z.1 < k) ∧ Mod w w' zw) (n := a.length) ⟨0, by omega, by omega, fun _ _ _ => rfl, f10, fun j z h => by omega, .refl _ _⟩ ?_)
 rintro m σ1 w1 ⟨i, rfl, hi, hag, h10, hj, m1⟩
 have h4 : σ1 4 = v := (hag 4 (by decide) (by decide)).trans f4
 have h9' : σ1 9 = .pointer (some ⟨b9, 0, none⟩) := (hag 9 (by decide) (by decide)).trans f9
 have hc9 : w1.cell? ⟨b9, 0, none⟩ = some (.int .u32 k) := by rw [m1.cell _ _ (zfc (by rw [h9]; rfl)) fun h => h]; exact h9
 refine zf fun K hK => zf fun K1 hK1 => W_U1 B S h4 h9' h10 (ho.stay m1) hc9 fun σ2 q11 hag2 => hK1 _ _ ?_
 have md := m1.trans' (Mod.drew w1 zw)
 refine W_if hlo q11 ?_
 have q10 : σ2 10 = .int .i64 i := (hag2 10 (by decide)).trans h10
 have hag3 : ∀ j, j ≠ 10 → j ≠ 11 → σ2 j = σ j := fun j h1 h2 => (hag2 j h2).trans (hag j h1 h2)
 have stop : (∀ y, a[i]? = some y → ¬ y.1 < k) → W P loc N' (.exit 2) (zgw K (zgw (fun σ' w' => ∃ m, m < a.length - i ∧ ∃ i : Nat, m = a.length - i ∧ i ≤ a.length ∧ (∀ j, j ≠ 10 → j ≠ 11 → σ' j = σ j) ∧ σ' 10 = .int .i64 i ∧ (∀ j z, j < i → a[j]? = some z → z.1 < k) ∧ Mod w w' zw) (inB 2 Q))) σ2 w1.drew := by
  intro h
  refine zpk ?_
  simp only [zgw, inB, if_true]
  exact hQ _ _ i hag3 q10 hi hj h md
 cases hx : a[i]? with
 | none =>
  simp only [Bool.false_eq_true, if_false]
  exact stop fun y hy => by rw [hx] at hy; cases hy
 | some y =>
  by_cases hlt : y.1 < k
  ·simp only [hlt, decide_true, if_true]
   have hil := (List.getElem?_eq_some_iff.1 hx).1
   refine zbv (hK _ _ (zey (zn fun τ => ?_)))
   have hw : IntKind.i64.wrap ((i : Int) + 1) = (((i + 1 : Nat) : Int)) := by rw [wrap_i64 (by omega) (by omega)]; omega
   simp +decide only [bK, bE, BEq.rfl, Nat.reduceAdd, q10, hw]
   simp only [inB, zgw]
   refine zd (K := fun σ' w' => ∃ m, m < a.length - i ∧ ∃ i : Nat, m = a.length - i ∧ i ≤ a.length ∧ (∀ j, j ≠ 10 → j ≠ 11 → σ' j = σ j) ∧ σ' 10 = .int .i64 i ∧ (∀ j z, j < i → a[j]? = some z → z.1 < k) ∧ Mod w w' zw) fun σ4 hσ => ?_
   have r10 := hσ 10
   simp +decide only [bE, BEq.rfl, Nat.reduceAdd] at r10
   refine ⟨a.length - (i + 1), by omega, i + 1, rfl, by omega, fun j h1 h2 => ?_, r10, fun j z hji hz => ?_, md⟩
   ·rw [hσ j, ← hag3 j h1 h2]
    have e1 : (j + 100 == 110) = false := beq_eq_false_iff_ne.2 (by omega)
    simp +decide only [bE, Nat.reduceBeqDiff, e1]
   ·by_cases e : j = i
    ·subst e; rw [hx] at hz; injection hz with hz; subst hz; exact hlt
    ·exact hj j z (by omega) hz
  ·simp only [hlt, decide_false, Bool.false_eq_true, if_false]
   exact stop fun y' hy => by rw [hx] at hy; injection hy with hy; subst hy; exact hlt
end
theorem unkT_snoc (u : List (Nat × List UInt8)) {j : Nat} (hj : j < u.length) : (u.take (j + 1)).foldl (fun a x => insT x.1 x.2 a) [] = insT u[j].1 u[j].2 ((u.take j).foldl (fun a x => insT x.1 x.2 a) []) := by
 rw [← List.take_append_getElem hj, List.foldl_append]; rfl
theorem zpz : ∀ (u a : List (Nat × List UInt8)), (u.foldl (fun a x => insT x.1 x.2 a) a).length ≤ a.length + u.length
 | [], a => by simp
 | x :: u, a => by
  have h1 := zpz u (insT x.1 x.2 a)
  have h2 := insT_len x.1 x.2 a
  simp only [List.foldl_cons, List.length_cons]; omega
section
variable {P : Program} {N : Nums} {M : zaz}
def cPutT (N : Nums) : C := .seq (.ops [⟨some 0, .move (V 4), 0, none, []⟩, ⟨some 1, .build N.zy #[], 0, none, []⟩, ⟨some 2, .buildSlice N.zi 1 #[(0, T 1)], 0, none, []⟩, ⟨some 3, .call ⟨.builtin .append, #[T 0, T 2], #[N.zi, N.zi]⟩, N.zi, none, []⟩, ⟨some 104, .assign (T 3), 0, none, []⟩])
 (.seq (.seq (.ops [⟨some 0, .move (V 4), 0, none, []⟩, ⟨some 1, .call ⟨.builtin .len, #[T 0], #[N.zi]⟩, N.ze, none, []⟩, ⟨some 2, .binOp .sub N.ze (T 1) (.const (.int .i64 1)) N.ze, 0, none, []⟩, ⟨some 113, .assign (T 2), 0, none, []⟩]) (cShift N))
  (.ops [⟨some 0, .move (V 4), 0, none, []⟩, ⟨some 1, .move (V 10), 0, none, []⟩, ⟨some 2, .load N.zy (V 9), 0, none, []⟩, ⟨some 3, .indexAddr N.zi (T 0) (T 1), 0, none, []⟩, ⟨none, .store N.zy (T 3) (T 2), 0, none, []⟩]))
theorem W_putT (S : SpT P N M) {loc : List Nat} {N' : Nat} (hlo : zhy loc N') {Q : Exit → Env → World → Prop} {σ : Env} {w0 wS w : World} {b9 i : Nat} {v s : Value} {x : Nat × List UInt8} {a : List (Nat × List UInt8)} {ps : List (List Value)}
  (f4 : σ 4 = v) (f9 : σ 9 = .pointer (some ⟨b9, 0, none⟩)) (f10 : σ 10 = .int .i64 i) (hi : i ≤ a.length) (hn : a.length < 1000000000) (ho : Own w w0.heap.size 2 v a.length ps.flatten) (hps : TgsA wS a ps) (m0 : Mod w0 w zw) (hb9 : b9 < w.heap.size) (h9 : w.rangeAt b9 0 [.int .u32 x.1, s]) (hs : OctA wS s x.2) (h9n : zaj v b9)
  (hQ : ∀ (σ' : Env) (w' : World) (ps' : List (List Value)), (∀ j, j ≠ 4 → j ≠ 13 → j ≠ 14 → σ' j = σ j) → Own w' w0.heap.size 2 (σ' 4) (a.length + 1) ps'.flatten → TgsA wS (a.take i ++ x :: a.drop i) ps' → Mod w0 w' zw → Q .normal σ' w') :
  W P loc N' (cPutT N) Q σ w := by
 obtain ⟨fs, hT⟩ := S.tr.tu
 have hpl := hps.length
 have hp2 := hps.two
 have e0 : ∀ ρ : Env, (#[] : Array (Nat × Operand)).map (fun p => (p.1, ev ρ p.2)) = #[] := fun ρ => by simp
 have e1 : ∀ ρ : Env, (#[(0, T 1)] : Array (Nat × Operand)).map (fun p => (p.1, ev ρ p.2)) = #[(0, ρ 1)] := fun ρ => by simp
 have hbu : (Instr.build N.zy #[]).run P w = .ok (.agg [.int .u32 0, .slice none 0 0].toArray) w := S.tr.tag.run_build (by simp [Instr.fill])
 have hbs := ziq (w := w) (v := .agg [.int .u32 0, .slice none 0 0].toArray) (cs := [.int .u32 0, .slice none 0 0]) S.tr.lg hT rfl rfl (by decide) (by decide)
 obtain ⟨w1, hw1⟩ : ∃ w1, w1 = w.alloc (.cells [Value.int .u32 0, .slice none 0 0].toArray N.zy) := ⟨_, rfl⟩
 have m1 : Mod w w1 zw := by rw [hw1]; exact Mod.alloc _ _ _
 have s1 : w1.heap.size = w.heap.size + 1 := by rw [hw1]; exact zae _ _
 have r1 : w1.rangeAt w.heap.size 0 [.int .u32 0, .slice none 0 0] := by rw [hw1]; exact zu w _ _ _
 rw [← hw1] at hbs
 clear hw1
 have hones : ∀ c ∈ ps.flatten, c.oneCell' = true := fun c hc => by
  obtain ⟨p, hp, hcp⟩ := List.mem_flatten.1 hc
  exact (hp2 p hp).2 c hcp
 obtain ⟨v2, w2, hap, ho2, m2, _, hnb⟩ := zgg (P := P) (ty := N.zi) (m := 1) (cb := 1) S.tr.lg hT (ho.stay m1 fun _ _ _ h => h) r1 rfl (by decide) (Nat.le_trans m0.size m1.size) rfl hones (by omega) (by decide) (by decide)
 have m02 : Mod w0 w2 zw := Mod.ofOwn (ho.stay m1 fun _ _ _ h => h) (m0.trans' m1) m2
 have h9n2 : zaj v2 b9 := hnb b9 (by omega) h9n
 have h92 : w2.rangeAt b9 0 [.int .u32 x.1, s] := m2.rangeAt (by omega) (fun _ _ _ h => h h9n) (zh m1 h9)
 have ho2' : Own w2 w0.heap.size 2 v2 (a.length + 1) (ps ++ [[Value.int .u32 0, Value.slice none 0 0]]).flatten := by
  rw [List.flatten_append]; simpa using ho2
 refine zf fun K hK => zn fun τ => ?_
 simp +decide only [bK, bE, Nat.reduceBeqDiff, BEq.rfl, Nat.reduceAdd, f4, e0, hbu, e1, hbs, hap]
 refine hK _ _ (zd fun σ1 hσ => ?_)
 have q4 := hσ 4
 have q10 := hσ 10
 simp +decide only [bE, Nat.reduceBeqDiff, BEq.rfl, Nat.reduceAdd, f10] at q4 q10
 have hag1 : ∀ j, j ≠ 4 → σ1 j = σ j := fun j h => by
  rw [hσ j]
  have e1 : (j + 100 == 104) = false := beq_eq_false_iff_ne.2 (by omega)
  simp +decide only [bE, Nat.reduceBeqDiff, e1]
 clear hσ hK K
 have hlen : ∀ {w' : World}, (Builtin.len_ #[N.zi] N.ze #[v2]).run P w' = .ok (.int .i64 ((a.length + 1 : Nat) : Int)) w' := by
  intro w'
  rcases ho2' with ⟨_, e, _⟩ | ⟨b, c, e, _⟩
  ·omega
  ·rw [e]; exact S.tr.lg.run_len
 have hsub : IntKind.i64.wrap (((a.length + 1 : Nat) : Int) - 1) = (a.length : Int) := by rw [wrap_i64 (by omega) (by omega)]; omega
 refine zf fun K hK => zf fun K1 hK1 => zn fun τ => ?_
 simp +decide only [bK, bE, BEq.rfl, Nat.reduceAdd, q4, hlen, hsub]
 refine hK1 _ _ (zd fun σ2 hσ => ?_)
 have p4 := hσ 4
 have p10 := hσ 10
 have p13 := hσ 13
 simp +decide only [bE, Nat.reduceBeqDiff, BEq.rfl, Nat.reduceAdd, q4, q10] at p4 p10 p13
 have hag2 : ∀ j, j ≠ 4 → j ≠ 13 → σ2 j = σ j := fun j h h' => by
  rw [hσ j, ← hag1 j h]
  have e1 : (j + 100 == 113) = false := beq_eq_false_iff_ne.2 (by omega)
  simp +decide only [bE, Nat.reduceBeqDiff, e1]
 clear hσ hK1 K1
 refine W_shift S hlo (w0 := w0) p4 p10 p13 hi (by omega) m02 hps rfl ho2' fun σ3 w3 g' hag3 hg' ho3 m3 mw3 => hK _ _ ?_
 clear hK K
 have h93 : w3.rangeAt b9 0 [.int .u32 x.1, s] := mw3.rangeAt (by have := m2.size; omega) (fun _ _ _ h => h h9n2) h92
 have hall : ∀ p ∈ ps.take i ++ g' :: ps.drop i, p.length = 2 := by
  intro p hp
  rcases List.mem_append.1 hp with hp | hp
  ·exact (hp2 p (List.mem_of_mem_take hp)).1
  ·rcases List.mem_cons.1 hp with rfl | hp
   ·exact hg'
   ·exact (hp2 p (List.mem_of_mem_drop hp)).1
 obtain ⟨b, c, w4, hv, hi1, _, hst, ho4, m4, _⟩ := zxg hT ho3 hall (i := i) (by simp; omega) (Y := [.int .u32 x.1, s]) rfl (by
  intro c hc; simp at hc; rcases hc with rfl | rfl
  ·rfl
  ·exact hs.one)
 have hix := fun {w : World} => zbf (P := P) (w := w) S.tr.lg hT (bl := b) (o := 0) (n := a.length + 1) (c := c) (i := i) (k := .i64) hi1
 have hld := hT.run_load (w := w3) (b := b9) (o := 0) h93 rfl (fun h => by cases h)
 have hlv : ldv (.struct fs) [.int .u32 x.1, s] = .agg [.int .u32 x.1, s].toArray := rfl
 rw [hlv] at hld
 rw [Nat.zero_add] at hst
 have k4 : σ3 4 = v2 := (hag3 4 (by decide) (by decide)).trans p4
 have k10 : σ3 10 = .int .i64 i := (hag3 10 (by decide) (by decide)).trans p10
 have k9 : σ3 9 = .pointer (some ⟨b9, 0, none⟩) := ((hag3 9 (by decide) (by decide)).trans (hag2 9 (by decide) (by decide))).trans f9
 refine zn fun τ => ?_
 simp +decide only [bK, bE, Nat.reduceBeqDiff, BEq.rfl, Nat.reduceAdd, k4, k9, k10, hld]
 rw [hv]
 simp +decide only [bK, Nat.zero_add, hix, hst]
 refine zd (K := fun σ' w' => Q .normal σ' w') fun σ4 hσ => hQ σ4 w4 _ (fun j h1 h2 h3 => ?_) ?_ (TgsA.append (hps.take i) (show TgsA wS (x :: a.drop i) ([.int .u32 x.1, s] :: ps.drop i) from ⟨_, _, rfl, ⟨s, rfl, hs⟩, hps.drop i⟩)) (Mod.ofOwn ho3 m3 m4)
 ·rw [hσ j, ← hag2 j h1 h2, ← hag3 j h2 h3]
  simp +decide only [bE, Nat.reduceBeqDiff]
 ·have z := hσ 4
  simp +decide only [bE, Nat.reduceBeqDiff, Nat.reduceAdd, k4] at z
  rw [z]; exact ho4
end
section
variable {P : Program} {N : Nums} {M : zaz}
theorem zje.cut {w : World} {v : Value} {u : List (Nat × List UInt8)} (h : zje w v u) : ∃ ad c, v = .slice ad u.length c ∧ u.length ≤ c ∧ ∀ n, n ≤ u.length → zje w (.slice ad n c) (u.take n) := by
 rcases h with ⟨ad, c, rfl, rfl⟩ | ⟨b, o, c, cs, rfl, h1, h2, h3⟩
 ·exact ⟨ad, c, rfl, Nat.zero_le _, fun n hn => .inl ⟨ad, c, by rw [show n = 0 by simpa using hn], by simp⟩⟩
 ·have key : ∀ (l : List (Nat × List UInt8)) (cs : List Value) (n o : Nat), UsA w l cs → w.rangeAt b o cs → UsA w (l.take n) (cs.take (n * 2)) ∧ w.rangeAt b o (cs.take (n * 2)) := by
   intro l
   induction l with
   | nil => intro cs n o hr hg; simp only [UsA] at hr; subst hr; simp [UsA]; intro j v hj; simp at hj
   | cons t l ih =>
    obtain ⟨k, y⟩ := t
    rintro _ n o ⟨v, r, rfl, h1, h2⟩ hg
    cases n with
    | zero => simp [UsA]; intro j v hj; simp at hj
    | succ n =>
     have hg' := (zx (cs := [.int .u32 k, v]) (ds := r)).1 hg
     obtain ⟨g1, g2⟩ := ih r n _ h2 hg'.2
     rw [show (n + 1) * 2 = n * 2 + 1 + 1 by omega, List.take_succ_cons, List.take_succ_cons, List.take_succ_cons]
     exact ⟨⟨v, r.take (n * 2), rfl, h1, g1⟩, (zx (cs := [.int .u32 k, v]) (ds := r.take (n * 2))).2 ⟨hg'.1, g2⟩⟩
  exact ⟨_, c, rfl, h1, fun n hn => .inr ⟨b, o, c, cs.take (n * 2), by rw [List.length_take, Nat.min_eq_left hn], by rw [List.length_take]; omega, (key u cs n o h2 h3).1, (key u cs n o h2 h3).2⟩⟩
theorem zqg (B : Base P N) (S : SpT P N M) (hW : SW P N M) {wS w : World} {fv uv : Value} {fs : List Fld} {u : List (Nat × List UInt8)} (mS : Mod wS w zw) (hf : zgd w fv fs) (hl : fs.length < 4611686018427387904) (ht : ∀ f ∈ fs, f.tag < 0) (hu : zje wS uv u) :
  Call P M.zfy #[fv, uv] w fun r w' => (∃ cs, Own w' w.heap.size 2 r (unkT u).length cs ∧ UsA wS (unkT u) cs) ∧ Mod w w' zw := by
 obtain ⟨fsT, hT⟩ := S.tr.tu
 refine hW.unknown.call rfl fun loc N' hlo => ?_
 unfold zmm
 obtain ⟨ad, c, hv, hc, hcut⟩ := hu.cut
 refine zf fun K hK => zcy (hK _ _ ?_)
 clear hK K
 obtain ⟨σ, hσ⟩ : ∃ σ, σ = upd (zef #[fv, uv]) 2 (.slice none 0 0) := ⟨_, rfl⟩
 have f0 : σ 0 = fv := by rw [hσ, zq (by decide)]; rfl
 have f1 : σ 1 = uv := by rw [hσ, zq (by decide)]; rfl
 rw [← hσ]
 clear hσ
 refine zf fun K hK => zn fun τ => ?_
 simp +decide only [bK, bE, Nat.reduceAdd, Nat.zero_add, f0]
 rw [zbb hW.known.has]
 simp +decide only [bK, bE, BEq.rfl]
 refine (sp_known B S hW.known hf hl ht).mono ?_
 rintro _ w1 ⟨rfl, m1⟩
 refine hK _ _ (zd fun σ1 hσ => ?_)
 have a1 := hσ 1
 have a3 := hσ 3
 simp +decide only [bE, Nat.reduceBeqDiff, BEq.rfl, Nat.reduceAdd, f1] at a1 a3
 clear hσ hK K f0 f1
 refine zf fun K hK => zcy (hK _ _ ?_)
 clear hK K
 have b1 : (upd σ1 4 (.slice none 0 0)) 1 = uv := by rw [zq (by decide)]; exact a1
 have b3 : (upd σ1 4 (.slice none 0 0)) 3 = .int .u32 0 := by rw [zq (by decide)]; exact a3
 have b4 : (upd σ1 4 (.slice none 0 0)) 4 = .slice none 0 0 := upd_same _ _ _
 obtain ⟨σ2, hσ2⟩ : ∃ σ2, σ2 = upd σ1 4 (.slice none 0 0) := ⟨_, rfl⟩
 rw [← hσ2] at b1 b3 b4 ⊢
 clear hσ2 a1 a3
 have hn : (if (32767 : Int) < (u.length : Int) then (32767 : Int) else (u.length : Int)) = ((min 32767 u.length : Nat) : Int) := by split <;> omega
 have hsl := fun {w : World} => zle (P := P) (w := w) S.tr.lg hT (ad := ad) (n := u.length) (c := c) (h := min 32767 u.length) (k := .i64) (by omega)
 have hU := hcut (min 32767 u.length) (by omega)
 obtain ⟨U, hUd⟩ : ∃ U, U = u.take (min 32767 u.length) := ⟨_, rfl⟩
 have hUl : U.length = min 32767 u.length := by rw [hUd, List.length_take]; omega
 have hUt : U = u.take most := by rw [hUd]; unfold most; rw [List.take_eq_take_iff]; omega
 rw [← hUd] at hU
 obtain ⟨vU, hvU⟩ : ∃ vU, vU = Value.slice ad (min 32767 u.length) c := ⟨_, rfl⟩
 rw [← hvU] at hU
 refine zf fun K hK => zf fun K1 hK1 => zn fun τ => ?_
 simp +decide only [bK, bE, Nat.reduceBeqDiff, BEq.rfl, Nat.reduceAdd, Option.map_some, Option.map_none, b1, hu.run_len S, ztf, zxa, hn]
 rw [hv]
 simp +decide only [bK, hsl]
 rw [← hvU]
 simp +decide only [bK, hU.run_len S]
 refine hK1 _ _ (zd fun σ3 hσ => ?_)
 have p3 := hσ 3
 have p4 := hσ 4
 have p5 := hσ 5
 have p6 := hσ 6
 have p7 := hσ 7
 simp +decide only [bE, Nat.reduceBeqDiff, BEq.rfl, Nat.reduceAdd, b3, b4] at p3 p4 p5 p6 p7
 clear hσ hK1 K1 b1 b3 b4
 obtain ⟨A, hA⟩ : ∃ A : Nat → List (Nat × List UInt8), A = fun j => (U.take j).foldl (fun a x => insT x.1 x.2 a) [] := ⟨_, rfl⟩
 have hAl : ∀ j, (A j).length ≤ 32767 := fun j => by
  rw [hA]
  have := zpz (U.take j) []
  simp only [List.length_nil, List.length_take] at this
  show ((U.take j).foldl _ []).length ≤ _
  omega
 have hA0 : A 0 = [] := by rw [hA]; rfl
 have hAn : A U.length = unkT u := by rw [hA]; show (U.take U.length).foldl _ [] = _; rw [List.take_length, hUt]; rfl
 have hAs : ∀ (j : Nat) (hj : j < U.length), A (j + 1) = insT U[j].1 U[j].2 (A j) := fun j hj => by rw [hA]; exact unkT_snoc U hj
 clear hA
 refine zjd (i := 7) (l := 6) (c := 8) (k := 0) hlo (L := U.length) (by omega) (fun j σ w' => σ 3 = .int .u32 0 ∧ σ 5 = vU ∧ σ 6 = .int .i64 U.length ∧ σ 7 = .int .i64 j ∧ j ≤ U.length ∧ Mod w w' zw ∧ ∃ ps, Own w' w.heap.size 2 (σ 4) (A j).length ps.flatten ∧ TgsA wS (A j) ps) (fun j σ w h => ⟨h.2.2.2.1, h.2.2.1, h.2.2.2.2.1⟩) (fun j σ w b h => ?_) ⟨p3, p5, p6, p7, Nat.zero_le _, m1, [], by rw [hA0, p4]; exact .inl ⟨rfl, rfl, rfl⟩, by rw [hA0]; rfl⟩ (fun σ' w' h => hK _ _ ?_) (fun j σ' w' hj h => ?_)
 ·obtain ⟨x3, x5, x6, x7, xl, xm, ps, xo, xt⟩ := h
  exact ⟨by rw [zq (by decide)]; exact x3, by rw [zq (by decide)]; exact x5, by rw [zq (by decide)]; exact x6, by rw [zq (by decide)]; exact x7, xl, xm, ps, by rw [zq (by decide)]; exact xo, xt⟩
 ·obtain ⟨x3, x5, x6, x7, xl, xm, ps, xo, xt⟩ := h
  rw [hAn] at xo xt
  refine zf fun K3 hK3 => zn fun τ => ?_
  simp +decide only [bK, bE, BEq.rfl, Nat.reduceAdd]
  refine hK3 _ _ (zd fun σ7 hσ => zbl ⟨.inr rfl, _, rfl, ?_⟩)
  have q := hσ 2
  simp +decide only [bE, BEq.rfl, Nat.reduceAdd] at q
  rw [q]
  exact ⟨⟨_, xo, xt.us⟩, xm⟩
 ·obtain ⟨x3, x5, x6, x7, xl, xm, ps, xo, xt⟩ := h
  obtain ⟨bb, oo, cc, s, hvb, hs, hr⟩ := hU.get (List.getElem?_eq_getElem hj)
  have hr' := zh (mS.trans' xm) hr
  have hix := fun {w : World} => zbf (P := P) (w := w) S.tr.lg hT (bl := bb) (o := oo) (n := U.length) (c := cc) (i := j) (k := .i64) hj
  have hld := hT.run_load (w := w') (b := bb) (o := oo + j * 2) hr' rfl (fun h => by cases h)
  have hlv : ldv (.struct fsT) [.int .u32 (U[j]).1, s] = .agg [.int .u32 (U[j]).1, s].toArray := rfl
  rw [hlv] at hld
  obtain ⟨w2, w3, hal, hst, _, m3, s3, r3, _⟩ := zgs (cs := [.int .u32 (U[j]).1, s]) hT (by decide) rfl rfl (by
   intro c hc; simp at hc; rcases hc with rfl | rfl
   ·rfl
   ·exact hs.one) w'
  obtain ⟨v4, hv4⟩ : ∃ v4, v4 = σ' 4 := ⟨_, rfl⟩
  rw [← hv4] at xo
  have xo3 := xo.stay m3 fun _ _ _ h => h
  have h9n : zaj v4 w'.heap.size := Classical.byContradiction fun h => by have := (xo.blk h).2; omega
  have xm3 := xm.trans' m3
  refine zf fun K4 hK4 => zn fun τ => ?_
  simp +decide only [bK, bE, Nat.reduceBeqDiff, BEq.rfl, Nat.reduceAdd, Nat.zero_add, x5, x7]
  rw [hvb]
  simp +decide only [bK, hix, hld, hal, hst]
  refine hK4 _ _ (zd fun σ4 hσ => ?_)
  have q3 := hσ 3
  have q4 := hσ 4
  have q5 := hσ 5
  have q6 := hσ 6
  have q7 := hσ 7
  have q9 := hσ 9
  simp +decide only [bE, Nat.reduceBeqDiff, BEq.rfl, Nat.reduceAdd, x3, ← hv4, x5, x6, x7] at q3 q4 q5 q6 q7 q9
  clear hσ hK4 K4
  refine zf fun K4 hK4 => zcy (hK4 _ _ ?_)
  clear hK4 K4
  obtain ⟨σ5, hσ5⟩ : ∃ σ5, σ5 = upd σ4 10 (.int .i64 0) := ⟨_, rfl⟩
  have r3' : σ5 3 = .int .u32 0 := by rw [hσ5, zq (by decide)]; exact q3
  have r4 : σ5 4 = v4 := by rw [hσ5, zq (by decide)]; exact q4
  have r5 : σ5 5 = vU := by rw [hσ5, zq (by decide)]; exact q5
  have r6 : σ5 6 = .int .i64 U.length := by rw [hσ5, zq (by decide)]; exact q6
  have r7 : σ5 7 = .int .i64 j := by rw [hσ5, zq (by decide)]; exact q7
  have r9 : σ5 9 = .pointer (some ⟨w'.heap.size, 0, none⟩) := by rw [hσ5, zq (by decide)]; exact q9
  have r10 : σ5 10 = .int .i64 0 := by rw [hσ5, upd_same]
  rw [← hσ5]
  clear hσ5 q3 q4 q5 q6 q7 q9
  have hot : OwnT w3 w.heap.size v4 (A j) := ⟨_, xo3, (xt.stay (mS.trans' xm3)).us⟩
  have hal := hAl j
  refine zf fun K4 hK4 => W_find B S hlo r4 r9 r10 hot (r3 0 _ rfl) (by omega) fun σ6 w4 i hag6 h10 hi hlt hge m4 => hK4 _ _ ?_
  clear hK4 K4
  have xo4 := xo3.stay m4 fun _ _ _ h => h
  have xm4 := xm3.trans' m4
  have g : ∀ n, n ≠ 10 → n ≠ 11 → σ6 n = σ5 n := hag6
  refine zf fun K4 hK4 => zf fun K5 hK5 => W_U2 B S ((g 3 (by decide) (by decide)).trans r3') ((g 4 (by decide) (by decide)).trans r4) ((g 9 (by decide) (by decide)).trans r9) h10 (hot.stay m4) (zh m4 r3 0 _ rfl) fun σ7 k12 hag7 => hK5 _ _ (W_if hlo k12 ?_)
  have md : Mod w4 w4.drew zw := Mod.drew _ _
  have xo5 := xo4.stay md fun _ _ _ h => h
  have xm5 := xm4.trans' md
  have g7 : ∀ n, n ≠ 10 → n ≠ 11 → n ≠ 12 → σ7 n = σ5 n := fun n h1 h2 h3 => (hag7 n h3).trans (hag6 n h1 h2)
  have same : ∀ y, (A j)[i]? = some y → y.1 = (U[j]).1 → A (j + 1) = A j := fun y hy e => by rw [hAs j hj]; exact zvk hlt hy e
  have put : (∀ y, (A j)[i]? = some y → y.1 ≠ (U[j]).1) → ∀ {Q : Exit → Env → World → Prop}, (∀ (σ' : Env) (w' : World), σ' 7 = .int .i64 j → (σ' 3 = .int .u32 0 ∧ σ' 5 = vU ∧ σ' 6 = .int .i64 U.length ∧ Mod w w' zw ∧ ∃ ps, Own w' w.heap.size 2 (σ' 4) (A (j + 1)).length ps.flatten ∧ TgsA wS (A (j + 1)) ps) → Q .normal σ' w') → W P loc N' (cPutT N) Q σ7 w4.drew := by
   intro hne Q hQ
   have hnew : A (j + 1) = (A j).take i ++ U[j] :: (A j).drop i := by
    rw [hAs j hj]
    refine insT_new hi hlt fun y hy => ?_
    have h1 := hge y hy
    have h2 := hne y hy
    omega
   refine W_putT S hlo (w0 := w) (b9 := w'.heap.size) (x := U[j]) (s := s) ((g7 4 (by decide) (by decide) (by decide)).trans r4) ((g7 9 (by decide) (by decide) (by decide)).trans r9) ((hag7 10 (by decide)).trans h10) hi (by omega) xo5 xt xm5 (by have := m4.size; show w'.heap.size < w4.heap.size; omega) (zh md (zh m4 r3)) hs h9n fun σ8 w8 ps' hag8 ho8 ht8 m8 => ?_
   have g8 : ∀ n, n ≠ 4 → n ≠ 13 → n ≠ 14 → n ≠ 10 → n ≠ 11 → n ≠ 12 → σ8 n = σ5 n := fun n a b c d e f => (hag8 n a b c).trans (g7 n d e f)
   refine hQ σ8 w8 ((g8 7 (by decide) (by decide) (by decide) (by decide) (by decide) (by decide)).trans r7) ⟨(g8 3 (by decide) (by decide) (by decide) (by decide) (by decide) (by decide)).trans r3', (g8 5 (by decide) (by decide) (by decide) (by decide) (by decide) (by decide)).trans r5, (g8 6 (by decide) (by decide) (by decide) (by decide) (by decide) (by decide)).trans r6, m8, ps', ?_, by rw [hnew]; exact ht8⟩
   rw [hnew]
   have : ((A j).take i ++ U[j] :: (A j).drop i).length = (A j).length + 1 := by simp; omega
   rw [this]; exact ho8
  have stay7 : σ7 7 = .int .i64 j := (g7 7 (by decide) (by decide) (by decide)).trans r7
  cases hx : (A j)[i]? with
  | none =>
   simp only [Bool.false_eq_true, if_false]
   refine zbv (hK4 _ _ (put (fun y hy => by rw [hx] at hy; cases hy) fun σ8 w8 h7 ⟨z3, z5, z6, zm, ps', zo, zt⟩ => ⟨h7, ?_, ?_, ?_, upd_same _ _ _, by omega, zm, ps', ?_, zt⟩))
   all_goals (rw [zq (by decide)]; assumption)
  | some y =>
   by_cases e : y.1 = (U[j]).1
   ·simp only [e, decide_true, if_true]
    refine zpk ?_
    simp only [zgw]
    have hsm := same y hx e
    refine ⟨trivial, stay7, ?_, ?_, ?_, upd_same _ _ _, by omega, xm5, ps, ?_, by rw [hsm]; exact xt⟩
    ·rw [zq (by decide)]; exact (g7 3 (by decide) (by decide) (by decide)).trans r3'
    ·rw [zq (by decide)]; exact (g7 5 (by decide) (by decide) (by decide)).trans r5
    ·rw [zq (by decide)]; exact (g7 6 (by decide) (by decide) (by decide)).trans r6
    ·rw [zq (by decide), hsm, (g7 4 (by decide) (by decide) (by decide)).trans r4]; exact xo5
   ·simp only [e, decide_false, Bool.false_eq_true, if_false]
    refine zbv (hK4 _ _ (put (fun y' hy => by rw [hx] at hy; injection hy with hy; subst hy; exact e) fun σ8 w8 h7 ⟨z3, z5, z6, zm, ps', zo, zt⟩ => ⟨h7, ?_, ?_, ?_, upd_same _ _ _, by omega, zm, ps', ?_, zt⟩))
    all_goals (rw [zq (by decide)]; assumption)
theorem sp_unknown (B : Base P N) (S : SpT P N M) (hW : SW P N M) {w : World} {fv uv : Value} {fs : List Fld} {u : List (Nat × List UInt8)} (hf : zgd w fv fs) (hl : fs.length < 4611686018427387904) (ht : ∀ f ∈ fs, f.tag < 0) (hu : zje w uv u) :
  Call P M.zfy #[fv, uv] w fun r w' => OwnT w' w.heap.size r (unkT u) ∧ Mod w w' zw :=
 (zqg B S hW (.refl w zw) hf hl ht hu).mono fun _ _ ⟨⟨cs, h1, h2⟩, h3⟩ => ⟨⟨cs, h1, h2.stay h3⟩, h3⟩
end
theorem zpb (flex : Bool) (v : Int) (f : Fld) (t : Tr) : ∀ (l : List Fld) (i : Nat), zcs flex v (l ++ [f]) i t = zcs flex v l i t ++ (if f.has v then zfe flex v f (atT t (i + l.length)) else [])
 | [], i => by simp [zcs]
 | g :: l, i => by
  rw [List.cons_append, zcs, zcs, zpb flex v f t l (i + 1), List.append_assoc, List.length_cons, show i + 1 + l.length = i + (l.length + 1) by omega]
theorem zlk (flex : Bool) (v : Int) (t : Tr) {fs : List Fld} {j : Nat} (hj : j < fs.length) : zcs flex v (fs.take (j + 1)) 0 t = zcs flex v (fs.take j) 0 t ++ (if fs[j].has v then zfe flex v fs[j] (atT t j) else []) := by
 rw [← List.take_append_getElem hj, zpb]
 simp [Nat.min_eq_left (Nat.le_of_lt hj)]
theorem zlj (flex : Bool) (v : Int) (t : Tr) (fs : List Fld) : ∀ (n j : Nat), j + n = fs.length → (zcs flex v (fs.take j) 0 t).length ≤ (zcs flex v fs 0 t).length
 | 0, j, h => by rw [List.take_of_length_le (by omega)]; exact Nat.le_refl _
 | n + 1, j, h => by
  have h1 := zlj flex v t fs n (j + 1) (by omega)
  rw [zlk flex v t (show j < fs.length by omega), List.length_append] at h1
  omega
def OkF (P : Program) (M : zaz) (flex : Bool) (v : Int) (f : Fld) : Prop := f.tag < 0 ∧ f.kind ≠ 10 ∧ (f.kind = 11 → f.of = 10 → zsy P M flex v f.sub)
section
variable {P : Program} {N : Nums} {M : zaz}
structure PSt (w1 : World) (σ : Env) (w : World) (fv : Value) (v : Int) (flex : Bool) (b n j : Nat) (acc : List UInt8) : Prop where
 h0 : σ 0 = fv
 h1 : σ 1 = .int .i64 v
 h2 : σ 2 = .bool flex
 h4 : σ 4 = .pointer (some ⟨b, 0, none⟩)
 h6 : OwnB w w1.heap.size (σ 6) acc
 h7 : σ 7 = .slice none 0 0
 h8 : σ 8 = .int .i64 0
 h9 : σ 9 = fv
 h10 : σ 10 = .int .i64 n
 h11 : σ 11 = .int .i64 j
 le : j ≤ n
 mod : Mod w1 w zw
theorem PSt.upd {w1 w : World} {σ : Env} {fv : Value} {v : Int} {flex : Bool} {b n j : Nat} {acc : List UInt8} (h : PSt w1 σ w fv v flex b n j acc) {i : Nat} (hi : 12 ≤ i) (x : Value) : PSt w1 (upd σ i x) w fv v flex b n j acc := by
 obtain ⟨h0, h1, h2, h4, h6, h7, h8, h9, h10, h11, le, mod⟩ := h
 refine ⟨?_, ?_, ?_, ?_, ?_, ?_, ?_, ?_, ?_, ?_, le, mod⟩ <;> (rw [zq (by omega)]; assumption)
theorem PSt.next {w1 w : World} {σ : Env} {fv : Value} {v : Int} {flex : Bool} {b n j : Nat} {acc : List UInt8} (h : PSt w1 σ w fv v flex b n j acc) (hj : j < n) : PSt w1 (Go.Kf.upd σ 11 (.int .i64 ((j + 1 : Nat) : Int))) w fv v flex b n (j + 1) acc := by
 obtain ⟨h0, h1, h2, h4, h6, h7, h8, h9, h10, h11, le, mod⟩ := h
 refine ⟨?_, ?_, ?_, ?_, ?_, ?_, ?_, ?_, ?_, upd_same _ _ _, hj, mod⟩ <;> (rw [zq (by omega)]; assumption)
def dPart (N : Nums) (M : zaz) : C := .draw [
 ⟨some 0, .move (V 6), 0, none, []⟩,
 ⟨some 1, .load M.zg (V 13), 0, none, []⟩,
 ⟨some 2, .move (V 1), 0, none, []⟩,
 ⟨some 3, .move (V 2), 0, none, []⟩,
 ⟨some 4, .load N.zb (V 4), 0, none, []⟩,
 ⟨some 5, .move (V 14), 0, none, []⟩,
 ⟨some 6, .call ⟨.value (.func M.zes), #[T 4, T 5], #[N.zb, N.ze]⟩, N.zb, none, [4, 5]⟩,
 ⟨some 7, .call ⟨.value (.func M.zhq), #[T 1, T 2, T 3, T 6], #[M.zg, N.ze, N.zaq, N.zb]⟩, N.za, none, [1, 2, 3, 6, 6]⟩,
 ⟨some 8, .call ⟨.builtin .append, #[T 0, T 7], #[N.za, N.za]⟩, N.za, none, [0, 7, 7]⟩,
 ⟨some 106, .assign (T 8), 0, none, [8, 8, 0, 1, 2, 3, 4, 5, 6, 7, 8]⟩]
theorem W_dPart (B : Base P N) (S : SpT P N M) (hW : SW P N M) {loc : List Nat} {N' : Nat} {σ : Env} {w1 w : World} {fv : Value} {v : Int} {flex : Bool} {b b13 n j : Nat} {acc : List UInt8} {f : Fld} {t : Tr} {ct cf : List Value}
  (h : PSt w1 σ w fv v flex b n j acc) (hb : w1.rangeAt b 0 ct) (ht : RepA w1 t ct) (hwt : wfT t) (h13 : σ 13 = .pointer (some ⟨b13, 0, none⟩)) (h14 : σ 14 = .int .i64 j) (hb13 : w.rangeAt b13 0 cf) (hbl : b13 < w.heap.size) (hn13 : zaj (σ 6) b13) (hf : RepF w f cf) (ok : OkF P M flex v f) (hbig : acc.length + (zfe flex v f (atT t j)).length < 549755813888) {Q : Exit → Env → World → Prop}
  (hQ : ∀ (σ' : Env) (w' : World), PSt w1 σ' w' fv v flex b n j (acc ++ zfe flex v f (atT t j)) → Q .normal σ' w') :
  W P loc N' (dPart N M) Q σ w := by
 obtain ⟨h0, h1, h2, h4, h6, h7, h8, h9, h10, h11, hle, m1w⟩ := h
 unfold dPart
 have cw : ∀ {w' : World}, Mod w w' (fun i _ => ¬ zaj (σ 6) i) → Mod w1 w' zw := fun h => Mod.ofOwn h6 m1w h
 refine W_drawZ B.mixed [true, true, true, true, true, true, false, false, false, false] (by kernel_rfl) (fun w' => Mod w w' (fun i _ => ¬ zaj (σ 6) i)) (Mod.drew _ _) fun τ => ?_
 refine zp (σ 6) (fun w' _ => by
  rw [zby, ev_tmp]
  simp +decide only [bE, Nat.reduceAdd]) rfl ?_
 refine zp (.agg cf.toArray) (fun w' hw => zap (by
  simp +decide only [bE, Nat.reduceBeqDiff, Nat.reduceAdd, ev_tmp, h13]
  exact zmd S (hw.rangeAt hbl (fun _ _ _ h => h hn13) hb13) hf.len)) rfl ?_
 refine zp (.int .i64 v) (fun w' _ => by
  rw [zby, ev_tmp]
  simp +decide only [bE, Nat.reduceBeqDiff, Nat.reduceAdd, h1]) rfl ?_
 refine zp (.bool flex) (fun w' _ => by
  rw [zby, ev_tmp]
  simp +decide only [bE, Nat.reduceBeqDiff, Nat.reduceAdd, h2]) rfl ?_
 refine zp (.agg ct.toArray) (fun w' hw => zap (by
  simp +decide only [bE, Nat.reduceBeqDiff, Nat.reduceAdd, ev_tmp, h4]
  exact zbo S.tr (zh (cw hw) hb) ht.len)) rfl ?_
 refine zp (.int .i64 j) (fun w' _ => by
  rw [zby, ev_tmp]
  simp +decide only [bE, Nat.reduceBeqDiff, Nat.reduceAdd, h14]) rfl ?_
 simp only [zeb, zer, List.zip_cons_cons, List.zip_nil_right, List.zipWith_cons_cons, List.zipWith_nil_right, List.filter, Bool.not_true, Bool.not_false, List.map, zgq]
 have md : Mod w w.drew zw := Mod.drew _ _
 have m1d := m1w.trans' md
 rw [zah hW.at_.has]
 simp +decide only [bK, bE, Nat.reduceBeqDiff, BEq.rfl]
 refine (call_at B S hW.at_ (RepA.stay m1d _ ht) j).mono ?_
 rintro _ w2 ⟨ct', rfl, ht', m2⟩
 have mw2 : Mod w w2 zw := md.trans' m2
 refine ⟨mw2.mono fun _ _ _ h => h.elim, ?_⟩
 rw [zik hW.field.has]
 simp +decide only [bK, bE, Nat.reduceBeqDiff, BEq.rfl]
 refine (sp_field B S hW ok.2.2 ok.2.1 (RepF.stay mw2 _ hf) ht' (hwt.at j) (by omega)).mono ?_
 rintro r w3 ⟨ho3, m3⟩
 have mw3 : Mod w w3 zw := mw2.trans' m3
 refine ⟨mw3.mono fun _ _ _ h => h.elim, ?_⟩
 obtain ⟨v4, w4, hap, ho4, m4, _⟩ := zee (ty := N.za) B (h6.stay mw3 fun _ _ _ h => h) (ho3.octA) (Nat.le_trans m1w.size mw3.size) (by omega)
 have m04 : Mod w1 w4 zw := Mod.ofOwn (h6.stay mw3 fun _ _ _ h => h) (m1w.trans' mw3) m4
 simp +decide only [bK, hap]
 refine ⟨(mw3.mono fun _ _ _ h => h.elim).trans m4 fun k o hk h => h.elim id id, ?_⟩
 refine zd fun σ2 hσ => hQ σ2 w4 ?_
 have b0 := hσ 0
 have b1 := hσ 1
 have b2 := hσ 2
 have b4 := hσ 4
 have b6 := hσ 6
 have b7 := hσ 7
 have b8 := hσ 8
 have b9 := hσ 9
 have b10 := hσ 10
 have b11 := hσ 11
 simp +decide only [bE, Nat.reduceBeqDiff, BEq.rfl, Nat.reduceAdd, Nat.zero_add, h0, h1, h2, h4, h7, h8, h9, h10, h11] at b0 b1 b2 b4 b6 b7 b8 b9 b10 b11
 exact ⟨b0, b1, b2, b4, by rw [b6]; exact ho4, b7, b8, b9, b10, b11, hle, m04⟩
end
section
variable {P : Program} {N : Nums} {M : zaz}
def bPart (N : Nums) (M : zaz) : C :=
 .seq (.ops [
  ⟨some 0, .move (V 11), 0, none, []⟩,
  ⟨some 1, .indexAddr M.zab (V 9) (V 11), 0, none, []⟩,
  ⟨some 2, .load M.zg (T 1), 0, none, []⟩,
  ⟨some 113, .alloc M.zg, 0, none, []⟩,
  ⟨some 114, .assign (T 0), 0, none, []⟩,
  ⟨none, .store M.zg (V 13) (T 2), 0, none, []⟩])
 (.seq (.ops [
  ⟨some 0, .fieldAddr M.zg (V 13) 4, 0, none, []⟩,
  ⟨some 1, .load N.ze (T 0), 0, none, []⟩,
  ⟨some 2, .binOp .lss N.ze (T 1) (.const (.int .i64 0)) N.ze, 0, none, []⟩,
  ⟨some 3, .move (T 2), 0, none, []⟩,
  ⟨some 4, .load M.zg (V 13), 0, some (some 3, true), []⟩,
  ⟨some 5, .move (V 1), 0, some (some 3, true), []⟩,
  ⟨some 6, .call ⟨.value (.func M.zfa), #[T 4, T 5], #[M.zg, N.ze]⟩, N.zaq, some (some 3, true), []⟩,
  ⟨some 115, .pick (T 3) (T 6) (.const (.bool false)), 0, none, []⟩])
 (.cond 15 (dPart N M) .skip))
theorem W_fields (B : Base P N) (S : SpT P N M) (hW : SW P N M) {loc : List Nat} {N' : Nat} (hlo : zhy loc N') {σ : Env} {w1 w : World} {fv : Value} {v : Int} {flex : Bool} {b : Nat} {fs : List Fld} {t : Tr} {ct : List Value}
  (h : PSt w1 σ w fv v flex b fs.length 0 []) (hb : w1.rangeAt b 0 ct) (ht : RepA w1 t ct) (hwt : wfT t) (hf : zgd w1 fv fs) (hl : fs.length < 4611686018427387904) (ok : ∀ f ∈ fs, OkF P M flex v f) (hbig : (zcs flex v fs 0 t).length < 549755813888) {Q : Exit → Env → World → Prop}
  (hQ : ∀ (σ' : Env) (w' : World), PSt w1 σ' w' fv v flex b fs.length fs.length (zcs flex v fs 0 t) → Q .normal σ' w') :
  W P loc N' (zny N 11 10 12 0 (bPart N M)) Q σ w := by
 refine zjd (i := 11) (l := 10) (c := 12) (k := 0) hlo (L := fs.length) hl (fun j σ w' => PSt w1 σ w' fv v flex b fs.length j (zcs flex v (fs.take j) 0 t)) (fun j σ w h => ⟨h.h11, h.h10, h.le⟩) (fun j σ w b h => h.upd (by decide) _) (by simpa [zcs] using h) (fun σ' w' h => hQ σ' w' (by simpa using h)) (fun j σ' w' hj h => ?_)
 obtain ⟨bb, oo, cc, cs, w2, w3, hv, hr, hix, hld, hal, hst, m03, s3, r3⟩ := zxn S (hf.stay h.mod) hj
 have okj := ok _ (List.getElem_mem hj)
 have hbj : (zcs flex v (fs.take (j + 1)) 0 t).length < 549755813888 := Nat.lt_of_le_of_lt (zlj flex v t fs (fs.length - (j + 1)) (j + 1) (by omega)) hbig
 rw [zlk flex v t hj] at hbj
 have n13 : zaj (σ' 6) w'.heap.size := Classical.byContradiction fun hh => by have := (h.h6.blk hh).2; omega
 unfold bPart
 refine zf fun K hK => zn fun τ => ?_
 simp +decide only [bK, bE, Nat.reduceBeqDiff, BEq.rfl, Nat.reduceAdd, Nat.zero_add, h.h9, h.h11, hix, hld, hal, hst]
 refine hK _ _ (zd fun σ3 hσ => ?_)
 have p0 := hσ 0
 have p1 := hσ 1
 have p2 := hσ 2
 have p4 := hσ 4
 have p6 := hσ 6
 have p7 := hσ 7
 have p8 := hσ 8
 have p9 := hσ 9
 have p10 := hσ 10
 have p11 := hσ 11
 have p13 := hσ 13
 have p14 := hσ 14
 simp +decide only [bE, Nat.reduceBeqDiff, BEq.rfl, Nat.reduceAdd, Nat.zero_add, h.h0, h.h1, h.h2, h.h4, h.h7, h.h8, h.h9, h.h10, h.h11] at p0 p1 p2 p4 p6 p7 p8 p9 p10 p11 p13 p14
 have q : PSt w1 σ3 w3 fv v flex b fs.length j (zcs flex v (fs.take j) 0 t) := ⟨p0, p1, p2, p4, by rw [p6]; exact h.h6.stay m03 fun _ _ _ h => h, p7, p8, p9, p10, p11, h.le, h.mod.trans' m03⟩
 have n13' : zaj (σ3 6) w'.heap.size := by rw [p6]; exact n13
 clear hσ hK K n13
 have hr3 := RepF.stay m03 _ hr
 obtain ⟨gv, hcs, hgv⟩ := hr3.out
 have h4c : w3.cell? ⟨w'.heap.size, 4, none⟩ = some (.int .i64 (fs[j]).tag) := r3 4 _ (by rw [hcs]; rfl)
 have hneg : (fs[j]).tag < 0 := okj.1
 refine zf fun K hK => zn fun τ => ?_
 simp +decide only [bK, bE, Nat.reduceBeqDiff, decide_true, BEq.rfl, Nat.reduceAdd, Nat.zero_add, p13, p1, S.f4.run, B.int.run_load1 rfl, h4c, hneg, zbw, zmd S r3 hr.len]
 rw [zah hW.Field_has.has]
 simp +decide only [bK, bE, Nat.reduceBeqDiff, BEq.rfl]
 refine (call_has B S hW.Field_has hr3 v).mono ?_
 rintro _ w4 ⟨rfl, m4⟩
 refine hK _ _ (zd fun σ4 hσ => ?_)
 have k0 := hσ 0
 have k1 := hσ 1
 have k2 := hσ 2
 have k4 := hσ 4
 have k6 := hσ 6
 have k7 := hσ 7
 have k8 := hσ 8
 have k9 := hσ 9
 have k10 := hσ 10
 have k11 := hσ 11
 have k13 := hσ 13
 have k14 := hσ 14
 have k15 := hσ 15
 simp +decide only [bE, Nat.reduceBeqDiff, BEq.rfl, Nat.reduceAdd, Nat.zero_add, p0, p1, p2, p4, p7, p8, p9, p10, p11, p13, p14] at k0 k1 k2 k4 k6 k7 k8 k9 k10 k11 k13 k14 k15
 have q4 : PSt w1 σ4 w4 fv v flex b fs.length j (zcs flex v (fs.take j) 0 t) := ⟨k0, k1, k2, k4, by rw [k6]; exact q.h6.stay m4 fun _ _ _ h => h, k7, k8, k9, k10, k11, h.le, q.mod.trans' m4⟩
 have n13 : zaj (σ4 6) w'.heap.size := by rw [k6]; exact n13'
 have hb13 : w4.rangeAt w'.heap.size 0 cs := zh m4 r3
 have hlt : w'.heap.size < w4.heap.size := by have := m4.size; omega
 clear hσ hK K
 refine W_if hlo k15 ?_
 have hnext : ∀ {σ5 : Env} {w5 : World}, PSt w1 σ5 w5 fv v flex b fs.length j (zcs flex v (fs.take j) 0 t ++ (if fs[j].has v then zfe flex v fs[j] (atT t j) else [])) → σ5 11 = .int .i64 j ∧ PSt w1 (upd σ5 11 (.int .i64 ((j + 1 : Nat) : Int))) w5 fv v flex b fs.length (j + 1) (zcs flex v (fs.take (j + 1)) 0 t) := fun h5 => ⟨h5.h11, by rw [zlk flex v t hj]; exact h5.next hj⟩
 cases hh : fs[j].has v with
 | false =>
  simp only [Bool.false_eq_true, if_false]
  refine zbv (hnext ?_)
  rw [hh]; simpa using q4
 | true =>
  rw [hh] at hbj
  simp only [if_true] at hbj ⊢
  rw [List.length_append] at hbj
  refine W_dPart B S hW q4 hb ht hwt k13 k14 hb13 hlt n13 (RepF.stay m4 _ hr3) okj hbj fun σ5 w5 h5 => hnext ?_
  rw [hh]; simpa using h5
end
end Go.Kf
