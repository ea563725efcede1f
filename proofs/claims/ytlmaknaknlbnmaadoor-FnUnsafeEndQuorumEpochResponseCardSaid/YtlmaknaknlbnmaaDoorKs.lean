/- Closed facts of this translation: its numbers, its shared functions' codes, its types; no condition. -/
import Derived.Test.YtlmaknaknlbnmaaDoorKe
import Derived.Shelf.GgSortFunc.Whole
import Derived.Test.YtlmaknaknlbnmaaDoorRows
import Derived.Test.YtlmaknaknlbnmaaDoorTie
import Derived.Test.YtlmaknaknlbnmaaDoorCards
import Derived.LaidMore
import Derived.Stop.Joined
import Derived.Stop.LaidErr
import Derived.SevenTiedAt
set_option linter.unusedSimpArgs false
set_option linter.unusedVariables false
set_option maxRecDepth 100000
namespace Go.Kf
open Go

def NS : Nums where
  zby := 70
  zex := 110
  zai := 69
  zbb := 103
  zbv := 76
  zw := 72
  zat := 68
  zea := 85
  zbd := 79
  zen := 100
  zdf := 111
  zbr := 105
  zdt := 71
  zo := 83
  zcl := 77
  zam := 102
  zaz := 74
  zaw := 104
  zbf := 75
  zdo := 101
  zn := 81
  zcq := 125
  zfg := 51
  zcj := 90
  zbx := 82
  zce := 115
  zib := 117
  zcg := 114
  zcz := 116
  zcy := 149
  zge := 128
  zlv := 12
  zco := 80
  zff := 89
  zjx := 53
  zdh := 28
  zci := 11
  zfe := 61
  zgx := 9
  zdw := 0
  zd := 1
  t_ := 0
  zba := 109
  zdp := 25
  zi := 24
  zv := 33
  zab := 32
  zav := 129
  zb := 22
  zaq := 123
  zbj := 94
  zr := 114
  zgi := 51
  zcc := 65
  zp := 27
  zay := 152
  zbg := 4
  zeg := 44
  zkj := 131
  zjz := 80
  zt := 3
  zbs := 38
  zbz := 21
  zef := 2
  ziq := 146
  zse := 20
  zy := 63
  zbl := 50
  zk := 35
  zaj := 9
  zgh := 166
  zfk := 76
  zm := 48
  zqk := 156
  zbm := 170
  zq := 5

theorem baseS : Base Go.Proofs.Tryd.prog NS := base_ok (by kernel_rfl) (by kernel_rfl) (by kernel_rfl)

theorem fok_bigEndian_Uint16 : FOk Go.Proofs.Tryd.prog 114 2 (zhl NS) [.var 2] := ⟨Go.Proofs.Tryd.f114, _, [0, 1, 4], Go.Proofs.Tryd.func114, rfl, by kernel_rfl, by kernel_rfl, by decide, by kernel_rfl, by kernel_rfl⟩
theorem fok_bigEndian_Uint32 : FOk Go.Proofs.Tryd.prog 116 2 (zhk NS) [.var 2] := ⟨Go.Proofs.Tryd.f116, _, [0, 1, 4], Go.Proofs.Tryd.func116, rfl, by kernel_rfl, by kernel_rfl, by decide, by kernel_rfl, by kernel_rfl⟩
theorem fok_bigEndian_Uint64 : FOk Go.Proofs.Tryd.prog 149 2 (zhj NS) [.var 2] := ⟨Go.Proofs.Tryd.f149, _, [0, 1, 4], Go.Proofs.Tryd.func149, rfl, by kernel_rfl, by kernel_rfl, by decide, by kernel_rfl, by kernel_rfl⟩
theorem fok_UnsafeString : FOk Go.Proofs.Tryd.prog 115 1 (zkf NS) [.var 1] := ⟨Go.Proofs.Tryd.f115, _, [0, 2], Go.Proofs.Tryd.func115, rfl, by kernel_rfl, by kernel_rfl, by decide, by kernel_rfl, by kernel_rfl⟩
theorem fok_Uvarint : FOk Go.Proofs.Tryd.prog 117 1 (zrp NS) [.var 1, .var 2] := ⟨Go.Proofs.Tryd.f117, _, [0, 2, 3, 4, 5, 8, 18, 22, 35, 39, 52, 56, 69, 73, 84], Go.Proofs.Tryd.func117, rfl, by kernel_rfl, by kernel_rfl, by decide, by kernel_rfl, by kernel_rfl⟩
theorem fok_PReader_Bool : FOk Go.Proofs.Tryd.prog 110 1 (zoh NS) [.var 1] := ⟨Go.Proofs.Tryd.f110, _, [0, 2, 9, 3], Go.Proofs.Tryd.func110, rfl, by kernel_rfl, by kernel_rfl, by decide, by kernel_rfl, by kernel_rfl⟩
theorem fok_PReader_Int8 : FOk Go.Proofs.Tryd.prog 111 1 (zog NS) [.var 1] := ⟨Go.Proofs.Tryd.f111, _, [0, 2, 9, 3], Go.Proofs.Tryd.func111, rfl, by kernel_rfl, by kernel_rfl, by decide, by kernel_rfl, by kernel_rfl⟩
theorem fok_PReader_Uint16 : FOk Go.Proofs.Tryd.prog 85 1 (zmp NS) [.var 1] := ⟨Go.Proofs.Tryd.f85, _, [0, 2, 9, 3], Go.Proofs.Tryd.func85, rfl, by kernel_rfl, by kernel_rfl, by decide, by kernel_rfl, by kernel_rfl⟩
theorem fok_PReader_Int16 : FOk Go.Proofs.Tryd.prog 68 1 (znu NS) [.var 1] := ⟨Go.Proofs.Tryd.f68, _, [0, 2, 9, 3], Go.Proofs.Tryd.func68, rfl, by kernel_rfl, by kernel_rfl, by decide, by kernel_rfl, by kernel_rfl⟩
theorem fok_PReader_Int32 : FOk Go.Proofs.Tryd.prog 79 1 (znt NS) [.var 1] := ⟨Go.Proofs.Tryd.f79, _, [0, 2, 9, 3], Go.Proofs.Tryd.func79, rfl, by kernel_rfl, by kernel_rfl, by decide, by kernel_rfl, by kernel_rfl⟩
theorem fok_PReader_readUint64 : FOk Go.Proofs.Tryd.prog 125 1 (zka NS) [.var 1] := ⟨Go.Proofs.Tryd.f125, _, [0, 2, 9, 3], Go.Proofs.Tryd.func125, rfl, by kernel_rfl, by kernel_rfl, by decide, by kernel_rfl, by kernel_rfl⟩
theorem fok_PReader_Int64 : FOk Go.Proofs.Tryd.prog 100 1 (zji NS) [.var 1] := ⟨Go.Proofs.Tryd.f100, _, [0, 2], Go.Proofs.Tryd.func100, rfl, by kernel_rfl, by kernel_rfl, by decide, by kernel_rfl, by kernel_rfl⟩
theorem fok_PReader_Uuid : FOk Go.Proofs.Tryd.prog 101 1 (zkh NS) [.cell 1 NS.zba] := ⟨Go.Proofs.Tryd.f101, _, [0, 2, 3], Go.Proofs.Tryd.func101, rfl, by kernel_rfl, by kernel_rfl, by decide, by kernel_rfl, by kernel_rfl⟩
theorem fok_PReader_Uvarint : FOk Go.Proofs.Tryd.prog 81 1 (zie NS) [.var 1] := ⟨Go.Proofs.Tryd.f81, _, [0, 2, 3, 4, 14], Go.Proofs.Tryd.func81, rfl, by kernel_rfl, by kernel_rfl, by decide, by kernel_rfl, by kernel_rfl⟩
theorem fok_PReader_Span : FOk Go.Proofs.Tryd.prog 83 2 (zki NS) [.var 2] := ⟨Go.Proofs.Tryd.f83, _, [0, 1, 4, 16, 5], Go.Proofs.Tryd.func83, rfl, by kernel_rfl, by kernel_rfl, by decide, by kernel_rfl, by kernel_rfl⟩
theorem fok_PReader_String : FOk Go.Proofs.Tryd.prog 77 1 (ziv NS) [.var 1] := ⟨Go.Proofs.Tryd.f77, _, [0, 2, 3], Go.Proofs.Tryd.func77, rfl, by kernel_rfl, by kernel_rfl, by decide, by kernel_rfl, by kernel_rfl⟩
theorem fok_PReader_UnsafeString : FOk Go.Proofs.Tryd.prog 75 1 (zfy NS) [.var 1] := ⟨Go.Proofs.Tryd.f75, _, [0, 2, 3], Go.Proofs.Tryd.func75, rfl, by kernel_rfl, by kernel_rfl, by decide, by kernel_rfl, by kernel_rfl⟩
theorem fok_PReader_CompactString : FOk Go.Proofs.Tryd.prog 76 1 (zft NS) [.var 1] := ⟨Go.Proofs.Tryd.f76, _, [0, 2, 3], Go.Proofs.Tryd.func76, rfl, by kernel_rfl, by kernel_rfl, by decide, by kernel_rfl, by kernel_rfl⟩
theorem fok_PReader_UnsafeCompactString : FOk Go.Proofs.Tryd.prog 74 1 (zeb NS) [.var 1] := ⟨Go.Proofs.Tryd.f74, _, [0, 2, 3], Go.Proofs.Tryd.func74, rfl, by kernel_rfl, by kernel_rfl, by decide, by kernel_rfl, by kernel_rfl⟩
theorem fok_PReader_NullableString : FOk Go.Proofs.Tryd.prog 105 1 (zfh NS) [.var 1] := ⟨Go.Proofs.Tryd.f105, _, [0, 2, 3, 8, 4], Go.Proofs.Tryd.func105, rfl, by kernel_rfl, by kernel_rfl, by decide, by kernel_rfl, by kernel_rfl⟩
theorem fok_PReader_UnsafeNullableString : FOk Go.Proofs.Tryd.prog 104 1 (zdu NS) [.var 1] := ⟨Go.Proofs.Tryd.f104, _, [0, 2, 3, 8, 4], Go.Proofs.Tryd.func104, rfl, by kernel_rfl, by kernel_rfl, by decide, by kernel_rfl, by kernel_rfl⟩
theorem fok_PReader_CompactNullableString : FOk Go.Proofs.Tryd.prog 103 1 (zds NS) [.var 1] := ⟨Go.Proofs.Tryd.f103, _, [0, 2, 3, 10, 4], Go.Proofs.Tryd.func103, rfl, by kernel_rfl, by kernel_rfl, by decide, by kernel_rfl, by kernel_rfl⟩
theorem fok_PReader_UnsafeCompactNullableString : FOk Go.Proofs.Tryd.prog 102 1 (zdd NS) [.var 1] := ⟨Go.Proofs.Tryd.f102, _, [0, 2, 3, 10, 4], Go.Proofs.Tryd.func102, rfl, by kernel_rfl, by kernel_rfl, by decide, by kernel_rfl, by kernel_rfl⟩
theorem fok_PReader_ArrayLen : FOk Go.Proofs.Tryd.prog 70 1 (zhn NS) [.var 1] := ⟨Go.Proofs.Tryd.f70, _, [0, 2, 3, 13], Go.Proofs.Tryd.func70, rfl, by kernel_rfl, by kernel_rfl, by decide, by kernel_rfl, by kernel_rfl⟩
theorem fok_PReader_CompactArrayLen : FOk Go.Proofs.Tryd.prog 69 1 (zey NS) [.var 1] := ⟨Go.Proofs.Tryd.f69, _, [0, 2, 3, 15], Go.Proofs.Tryd.func69, rfl, by kernel_rfl, by kernel_rfl, by decide, by kernel_rfl, by kernel_rfl⟩
theorem fok_PReader_Complete : FOk Go.Proofs.Tryd.prog 72 1 (zhm NS) [.var 1] := ⟨Go.Proofs.Tryd.f72, _, [0, 2, 6], Go.Proofs.Tryd.func72, rfl, by kernel_rfl, by kernel_rfl, by decide, by kernel_rfl, by kernel_rfl⟩
theorem fok_PReader_Ok : FOk Go.Proofs.Tryd.prog 71 1 (zml NS) [.var 1] := ⟨Go.Proofs.Tryd.f71, _, [0, 2], Go.Proofs.Tryd.func71, rfl, by kernel_rfl, by kernel_rfl, by decide, by kernel_rfl, by kernel_rfl⟩
theorem fok_PTags_Set : FOk Go.Proofs.Tryd.prog 82 3 (zns NS) [] := ⟨Go.Proofs.Tryd.f82, _, [0, 1, 2, 10], Go.Proofs.Tryd.func82, rfl, by kernel_rfl, by kernel_rfl, by decide, by kernel_rfl, by kernel_rfl⟩
theorem fok_internalReadTags : FOk Go.Proofs.Tryd.prog 80 1 (zhi NS) [.cell 1 NS.zcc] := ⟨Go.Proofs.Tryd.f80, _, [0, 2, 3, 4, 10, 5, 6], Go.Proofs.Tryd.func80, rfl, by kernel_rfl, by kernel_rfl, by decide, by kernel_rfl, by kernel_rfl⟩
theorem fok_PTags_Each : FOk Go.Proofs.Tryd.prog 51 2 (zmk NS) [] := ⟨Go.Proofs.Tryd.f51, _, [0, 1, 13, 4, 24, 26, 5, 37, 38, 39, 40, 7], Go.Proofs.Tryd.func51, rfl, by kernel_rfl, by kernel_rfl, by decide, by kernel_rfl, by kernel_rfl⟩
theorem fok_PTags_Each_1 : FOk Go.Proofs.Tryd.prog 90 3 (zkg NS) [.var 3] := ⟨Go.Proofs.Tryd.f90, _, [0, 1, 2, 5], Go.Proofs.Tryd.func90, rfl, by kernel_rfl, by kernel_rfl, by decide, by kernel_rfl, by kernel_rfl⟩
theorem fok_sorted : FOk Go.Proofs.Tryd.prog 53 1 (c_sorted NS) [] := ⟨Go.Proofs.Tryd.f53, _, [0, 5, 6, 7, 2, 3, 25], Go.Proofs.Tryd.func53, rfl, by kernel_rfl, by kernel_rfl, by decide, by kernel_rfl, by kernel_rfl⟩
theorem fok_boolTree : FOk Go.Proofs.Tryd.prog 128 1 (zov NS) [.cell 1 NS.zp] := ⟨Go.Proofs.Tryd.f128, _, [0, 2, 3], Go.Proofs.Tryd.func128, rfl, by kernel_rfl, by kernel_rfl, by decide, by kernel_rfl, by kernel_rfl⟩
theorem fok_textTree : FOk Go.Proofs.Tryd.prog 61 1 (zou NS) [.cell 1 NS.zp] := ⟨Go.Proofs.Tryd.f61, _, [0, 2, 4], Go.Proofs.Tryd.func61, rfl, by kernel_rfl, by kernel_rfl, by decide, by kernel_rfl, by kernel_rfl⟩
theorem fok_spec_Same : FOk Go.Proofs.Tryd.prog 28 2 (znr NS) [.var 2] := ⟨Go.Proofs.Tryd.f28, _, [0, 1, 4, 10, 12, 13, 14, 5, 24], Go.Proofs.Tryd.func28, rfl, by kernel_rfl, by kernel_rfl, by decide, by kernel_rfl, by kernel_rfl⟩
theorem fok_spec_SameTree : FOk Go.Proofs.Tryd.prog 11 2 (zjh NS) [.var 4] := ⟨Go.Proofs.Tryd.f11, _, [0, 1, 2, 3, 4, 44, 47, 48, 49, 5, 62, 66, 67, 68, 6, 98], Go.Proofs.Tryd.func11, rfl, by kernel_rfl, by kernel_rfl, by decide, by kernel_rfl, by kernel_rfl⟩
theorem fok_version : FOk Go.Proofs.Tryd.prog 9 2 (zro NS) [.var 2] := ⟨Go.Proofs.Tryd.f9, _, [0, 1, 4], Go.Proofs.Tryd.func9, rfl, by kernel_rfl, by kernel_rfl, by decide, by kernel_rfl, by kernel_rfl⟩
theorem fok_got : FOk Go.Proofs.Tryd.prog 12 1 (c_got NS) [.cell 2 NS.zk] := ⟨Go.Proofs.Tryd.f12, _, [0, 1, 2, 3, 16, 17, 18, 19, 5, 31, 32, 33, 34, 7], Go.Proofs.Tryd.func12, rfl, by kernel_rfl, by kernel_rfl, by decide, by kernel_rfl, by kernel_rfl⟩

theorem fnsS : Fns Go.Proofs.Tryd.prog NS where
  bigEndian_Uint16 := fun _ => fok_bigEndian_Uint16
  bigEndian_Uint32 := fun _ => fok_bigEndian_Uint32
  bigEndian_Uint64 := fun _ => fok_bigEndian_Uint64
  UnsafeString := fun _ => fok_UnsafeString
  Uvarint := fun _ => fok_Uvarint
  PReader_Bool := fun _ => fok_PReader_Bool
  PReader_Int8 := fun _ => fok_PReader_Int8
  PReader_Uint16 := fun _ => ⟨fok_PReader_Uint16, by decide⟩
  PReader_Int16 := fun _ => ⟨fok_PReader_Int16, by decide⟩
  PReader_Int32 := fun _ => ⟨fok_PReader_Int32, by decide⟩
  PReader_readUint64 := fun _ => ⟨fok_PReader_readUint64, by decide⟩
  PReader_Int64 := fun _ => ⟨fok_PReader_Int64, by decide⟩
  PReader_Uuid := fun _ => ⟨fok_PReader_Uuid, by decide⟩
  PReader_Uvarint := fun _ => ⟨fok_PReader_Uvarint, by decide⟩
  PReader_Span := fun _ => fok_PReader_Span
  PReader_String := fun _ => ⟨fok_PReader_String, by decide, by decide⟩
  PReader_UnsafeString := fun _ => ⟨fok_PReader_UnsafeString, by decide, by decide, by decide⟩
  PReader_CompactString := fun _ => ⟨fok_PReader_CompactString, by decide, by decide⟩
  PReader_UnsafeCompactString := fun _ => ⟨fok_PReader_UnsafeCompactString, by decide, by decide, by decide⟩
  PReader_NullableString := fun _ => ⟨fok_PReader_NullableString, by decide, by decide⟩
  PReader_UnsafeNullableString := fun _ => ⟨fok_PReader_UnsafeNullableString, by decide, by decide, by decide⟩
  PReader_CompactNullableString := fun _ => ⟨fok_PReader_CompactNullableString, by decide, by decide⟩
  PReader_UnsafeCompactNullableString := fun _ => ⟨fok_PReader_UnsafeCompactNullableString, by decide, by decide, by decide⟩
  PReader_Bytes := fun h => absurd rfl h
  PReader_CompactBytes := fun h => absurd rfl h
  PReader_NullableBytes := fun h => absurd rfl h
  PReader_CompactNullableBytes := fun h => absurd rfl h
  PReader_ArrayLen := fun _ => ⟨fok_PReader_ArrayLen, by decide⟩
  PReader_CompactArrayLen := fun _ => ⟨fok_PReader_CompactArrayLen, by decide⟩
  PReader_Complete := fun _ => fok_PReader_Complete
  PReader_Ok := fun _ => fok_PReader_Ok
  PTags_Set := fun _ => fok_PTags_Set
  internalReadTags := fun _ => ⟨fok_internalReadTags, by decide, by decide, by decide⟩
  PTags_Each := fun _ => ⟨fok_PTags_Each, by decide, by decide⟩
  PTags_Each_1 := fun _ => fok_PTags_Each_1
  sorted := fun _ => fok_sorted
  boolTree := fun _ => fok_boolTree
  textTree := fun _ => fok_textTree
  octetsTree := fun h => absurd rfl h
  spec_Same := fun _ => fok_spec_Same
  spec_SameTree := fun _ => ⟨fok_spec_SameTree, by decide⟩
  version := fun _ => fok_version
  got := fun _ => fok_got

theorem implT : zdx Go.Proofs.Tryd.prog NS := ⟨sfB_ok (by kernel_rfl), sfB_ok (by kernel_rfl), znk (by kernel_rfl), znk (by kernel_rfl), znk (by kernel_rfl), znk (by kernel_rfl), znk (by kernel_rfl), znk (by kernel_rfl), znk (by kernel_rfl), zfw (by kernel_rfl), zfw (by kernel_rfl)⟩
theorem specT : zet Go.Proofs.Tryd.prog NS NS.zk NS.zbl NS.zab NS.zv := ⟨sfB_ok (by kernel_rfl), sfB_ok (by kernel_rfl), znk (by kernel_rfl), znk (by kernel_rfl), znk (by kernel_rfl), znk (by kernel_rfl), znk (by kernel_rfl), znk (by kernel_rfl), znk (by kernel_rfl), zfw (by kernel_rfl), zfw (by kernel_rfl)⟩

def slRen : Go.Shelf.Ren := ⟨fun | 6 => 89 | 10 => 119 | 11 => 120 | 12 => 121 | 13 => 122 | 14 => 123 | 24 => 139 | 25 => 140 | 26 => 141 | 27 => 142 | 28 => 143 | 29 => 144 | 30 => 145 | 31 => 146 | 32 => 147 | 33 => 148 | 34 => 151 | 35 => 152 | 36 => 153 | 37 => 154 | 38 => 155 | 39 => 156 | n => n, fun | 20 => 20 | 26 => 131 | 35 => 161 | 0 => 0 | 37 => 163 | 3 => 3 | 41 => 166 | 44 => 169 | 49 => 48 | 51 => 170 | 4 => 4 | 54 => 181 | 53 => 180 | 58 => 185 | 5 => 5 | 9 => 9 | 60 => 188 | 64 => 191 | 66 => 193 | 67 => 194 | 17 => 17 | 32 => 158 | 33 => 159 | 82 => 209 | 12 => 12 | 75 => 202 | 76 => 203 | 77 => 204 | 78 => 205 | 79 => 206 | 80 => 207 | n => n, fun | n => n⟩
theorem sl6 : Go.Proofs.LaysGg.n6 Go.Proofs.Tryd.prog slRen where
  mixed := by kernel_rfl
  f6 := Go.Proofs.Tryd.func89.trans (congrArg some (by kernel_rfl))
  f10 := Go.Proofs.Tryd.func119.trans (congrArg some (by kernel_rfl))
  f11 := Go.Proofs.Tryd.func120.trans (congrArg some (by kernel_rfl))
  f12 := Go.Proofs.Tryd.func121.trans (congrArg some (by kernel_rfl))
  f13 := Go.Proofs.Tryd.func122.trans (congrArg some (by kernel_rfl))
  f14 := Go.Proofs.Tryd.func123.trans (congrArg some (by kernel_rfl))
  f24 := Go.Proofs.Tryd.func139.trans (congrArg some (by kernel_rfl))
  f25 := Go.Proofs.Tryd.func140.trans (congrArg some (by kernel_rfl))
  f26 := Go.Proofs.Tryd.func141.trans (congrArg some (by kernel_rfl))
  f27 := Go.Proofs.Tryd.func142.trans (congrArg some (by kernel_rfl))
  f28 := Go.Proofs.Tryd.func143.trans (congrArg some (by kernel_rfl))
  f29 := Go.Proofs.Tryd.func144.trans (congrArg some (by kernel_rfl))
  f30 := Go.Proofs.Tryd.func145.trans (congrArg some (by kernel_rfl))
  f31 := Go.Proofs.Tryd.func146.trans (congrArg some (by kernel_rfl))
  f32 := Go.Proofs.Tryd.func147.trans (congrArg some (by kernel_rfl))
  f33 := Go.Proofs.Tryd.func148.trans (congrArg some (by kernel_rfl))
  f34 := Go.Proofs.Tryd.func151.trans (congrArg some (by kernel_rfl))
  f35 := Go.Proofs.Tryd.func152.trans (congrArg some (by kernel_rfl))
  f36 := Go.Proofs.Tryd.func153.trans (congrArg some (by kernel_rfl))
  f37 := Go.Proofs.Tryd.func154.trans (congrArg some (by kernel_rfl))
  f38 := Go.Proofs.Tryd.func155.trans (congrArg some (by kernel_rfl))
  f39 := Go.Proofs.Tryd.func156.trans (congrArg some (by kernel_rfl))
  t0 := Go.Proofs.Tryd.underlying0
  a0 := Go.Proofs.Tryd.isAgg0
  z0 := Go.Proofs.Tryd.sizeOf0
  v0 := Go.Proofs.Tryd.zeroValue0
  i0 := by kernel_rfl
  t3 := Go.Proofs.Tryd.underlying3
  a3 := Go.Proofs.Tryd.isAgg3
  z3 := Go.Proofs.Tryd.sizeOf3
  v3 := Go.Proofs.Tryd.zeroValue3
  i3 := by kernel_rfl
  t4 := Go.Proofs.Tryd.underlying4
  a4 := Go.Proofs.Tryd.isAgg4
  z4 := Go.Proofs.Tryd.sizeOf4
  v4 := Go.Proofs.Tryd.zeroValue4
  i4 := by kernel_rfl
  t5 := Go.Proofs.Tryd.underlying5
  a5 := Go.Proofs.Tryd.isAgg5
  z5 := Go.Proofs.Tryd.sizeOf5
  v5 := Go.Proofs.Tryd.zeroValue5
  i5 := by kernel_rfl
  t9 := Go.Proofs.Tryd.underlying9
  a9 := Go.Proofs.Tryd.isAgg9
  z9 := Go.Proofs.Tryd.sizeOf9
  v9 := Go.Proofs.Tryd.zeroValue9
  i9 := by kernel_rfl
  t12 := Go.Proofs.Tryd.underlying12
  a12 := Go.Proofs.Tryd.isAgg12
  z12 := Go.Proofs.Tryd.sizeOf12
  v12 := Go.Proofs.Tryd.zeroValue12
  i12 := by kernel_rfl
  t17 := Go.Proofs.Tryd.underlying17
  a17 := Go.Proofs.Tryd.isAgg17
  z17 := Go.Proofs.Tryd.sizeOf17
  v17 := Go.Proofs.Tryd.zeroValue17
  i17 := by kernel_rfl
  t20 := Go.Proofs.Tryd.underlying20
  a20 := Go.Proofs.Tryd.isAgg20
  z20 := Go.Proofs.Tryd.sizeOf20
  v20 := Go.Proofs.Tryd.zeroValue20
  i20 := by kernel_rfl
  t26 := Go.Proofs.Tryd.underlying131
  a26 := Go.Proofs.Tryd.isAgg131
  z26 := Go.Proofs.Tryd.sizeOf131
  v26 := Go.Proofs.Tryd.zeroValue131
  i26 := by kernel_rfl
  t32 := Go.Proofs.Tryd.underlying158
  a32 := Go.Proofs.Tryd.isAgg158
  z32 := Go.Proofs.Tryd.sizeOf158
  v32 := Go.Proofs.Tryd.zeroValue158
  i32 := by kernel_rfl
  t33 := Go.Proofs.Tryd.underlying159
  a33 := Go.Proofs.Tryd.isAgg159
  z33 := Go.Proofs.Tryd.sizeOf159
  v33 := Go.Proofs.Tryd.zeroValue159
  i33 := by kernel_rfl
  t35 := Go.Proofs.Tryd.underlying161
  a35 := Go.Proofs.Tryd.isAgg161
  z35 := Go.Proofs.Tryd.sizeOf161
  v35 := Go.Proofs.Tryd.zeroValue161
  i35 := by kernel_rfl
  t37 := Go.Proofs.Tryd.underlying163
  a37 := Go.Proofs.Tryd.isAgg163
  z37 := Go.Proofs.Tryd.sizeOf163
  v37 := Go.Proofs.Tryd.zeroValue163
  i37 := by kernel_rfl
  t41 := Go.Proofs.Tryd.underlying166
  a41 := Go.Proofs.Tryd.isAgg166
  z41 := Go.Proofs.Tryd.sizeOf166
  v41 := Go.Proofs.Tryd.zeroValue166
  i41 := by kernel_rfl
  t44 := Go.Proofs.Tryd.underlying169
  a44 := Go.Proofs.Tryd.isAgg169
  z44 := Go.Proofs.Tryd.sizeOf169
  v44 := Go.Proofs.Tryd.zeroValue169
  i44 := by kernel_rfl
  t49 := Go.Proofs.Tryd.underlying48
  a49 := Go.Proofs.Tryd.isAgg48
  z49 := Go.Proofs.Tryd.sizeOf48
  v49 := Go.Proofs.Tryd.zeroValue48
  i49 := by kernel_rfl
  t51 := Go.Proofs.Tryd.underlying170
  a51 := Go.Proofs.Tryd.isAgg170
  z51 := Go.Proofs.Tryd.sizeOf170
  v51 := Go.Proofs.Tryd.zeroValue170
  i51 := by kernel_rfl
  t53 := Go.Proofs.Tryd.underlying180
  a53 := Go.Proofs.Tryd.isAgg180
  z53 := Go.Proofs.Tryd.sizeOf180
  v53 := Go.Proofs.Tryd.zeroValue180
  i53 := by kernel_rfl
  t54 := Go.Proofs.Tryd.underlying181
  a54 := Go.Proofs.Tryd.isAgg181
  z54 := Go.Proofs.Tryd.sizeOf181
  v54 := Go.Proofs.Tryd.zeroValue181
  i54 := by kernel_rfl
  t58 := Go.Proofs.Tryd.underlying185
  a58 := Go.Proofs.Tryd.isAgg185
  z58 := Go.Proofs.Tryd.sizeOf185
  v58 := Go.Proofs.Tryd.zeroValue185
  i58 := by kernel_rfl
  t60 := Go.Proofs.Tryd.underlying188
  a60 := Go.Proofs.Tryd.isAgg188
  z60 := Go.Proofs.Tryd.sizeOf188
  v60 := Go.Proofs.Tryd.zeroValue188
  i60 := by kernel_rfl
  t64 := Go.Proofs.Tryd.underlying191
  a64 := Go.Proofs.Tryd.isAgg191
  z64 := Go.Proofs.Tryd.sizeOf191
  v64 := Go.Proofs.Tryd.zeroValue191
  i64 := by kernel_rfl
  t66 := Go.Proofs.Tryd.underlying193
  a66 := Go.Proofs.Tryd.isAgg193
  z66 := Go.Proofs.Tryd.sizeOf193
  v66 := Go.Proofs.Tryd.zeroValue193
  i66 := by kernel_rfl
  t67 := Go.Proofs.Tryd.underlying194
  a67 := Go.Proofs.Tryd.isAgg194
  z67 := Go.Proofs.Tryd.sizeOf194
  v67 := Go.Proofs.Tryd.zeroValue194
  i67 := by kernel_rfl
  t75 := Go.Proofs.Tryd.underlying202
  a75 := Go.Proofs.Tryd.isAgg202
  z75 := Go.Proofs.Tryd.sizeOf202
  v75 := Go.Proofs.Tryd.zeroValue202
  i75 := by kernel_rfl
  t76 := Go.Proofs.Tryd.underlying203
  a76 := Go.Proofs.Tryd.isAgg203
  z76 := Go.Proofs.Tryd.sizeOf203
  v76 := Go.Proofs.Tryd.zeroValue203
  i76 := by kernel_rfl
  t77 := Go.Proofs.Tryd.underlying204
  a77 := Go.Proofs.Tryd.isAgg204
  z77 := Go.Proofs.Tryd.sizeOf204
  v77 := Go.Proofs.Tryd.zeroValue204
  i77 := by kernel_rfl
  t78 := Go.Proofs.Tryd.underlying205
  a78 := Go.Proofs.Tryd.isAgg205
  z78 := Go.Proofs.Tryd.sizeOf205
  v78 := Go.Proofs.Tryd.zeroValue205
  i78 := by kernel_rfl
  t79 := Go.Proofs.Tryd.underlying206
  a79 := Go.Proofs.Tryd.isAgg206
  z79 := Go.Proofs.Tryd.sizeOf206
  v79 := Go.Proofs.Tryd.zeroValue206
  i79 := by kernel_rfl
  t80 := Go.Proofs.Tryd.underlying207
  a80 := Go.Proofs.Tryd.isAgg207
  z80 := Go.Proofs.Tryd.sizeOf207
  v80 := Go.Proofs.Tryd.zeroValue207
  i80 := by kernel_rfl
  t82 := Go.Proofs.Tryd.underlying209
  a82 := Go.Proofs.Tryd.isAgg209
  z82 := Go.Proofs.Tryd.sizeOf209
  v82 := Go.Proofs.Tryd.zeroValue209
  i82 := by kernel_rfl

noncomputable def sI : TypeInfo := (Go.Proofs.Tryd.prog.info? NS.zav).get (by kernel_rfl)
noncomputable def sE : TypeInfo := (Go.Proofs.Tryd.prog.info? NS.zm).get (by kernel_rfl)
theorem sortT : SortT Go.Proofs.Tryd.prog NS where
  has := ⟨_, Go.Proofs.Tryd.func89, by kernel_rfl, by kernel_rfl⟩
  out := ⟨slRen, sI, sE, 135, 131, sl6, by kernel_rfl, by kernel_rfl, by kernel_rfl, by kernel_rfl, by kernel_rfl, fun _ => by kernel_rfl, by kernel_rfl, by kernel_rfl, by kernel_rfl, by kernel_rfl, by kernel_rfl,
    fun args W => run_callFunc_extern Go.Proofs.Tryd.func135 (by kernel_rfl) (by kernel_rfl) (by kernel_rfl) (e := Extern.ReflectliteSwapper.swap true) (by kernel_rfl) args W⟩
theorem lu : LU Go.Proofs.Tryd.prog NS := ⟨zfw (by kernel_rfl)⟩
theorem tellN : TellN Go.Proofs.Tryd.prog NS := ⟨by decide, by decide, by decide, lu, sortOk baseS fnsS (by decide) lu sortT⟩

theorem own : ownKnob Go.Proofs.Tryd.prog.godebug = none := by kernel_rfl
theorem laidOut : laidOutB Go.Proofs.Tryd.prog = true := by kernel_rfl
theorem gO : Go.Proofs.Tryd.prog.globalNamed "pub-mailsack/pub/kmsg/inner/kbin.ErrNotEnoughData" = some 1 := by kernel_rfl
theorem gT : (Go.Proofs.Tryd.prog.globals[1]?).map (·.type) = some 44 := by kernel_rfl
theorem cS : Go.Proofs.Tryd.prog.cellsOf 214 = 1 := by kernel_rfl
theorem cStr : Go.Proofs.Tryd.prog.cellsOf 9 = 1 := by kernel_rfl
theorem star : "*" ++ "errors.errorString" = "*errors.errorString" := by decide
theorem rowP (u : TypeId) (h : Go.Proofs.Tryd.prog.typeName? 3 u = some "*errors.errorString") : u = 196 :=
  typeName_ptr_named (nm := "errors.errorString") (by rw [star]; kernel_rfl) (by kernel_rfl) (by decide) u (by rw [star]; exact h)
theorem bandT {a b : Bool} (h : a = true) (h' : b = true) : (a && b) = true := by rw [h, h']; rfl
theorem bigEnter : Go.Proofs.Tryd.prog.mayEnter = true := by kernel_rfl
theorem bigLifts : (Proofs.YtlmaknaknlbnmaaDoor.Rows.fnUnsafeBeginQuorumEpochResponseRow.lifted == Go.Proofs.Tryd.prog.liftsFinal) = true := by kernel_rfl
theorem bigMake : (Go.Proofs.Tryd.prog.make == some Proofs.YtlmaknaknlbnmaaDoor.Rows.fnUnsafeBeginQuorumEpochResponseRow.make) = true := by kernel_rfl
theorem stopsHeardS : Go.Proofs.Tryd.prog.stopsHeard = true := by kernel_rfl
theorem mapsRowedS : mapsRowed Go.Proofs.Tryd.prog = true := by kernel_rfl
theorem plainKeysS : (Proofs.YtlmaknaknlbnmaaDoor.Rows.fnUnsafeBeginQuorumEpochResponseRow.plainKeys == Go.Proofs.Tryd.prog.plainKeys) = true := by kernel_rfl
theorem mainS : Go.Proofs.Tryd.prog.mainIs = some (Proofs.YtlmaknaknlbnmaaDoor.Rows.fnUnsafeBeginQuorumEpochResponseCard.stood.harness.1, Proofs.YtlmaknaknlbnmaaDoor.Rows.fnUnsafeBeginQuorumEpochResponseCard.stood.harness.2.toList) := by kernel_rfl
theorem looksS : false = Go.Proofs.Tryd.prog.looks [] := by kernel_rfl
theorem shaped (os : Os) (args : Array Value) : ((World.doorLaid Go.Proofs.Tryd.prog 400 os).forCall (fun _ _ => 0) ⟨#[], args, []⟩).Shaped Go.Proofs.Tryd.prog := World.shaped_of_RefB (by kernel_rfl) (by kernel_rfl)
theorem door_met (os : Os) (args : Array Value) : laidMetH Go.Proofs.Tryd.prog Proofs.YtlmaknaknlbnmaaDoor.Rows.fnUnsafeBeginQuorumEpochResponseRow.laid ((World.doorLaid Go.Proofs.Tryd.prog 400 os).forCall (fun _ _ => 0) ⟨#[], args, []⟩).memory :=
  laidMetH_of_parts3 (fuel := 8) (laidMet_of_run' 8 (by kernel_rfl) (by kernel_rfl)) (by kernel_rfl) (by kernel_rfl)
end Go.Kf
