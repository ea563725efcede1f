/- Closed facts of this translation: its numbers, its shared functions' codes, its types; no condition. -/
import Derived.Test.YtdlfgheckhmgiaaGreatDoorKe
import Derived.Shelf.GgSortFunc.Whole
import Derived.Test.YtdlfgheckhmgiaaGreatDoorRows
import Derived.Test.YtdlfgheckhmgiaaGreatDoorTie
import Derived.Test.YtdlfgheckhmgiaaGreatDoorCards
import Derived.LaidMore
import Derived.Stop.Joined
import Derived.Stop.LaidErr
import Derived.SevenTiedAt
set_option linter.unusedSimpArgs false
set_option linter.unusedVariables false
set_option maxRecDepth 100000
namespace Go.Kf
open Go

def NS : Nums where
  zbv := 47
  zba := 46
  zbh := 55
  zbb := 43
  zbs := 62
  zai := 49
  zar := 41
  zdw := 74
  zbd := 40
  zef := 58
  zbr := 56
  zbp := 45
  zdp := 48
  zu := 83
  zch := 63
  zaj := 42
  zax := 60
  zav := 44
  zbf := 61
  zdj := 51
  zaa := 81
  zcm := 85
  zew := 32
  zcf := 68
  zfs := 84
  zby := 82
  zhm := 98
  zcb := 80
  zcw := 79
  zcv := 99
  zlf := 10
  zcl := 54
  zee := 87
  zev := 67
  zjd := 34
  zdd := 20
  zce := 9
  zeu := 29
  zgn := 7
  zds := 0
  zw := 1
  t_ := 0
  zaz := 67
  zdk := 25
  zg := 24
  zr := 33
  zz := 32
  zau := 116
  zb := 22
  zao := 107
  zbo := 55
  zp := 93
  zfz := 51
  zco := 60
  zj := 27
  zaw := 134
  zbg := 4
  zfa := 44
  zjp := 118
  zjf := 76
  zo := 3
  zbq := 38
  zcd := 21
  zdz := 2
  zrd := 20
  zv := 58
  zbk := 50
  zh := 35
  zaf := 9
  zfy := 153
  zez := 127
  zm := 48
  zpl := 158
  zbl := 140
  zk := 5

theorem baseS : Base Go.Proofs.Tryz.prog NS := base_ok (by kernel_rfl) (by kernel_rfl) (by kernel_rfl)

theorem fok_bigEndian_Uint16 : FOk Go.Proofs.Tryz.prog 80 2 (zha NS) [.var 2] := ⟨Go.Proofs.Tryz.f80, _, [0, 1, 4], Go.Proofs.Tryz.func80, rfl, by kernel_rfl, by kernel_rfl, by decide, by kernel_rfl, by kernel_rfl⟩
theorem fok_bigEndian_Uint32 : FOk Go.Proofs.Tryz.prog 79 2 (zgz NS) [.var 2] := ⟨Go.Proofs.Tryz.f79, _, [0, 1, 4], Go.Proofs.Tryz.func79, rfl, by kernel_rfl, by kernel_rfl, by decide, by kernel_rfl, by kernel_rfl⟩
theorem fok_bigEndian_Uint64 : FOk Go.Proofs.Tryz.prog 99 2 (zgy NS) [.var 2] := ⟨Go.Proofs.Tryz.f99, _, [0, 1, 4], Go.Proofs.Tryz.func99, rfl, by kernel_rfl, by kernel_rfl, by decide, by kernel_rfl, by kernel_rfl⟩
theorem fok_UnsafeString : FOk Go.Proofs.Tryz.prog 82 1 (zjl NS) [.var 1] := ⟨Go.Proofs.Tryz.f82, _, [0, 2], Go.Proofs.Tryz.func82, rfl, by kernel_rfl, by kernel_rfl, by decide, by kernel_rfl, by kernel_rfl⟩
theorem fok_Uvarint : FOk Go.Proofs.Tryz.prog 98 1 (zqm NS) [.var 1, .var 2] := ⟨Go.Proofs.Tryz.f98, _, [0, 2, 3, 4, 5, 8, 18, 22, 35, 39, 52, 56, 69, 73, 84], Go.Proofs.Tryz.func98, rfl, by kernel_rfl, by kernel_rfl, by decide, by kernel_rfl, by kernel_rfl⟩
theorem fok_PReader_Uint16 : FOk Go.Proofs.Tryz.prog 74 1 (zly NS) [.var 1] := ⟨Go.Proofs.Tryz.f74, _, [0, 2, 9, 3], Go.Proofs.Tryz.func74, rfl, by kernel_rfl, by kernel_rfl, by decide, by kernel_rfl, by kernel_rfl⟩
theorem fok_PReader_Int16 : FOk Go.Proofs.Tryz.prog 41 1 (zmy NS) [.var 1] := ⟨Go.Proofs.Tryz.f41, _, [0, 2, 9, 3], Go.Proofs.Tryz.func41, rfl, by kernel_rfl, by kernel_rfl, by decide, by kernel_rfl, by kernel_rfl⟩
theorem fok_PReader_Int32 : FOk Go.Proofs.Tryz.prog 40 1 (zmx NS) [.var 1] := ⟨Go.Proofs.Tryz.f40, _, [0, 2, 9, 3], Go.Proofs.Tryz.func40, rfl, by kernel_rfl, by kernel_rfl, by decide, by kernel_rfl, by kernel_rfl⟩
theorem fok_PReader_readUint64 : FOk Go.Proofs.Tryz.prog 85 1 (zjh NS) [.var 1] := ⟨Go.Proofs.Tryz.f85, _, [0, 2, 9, 3], Go.Proofs.Tryz.func85, rfl, by kernel_rfl, by kernel_rfl, by decide, by kernel_rfl, by kernel_rfl⟩
theorem fok_PReader_Int64 : FOk Go.Proofs.Tryz.prog 58 1 (ziq NS) [.var 1] := ⟨Go.Proofs.Tryz.f58, _, [0, 2], Go.Proofs.Tryz.func58, rfl, by kernel_rfl, by kernel_rfl, by decide, by kernel_rfl, by kernel_rfl⟩
theorem fok_PReader_Uuid : FOk Go.Proofs.Tryz.prog 51 1 (zjn NS) [.cell 1 NS.zaz] := ⟨Go.Proofs.Tryz.f51, _, [0, 2, 3], Go.Proofs.Tryz.func51, rfl, by kernel_rfl, by kernel_rfl, by decide, by kernel_rfl, by kernel_rfl⟩
theorem fok_PReader_Uvarint : FOk Go.Proofs.Tryz.prog 81 1 (zho NS) [.var 1] := ⟨Go.Proofs.Tryz.f81, _, [0, 2, 3, 4, 14], Go.Proofs.Tryz.func81, rfl, by kernel_rfl, by kernel_rfl, by decide, by kernel_rfl, by kernel_rfl⟩
theorem fok_PReader_Span : FOk Go.Proofs.Tryz.prog 83 2 (zjo NS) [.var 2] := ⟨Go.Proofs.Tryz.f83, _, [0, 1, 4, 16, 5], Go.Proofs.Tryz.func83, rfl, by kernel_rfl, by kernel_rfl, by decide, by kernel_rfl, by kernel_rfl⟩
theorem fok_PReader_String : FOk Go.Proofs.Tryz.prog 63 1 (zig NS) [.var 1] := ⟨Go.Proofs.Tryz.f63, _, [0, 2, 3], Go.Proofs.Tryz.func63, rfl, by kernel_rfl, by kernel_rfl, by decide, by kernel_rfl, by kernel_rfl⟩
theorem fok_PReader_UnsafeString : FOk Go.Proofs.Tryz.prog 61 1 (zfl NS) [.var 1] := ⟨Go.Proofs.Tryz.f61, _, [0, 2, 3], Go.Proofs.Tryz.func61, rfl, by kernel_rfl, by kernel_rfl, by decide, by kernel_rfl, by kernel_rfl⟩
theorem fok_PReader_CompactString : FOk Go.Proofs.Tryz.prog 62 1 (zfj NS) [.var 1] := ⟨Go.Proofs.Tryz.f62, _, [0, 2, 3], Go.Proofs.Tryz.func62, rfl, by kernel_rfl, by kernel_rfl, by decide, by kernel_rfl, by kernel_rfl⟩
theorem fok_PReader_UnsafeCompactString : FOk Go.Proofs.Tryz.prog 60 1 (zdx NS) [.var 1] := ⟨Go.Proofs.Tryz.f60, _, [0, 2, 3], Go.Proofs.Tryz.func60, rfl, by kernel_rfl, by kernel_rfl, by decide, by kernel_rfl, by kernel_rfl⟩
theorem fok_PReader_NullableString : FOk Go.Proofs.Tryz.prog 45 1 (zex NS) [.var 1] := ⟨Go.Proofs.Tryz.f45, _, [0, 2, 3, 8, 4], Go.Proofs.Tryz.func45, rfl, by kernel_rfl, by kernel_rfl, by decide, by kernel_rfl, by kernel_rfl⟩
theorem fok_PReader_UnsafeNullableString : FOk Go.Proofs.Tryz.prog 44 1 (zdq NS) [.var 1] := ⟨Go.Proofs.Tryz.f44, _, [0, 2, 3, 8, 4], Go.Proofs.Tryz.func44, rfl, by kernel_rfl, by kernel_rfl, by decide, by kernel_rfl, by kernel_rfl⟩
theorem fok_PReader_CompactNullableString : FOk Go.Proofs.Tryz.prog 43 1 (zdn NS) [.var 1] := ⟨Go.Proofs.Tryz.f43, _, [0, 2, 3, 10, 4], Go.Proofs.Tryz.func43, rfl, by kernel_rfl, by kernel_rfl, by decide, by kernel_rfl, by kernel_rfl⟩
theorem fok_PReader_UnsafeCompactNullableString : FOk Go.Proofs.Tryz.prog 42 1 (zcz NS) [.var 1] := ⟨Go.Proofs.Tryz.f42, _, [0, 2, 3, 10, 4], Go.Proofs.Tryz.func42, rfl, by kernel_rfl, by kernel_rfl, by decide, by kernel_rfl, by kernel_rfl⟩
theorem fok_PReader_NullableBytes : FOk Go.Proofs.Tryz.prog 56 1 (zfi NS) [.var 1] := ⟨Go.Proofs.Tryz.f56, _, [0, 2, 3, 8, 4], Go.Proofs.Tryz.func56, rfl, by kernel_rfl, by kernel_rfl, by decide, by kernel_rfl, by kernel_rfl⟩
theorem fok_PReader_CompactNullableBytes : FOk Go.Proofs.Tryz.prog 55 1 (zdr NS) [.var 1] := ⟨Go.Proofs.Tryz.f55, _, [0, 2, 3, 10, 4], Go.Proofs.Tryz.func55, rfl, by kernel_rfl, by kernel_rfl, by decide, by kernel_rfl, by kernel_rfl⟩
theorem fok_PReader_ArrayLen : FOk Go.Proofs.Tryz.prog 47 1 (zhc NS) [.var 1] := ⟨Go.Proofs.Tryz.f47, _, [0, 2, 3, 13], Go.Proofs.Tryz.func47, rfl, by kernel_rfl, by kernel_rfl, by decide, by kernel_rfl, by kernel_rfl⟩
theorem fok_PReader_CompactArrayLen : FOk Go.Proofs.Tryz.prog 46 1 (zeo NS) [.var 1] := ⟨Go.Proofs.Tryz.f46, _, [0, 2, 3, 15], Go.Proofs.Tryz.func46, rfl, by kernel_rfl, by kernel_rfl, by decide, by kernel_rfl, by kernel_rfl⟩
theorem fok_PReader_Complete : FOk Go.Proofs.Tryz.prog 49 1 (zhb NS) [.var 1] := ⟨Go.Proofs.Tryz.f49, _, [0, 2, 6], Go.Proofs.Tryz.func49, rfl, by kernel_rfl, by kernel_rfl, by decide, by kernel_rfl, by kernel_rfl⟩
theorem fok_PReader_Ok : FOk Go.Proofs.Tryz.prog 48 1 (zlu NS) [.var 1] := ⟨Go.Proofs.Tryz.f48, _, [0, 2], Go.Proofs.Tryz.func48, rfl, by kernel_rfl, by kernel_rfl, by decide, by kernel_rfl, by kernel_rfl⟩
theorem fok_PTags_Set : FOk Go.Proofs.Tryz.prog 84 3 (zmw NS) [] := ⟨Go.Proofs.Tryz.f84, _, [0, 1, 2, 10], Go.Proofs.Tryz.func84, rfl, by kernel_rfl, by kernel_rfl, by decide, by kernel_rfl, by kernel_rfl⟩
theorem fok_internalReadTags : FOk Go.Proofs.Tryz.prog 54 1 (zgx NS) [.cell 1 NS.zco] := ⟨Go.Proofs.Tryz.f54, _, [0, 2, 3, 4, 10, 5, 6], Go.Proofs.Tryz.func54, rfl, by kernel_rfl, by kernel_rfl, by decide, by kernel_rfl, by kernel_rfl⟩
theorem fok_PTags_Each : FOk Go.Proofs.Tryz.prog 32 2 (zlt NS) [] := ⟨Go.Proofs.Tryz.f32, _, [0, 1, 13, 4, 24, 26, 5, 37, 38, 39, 40, 7], Go.Proofs.Tryz.func32, rfl, by kernel_rfl, by kernel_rfl, by decide, by kernel_rfl, by kernel_rfl⟩
theorem fok_PTags_Each_1 : FOk Go.Proofs.Tryz.prog 68 3 (zjm NS) [.var 3] := ⟨Go.Proofs.Tryz.f68, _, [0, 1, 2, 5], Go.Proofs.Tryz.func68, rfl, by kernel_rfl, by kernel_rfl, by decide, by kernel_rfl, by kernel_rfl⟩
theorem fok_sorted : FOk Go.Proofs.Tryz.prog 34 1 (c_sorted NS) [] := ⟨Go.Proofs.Tryz.f34, _, [0, 5, 6, 7, 2, 3, 25], Go.Proofs.Tryz.func34, rfl, by kernel_rfl, by kernel_rfl, by decide, by kernel_rfl, by kernel_rfl⟩
theorem fok_textTree : FOk Go.Proofs.Tryz.prog 29 1 (zoc NS) [.cell 1 NS.zj] := ⟨Go.Proofs.Tryz.f29, _, [0, 2, 4], Go.Proofs.Tryz.func29, rfl, by kernel_rfl, by kernel_rfl, by decide, by kernel_rfl, by kernel_rfl⟩
theorem fok_octetsTree : FOk Go.Proofs.Tryz.prog 87 1 (zls NS) [.cell 1 NS.zj] := ⟨Go.Proofs.Tryz.f87, _, [0, 2], Go.Proofs.Tryz.func87, rfl, by kernel_rfl, by kernel_rfl, by decide, by kernel_rfl, by kernel_rfl⟩
theorem fok_spec_Same : FOk Go.Proofs.Tryz.prog 20 2 (zmv NS) [.var 2] := ⟨Go.Proofs.Tryz.f20, _, [0, 1, 4, 10, 12, 13, 14, 5, 24], Go.Proofs.Tryz.func20, rfl, by kernel_rfl, by kernel_rfl, by decide, by kernel_rfl, by kernel_rfl⟩
theorem fok_spec_SameTree : FOk Go.Proofs.Tryz.prog 9 2 (zio NS) [.var 4] := ⟨Go.Proofs.Tryz.f9, _, [0, 1, 2, 3, 4, 44, 47, 48, 49, 5, 62, 66, 67, 68, 6, 98], Go.Proofs.Tryz.func9, rfl, by kernel_rfl, by kernel_rfl, by decide, by kernel_rfl, by kernel_rfl⟩
theorem fok_version : FOk Go.Proofs.Tryz.prog 7 2 (zql NS) [.var 2] := ⟨Go.Proofs.Tryz.f7, _, [0, 1, 4], Go.Proofs.Tryz.func7, rfl, by kernel_rfl, by kernel_rfl, by decide, by kernel_rfl, by kernel_rfl⟩
theorem fok_got : FOk Go.Proofs.Tryz.prog 10 1 (c_got NS) [.cell 2 NS.zh] := ⟨Go.Proofs.Tryz.f10, _, [0, 1, 2, 3, 16, 17, 18, 19, 5, 31, 32, 33, 34, 7], Go.Proofs.Tryz.func10, rfl, by kernel_rfl, by kernel_rfl, by decide, by kernel_rfl, by kernel_rfl⟩

theorem fnsS : Fns Go.Proofs.Tryz.prog NS where
  bigEndian_Uint16 := fun _ => fok_bigEndian_Uint16
  bigEndian_Uint32 := fun _ => fok_bigEndian_Uint32
  bigEndian_Uint64 := fun _ => fok_bigEndian_Uint64
  UnsafeString := fun _ => fok_UnsafeString
  Uvarint := fun _ => fok_Uvarint
  PReader_Bool := fun h => absurd rfl h
  PReader_Int8 := fun h => absurd rfl h
  PReader_Uint16 := fun _ => ⟨fok_PReader_Uint16, by decide⟩
  PReader_Int16 := fun _ => ⟨fok_PReader_Int16, by decide⟩
  PReader_Int32 := fun _ => ⟨fok_PReader_Int32, by decide⟩
  PReader_readUint64 := fun _ => ⟨fok_PReader_readUint64, by decide⟩
  PReader_Int64 := fun _ => ⟨fok_PReader_Int64, by decide⟩
  PReader_Uuid := fun _ => ⟨fok_PReader_Uuid, by decide⟩
  PReader_Uvarint := fun _ => ⟨fok_PReader_Uvarint, by decide⟩
  PReader_Span := fun _ => fok_PReader_Span
  PReader_String := fun _ => ⟨fok_PReader_String, by decide, by decide⟩
  PReader_UnsafeString := fun _ => ⟨fok_PReader_UnsafeString, by decide, by decide, by decide⟩
  PReader_CompactString := fun _ => ⟨fok_PReader_CompactString, by decide, by decide⟩
  PReader_UnsafeCompactString := fun _ => ⟨fok_PReader_UnsafeCompactString, by decide, by decide, by decide⟩
  PReader_NullableString := fun _ => ⟨fok_PReader_NullableString, by decide, by decide⟩
  PReader_UnsafeNullableString := fun _ => ⟨fok_PReader_UnsafeNullableString, by decide, by decide, by decide⟩
  PReader_CompactNullableString := fun _ => ⟨fok_PReader_CompactNullableString, by decide, by decide⟩
  PReader_UnsafeCompactNullableString := fun _ => ⟨fok_PReader_UnsafeCompactNullableString, by decide, by decide, by decide⟩
  PReader_Bytes := fun h => absurd rfl h
  PReader_CompactBytes := fun h => absurd rfl h
  PReader_NullableBytes := fun _ => ⟨fok_PReader_NullableBytes, by decide, by decide⟩
  PReader_CompactNullableBytes := fun _ => ⟨fok_PReader_CompactNullableBytes, by decide, by decide⟩
  PReader_ArrayLen := fun _ => ⟨fok_PReader_ArrayLen, by decide⟩
  PReader_CompactArrayLen := fun _ => ⟨fok_PReader_CompactArrayLen, by decide⟩
  PReader_Complete := fun _ => fok_PReader_Complete
  PReader_Ok := fun _ => fok_PReader_Ok
  PTags_Set := fun _ => fok_PTags_Set
  internalReadTags := fun _ => ⟨fok_internalReadTags, by decide, by decide, by decide⟩
  PTags_Each := fun _ => ⟨fok_PTags_Each, by decide, by decide⟩
  PTags_Each_1 := fun _ => fok_PTags_Each_1
  sorted := fun _ => fok_sorted
  boolTree := fun h => absurd rfl h
  textTree := fun _ => fok_textTree
  octetsTree := fun _ => fok_octetsTree
  spec_Same := fun _ => fok_spec_Same
  spec_SameTree := fun _ => ⟨fok_spec_SameTree, by decide⟩
  version := fun _ => fok_version
  got := fun _ => fok_got

theorem implT : zdt Go.Proofs.Tryz.prog NS := ⟨sfB_ok (by kernel_rfl), sfB_ok (by kernel_rfl), znz (by kernel_rfl), znz (by kernel_rfl), znz (by kernel_rfl), znz (by kernel_rfl), znz (by kernel_rfl), znz (by kernel_rfl), znz (by kernel_rfl), zfx (by kernel_rfl), zfx (by kernel_rfl)⟩
theorem specT : zei Go.Proofs.Tryz.prog NS NS.zh NS.zbk NS.zz NS.zr := ⟨sfB_ok (by kernel_rfl), sfB_ok (by kernel_rfl), znz (by kernel_rfl), znz (by kernel_rfl), znz (by kernel_rfl), znz (by kernel_rfl), znz (by kernel_rfl), znz (by kernel_rfl), znz (by kernel_rfl), zfx (by kernel_rfl), zfx (by kernel_rfl)⟩

def slRen : Go.Shelf.Ren := ⟨fun | 6 => 67 | 10 => 90 | 11 => 91 | 12 => 92 | 13 => 93 | 14 => 94 | 24 => 111 | 25 => 112 | 26 => 113 | 27 => 114 | 28 => 115 | 29 => 116 | 30 => 117 | 31 => 118 | 32 => 119 | 33 => 120 | 34 => 122 | 35 => 123 | 36 => 124 | 37 => 125 | 38 => 126 | 39 => 127 | n => n, fun | 20 => 20 | 26 => 118 | 35 => 148 | 0 => 0 | 37 => 150 | 3 => 3 | 41 => 153 | 44 => 156 | 49 => 48 | 51 => 140 | 4 => 4 | 54 => 168 | 53 => 167 | 58 => 172 | 5 => 5 | 9 => 9 | 60 => 174 | 64 => 177 | 66 => 179 | 67 => 180 | 17 => 17 | 32 => 145 | 33 => 146 | 82 => 195 | 12 => 12 | 75 => 188 | 76 => 189 | 77 => 190 | 78 => 191 | 79 => 192 | 80 => 193 | n => n, fun | n => n⟩
theorem sl6 : Go.Proofs.LaysGg.n6 Go.Proofs.Tryz.prog slRen where
  mixed := by kernel_rfl
  f6 := Go.Proofs.Tryz.func67.trans (congrArg some (by kernel_rfl))
  f10 := Go.Proofs.Tryz.func90.trans (congrArg some (by kernel_rfl))
  f11 := Go.Proofs.Tryz.func91.trans (congrArg some (by kernel_rfl))
  f12 := Go.Proofs.Tryz.func92.trans (congrArg some (by kernel_rfl))
  f13 := Go.Proofs.Tryz.func93.trans (congrArg some (by kernel_rfl))
  f14 := Go.Proofs.Tryz.func94.trans (congrArg some (by kernel_rfl))
  f24 := Go.Proofs.Tryz.func111.trans (congrArg some (by kernel_rfl))
  f25 := Go.Proofs.Tryz.func112.trans (congrArg some (by kernel_rfl))
  f26 := Go.Proofs.Tryz.func113.trans (congrArg some (by kernel_rfl))
  f27 := Go.Proofs.Tryz.func114.trans (congrArg some (by kernel_rfl))
  f28 := Go.Proofs.Tryz.func115.trans (congrArg some (by kernel_rfl))
  f29 := Go.Proofs.Tryz.func116.trans (congrArg some (by kernel_rfl))
  f30 := Go.Proofs.Tryz.func117.trans (congrArg some (by kernel_rfl))
  f31 := Go.Proofs.Tryz.func118.trans (congrArg some (by kernel_rfl))
  f32 := Go.Proofs.Tryz.func119.trans (congrArg some (by kernel_rfl))
  f33 := Go.Proofs.Tryz.func120.trans (congrArg some (by kernel_rfl))
  f34 := Go.Proofs.Tryz.func122.trans (congrArg some (by kernel_rfl))
  f35 := Go.Proofs.Tryz.func123.trans (congrArg some (by kernel_rfl))
  f36 := Go.Proofs.Tryz.func124.trans (congrArg some (by kernel_rfl))
  f37 := Go.Proofs.Tryz.func125.trans (congrArg some (by kernel_rfl))
  f38 := Go.Proofs.Tryz.func126.trans (congrArg some (by kernel_rfl))
  f39 := Go.Proofs.Tryz.func127.trans (congrArg some (by kernel_rfl))
  t0 := Go.Proofs.Tryz.underlying0
  a0 := Go.Proofs.Tryz.isAgg0
  z0 := Go.Proofs.Tryz.sizeOf0
  v0 := Go.Proofs.Tryz.zeroValue0
  i0 := by kernel_rfl
  t3 := Go.Proofs.Tryz.underlying3
  a3 := Go.Proofs.Tryz.isAgg3
  z3 := Go.Proofs.Tryz.sizeOf3
  v3 := Go.Proofs.Tryz.zeroValue3
  i3 := by kernel_rfl
  t4 := Go.Proofs.Tryz.underlying4
  a4 := Go.Proofs.Tryz.isAgg4
  z4 := Go.Proofs.Tryz.sizeOf4
  v4 := Go.Proofs.Tryz.zeroValue4
  i4 := by kernel_rfl
  t5 := Go.Proofs.Tryz.underlying5
  a5 := Go.Proofs.Tryz.isAgg5
  z5 := Go.Proofs.Tryz.sizeOf5
  v5 := Go.Proofs.Tryz.zeroValue5
  i5 := by kernel_rfl
  t9 := Go.Proofs.Tryz.underlying9
  a9 := Go.Proofs.Tryz.isAgg9
  z9 := Go.Proofs.Tryz.sizeOf9
  v9 := Go.Proofs.Tryz.zeroValue9
  i9 := by kernel_rfl
  t12 := Go.Proofs.Tryz.underlying12
  a12 := Go.Proofs.Tryz.isAgg12
  z12 := Go.Proofs.Tryz.sizeOf12
  v12 := Go.Proofs.Tryz.zeroValue12
  i12 := by kernel_rfl
  t17 := Go.Proofs.Tryz.underlying17
  a17 := Go.Proofs.Tryz.isAgg17
  z17 := Go.Proofs.Tryz.sizeOf17
  v17 := Go.Proofs.Tryz.zeroValue17
  i17 := by kernel_rfl
  t20 := Go.Proofs.Tryz.underlying20
  a20 := Go.Proofs.Tryz.isAgg20
  z20 := Go.Proofs.Tryz.sizeOf20
  v20 := Go.Proofs.Tryz.zeroValue20
  i20 := by kernel_rfl
  t26 := Go.Proofs.Tryz.underlying118
  a26 := Go.Proofs.Tryz.isAgg118
  z26 := Go.Proofs.Tryz.sizeOf118
  v26 := Go.Proofs.Tryz.zeroValue118
  i26 := by kernel_rfl
  t32 := Go.Proofs.Tryz.underlying145
  a32 := Go.Proofs.Tryz.isAgg145
  z32 := Go.Proofs.Tryz.sizeOf145
  v32 := Go.Proofs.Tryz.zeroValue145
  i32 := by kernel_rfl
  t33 := Go.Proofs.Tryz.underlying146
  a33 := Go.Proofs.Tryz.isAgg146
  z33 := Go.Proofs.Tryz.sizeOf146
  v33 := Go.Proofs.Tryz.zeroValue146
  i33 := by kernel_rfl
  t35 := Go.Proofs.Tryz.underlying148
  a35 := Go.Proofs.Tryz.isAgg148
  z35 := Go.Proofs.Tryz.sizeOf148
  v35 := Go.Proofs.Tryz.zeroValue148
  i35 := by kernel_rfl
  t37 := Go.Proofs.Tryz.underlying150
  a37 := Go.Proofs.Tryz.isAgg150
  z37 := Go.Proofs.Tryz.sizeOf150
  v37 := Go.Proofs.Tryz.zeroValue150
  i37 := by kernel_rfl
  t41 := Go.Proofs.Tryz.underlying153
  a41 := Go.Proofs.Tryz.isAgg153
  z41 := Go.Proofs.Tryz.sizeOf153
  v41 := Go.Proofs.Tryz.zeroValue153
  i41 := by kernel_rfl
  t44 := Go.Proofs.Tryz.underlying156
  a44 := Go.Proofs.Tryz.isAgg156
  z44 := Go.Proofs.Tryz.sizeOf156
  v44 := Go.Proofs.Tryz.zeroValue156
  i44 := by kernel_rfl
  t49 := Go.Proofs.Tryz.underlying48
  a49 := Go.Proofs.Tryz.isAgg48
  z49 := Go.Proofs.Tryz.sizeOf48
  v49 := Go.Proofs.Tryz.zeroValue48
  i49 := by kernel_rfl
  t51 := Go.Proofs.Tryz.underlying140
  a51 := Go.Proofs.Tryz.isAgg140
  z51 := Go.Proofs.Tryz.sizeOf140
  v51 := Go.Proofs.Tryz.zeroValue140
  i51 := by kernel_rfl
  t53 := Go.Proofs.Tryz.underlying167
  a53 := Go.Proofs.Tryz.isAgg167
  z53 := Go.Proofs.Tryz.sizeOf167
  v53 := Go.Proofs.Tryz.zeroValue167
  i53 := by kernel_rfl
  t54 := Go.Proofs.Tryz.underlying168
  a54 := Go.Proofs.Tryz.isAgg168
  z54 := Go.Proofs.Tryz.sizeOf168
  v54 := Go.Proofs.Tryz.zeroValue168
  i54 := by kernel_rfl
  t58 := Go.Proofs.Tryz.underlying172
  a58 := Go.Proofs.Tryz.isAgg172
  z58 := Go.Proofs.Tryz.sizeOf172
  v58 := Go.Proofs.Tryz.zeroValue172
  i58 := by kernel_rfl
  t60 := Go.Proofs.Tryz.underlying174
  a60 := Go.Proofs.Tryz.isAgg174
  z60 := Go.Proofs.Tryz.sizeOf174
  v60 := Go.Proofs.Tryz.zeroValue174
  i60 := by kernel_rfl
  t64 := Go.Proofs.Tryz.underlying177
  a64 := Go.Proofs.Tryz.isAgg177
  z64 := Go.Proofs.Tryz.sizeOf177
  v64 := Go.Proofs.Tryz.zeroValue177
  i64 := by kernel_rfl
  t66 := Go.Proofs.Tryz.underlying179
  a66 := Go.Proofs.Tryz.isAgg179
  z66 := Go.Proofs.Tryz.sizeOf179
  v66 := Go.Proofs.Tryz.zeroValue179
  i66 := by kernel_rfl
  t67 := Go.Proofs.Tryz.underlying180
  a67 := Go.Proofs.Tryz.isAgg180
  z67 := Go.Proofs.Tryz.sizeOf180
  v67 := Go.Proofs.Tryz.zeroValue180
  i67 := by kernel_rfl
  t75 := Go.Proofs.Tryz.underlying188
  a75 := Go.Proofs.Tryz.isAgg188
  z75 := Go.Proofs.Tryz.sizeOf188
  v75 := Go.Proofs.Tryz.zeroValue188
  i75 := by kernel_rfl
  t76 := Go.Proofs.Tryz.underlying189
  a76 := Go.Proofs.Tryz.isAgg189
  z76 := Go.Proofs.Tryz.sizeOf189
  v76 := Go.Proofs.Tryz.zeroValue189
  i76 := by kernel_rfl
  t77 := Go.Proofs.Tryz.underlying190
  a77 := Go.Proofs.Tryz.isAgg190
  z77 := Go.Proofs.Tryz.sizeOf190
  v77 := Go.Proofs.Tryz.zeroValue190
  i77 := by kernel_rfl
  t78 := Go.Proofs.Tryz.underlying191
  a78 := Go.Proofs.Tryz.isAgg191
  z78 := Go.Proofs.Tryz.sizeOf191
  v78 := Go.Proofs.Tryz.zeroValue191
  i78 := by kernel_rfl
  t79 := Go.Proofs.Tryz.underlying192
  a79 := Go.Proofs.Tryz.isAgg192
  z79 := Go.Proofs.Tryz.sizeOf192
  v79 := Go.Proofs.Tryz.zeroValue192
  i79 := by kernel_rfl
  t80 := Go.Proofs.Tryz.underlying193
  a80 := Go.Proofs.Tryz.isAgg193
  z80 := Go.Proofs.Tryz.sizeOf193
  v80 := Go.Proofs.Tryz.zeroValue193
  i80 := by kernel_rfl
  t82 := Go.Proofs.Tryz.underlying195
  a82 := Go.Proofs.Tryz.isAgg195
  z82 := Go.Proofs.Tryz.sizeOf195
  v82 := Go.Proofs.Tryz.zeroValue195
  i82 := by kernel_rfl

noncomputable def sI : TypeInfo := (Go.Proofs.Tryz.prog.info? NS.zau).get (by kernel_rfl)
noncomputable def sE : TypeInfo := (Go.Proofs.Tryz.prog.info? NS.zm).get (by kernel_rfl)
theorem sortT : SortT Go.Proofs.Tryz.prog NS where
  has := ⟨_, Go.Proofs.Tryz.func67, by kernel_rfl, by kernel_rfl⟩
  out := ⟨slRen, sI, sE, 107, 103, sl6, by kernel_rfl, by kernel_rfl, by kernel_rfl, by kernel_rfl, by kernel_rfl, fun _ => by kernel_rfl, by kernel_rfl, by kernel_rfl, by kernel_rfl, by kernel_rfl, by kernel_rfl,
    fun args W => run_callFunc_extern Go.Proofs.Tryz.func107 (by kernel_rfl) (by kernel_rfl) (by kernel_rfl) (e := Extern.ReflectliteSwapper.swap true) (by kernel_rfl) args W⟩
theorem lu : LU Go.Proofs.Tryz.prog NS := ⟨zfx (by kernel_rfl)⟩
theorem tellN : TellN Go.Proofs.Tryz.prog NS := ⟨by decide, by decide, by decide, lu, sortOk baseS fnsS (by decide) lu sortT⟩

theorem own : ownKnob Go.Proofs.Tryz.prog.godebug = none := by kernel_rfl
theorem laidOut : laidOutB Go.Proofs.Tryz.prog = true := by kernel_rfl
theorem gO : Go.Proofs.Tryz.prog.globalNamed "pub-mailsack/pub/kmsg/inner/kbin.ErrNotEnoughData" = some 1 := by kernel_rfl
theorem gT : (Go.Proofs.Tryz.prog.globals[1]?).map (·.type) = some 44 := by kernel_rfl
theorem cS : Go.Proofs.Tryz.prog.cellsOf 200 = 1 := by kernel_rfl
theorem cStr : Go.Proofs.Tryz.prog.cellsOf 9 = 1 := by kernel_rfl
theorem star : "*" ++ "errors.errorString" = "*errors.errorString" := by decide
theorem rowP (u : TypeId) (h : Go.Proofs.Tryz.prog.typeName? 3 u = some "*errors.errorString") : u = 182 :=
  typeName_ptr_named (nm := "errors.errorString") (by rw [star]; kernel_rfl) (by kernel_rfl) (by decide) u (by rw [star]; exact h)
theorem bandT {a b : Bool} (h : a = true) (h' : b = true) : (a && b) = true := by rw [h, h']; rfl
theorem bigEnter : Go.Proofs.Tryz.prog.mayEnter = true := by kernel_rfl
theorem bigLifts : (Proofs.YtdlfgheckhmgiaaGreatDoor.Rows.fnUnsafeShareFetchResponseRow.lifted == Go.Proofs.Tryz.prog.liftsFinal) = true := by kernel_rfl
theorem bigMake : (Go.Proofs.Tryz.prog.make == some Proofs.YtdlfgheckhmgiaaGreatDoor.Rows.fnUnsafeShareFetchResponseRow.make) = true := by kernel_rfl
theorem stopsHeardS : Go.Proofs.Tryz.prog.stopsHeard = true := by kernel_rfl
theorem mapsRowedS : mapsRowed Go.Proofs.Tryz.prog = true := by kernel_rfl
theorem plainKeysS : (Proofs.YtdlfgheckhmgiaaGreatDoor.Rows.fnUnsafeShareFetchResponseRow.plainKeys == Go.Proofs.Tryz.prog.plainKeys) = true := by kernel_rfl
theorem mainS : Go.Proofs.Tryz.prog.mainIs = some (Proofs.YtdlfgheckhmgiaaGreatDoor.Rows.fnUnsafeShareFetchResponseCard.stood.harness.1, Proofs.YtdlfgheckhmgiaaGreatDoor.Rows.fnUnsafeShareFetchResponseCard.stood.harness.2.toList) := by kernel_rfl
theorem looksS : false = Go.Proofs.Tryz.prog.looks [] := by kernel_rfl
theorem shaped (os : Os) (args : Array Value) : ((World.doorLaid Go.Proofs.Tryz.prog 400 os).forCall (fun _ _ => 0) ⟨#[], args, []⟩).Shaped Go.Proofs.Tryz.prog := World.shaped_of_RefB (by kernel_rfl) (by kernel_rfl)
theorem door_met (os : Os) (args : Array Value) : laidMetH Go.Proofs.Tryz.prog Proofs.YtdlfgheckhmgiaaGreatDoor.Rows.fnUnsafeShareFetchResponseRow.laid ((World.doorLaid Go.Proofs.Tryz.prog 400 os).forCall (fun _ _ => 0) ⟨#[], args, []⟩).memory :=
  laidMetH_of_parts3 (fuel := 8) (laidMet_of_run' 8 (by kernel_rfl) (by kernel_rfl)) (by kernel_rfl) (by kernel_rfl)
end Go.Kf
