/- Closed facts of this translation: its numbers, its shared functions' codes, its types; no condition. -/
import Derived.Test.YtgiejoemfbeaeaaGreatDoorKg
import Derived.Test.YtgiejoemfbeaeaaGreatDoorKg
import Derived.Test.YtgiejoemfbeaeaaGreatDoorKg
import Derived.Shelf.GgSortFunc.Whole
import Derived.Test.YtgiejoemfbeaeaaGreatDoorRows
import Derived.Test.YtgiejoemfbeaeaaGreatDoorTie
import Derived.Test.YtgiejoemfbeaeaaGreatDoorCards
import Derived.LaidMore
import Derived.Stop.Joined
import Derived.Stop.LaidErr
import Derived.SevenTiedAt
import Derived.Deep.DeepHandedRow
import Derived.JoinedCond
set_option linter.unusedSimpArgs false
set_option linter.unusedVariables false
set_option maxRecDepth 100000
namespace Go.Kf
open Go

def NS : Nums where
  zcr := 63
  zat := 62
  zbu := 81
  zcn := 69
  zaa := 65
  zbi := 79
  zbw := 72
  zdk := 73
  zci := 83
  zdy := 64
  zr := 90
  zdg := 70
  zbf := 80
  zbq := 67
  zbm := 82
  zbx := 68
  zfc := 86
  zq := 88
  zhf := 76
  zde := 95
  zcq := 91
  zcx := 89
  zlo := 97
  zdc := 96
  zec := 92
  zdl := 71
  zhe := 94
  zfb := 11
  zln := 8
  zfn := 1
  zi := 0
  t_ := 0
  zak := 94
  zp := 24
  zag := 23
  zbk := 132
  za := 22
  zbg := 114
  zbb := 84
  zu := 108
  zcp := 63
  zbp := 130
  zba := 4
  zfw := 50
  zpb := 134
  zok := 120
  ze := 3
  zbj := 40
  zcd := 21
  zdi := 2
  zir := 115
  zaar := 20
  zx := 61
  zah := 57
  zf := 26
  zai := 9
  zcj := 106
  zfg := 125
  zb := 55
  zyn := 136
  zaf := 72
  zh := 5

def MS : zcz where
  zfs := 32
  zgm := 56
  zeu := 60
  zxg := 142
  zcw := 37
  zne := 9
  zhr := 34
  zdt := 58
  ziw := 33
  ziv := 35
  zkc := 20
  zjq := 57
  zik := 38
  zzr := 36
  ziu := 59
  zfj := 39
  zko := 61
  zty := 5
  ztx := 15
  zqk := 30
  zaq := 29
  zn := 46
  zaw := 31

def AN : zdo where
  zcy := 42
  zbl := 41
  zco := 53
  zck := 43
  zdh := 52
  zby := 48
  zdr := 54
  zel := 44
  zdv := 87
  zdu := 78
  ziy := 55
  zcu := 45
  zev := 47
  zda := 77
  zke := 46
  zix := 75
  zeo := 93
  t_PTags := 118

theorem baseS : Base Go.Proofs.Tryz.prog NS := base_ok (by kernel_rfl) (by kernel_rfl) (by kernel_rfl)

theorem fok_bigEndian_Uint16 : FOk Go.Proofs.Tryz.prog 96 2 (zku NS) [.var 2] := ⟨Go.Proofs.Tryz.f96, _, [0, 1, 4], Go.Proofs.Tryz.func96, rfl, by kernel_rfl, by kernel_rfl, by decide, by kernel_rfl, by kernel_rfl⟩
theorem fok_bigEndian_Uint32 : FOk Go.Proofs.Tryz.prog 92 2 (zkt NS) [.var 2] := ⟨Go.Proofs.Tryz.f92, _, [0, 1, 4], Go.Proofs.Tryz.func92, rfl, by kernel_rfl, by kernel_rfl, by decide, by kernel_rfl, by kernel_rfl⟩
theorem fok_UnsafeString : FOk Go.Proofs.Tryz.prog 89 1 (zov NS) [.var 1] := ⟨Go.Proofs.Tryz.f89, _, [0, 2], Go.Proofs.Tryz.func89, rfl, by kernel_rfl, by kernel_rfl, by decide, by kernel_rfl, by kernel_rfl⟩
theorem fok_Uvarint : FOk Go.Proofs.Tryz.prog 97 1 (zaad NS) [.var 1, .var 2] := ⟨Go.Proofs.Tryz.f97, _, [0, 2, 3, 4, 5, 8, 18, 22, 35, 39, 52, 56, 69, 73, 84], Go.Proofs.Tryz.func97, rfl, by kernel_rfl, by kernel_rfl, by decide, by kernel_rfl, by kernel_rfl⟩
theorem fok_PReader_Int8 : FOk Go.Proofs.Tryz.prog 73 1 (zva NS) [.var 1] := ⟨Go.Proofs.Tryz.f73, _, [0, 2, 9, 3], Go.Proofs.Tryz.func73, rfl, by kernel_rfl, by kernel_rfl, by decide, by kernel_rfl, by kernel_rfl⟩
theorem fok_PReader_Int16 : FOk Go.Proofs.Tryz.prog 79 1 (zui NS) [.var 1] := ⟨Go.Proofs.Tryz.f79, _, [0, 2, 9, 3], Go.Proofs.Tryz.func79, rfl, by kernel_rfl, by kernel_rfl, by decide, by kernel_rfl, by kernel_rfl⟩
theorem fok_PReader_Int32 : FOk Go.Proofs.Tryz.prog 72 1 (zuh NS) [.var 1] := ⟨Go.Proofs.Tryz.f72, _, [0, 2, 9, 3], Go.Proofs.Tryz.func72, rfl, by kernel_rfl, by kernel_rfl, by decide, by kernel_rfl, by kernel_rfl⟩
theorem fok_PReader_Uuid : FOk Go.Proofs.Tryz.prog 86 1 (zox NS) [.cell 1 NS.zak] := ⟨Go.Proofs.Tryz.f86, _, [0, 2, 3], Go.Proofs.Tryz.func86, rfl, by kernel_rfl, by kernel_rfl, by decide, by kernel_rfl, by kernel_rfl⟩
theorem fok_PReader_Uvarint : FOk Go.Proofs.Tryz.prog 88 1 (zlr NS) [.var 1] := ⟨Go.Proofs.Tryz.f88, _, [0, 2, 3, 4, 14], Go.Proofs.Tryz.func88, rfl, by kernel_rfl, by kernel_rfl, by decide, by kernel_rfl, by kernel_rfl⟩
theorem fok_PReader_Span : FOk Go.Proofs.Tryz.prog 90 2 (zoy NS) [.var 2] := ⟨Go.Proofs.Tryz.f90, _, [0, 1, 4, 16, 5], Go.Proofs.Tryz.func90, rfl, by kernel_rfl, by kernel_rfl, by decide, by kernel_rfl, by kernel_rfl⟩
theorem fok_PReader_String : FOk Go.Proofs.Tryz.prog 70 1 (zmp NS) [.var 1] := ⟨Go.Proofs.Tryz.f70, _, [0, 2, 3], Go.Proofs.Tryz.func70, rfl, by kernel_rfl, by kernel_rfl, by decide, by kernel_rfl, by kernel_rfl⟩
theorem fok_PReader_UnsafeString : FOk Go.Proofs.Tryz.prog 68 1 (zic NS) [.var 1] := ⟨Go.Proofs.Tryz.f68, _, [0, 2, 3], Go.Proofs.Tryz.func68, rfl, by kernel_rfl, by kernel_rfl, by decide, by kernel_rfl, by kernel_rfl⟩
theorem fok_PReader_CompactString : FOk Go.Proofs.Tryz.prog 69 1 (zhv NS) [.var 1] := ⟨Go.Proofs.Tryz.f69, _, [0, 2, 3], Go.Proofs.Tryz.func69, rfl, by kernel_rfl, by kernel_rfl, by decide, by kernel_rfl, by kernel_rfl⟩
theorem fok_PReader_UnsafeCompactString : FOk Go.Proofs.Tryz.prog 67 1 (zfu NS) [.var 1] := ⟨Go.Proofs.Tryz.f67, _, [0, 2, 3], Go.Proofs.Tryz.func67, rfl, by kernel_rfl, by kernel_rfl, by decide, by kernel_rfl, by kernel_rfl⟩
theorem fok_PReader_NullableString : FOk Go.Proofs.Tryz.prog 83 1 (zhg NS) [.var 1] := ⟨Go.Proofs.Tryz.f83, _, [0, 2, 3, 8, 4], Go.Proofs.Tryz.func83, rfl, by kernel_rfl, by kernel_rfl, by decide, by kernel_rfl, by kernel_rfl⟩
theorem fok_PReader_UnsafeNullableString : FOk Go.Proofs.Tryz.prog 82 1 (zfk NS) [.var 1] := ⟨Go.Proofs.Tryz.f82, _, [0, 2, 3, 8, 4], Go.Proofs.Tryz.func82, rfl, by kernel_rfl, by kernel_rfl, by decide, by kernel_rfl, by kernel_rfl⟩
theorem fok_PReader_CompactNullableString : FOk Go.Proofs.Tryz.prog 81 1 (zfh NS) [.var 1] := ⟨Go.Proofs.Tryz.f81, _, [0, 2, 3, 10, 4], Go.Proofs.Tryz.func81, rfl, by kernel_rfl, by kernel_rfl, by decide, by kernel_rfl, by kernel_rfl⟩
theorem fok_PReader_UnsafeCompactNullableString : FOk Go.Proofs.Tryz.prog 80 1 (zek NS) [.var 1] := ⟨Go.Proofs.Tryz.f80, _, [0, 2, 3, 10, 4], Go.Proofs.Tryz.func80, rfl, by kernel_rfl, by kernel_rfl, by decide, by kernel_rfl, by kernel_rfl⟩
theorem fok_PReader_ArrayLen : FOk Go.Proofs.Tryz.prog 63 1 (zkw NS) [.var 1] := ⟨Go.Proofs.Tryz.f63, _, [0, 2, 3, 13], Go.Proofs.Tryz.func63, rfl, by kernel_rfl, by kernel_rfl, by decide, by kernel_rfl, by kernel_rfl⟩
theorem fok_PReader_CompactArrayLen : FOk Go.Proofs.Tryz.prog 62 1 (zgx NS) [.var 1] := ⟨Go.Proofs.Tryz.f62, _, [0, 2, 3, 15], Go.Proofs.Tryz.func62, rfl, by kernel_rfl, by kernel_rfl, by decide, by kernel_rfl, by kernel_rfl⟩
theorem fok_PReader_Complete : FOk Go.Proofs.Tryz.prog 65 1 (zkv NS) [.var 1] := ⟨Go.Proofs.Tryz.f65, _, [0, 2, 6], Go.Proofs.Tryz.func65, rfl, by kernel_rfl, by kernel_rfl, by decide, by kernel_rfl, by kernel_rfl⟩
theorem fok_PReader_Ok : FOk Go.Proofs.Tryz.prog 64 1 (zsc NS) [.var 1] := ⟨Go.Proofs.Tryz.f64, _, [0, 2], Go.Proofs.Tryz.func64, rfl, by kernel_rfl, by kernel_rfl, by decide, by kernel_rfl, by kernel_rfl⟩
theorem fok_PTags_Set : FOk Go.Proofs.Tryz.prog 91 3 (zug NS) [] := ⟨Go.Proofs.Tryz.f91, _, [0, 1, 2, 10], Go.Proofs.Tryz.func91, rfl, by kernel_rfl, by kernel_rfl, by decide, by kernel_rfl, by kernel_rfl⟩
theorem fok_internalReadTags : FOk Go.Proofs.Tryz.prog 71 1 (zkr NS) [.cell 1 NS.zcp] := ⟨Go.Proofs.Tryz.f71, _, [0, 2, 3, 4, 10, 5, 6], Go.Proofs.Tryz.func71, rfl, by kernel_rfl, by kernel_rfl, by decide, by kernel_rfl, by kernel_rfl⟩
theorem fok_PTags_Each : FOk Go.Proofs.Tryz.prog 76 2 (zsb NS) [] := ⟨Go.Proofs.Tryz.f76, _, [0, 1, 13, 4, 24, 26, 5, 37, 38, 39, 40, 7], Go.Proofs.Tryz.func76, rfl, by kernel_rfl, by kernel_rfl, by decide, by kernel_rfl, by kernel_rfl⟩
theorem fok_PTags_Each_1 : FOk Go.Proofs.Tryz.prog 95 3 (zow NS) [.var 3] := ⟨Go.Proofs.Tryz.f95, _, [0, 1, 2, 5], Go.Proofs.Tryz.func95, rfl, by kernel_rfl, by kernel_rfl, by decide, by kernel_rfl, by kernel_rfl⟩
theorem fok_spec_Same : FOk Go.Proofs.Tryz.prog 11 2 (zuf NS) [.var 2] := ⟨Go.Proofs.Tryz.f11, _, [0, 1, 4, 10, 12, 13, 14, 5, 24], Go.Proofs.Tryz.func11, rfl, by kernel_rfl, by kernel_rfl, by decide, by kernel_rfl, by kernel_rfl⟩
theorem fok_version : FOk Go.Proofs.Tryz.prog 8 2 (zaab NS) [.var 2] := ⟨Go.Proofs.Tryz.f8, _, [0, 1, 4], Go.Proofs.Tryz.func8, rfl, by kernel_rfl, by kernel_rfl, by decide, by kernel_rfl, by kernel_rfl⟩

theorem fnsS : Fns Go.Proofs.Tryz.prog NS where
  bigEndian_Uint16 := fun _ => fok_bigEndian_Uint16
  bigEndian_Uint32 := fun _ => fok_bigEndian_Uint32
  bigEndian_Uint64 := fun h => absurd rfl h
  UnsafeString := fun _ => fok_UnsafeString
  Uvarint := fun _ => fok_Uvarint
  PReader_Bool := fun h => absurd rfl h
  PReader_Int8 := fun _ => fok_PReader_Int8
  PReader_Uint16 := fun h => absurd rfl h
  PReader_Int16 := fun _ => ⟨fok_PReader_Int16, by decide⟩
  PReader_Int32 := fun _ => ⟨fok_PReader_Int32, by decide⟩
  PReader_readUint64 := fun h => absurd rfl h
  PReader_Int64 := fun h => absurd rfl h
  PReader_Uuid := fun _ => ⟨fok_PReader_Uuid, by decide⟩
  PReader_Uvarint := fun _ => ⟨fok_PReader_Uvarint, by decide⟩
  PReader_Span := fun _ => fok_PReader_Span
  PReader_String := fun _ => ⟨fok_PReader_String, by decide, by decide⟩
  PReader_UnsafeString := fun _ => ⟨fok_PReader_UnsafeString, by decide, by decide, by decide⟩
  PReader_CompactString := fun _ => ⟨fok_PReader_CompactString, by decide, by decide⟩
  PReader_UnsafeCompactString := fun _ => ⟨fok_PReader_UnsafeCompactString, by decide, by decide, by decide⟩
  PReader_NullableString := fun _ => ⟨fok_PReader_NullableString, by decide, by decide⟩
  PReader_UnsafeNullableString := fun _ => ⟨fok_PReader_UnsafeNullableString, by decide, by decide, by decide⟩
  PReader_CompactNullableString := fun _ => ⟨fok_PReader_CompactNullableString, by decide, by decide⟩
  PReader_UnsafeCompactNullableString := fun _ => ⟨fok_PReader_UnsafeCompactNullableString, by decide, by decide, by decide⟩
  PReader_Bytes := fun h => absurd rfl h
  PReader_CompactBytes := fun h => absurd rfl h
  PReader_NullableBytes := fun h => absurd rfl h
  PReader_CompactNullableBytes := fun h => absurd rfl h
  PReader_ArrayLen := fun _ => ⟨fok_PReader_ArrayLen, by decide⟩
  PReader_CompactArrayLen := fun _ => ⟨fok_PReader_CompactArrayLen, by decide⟩
  PReader_Complete := fun _ => fok_PReader_Complete
  PReader_Ok := fun _ => fok_PReader_Ok
  PTags_Set := fun _ => fok_PTags_Set
  internalReadTags := fun _ => ⟨fok_internalReadTags, by decide, by decide, by decide⟩
  PTags_Each := fun _ => ⟨fok_PTags_Each, by decide, by decide⟩
  PTags_Each_1 := fun _ => fok_PTags_Each_1
  sorted := fun h => absurd rfl h
  boolTree := fun h => absurd rfl h
  textTree := fun h => absurd rfl h
  octetsTree := fun h => absurd rfl h
  spec_Same := fun _ => fok_spec_Same
  spec_SameTree := fun h => absurd rfl h
  version := fun _ => fok_version
  got := fun h => absurd rfl h
theorem specT : zsi Go.Proofs.Tryz.prog NS NS.zf NS.zah NS.zag NS.zp := ⟨sfB_ok (by kernel_rfl), sfB_ok (by kernel_rfl), ztt (by kernel_rfl), ztt (by kernel_rfl), ztt (by kernel_rfl), ztt (by kernel_rfl), ztt (by kernel_rfl), ztt (by kernel_rfl), ztt (by kernel_rfl), zhi (by kernel_rfl), zhi (by kernel_rfl)⟩
theorem spT : SpT Go.Proofs.Tryz.prog NS MS := ⟨sfB_ok (by kernel_rfl), ztt (by kernel_rfl), ztt (by kernel_rfl), ztt (by kernel_rfl), ztt (by kernel_rfl), ztt (by kernel_rfl), ztt (by kernel_rfl), ztt (by kernel_rfl), ztt (by kernel_rfl), zhi (by kernel_rfl), sfB_ok (by kernel_rfl), ztt (by kernel_rfl), ztt (by kernel_rfl), specT⟩
theorem treeO : TreeO Go.Proofs.Tryz.prog NS where
  tree := ⟨_, Go.Proofs.Tryz.underlying26, by kernel_rfl⟩
  tag := ⟨_, Go.Proofs.Tryz.underlying57, by kernel_rfl⟩
  cTree := by kernel_rfl
  cTag := by kernel_rfl
  c1 := ⟨by kernel_rfl, by kernel_rfl, by kernel_rfl, by kernel_rfl, by kernel_rfl, by kernel_rfl, by kernel_rfl⟩
theorem sp_zzFits3 : FOk Go.Proofs.Tryz.prog 30 1 (zuc NS MS) [.var 2] := ⟨Go.Proofs.Tryz.f30, _, [0, 1, 2, 6], Go.Proofs.Tryz.func30, rfl, by kernel_rfl, by kernel_rfl, by decide, by kernel_rfl, by kernel_rfl⟩
theorem sp_zzFits2 : FOk Go.Proofs.Tryz.prog 15 1 (zzz NS MS) [.var 1] := ⟨Go.Proofs.Tryz.f15, _, [0, 2, 7, 8, 9, 10, 11, 4, 16], Go.Proofs.Tryz.func15, rfl, by kernel_rfl, by kernel_rfl, by decide, by kernel_rfl, by kernel_rfl⟩
theorem sp_zzFits1 : FOk Go.Proofs.Tryz.prog 5 1 (zaaa NS MS) [.var 2] := ⟨Go.Proofs.Tryz.f5, _, [0, 1, 2, 6, 10, 14], Go.Proofs.Tryz.func5, rfl, by kernel_rfl, by kernel_rfl, by decide, by kernel_rfl, by kernel_rfl⟩
theorem sp_spec_Field_has : FOk Go.Proofs.Tryz.prog 32 2 (zjg NS MS) [.var 3] := ⟨Go.Proofs.Tryz.f32, _, [0, 1, 2, 4], Go.Proofs.Tryz.func32, rfl, by kernel_rfl, by kernel_rfl, by decide, by kernel_rfl, by kernel_rfl⟩
theorem sp_spec_Field_null : FOk Go.Proofs.Tryz.prog 56 3 (zij NS MS) [.var 5] := ⟨Go.Proofs.Tryz.f56, _, [0, 1, 2, 3, 5, 6], Go.Proofs.Tryz.func56, rfl, by kernel_rfl, by kernel_rfl, by decide, by kernel_rfl, by kernel_rfl⟩
theorem sp_spec_whole : FOk Go.Proofs.Tryz.prog 39 1 (znk NS MS) [.var 1] := ⟨Go.Proofs.Tryz.f39, _, [0, 2], Go.Proofs.Tryz.func39, rfl, by kernel_rfl, by kernel_rfl, by decide, by kernel_rfl, by kernel_rfl⟩
theorem sp_spec_things : FOk Go.Proofs.Tryz.prog 57 1 (zmf NS MS) [.var 1] := ⟨Go.Proofs.Tryz.f57, _, [0, 2], Go.Proofs.Tryz.func57, rfl, by kernel_rfl, by kernel_rfl, by decide, by kernel_rfl, by kernel_rfl⟩
theorem sp_spec_at : FOk Go.Proofs.Tryz.prog 34 2 (zqm NS MS) [.cell 3 NS.zf] := ⟨Go.Proofs.Tryz.f34, _, [0, 1, 2, 4, 9], Go.Proofs.Tryz.func34, rfl, by kernel_rfl, by kernel_rfl, by decide, by kernel_rfl, by kernel_rfl⟩
theorem sp_spec_Uvarint : FOk Go.Proofs.Tryz.prog 37 1 (zil NS MS) [.var 1] := ⟨Go.Proofs.Tryz.f37, _, [0, 2, 3, 5], Go.Proofs.Tryz.func37, rfl, by kernel_rfl, by kernel_rfl, by decide, by kernel_rfl, by kernel_rfl⟩
theorem sp_spec_Fixed : FOk Go.Proofs.Tryz.prog 60 2 (zkq NS MS) [.var 2] := ⟨Go.Proofs.Tryz.f60, _, [0, 1, 4, 5, 6, 10], Go.Proofs.Tryz.func60, rfl, by kernel_rfl, by kernel_rfl, by decide, by kernel_rfl, by kernel_rfl⟩
theorem sp_spec_width : FOk Go.Proofs.Tryz.prog 61 1 (znj NS MS) [.var 1] := ⟨Go.Proofs.Tryz.f61, _, [0, 2, 3, 4, 6, 9], Go.Proofs.Tryz.func61, rfl, by kernel_rfl, by kernel_rfl, by decide, by kernel_rfl, by kernel_rfl⟩
theorem sp_spec_counted : FOk Go.Proofs.Tryz.prog 58 4 (zlb NS MS) [.var 4] := ⟨Go.Proofs.Tryz.f58, _, [0, 1, 2, 3, 8, 9, 15, 21], Go.Proofs.Tryz.func58, rfl, by kernel_rfl, by kernel_rfl, by decide, by kernel_rfl, by kernel_rfl⟩
theorem sp_spec_value : FOk Go.Proofs.Tryz.prog 59 6 (zry NS MS) [.var 7] := ⟨Go.Proofs.Tryz.f59, _, [0, 1, 2, 3, 4, 5, 11, 12, 16, 17, 24, 13, 32, 14, 37, 45, 15, 50, 58], Go.Proofs.Tryz.func59, rfl, by kernel_rfl, by kernel_rfl, by decide, by kernel_rfl, by kernel_rfl⟩
theorem sp_spec_field : FOk Go.Proofs.Tryz.prog 33 4 (zrz NS MS) [.var 6] := ⟨Go.Proofs.Tryz.f33, _, [0, 1, 2, 3, 4, 7, 8, 9, 19, 10, 23, 11, 30, 31, 32, 12, 56, 57], Go.Proofs.Tryz.func33, rfl, by kernel_rfl, by kernel_rfl, by decide, by kernel_rfl, by kernel_rfl⟩
theorem sp_spec_known : FOk Go.Proofs.Tryz.prog 35 1 (znl NS MS) [.var 1] := ⟨Go.Proofs.Tryz.f35, _, [0, 2, 3, 6, 7, 8, 9, 5, 14], Go.Proofs.Tryz.func35, rfl, by kernel_rfl, by kernel_rfl, by decide, by kernel_rfl, by kernel_rfl⟩
theorem sp_spec_unknown : FOk Go.Proofs.Tryz.prog 38 2 (zou NS MS) [.var 2] := ⟨Go.Proofs.Tryz.f38, _, [0, 1, 4, 5, 6, 17, 18, 19, 20, 8, 9, 36, 58, 10, 68], Go.Proofs.Tryz.func38, rfl, by kernel_rfl, by kernel_rfl, by decide, by kernel_rfl, by kernel_rfl⟩
theorem sp_spec_part : FOk Go.Proofs.Tryz.prog 20 4 (zud NS MS) [.var 5] := ⟨Go.Proofs.Tryz.f20, _, [0, 1, 2, 3, 7, 8, 9, 10, 11, 21, 22, 23, 24, 13, 12, 35, 47, 51, 52, 53, 14, 55, 56, 57, 58, 16, 15, 73, 17, 100, 101, 102, 103, 19, 20], Go.Proofs.Tryz.func20, rfl, by kernel_rfl, by kernel_rfl, by decide, by kernel_rfl, by kernel_rfl⟩
theorem sp_spec_Write : FOk Go.Proofs.Tryz.prog 9 3 (zsa NS MS) [.var 5] := ⟨Go.Proofs.Tryz.f9, _, [0, 1, 2, 3, 5, 6], Go.Proofs.Tryz.func9, rfl, by kernel_rfl, by kernel_rfl, by decide, by kernel_rfl, by kernel_rfl⟩
theorem thSZ : SZ Go.Proofs.Tryz.prog NS MS := ⟨sp_zzFits3, sp_zzFits2, sp_zzFits1⟩
theorem thSW : SW Go.Proofs.Tryz.prog NS MS := ⟨sp_spec_Field_has, sp_spec_Field_null, sp_spec_whole, sp_spec_things, sp_spec_at, sp_spec_Uvarint, sp_spec_Fixed, sp_spec_width, sp_spec_counted, sp_spec_value, sp_spec_field, sp_spec_known, sp_spec_unknown, sp_spec_part, sp_spec_Write⟩
theorem ap_AppendInt16 : FOk Go.Proofs.Tryz.prog 52 2 (zgp NS AN) [.var 2] := ⟨Go.Proofs.Tryz.f52, _, [0, 1, 4], Go.Proofs.Tryz.func52, rfl, by kernel_rfl, by kernel_rfl, by decide, by kernel_rfl, by kernel_rfl⟩
theorem ap_AppendUint16 : FOk Go.Proofs.Tryz.prog 87 2 (zfd NS AN) [.var 2] := ⟨Go.Proofs.Tryz.f87, _, [0, 1, 4], Go.Proofs.Tryz.func87, rfl, by kernel_rfl, by kernel_rfl, by decide, by kernel_rfl, by kernel_rfl⟩
theorem ap_AppendInt32 : FOk Go.Proofs.Tryz.prog 48 2 (zfp NS AN) [.var 2] := ⟨Go.Proofs.Tryz.f48, _, [0, 1, 4], Go.Proofs.Tryz.func48, rfl, by kernel_rfl, by kernel_rfl, by decide, by kernel_rfl, by kernel_rfl⟩
theorem ap_AppendUint32 : FOk Go.Proofs.Tryz.prog 78 2 (zem NS AN) [.var 2] := ⟨Go.Proofs.Tryz.f78, _, [0, 1, 4], Go.Proofs.Tryz.func78, rfl, by kernel_rfl, by kernel_rfl, by decide, by kernel_rfl, by kernel_rfl⟩
theorem ap_AppendUuid : FOk Go.Proofs.Tryz.prog 55 2 (znq NS AN) [.var 3] := ⟨Go.Proofs.Tryz.f55, _, [0, 1, 3, 4], Go.Proofs.Tryz.func55, rfl, by kernel_rfl, by kernel_rfl, by decide, by kernel_rfl, by kernel_rfl⟩
theorem ap_AppendUvarint : FOk Go.Proofs.Tryz.prog 45 2 (znp NS AN) [.var 2] := ⟨Go.Proofs.Tryz.f45, _, [0, 1, 4, 6, 7, 34, 56, 73, 85], Go.Proofs.Tryz.func45, rfl, by kernel_rfl, by kernel_rfl, by decide, by kernel_rfl, by kernel_rfl⟩
theorem ap_AppendString : FOk Go.Proofs.Tryz.prog 44 2 (zin NS AN) [.var 2] := ⟨Go.Proofs.Tryz.f44, _, [0, 1, 4], Go.Proofs.Tryz.func44, rfl, by kernel_rfl, by kernel_rfl, by decide, by kernel_rfl, by kernel_rfl⟩
theorem ap_AppendCompactString : FOk Go.Proofs.Tryz.prog 43 2 (zex NS AN) [.var 2] := ⟨Go.Proofs.Tryz.f43, _, [0, 1, 4], Go.Proofs.Tryz.func43, rfl, by kernel_rfl, by kernel_rfl, by decide, by kernel_rfl, by kernel_rfl⟩
theorem ap_AppendNullableString : FOk Go.Proofs.Tryz.prog 54 2 (zfx NS AN) [.var 2] := ⟨Go.Proofs.Tryz.f54, _, [0, 1, 4, 6], Go.Proofs.Tryz.func54, rfl, by kernel_rfl, by kernel_rfl, by decide, by kernel_rfl, by kernel_rfl⟩
theorem ap_AppendCompactNullableString : FOk Go.Proofs.Tryz.prog 53 2 (zee NS AN) [.var 2] := ⟨Go.Proofs.Tryz.f53, _, [0, 1, 4, 6], Go.Proofs.Tryz.func53, rfl, by kernel_rfl, by kernel_rfl, by decide, by kernel_rfl, by kernel_rfl⟩
theorem ap_AppendArrayLen : FOk Go.Proofs.Tryz.prog 42 2 (zjh NS AN) [.var 2] := ⟨Go.Proofs.Tryz.f42, _, [0, 1, 4], Go.Proofs.Tryz.func42, rfl, by kernel_rfl, by kernel_rfl, by decide, by kernel_rfl, by kernel_rfl⟩
theorem ap_AppendCompactArrayLen : FOk Go.Proofs.Tryz.prog 41 2 (zfq NS AN) [.var 2] := ⟨Go.Proofs.Tryz.f41, _, [0, 1, 4], Go.Proofs.Tryz.func41, rfl, by kernel_rfl, by kernel_rfl, by decide, by kernel_rfl, by kernel_rfl⟩
theorem ap_UvarintLen : FOk Go.Proofs.Tryz.prog 75 1 (znm NS AN) [.var 1] := ⟨Go.Proofs.Tryz.f75, _, [0, 2], Go.Proofs.Tryz.func75, rfl, by kernel_rfl, by kernel_rfl, by decide, by kernel_rfl, by kernel_rfl⟩
theorem ap_math_bits_Len32 : FOk Go.Proofs.Tryz.prog 93 1 (zgo NS AN) [.var 1] := ⟨Go.Proofs.Tryz.f93, _, [0, 2, 4, 8], Go.Proofs.Tryz.func93, rfl, by kernel_rfl, by kernel_rfl, by decide, by kernel_rfl, by kernel_rfl⟩
theorem ap_PTags_Len : FOk Go.Proofs.Tryz.prog 46 1 (zmg NS AN) [.var 1] := ⟨Go.Proofs.Tryz.f46, _, [0, 2], Go.Proofs.Tryz.func46, rfl, by kernel_rfl, by kernel_rfl, by decide, by kernel_rfl, by kernel_rfl⟩
theorem ap_PTags_AppendEach : FOk Go.Proofs.Tryz.prog 47 2 (zga NS AN) [.var 3] := ⟨Go.Proofs.Tryz.f47, _, [0, 1, 3, 4], Go.Proofs.Tryz.func47, rfl, by kernel_rfl, by kernel_rfl, by decide, by kernel_rfl, by kernel_rfl⟩
theorem ap_PTags_AppendEach_1 : FOk Go.Proofs.Tryz.prog 77 3 (zej NS AN) [] := ⟨Go.Proofs.Tryz.f77, _, [0, 1, 2], Go.Proofs.Tryz.func77, rfl, by kernel_rfl, by kernel_rfl, by decide, by kernel_rfl, by kernel_rfl⟩
theorem apFns : ApFns Go.Proofs.Tryz.prog NS AN where
  b := fun h => absurd rfl h
  i8 := fun h => absurd rfl h
  u16 := ap_AppendUint16
  i16 := fun _ => ap_AppendInt16
  u32 := fun _ => ap_AppendUint32
  i32 := fun _ => ap_AppendInt32
  u64 := fun h => absurd rfl h
  i64 := fun h => absurd rfl h
  uu := fun _ => ⟨by decide, ap_AppendUuid⟩
  str := fun _ => ⟨by decide, ap_AppendString⟩
  cstr := fun _ => ap_AppendCompactString
  nstr := fun _ => ⟨by decide, by decide, ap_AppendNullableString⟩
  cnstr := fun _ => ⟨by decide, by decide, ap_AppendCompactNullableString⟩
  byt := fun h => absurd rfl h
  cbyt := fun h => absurd rfl h
  nob := ⟨rfl, rfl⟩
  al := fun _ => ⟨by decide, ap_AppendArrayLen⟩
  cal := fun _ => ap_AppendCompactArrayLen
  nal := fun h => absurd rfl h
  cnal := fun h => absurd rfl h
  uv := ⟨ap_math_bits_Len32, ap_UvarintLen, ap_AppendUvarint⟩
  tl := ap_PTags_Len
  ea := ap_PTags_AppendEach
  e1 := ap_PTags_AppendEach_1
theorem bulkF (H : Type) : BulkF (Proofs.YtgiejoemfbeaeaaGreatDoor.Rows.uptoBulk (H := H)) Proofs.YtgiejoemfbeaeaaGreatDoor.Rows.uptoBulkAll := ⟨fun l => by cases l <;> simp [Proofs.YtgiejoemfbeaeaaGreatDoor.Rows.uptoBulk], fun _ _ => rfl, fun _ => rfl, rfl, rfl, fun _ _ => rfl⟩

def slRen : Go.Shelf.Ren := ⟨fun | 6 => 94 | 10 => 98 | 11 => 99 | 12 => 100 | 13 => 101 | 14 => 102 | 24 => 93 | 25 => 112 | 26 => 113 | 27 => 114 | 28 => 115 | 29 => 116 | 30 => 117 | 31 => 118 | 32 => 119 | 33 => 120 | 34 => 121 | 35 => 122 | 36 => 123 | 37 => 124 | 38 => 125 | 39 => 126 | n => n, fun | 20 => 20 | 26 => 134 | 35 => 141 | 0 => 0 | 37 => 143 | 3 => 3 | 41 => 106 | 44 => 148 | 49 => 55 | 51 => 72 | 4 => 4 | 54 => 155 | 53 => 154 | 58 => 159 | 5 => 5 | 9 => 9 | 60 => 161 | 64 => 165 | 66 => 167 | 67 => 168 | 17 => 17 | 32 => 138 | 33 => 139 | 82 => 183 | 12 => 12 | 75 => 176 | 76 => 177 | 77 => 178 | 78 => 179 | 79 => 180 | 80 => 181 | n => n, fun | n => n⟩
theorem sl6 : Go.Proofs.LaysGg.n6 Go.Proofs.Tryz.prog slRen where
  mixed := by kernel_rfl
  f6 := Go.Proofs.Tryz.func94.trans (congrArg some (by kernel_rfl))
  f10 := Go.Proofs.Tryz.func98.trans (congrArg some (by kernel_rfl))
  f11 := Go.Proofs.Tryz.func99.trans (congrArg some (by kernel_rfl))
  f12 := Go.Proofs.Tryz.func100.trans (congrArg some (by kernel_rfl))
  f13 := Go.Proofs.Tryz.func101.trans (congrArg some (by kernel_rfl))
  f14 := Go.Proofs.Tryz.func102.trans (congrArg some (by kernel_rfl))
  f24 := Go.Proofs.Tryz.func93.trans (congrArg some (by kernel_rfl))
  f25 := Go.Proofs.Tryz.func112.trans (congrArg some (by kernel_rfl))
  f26 := Go.Proofs.Tryz.func113.trans (congrArg some (by kernel_rfl))
  f27 := Go.Proofs.Tryz.func114.trans (congrArg some (by kernel_rfl))
  f28 := Go.Proofs.Tryz.func115.trans (congrArg some (by kernel_rfl))
  f29 := Go.Proofs.Tryz.func116.trans (congrArg some (by kernel_rfl))
  f30 := Go.Proofs.Tryz.func117.trans (congrArg some (by kernel_rfl))
  f31 := Go.Proofs.Tryz.func118.trans (congrArg some (by kernel_rfl))
  f32 := Go.Proofs.Tryz.func119.trans (congrArg some (by kernel_rfl))
  f33 := Go.Proofs.Tryz.func120.trans (congrArg some (by kernel_rfl))
  f34 := Go.Proofs.Tryz.func121.trans (congrArg some (by kernel_rfl))
  f35 := Go.Proofs.Tryz.func122.trans (congrArg some (by kernel_rfl))
  f36 := Go.Proofs.Tryz.func123.trans (congrArg some (by kernel_rfl))
  f37 := Go.Proofs.Tryz.func124.trans (congrArg some (by kernel_rfl))
  f38 := Go.Proofs.Tryz.func125.trans (congrArg some (by kernel_rfl))
  f39 := Go.Proofs.Tryz.func126.trans (congrArg some (by kernel_rfl))
  t0 := Go.Proofs.Tryz.underlying0
  a0 := Go.Proofs.Tryz.isAgg0
  z0 := Go.Proofs.Tryz.sizeOf0
  v0 := Go.Proofs.Tryz.zeroValue0
  i0 := by kernel_rfl
  t3 := Go.Proofs.Tryz.underlying3
  a3 := Go.Proofs.Tryz.isAgg3
  z3 := Go.Proofs.Tryz.sizeOf3
  v3 := Go.Proofs.Tryz.zeroValue3
  i3 := by kernel_rfl
  t4 := Go.Proofs.Tryz.underlying4
  a4 := Go.Proofs.Tryz.isAgg4
  z4 := Go.Proofs.Tryz.sizeOf4
  v4 := Go.Proofs.Tryz.zeroValue4
  i4 := by kernel_rfl
  t5 := Go.Proofs.Tryz.underlying5
  a5 := Go.Proofs.Tryz.isAgg5
  z5 := Go.Proofs.Tryz.sizeOf5
  v5 := Go.Proofs.Tryz.zeroValue5
  i5 := by kernel_rfl
  t9 := Go.Proofs.Tryz.underlying9
  a9 := Go.Proofs.Tryz.isAgg9
  z9 := Go.Proofs.Tryz.sizeOf9
  v9 := Go.Proofs.Tryz.zeroValue9
  i9 := by kernel_rfl
  t12 := Go.Proofs.Tryz.underlying12
  a12 := Go.Proofs.Tryz.isAgg12
  z12 := Go.Proofs.Tryz.sizeOf12
  v12 := Go.Proofs.Tryz.zeroValue12
  i12 := by kernel_rfl
  t17 := Go.Proofs.Tryz.underlying17
  a17 := Go.Proofs.Tryz.isAgg17
  z17 := Go.Proofs.Tryz.sizeOf17
  v17 := Go.Proofs.Tryz.zeroValue17
  i17 := by kernel_rfl
  t20 := Go.Proofs.Tryz.underlying20
  a20 := Go.Proofs.Tryz.isAgg20
  z20 := Go.Proofs.Tryz.sizeOf20
  v20 := Go.Proofs.Tryz.zeroValue20
  i20 := by kernel_rfl
  t26 := Go.Proofs.Tryz.underlying134
  a26 := Go.Proofs.Tryz.isAgg134
  z26 := Go.Proofs.Tryz.sizeOf134
  v26 := Go.Proofs.Tryz.zeroValue134
  i26 := by kernel_rfl
  t32 := Go.Proofs.Tryz.underlying138
  a32 := Go.Proofs.Tryz.isAgg138
  z32 := Go.Proofs.Tryz.sizeOf138
  v32 := Go.Proofs.Tryz.zeroValue138
  i32 := by kernel_rfl
  t33 := Go.Proofs.Tryz.underlying139
  a33 := Go.Proofs.Tryz.isAgg139
  z33 := Go.Proofs.Tryz.sizeOf139
  v33 := Go.Proofs.Tryz.zeroValue139
  i33 := by kernel_rfl
  t35 := Go.Proofs.Tryz.underlying141
  a35 := Go.Proofs.Tryz.isAgg141
  z35 := Go.Proofs.Tryz.sizeOf141
  v35 := Go.Proofs.Tryz.zeroValue141
  i35 := by kernel_rfl
  t37 := Go.Proofs.Tryz.underlying143
  a37 := Go.Proofs.Tryz.isAgg143
  z37 := Go.Proofs.Tryz.sizeOf143
  v37 := Go.Proofs.Tryz.zeroValue143
  i37 := by kernel_rfl
  t41 := Go.Proofs.Tryz.underlying106
  a41 := Go.Proofs.Tryz.isAgg106
  z41 := Go.Proofs.Tryz.sizeOf106
  v41 := Go.Proofs.Tryz.zeroValue106
  i41 := by kernel_rfl
  t44 := Go.Proofs.Tryz.underlying148
  a44 := Go.Proofs.Tryz.isAgg148
  z44 := Go.Proofs.Tryz.sizeOf148
  v44 := Go.Proofs.Tryz.zeroValue148
  i44 := by kernel_rfl
  t49 := Go.Proofs.Tryz.underlying55
  a49 := Go.Proofs.Tryz.isAgg55
  z49 := Go.Proofs.Tryz.sizeOf55
  v49 := Go.Proofs.Tryz.zeroValue55
  i49 := by kernel_rfl
  t51 := Go.Proofs.Tryz.underlying72
  a51 := Go.Proofs.Tryz.isAgg72
  z51 := Go.Proofs.Tryz.sizeOf72
  v51 := Go.Proofs.Tryz.zeroValue72
  i51 := by kernel_rfl
  t53 := Go.Proofs.Tryz.underlying154
  a53 := Go.Proofs.Tryz.isAgg154
  z53 := Go.Proofs.Tryz.sizeOf154
  v53 := Go.Proofs.Tryz.zeroValue154
  i53 := by kernel_rfl
  t54 := Go.Proofs.Tryz.underlying155
  a54 := Go.Proofs.Tryz.isAgg155
  z54 := Go.Proofs.Tryz.sizeOf155
  v54 := Go.Proofs.Tryz.zeroValue155
  i54 := by kernel_rfl
  t58 := Go.Proofs.Tryz.underlying159
  a58 := Go.Proofs.Tryz.isAgg159
  z58 := Go.Proofs.Tryz.sizeOf159
  v58 := Go.Proofs.Tryz.zeroValue159
  i58 := by kernel_rfl
  t60 := Go.Proofs.Tryz.underlying161
  a60 := Go.Proofs.Tryz.isAgg161
  z60 := Go.Proofs.Tryz.sizeOf161
  v60 := Go.Proofs.Tryz.zeroValue161
  i60 := by kernel_rfl
  t64 := Go.Proofs.Tryz.underlying165
  a64 := Go.Proofs.Tryz.isAgg165
  z64 := Go.Proofs.Tryz.sizeOf165
  v64 := Go.Proofs.Tryz.zeroValue165
  i64 := by kernel_rfl
  t66 := Go.Proofs.Tryz.underlying167
  a66 := Go.Proofs.Tryz.isAgg167
  z66 := Go.Proofs.Tryz.sizeOf167
  v66 := Go.Proofs.Tryz.zeroValue167
  i66 := by kernel_rfl
  t67 := Go.Proofs.Tryz.underlying168
  a67 := Go.Proofs.Tryz.isAgg168
  z67 := Go.Proofs.Tryz.sizeOf168
  v67 := Go.Proofs.Tryz.zeroValue168
  i67 := by kernel_rfl
  t75 := Go.Proofs.Tryz.underlying176
  a75 := Go.Proofs.Tryz.isAgg176
  z75 := Go.Proofs.Tryz.sizeOf176
  v75 := Go.Proofs.Tryz.zeroValue176
  i75 := by kernel_rfl
  t76 := Go.Proofs.Tryz.underlying177
  a76 := Go.Proofs.Tryz.isAgg177
  z76 := Go.Proofs.Tryz.sizeOf177
  v76 := Go.Proofs.Tryz.zeroValue177
  i76 := by kernel_rfl
  t77 := Go.Proofs.Tryz.underlying178
  a77 := Go.Proofs.Tryz.isAgg178
  z77 := Go.Proofs.Tryz.sizeOf178
  v77 := Go.Proofs.Tryz.zeroValue178
  i77 := by kernel_rfl
  t78 := Go.Proofs.Tryz.underlying179
  a78 := Go.Proofs.Tryz.isAgg179
  z78 := Go.Proofs.Tryz.sizeOf179
  v78 := Go.Proofs.Tryz.zeroValue179
  i78 := by kernel_rfl
  t79 := Go.Proofs.Tryz.underlying180
  a79 := Go.Proofs.Tryz.isAgg180
  z79 := Go.Proofs.Tryz.sizeOf180
  v79 := Go.Proofs.Tryz.zeroValue180
  i79 := by kernel_rfl
  t80 := Go.Proofs.Tryz.underlying181
  a80 := Go.Proofs.Tryz.isAgg181
  z80 := Go.Proofs.Tryz.sizeOf181
  v80 := Go.Proofs.Tryz.zeroValue181
  i80 := by kernel_rfl
  t82 := Go.Proofs.Tryz.underlying183
  a82 := Go.Proofs.Tryz.isAgg183
  z82 := Go.Proofs.Tryz.sizeOf183
  v82 := Go.Proofs.Tryz.zeroValue183
  i82 := by kernel_rfl

noncomputable def sI : TypeInfo := (Go.Proofs.Tryz.prog.info? NS.zbk).get (by kernel_rfl)
noncomputable def sE : TypeInfo := (Go.Proofs.Tryz.prog.info? NS.zb).get (by kernel_rfl)
theorem sortT : SortT Go.Proofs.Tryz.prog NS where
  has := ⟨_, Go.Proofs.Tryz.func94, by kernel_rfl, by kernel_rfl⟩
  out := ⟨slRen, sI, sE, 108, 104, sl6, by kernel_rfl, by kernel_rfl, by kernel_rfl, by kernel_rfl, by kernel_rfl, fun _ => by kernel_rfl, by kernel_rfl, by kernel_rfl, by kernel_rfl, by kernel_rfl, by kernel_rfl,
    fun args W => run_callFunc_extern Go.Proofs.Tryz.func108 (by kernel_rfl) (by kernel_rfl) (by kernel_rfl) (e := Extern.ReflectliteSwapper.swap true) (by kernel_rfl) args W⟩
theorem lu : LU Go.Proofs.Tryz.prog NS := ⟨zhi (by kernel_rfl)⟩
theorem eachN : EachN Go.Proofs.Tryz.prog NS := ⟨by decide, by decide, lu, sortOk baseS fnsS (by decide) lu sortT⟩
theorem apC : ApC Go.Proofs.Tryz.prog NS AN := apC_of baseS apFns eachN

theorem own : ownKnob Go.Proofs.Tryz.prog.godebug = none := by kernel_rfl
theorem laidOut : laidOutB Go.Proofs.Tryz.prog = true := by kernel_rfl
theorem gO : Go.Proofs.Tryz.prog.globalNamed "pub-mailsack/pub/kmsg/inner/kbin.ErrNotEnoughData" = some 0 := by kernel_rfl
theorem gT : (Go.Proofs.Tryz.prog.globals[0]?).map (·.type) = some 50 := by kernel_rfl
theorem cS : Go.Proofs.Tryz.prog.cellsOf 188 = 1 := by kernel_rfl
theorem cStr : Go.Proofs.Tryz.prog.cellsOf 9 = 1 := by kernel_rfl
theorem star : "*" ++ "errors.errorString" = "*errors.errorString" := by decide
theorem rowP (u : TypeId) (h : Go.Proofs.Tryz.prog.typeName? 3 u = some "*errors.errorString") : u = 170 :=
  typeName_ptr_named (nm := "errors.errorString") (by rw [star]; kernel_rfl) (by kernel_rfl) (by decide) u (by rw [star]; exact h)
theorem bandT {a b : Bool} (h : a = true) (h' : b = true) : (a && b) = true := by rw [h, h']; rfl
theorem bigEnter : Go.Proofs.Tryz.prog.mayEnter = true := by kernel_rfl
theorem bigLifts : (Proofs.YtgiejoemfbeaeaaGreatDoor.Rows.fnBehindDescribeTopicPartitionsRequestRow.lifted == Go.Proofs.Tryz.prog.liftsFinal) = true := by kernel_rfl
theorem bigMake : (Go.Proofs.Tryz.prog.make == some Proofs.YtgiejoemfbeaeaaGreatDoor.Rows.fnBehindDescribeTopicPartitionsRequestRow.make) = true := by kernel_rfl
theorem stopsHeardS : Go.Proofs.Tryz.prog.stopsHeard = true := by kernel_rfl
theorem mapsRowedS : mapsRowed Go.Proofs.Tryz.prog = true := by kernel_rfl
theorem plainKeysS : (Proofs.YtgiejoemfbeaeaaGreatDoor.Rows.fnBehindDescribeTopicPartitionsRequestRow.plainKeys == Go.Proofs.Tryz.prog.plainKeys) = true := by kernel_rfl
theorem mainS : Go.Proofs.Tryz.prog.mainIs = some (Proofs.YtgiejoemfbeaeaaGreatDoor.Rows.fnBehindDescribeTopicPartitionsRequestCard.stood.harness.1, Proofs.YtgiejoemfbeaeaaGreatDoor.Rows.fnBehindDescribeTopicPartitionsRequestCard.stood.harness.2.toList) := by kernel_rfl
theorem looksS : false = Go.Proofs.Tryz.prog.looks [] := by kernel_rfl
theorem shaped (os : Os) (args : Array Value) : ((World.doorLaid Go.Proofs.Tryz.prog 400 os).forCall (fun _ _ => 0) ⟨#[], args, []⟩).Shaped Go.Proofs.Tryz.prog := World.shaped_of_RefB (by kernel_rfl) (by kernel_rfl)
theorem door_met (os : Os) (args : Array Value) : laidMetH Go.Proofs.Tryz.prog Proofs.YtgiejoemfbeaeaaGreatDoor.Rows.fnBehindDescribeTopicPartitionsRequestRow.laid ((World.doorLaid Go.Proofs.Tryz.prog 400 os).forCall (fun _ _ => 0) ⟨#[], args, []⟩).memory :=
  laidMetH_of_parts3 (fuel := 8) (laidMet_of_run' 8 (by kernel_rfl) (by kernel_rfl)) (by kernel_rfl) (by kernel_rfl)
end Go.Kf
