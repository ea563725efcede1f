/- Closed facts of this translation: its numbers, its shared functions' codes, its types; no condition. -/
import Derived.Test.YtplpomlhhaccgaaDoorKg
import Derived.Shelf.GgSortFunc.Whole
import Derived.Test.YtplpomlhhaccgaaDoorRows
import Derived.Test.YtplpomlhhaccgaaDoorTie
import Derived.Test.YtplpomlhhaccgaaDoorCards
import Derived.LaidMore
import Derived.Stop.Joined
import Derived.Stop.LaidErr
import Derived.SevenTiedAt
import Derived.Deep.DeepHandedRow
import Derived.JoinedCond
set_option linter.unusedSimpArgs false
set_option linter.unusedVariables false
set_option maxRecDepth 100000
namespace Go.Kf
open Go

def NS : Nums where
  zcn := 96
  zbt := 113
  zbe := 98
  zbd := 94
  zbx := 95
  zfi := 106
  zce := 115
  zep := 97
  zaf := 119
  zdr := 101
  zay := 112
  zbj := 114
  zck := 100
  zaj := 121
  zde := 120
  zge := 84
  zcy := 111
  zhc := 122
  zcs := 118
  zjv := 129
  zdp := 116
  zdo := 117
  zdn := 128
  zqd := 16
  zdc := 109
  zgd := 110
  zmf := 86
  zbr := 43
  zgz := 89
  zju := 11
  zfg := 0
  zan := 1
  t_ := 0
  zej := 35
  zy := 34
  zj := 24
  zk := 23
  zbf := 146
  za := 22
  zba := 144
  zcm := 122
  zae := 128
  zhj := 70
  zdh := 116
  zab := 37
  zbw := 151
  zad := 4
  zgv := 56
  zmz := 148
  zmk := 120
  zg := 3
  zcj := 47
  zct := 21
  zau := 2
  ztb := 140
  zxn := 20
  zag := 114
  zz := 67
  zb := 26
  zav := 9
  zgs := 139
  zgg := 141
  zp := 65
  zvp := 170
  zar := 101
  zv := 5

def MS : zcc where
  zdq := 38
  zen := 75
  zee := 50
  zdw := 15
  zkj := 14
  zgc := 41
  zcr := 73
  zli := 13
  zgn := 37
  zdl := 104
  zhn := 71
  zhm := 72
  zes := 77
  zio := 36
  zgm := 76
  zha := 40
  zhg := 42
  zlh := 39
  zhl := 105
  zdf := 44
  zjc := 74
  zrp := 8
  zro := 29
  zok := 66
  zaa := 29
  zf := 52
  zam := 31

theorem baseS : Base Go.Proofs.Tryd.prog NS := base_ok (by kernel_rfl) (by kernel_rfl) (by kernel_rfl)

theorem fok_bigEndian_Uint16 : FOk Go.Proofs.Tryd.prog 116 2 (zjh NS) [.var 2] := ⟨Go.Proofs.Tryd.f116, _, [0, 1, 4], Go.Proofs.Tryd.func116, rfl, by kernel_rfl, by kernel_rfl, by decide, by kernel_rfl, by kernel_rfl⟩
theorem fok_bigEndian_Uint32 : FOk Go.Proofs.Tryd.prog 117 2 (zjg NS) [.var 2] := ⟨Go.Proofs.Tryd.f117, _, [0, 1, 4], Go.Proofs.Tryd.func117, rfl, by kernel_rfl, by kernel_rfl, by decide, by kernel_rfl, by kernel_rfl⟩
theorem fok_bigEndian_Uint64 : FOk Go.Proofs.Tryd.prog 128 2 (zjf NS) [.var 2] := ⟨Go.Proofs.Tryd.f128, _, [0, 1, 4], Go.Proofs.Tryd.func128, rfl, by kernel_rfl, by kernel_rfl, by decide, by kernel_rfl, by kernel_rfl⟩
theorem fok_UnsafeString : FOk Go.Proofs.Tryd.prog 118 1 (zmt NS) [.var 1] := ⟨Go.Proofs.Tryd.f118, _, [0, 2], Go.Proofs.Tryd.func118, rfl, by kernel_rfl, by kernel_rfl, by decide, by kernel_rfl, by kernel_rfl⟩
theorem fok_Uvarint : FOk Go.Proofs.Tryd.prog 129 1 (zwu NS) [.var 1, .var 2] := ⟨Go.Proofs.Tryd.f129, _, [0, 2, 3, 4, 5, 8, 18, 22, 35, 39, 52, 56, 69, 73, 84], Go.Proofs.Tryd.func129, rfl, by kernel_rfl, by kernel_rfl, by decide, by kernel_rfl, by kernel_rfl⟩
theorem fok_PReader_Int16 : FOk Go.Proofs.Tryd.prog 94 1 (zsd NS) [.var 1] := ⟨Go.Proofs.Tryd.f94, _, [0, 2, 9, 3], Go.Proofs.Tryd.func94, rfl, by kernel_rfl, by kernel_rfl, by decide, by kernel_rfl, by kernel_rfl⟩
theorem fok_PReader_Int32 : FOk Go.Proofs.Tryd.prog 95 1 (zsc NS) [.var 1] := ⟨Go.Proofs.Tryd.f95, _, [0, 2, 9, 3], Go.Proofs.Tryd.func95, rfl, by kernel_rfl, by kernel_rfl, by decide, by kernel_rfl, by kernel_rfl⟩
theorem fok_PReader_readUint64 : FOk Go.Proofs.Tryd.prog 120 1 (zmp NS) [.var 1] := ⟨Go.Proofs.Tryd.f120, _, [0, 2, 9, 3], Go.Proofs.Tryd.func120, rfl, by kernel_rfl, by kernel_rfl, by decide, by kernel_rfl, by kernel_rfl⟩
theorem fok_PReader_Int64 : FOk Go.Proofs.Tryd.prog 106 1 (zlp NS) [.var 1] := ⟨Go.Proofs.Tryd.f106, _, [0, 2], Go.Proofs.Tryd.func106, rfl, by kernel_rfl, by kernel_rfl, by decide, by kernel_rfl, by kernel_rfl⟩
theorem fok_PReader_Uvarint : FOk Go.Proofs.Tryd.prog 121 1 (zjw NS) [.var 1] := ⟨Go.Proofs.Tryd.f121, _, [0, 2, 3, 4, 14], Go.Proofs.Tryd.func121, rfl, by kernel_rfl, by kernel_rfl, by decide, by kernel_rfl, by kernel_rfl⟩
theorem fok_PReader_Span : FOk Go.Proofs.Tryd.prog 119 2 (zmw NS) [.var 2] := ⟨Go.Proofs.Tryd.f119, _, [0, 1, 4, 16, 5], Go.Proofs.Tryd.func119, rfl, by kernel_rfl, by kernel_rfl, by decide, by kernel_rfl, by kernel_rfl⟩
theorem fok_PReader_String : FOk Go.Proofs.Tryd.prog 101 1 (zkr NS) [.var 1] := ⟨Go.Proofs.Tryd.f101, _, [0, 2, 3], Go.Proofs.Tryd.func101, rfl, by kernel_rfl, by kernel_rfl, by decide, by kernel_rfl, by kernel_rfl⟩
theorem fok_PReader_UnsafeString : FOk Go.Proofs.Tryd.prog 100 1 (zgt NS) [.var 1] := ⟨Go.Proofs.Tryd.f100, _, [0, 2, 3], Go.Proofs.Tryd.func100, rfl, by kernel_rfl, by kernel_rfl, by decide, by kernel_rfl, by kernel_rfl⟩
theorem fok_PReader_NullableString : FOk Go.Proofs.Tryd.prog 115 1 (zgf NS) [.var 1] := ⟨Go.Proofs.Tryd.f115, _, [0, 2, 3, 8, 4], Go.Proofs.Tryd.func115, rfl, by kernel_rfl, by kernel_rfl, by decide, by kernel_rfl, by kernel_rfl⟩
theorem fok_PReader_UnsafeNullableString : FOk Go.Proofs.Tryd.prog 114 1 (zeq NS) [.var 1] := ⟨Go.Proofs.Tryd.f114, _, [0, 2, 3, 8, 4], Go.Proofs.Tryd.func114, rfl, by kernel_rfl, by kernel_rfl, by decide, by kernel_rfl, by kernel_rfl⟩
theorem fok_PReader_CompactNullableString : FOk Go.Proofs.Tryd.prog 113 1 (zeo NS) [.var 1] := ⟨Go.Proofs.Tryd.f113, _, [0, 2, 3, 10, 4], Go.Proofs.Tryd.func113, rfl, by kernel_rfl, by kernel_rfl, by decide, by kernel_rfl, by kernel_rfl⟩
theorem fok_PReader_UnsafeCompactNullableString : FOk Go.Proofs.Tryd.prog 112 1 (zdu NS) [.var 1] := ⟨Go.Proofs.Tryd.f112, _, [0, 2, 3, 10, 4], Go.Proofs.Tryd.func112, rfl, by kernel_rfl, by kernel_rfl, by decide, by kernel_rfl, by kernel_rfl⟩
theorem fok_PReader_ArrayLen : FOk Go.Proofs.Tryd.prog 96 1 (zjj NS) [.var 1] := ⟨Go.Proofs.Tryd.f96, _, [0, 2, 3, 13], Go.Proofs.Tryd.func96, rfl, by kernel_rfl, by kernel_rfl, by decide, by kernel_rfl, by kernel_rfl⟩
theorem fok_PReader_Complete : FOk Go.Proofs.Tryd.prog 98 1 (zji NS) [.var 1] := ⟨Go.Proofs.Tryd.f98, _, [0, 2, 6], Go.Proofs.Tryd.func98, rfl, by kernel_rfl, by kernel_rfl, by decide, by kernel_rfl, by kernel_rfl⟩
theorem fok_PReader_Ok : FOk Go.Proofs.Tryd.prog 97 1 (zpz NS) [.var 1] := ⟨Go.Proofs.Tryd.f97, _, [0, 2], Go.Proofs.Tryd.func97, rfl, by kernel_rfl, by kernel_rfl, by decide, by kernel_rfl, by kernel_rfl⟩
theorem fok_PTags_Set : FOk Go.Proofs.Tryd.prog 122 3 (zsb NS) [] := ⟨Go.Proofs.Tryd.f122, _, [0, 1, 2, 10], Go.Proofs.Tryd.func122, rfl, by kernel_rfl, by kernel_rfl, by decide, by kernel_rfl, by kernel_rfl⟩
theorem fok_internalReadTags : FOk Go.Proofs.Tryd.prog 109 1 (zje NS) [.cell 1 NS.zdh] := ⟨Go.Proofs.Tryd.f109, _, [0, 2, 3, 4, 10, 5, 6], Go.Proofs.Tryd.func109, rfl, by kernel_rfl, by kernel_rfl, by decide, by kernel_rfl, by kernel_rfl⟩
theorem fok_PTags_Each : FOk Go.Proofs.Tryd.prog 84 2 (zpy NS) [] := ⟨Go.Proofs.Tryd.f84, _, [0, 1, 13, 4, 24, 26, 5, 37, 38, 39, 40, 7], Go.Proofs.Tryd.func84, rfl, by kernel_rfl, by kernel_rfl, by decide, by kernel_rfl, by kernel_rfl⟩
theorem fok_PTags_Each_1 : FOk Go.Proofs.Tryd.prog 111 3 (zmu NS) [.var 3] := ⟨Go.Proofs.Tryd.f111, _, [0, 1, 2, 5], Go.Proofs.Tryd.func111, rfl, by kernel_rfl, by kernel_rfl, by decide, by kernel_rfl, by kernel_rfl⟩
theorem fok_sorted : FOk Go.Proofs.Tryd.prog 86 1 (c_sorted NS) [] := ⟨Go.Proofs.Tryd.f86, _, [0, 5, 6, 7, 2, 3, 25], Go.Proofs.Tryd.func86, rfl, by kernel_rfl, by kernel_rfl, by decide, by kernel_rfl, by kernel_rfl⟩
theorem fok_textTree : FOk Go.Proofs.Tryd.prog 89 1 (ztu NS) [.cell 1 NS.zab] := ⟨Go.Proofs.Tryd.f89, _, [0, 2, 4], Go.Proofs.Tryd.func89, rfl, by kernel_rfl, by kernel_rfl, by decide, by kernel_rfl, by kernel_rfl⟩
theorem fok_spec_Same : FOk Go.Proofs.Tryd.prog 43 2 (zsa NS) [.var 2] := ⟨Go.Proofs.Tryd.f43, _, [0, 1, 4, 10, 12, 13, 14, 5, 24], Go.Proofs.Tryd.func43, rfl, by kernel_rfl, by kernel_rfl, by decide, by kernel_rfl, by kernel_rfl⟩
theorem fok_version : FOk Go.Proofs.Tryd.prog 11 2 (zwt NS) [.var 2] := ⟨Go.Proofs.Tryd.f11, _, [0, 1, 4], Go.Proofs.Tryd.func11, rfl, by kernel_rfl, by kernel_rfl, by decide, by kernel_rfl, by kernel_rfl⟩
theorem fok_got : FOk Go.Proofs.Tryd.prog 16 1 (c_got NS) [.cell 2 NS.zb] := ⟨Go.Proofs.Tryd.f16, _, [0, 1, 2, 3, 16, 17, 18, 19, 5, 31, 32, 33, 34, 7], Go.Proofs.Tryd.func16, rfl, by kernel_rfl, by kernel_rfl, by decide, by kernel_rfl, by kernel_rfl⟩

theorem fnsS : Fns Go.Proofs.Tryd.prog NS where
  bigEndian_Uint16 := fun _ => fok_bigEndian_Uint16
  bigEndian_Uint32 := fun _ => fok_bigEndian_Uint32
  bigEndian_Uint64 := fun _ => fok_bigEndian_Uint64
  UnsafeString := fun _ => fok_UnsafeString
  Uvarint := fun _ => fok_Uvarint
  PReader_Bool := fun h => absurd rfl h
  PReader_Int8 := fun h => absurd rfl h
  PReader_Int16 := fun _ => ⟨fok_PReader_Int16, by decide⟩
  PReader_Int32 := fun _ => ⟨fok_PReader_Int32, by decide⟩
  PReader_readUint64 := fun _ => ⟨fok_PReader_readUint64, by decide⟩
  PReader_Int64 := fun _ => ⟨fok_PReader_Int64, by decide⟩
  PReader_Uuid := fun h => absurd rfl h
  PReader_Uvarint := fun _ => ⟨fok_PReader_Uvarint, by decide⟩
  PReader_Span := fun _ => fok_PReader_Span
  PReader_String := fun _ => ⟨fok_PReader_String, by decide, by decide⟩
  PReader_UnsafeString := fun _ => ⟨fok_PReader_UnsafeString, by decide, by decide, by decide⟩
  PReader_CompactString := fun h => absurd rfl h
  PReader_UnsafeCompactString := fun h => absurd rfl h
  PReader_NullableString := fun _ => ⟨fok_PReader_NullableString, by decide, by decide⟩
  PReader_UnsafeNullableString := fun _ => ⟨fok_PReader_UnsafeNullableString, by decide, by decide, by decide⟩
  PReader_CompactNullableString := fun _ => ⟨fok_PReader_CompactNullableString, by decide, by decide⟩
  PReader_UnsafeCompactNullableString := fun _ => ⟨fok_PReader_UnsafeCompactNullableString, by decide, by decide, by decide⟩
  PReader_Bytes := fun h => absurd rfl h
  PReader_CompactBytes := fun h => absurd rfl h
  PReader_NullableBytes := fun h => absurd rfl h
  PReader_CompactNullableBytes := fun h => absurd rfl h
  PReader_ArrayLen := fun _ => ⟨fok_PReader_ArrayLen, by decide⟩
  PReader_CompactArrayLen := fun h => absurd rfl h
  PReader_Complete := fun _ => fok_PReader_Complete
  PReader_Ok := fun _ => fok_PReader_Ok
  PTags_Set := fun _ => fok_PTags_Set
  internalReadTags := fun _ => ⟨fok_internalReadTags, by decide, by decide, by decide⟩
  PTags_Each := fun _ => ⟨fok_PTags_Each, by decide, by decide⟩
  PTags_Each_1 := fun _ => fok_PTags_Each_1
  sorted := fun _ => fok_sorted
  boolTree := fun h => absurd rfl h
  textTree := fun _ => fok_textTree
  octetsTree := fun h => absurd rfl h
  spec_Same := fun _ => fok_spec_Same
  spec_SameTree := fun h => absurd rfl h
  version := fun _ => fok_version
  got := fun _ => fok_got

theorem implT : zfc Go.Proofs.Tryd.prog NS := ⟨sfB_ok (by kernel_rfl), sfB_ok (by kernel_rfl), ztq (by kernel_rfl), ztq (by kernel_rfl), ztq (by kernel_rfl), ztq (by kernel_rfl), ztq (by kernel_rfl), ztq (by kernel_rfl), ztq (by kernel_rfl), zhq (by kernel_rfl), zhq (by kernel_rfl)⟩
theorem specT : zfz Go.Proofs.Tryd.prog NS NS.zb NS.zz NS.zk NS.zj := ⟨sfB_ok (by kernel_rfl), sfB_ok (by kernel_rfl), ztq (by kernel_rfl), ztq (by kernel_rfl), ztq (by kernel_rfl), ztq (by kernel_rfl), ztq (by kernel_rfl), ztq (by kernel_rfl), ztq (by kernel_rfl), zhq (by kernel_rfl), zhq (by kernel_rfl)⟩
theorem spT : SpT Go.Proofs.Tryd.prog NS MS := ⟨sfB_ok (by kernel_rfl), ztq (by kernel_rfl), ztq (by kernel_rfl), ztq (by kernel_rfl), ztq (by kernel_rfl), ztq (by kernel_rfl), ztq (by kernel_rfl), ztq (by kernel_rfl), ztq (by kernel_rfl), zhq (by kernel_rfl), sfB_ok (by kernel_rfl), ztq (by kernel_rfl), ztq (by kernel_rfl), specT⟩
theorem treeO : TreeO Go.Proofs.Tryd.prog NS where
  tree := ⟨_, Go.Proofs.Tryd.underlying26, by kernel_rfl⟩
  tag := ⟨_, Go.Proofs.Tryd.underlying67, by kernel_rfl⟩
  cTree := by kernel_rfl
  cTag := by kernel_rfl
  c1 := ⟨by kernel_rfl, by kernel_rfl, by kernel_rfl, by kernel_rfl, by kernel_rfl, by kernel_rfl, by kernel_rfl⟩
theorem sp_zzFits3 : FOk Go.Proofs.Tryd.prog 66 1 (zru NS MS) [.var 2] := ⟨Go.Proofs.Tryd.f66, _, [0, 1, 2, 6], Go.Proofs.Tryd.func66, rfl, by kernel_rfl, by kernel_rfl, by decide, by kernel_rfl, by kernel_rfl⟩
theorem sp_zzFits2 : FOk Go.Proofs.Tryd.prog 29 1 (zwr NS MS) [.var 1] := ⟨Go.Proofs.Tryd.f29, _, [0, 2, 7, 8, 9, 10, 11, 4, 16], Go.Proofs.Tryd.func29, rfl, by kernel_rfl, by kernel_rfl, by decide, by kernel_rfl, by kernel_rfl⟩
theorem sp_zzFits1 : FOk Go.Proofs.Tryd.prog 8 1 (zws NS MS) [.var 2] := ⟨Go.Proofs.Tryd.f8, _, [0, 1, 2, 6, 10, 14], Go.Proofs.Tryd.func8, rfl, by kernel_rfl, by kernel_rfl, by decide, by kernel_rfl, by kernel_rfl⟩
theorem sp_spec_Field_has : FOk Go.Proofs.Tryd.prog 38 2 (zho NS MS) [.var 3] := ⟨Go.Proofs.Tryd.f38, _, [0, 1, 2, 4], Go.Proofs.Tryd.func38, rfl, by kernel_rfl, by kernel_rfl, by decide, by kernel_rfl, by kernel_rfl⟩
theorem sp_spec_Field_null : FOk Go.Proofs.Tryd.prog 75 3 (zhd NS MS) [.var 5] := ⟨Go.Proofs.Tryd.f75, _, [0, 1, 2, 3, 5, 6], Go.Proofs.Tryd.func75, rfl, by kernel_rfl, by kernel_rfl, by decide, by kernel_rfl, by kernel_rfl⟩
theorem sp_spec_whole : FOk Go.Proofs.Tryd.prog 44 1 (zln NS MS) [.var 1] := ⟨Go.Proofs.Tryd.f44, _, [0, 2], Go.Proofs.Tryd.func44, rfl, by kernel_rfl, by kernel_rfl, by decide, by kernel_rfl, by kernel_rfl⟩
theorem sp_spec_things : FOk Go.Proofs.Tryd.prog 76 1 (zkk NS MS) [.var 1] := ⟨Go.Proofs.Tryd.f76, _, [0, 2], Go.Proofs.Tryd.func76, rfl, by kernel_rfl, by kernel_rfl, by decide, by kernel_rfl, by kernel_rfl⟩
theorem sp_spec_at : FOk Go.Proofs.Tryd.prog 37 2 (zrx NS MS) [.cell 3 NS.zb] := ⟨Go.Proofs.Tryd.f37, _, [0, 1, 2, 4, 9], Go.Proofs.Tryd.func37, rfl, by kernel_rfl, by kernel_rfl, by decide, by kernel_rfl, by kernel_rfl⟩
theorem sp_spec_Uvarint : FOk Go.Proofs.Tryd.prog 73 1 (zhh NS MS) [.var 1] := ⟨Go.Proofs.Tryd.f73, _, [0, 2, 3, 5], Go.Proofs.Tryd.func73, rfl, by kernel_rfl, by kernel_rfl, by decide, by kernel_rfl, by kernel_rfl⟩
theorem sp_spec_Fixed : FOk Go.Proofs.Tryd.prog 50 2 (zjd NS MS) [.var 2] := ⟨Go.Proofs.Tryd.f50, _, [0, 1, 4, 5, 6, 10], Go.Proofs.Tryd.func50, rfl, by kernel_rfl, by kernel_rfl, by decide, by kernel_rfl, by kernel_rfl⟩
theorem sp_spec_width : FOk Go.Proofs.Tryd.prog 74 1 (zlm NS MS) [.var 1] := ⟨Go.Proofs.Tryd.f74, _, [0, 2, 3, 4, 6, 9], Go.Proofs.Tryd.func74, rfl, by kernel_rfl, by kernel_rfl, by decide, by kernel_rfl, by kernel_rfl⟩
theorem sp_spec_counted : FOk Go.Proofs.Tryd.prog 104 4 (zjl NS MS) [.var 4] := ⟨Go.Proofs.Tryd.f104, _, [0, 1, 2, 3, 8, 9, 15, 21], Go.Proofs.Tryd.func104, rfl, by kernel_rfl, by kernel_rfl, by decide, by kernel_rfl, by kernel_rfl⟩
theorem sp_spec_value : FOk Go.Proofs.Tryd.prog 105 6 (zpt NS MS) [.var 7] := ⟨Go.Proofs.Tryd.f105, _, [0, 1, 2, 3, 4, 5, 11, 12, 16, 17, 24, 13, 32, 14, 37, 45, 15, 50, 58], Go.Proofs.Tryd.func105, rfl, by kernel_rfl, by kernel_rfl, by decide, by kernel_rfl, by kernel_rfl⟩
theorem sp_spec_field : FOk Go.Proofs.Tryd.prog 71 4 (zpu NS MS) [.var 6] := ⟨Go.Proofs.Tryd.f71, _, [0, 1, 2, 3, 4, 7, 8, 9, 19, 10, 23, 11, 30, 31, 32, 12, 56, 57], Go.Proofs.Tryd.func71, rfl, by kernel_rfl, by kernel_rfl, by decide, by kernel_rfl, by kernel_rfl⟩
theorem sp_spec_known : FOk Go.Proofs.Tryd.prog 72 1 (zlo NS MS) [.var 1] := ⟨Go.Proofs.Tryd.f72, _, [0, 2, 3, 6, 7, 8, 9, 5, 14], Go.Proofs.Tryd.func72, rfl, by kernel_rfl, by kernel_rfl, by decide, by kernel_rfl, by kernel_rfl⟩
theorem sp_spec_unknown : FOk Go.Proofs.Tryd.prog 42 2 (zms NS MS) [.var 2] := ⟨Go.Proofs.Tryd.f42, _, [0, 1, 4, 5, 6, 17, 18, 19, 20, 8, 9, 36, 58, 10, 68], Go.Proofs.Tryd.func42, rfl, by kernel_rfl, by kernel_rfl, by decide, by kernel_rfl, by kernel_rfl⟩
theorem sp_spec_part : FOk Go.Proofs.Tryd.prog 36 4 (zrw NS MS) [.var 5] := ⟨Go.Proofs.Tryd.f36, _, [0, 1, 2, 3, 7, 8, 9, 10, 11, 21, 22, 23, 24, 13, 12, 35, 47, 51, 52, 53, 14, 55, 56, 57, 58, 16, 15, 73, 17, 100, 101, 102, 103, 19, 20], Go.Proofs.Tryd.func36, rfl, by kernel_rfl, by kernel_rfl, by decide, by kernel_rfl, by kernel_rfl⟩
theorem sp_spec_Write : FOk Go.Proofs.Tryd.prog 13 3 (zpv NS MS) [.var 5] := ⟨Go.Proofs.Tryd.f13, _, [0, 1, 2, 3, 5, 6], Go.Proofs.Tryd.func13, rfl, by kernel_rfl, by kernel_rfl, by decide, by kernel_rfl, by kernel_rfl⟩
theorem sp_spec_number : FOk Go.Proofs.Tryd.prog 77 2 (zkl NS MS) [.var 2] := ⟨Go.Proofs.Tryd.f77, _, [0, 1, 4, 5, 6, 10, 15, 20, 25], Go.Proofs.Tryd.func77, rfl, by kernel_rfl, by kernel_rfl, by decide, by kernel_rfl, by kernel_rfl⟩
theorem sp_spec_Usual : FOk Go.Proofs.Tryd.prog 41 2 (zpw NS MS) [.var 3] := ⟨Go.Proofs.Tryd.f41, _, [0, 1, 3, 4, 11, 12, 13, 14, 15, 6, 5, 7, 23, 32, 45, 46, 52, 53, 65, 66, 87, 31], Go.Proofs.Tryd.func41, rfl, by kernel_rfl, by kernel_rfl, by decide, by kernel_rfl, by kernel_rfl⟩
theorem sp_spec_told : FOk Go.Proofs.Tryd.prog 40 5 (zrv NS MS) [.var 8] := ⟨Go.Proofs.Tryd.f40, _, [0, 1, 2, 3, 4, 5, 8, 9, 10, 11, 12, 46, 47, 49, 50, 59, 13, 70, 79, 14, 89, 15, 97, 98, 99, 16, 114], Go.Proofs.Tryd.func40, rfl, by kernel_rfl, by kernel_rfl, by decide, by kernel_rfl, by kernel_rfl⟩
theorem sp_spec_Told : FOk Go.Proofs.Tryd.prog 14 5 (zry NS MS) [.var 7] := ⟨Go.Proofs.Tryd.f14, _, [0, 1, 2, 3, 4, 8, 9, 10, 22, 23, 24, 25, 26, 12, 11, 13, 54, 65, 76, 14, 83, 89, 90, 91, 92, 93, 16, 15, 118], Go.Proofs.Tryd.func14, rfl, by kernel_rfl, by kernel_rfl, by decide, by kernel_rfl, by kernel_rfl⟩
theorem sp_spec_Message_Flexible : FOk Go.Proofs.Tryd.prog 15 2 (zet NS MS) [.var 3] := ⟨Go.Proofs.Tryd.f15, _, [0, 1, 2, 4], Go.Proofs.Tryd.func15, rfl, by kernel_rfl, by kernel_rfl, by decide, by kernel_rfl, by kernel_rfl⟩
theorem thSZ : SZ Go.Proofs.Tryd.prog NS MS := ⟨sp_zzFits3, sp_zzFits2, sp_zzFits1⟩
theorem thSW : SW Go.Proofs.Tryd.prog NS MS := ⟨sp_spec_Field_has, sp_spec_Field_null, sp_spec_whole, sp_spec_things, sp_spec_at, sp_spec_Uvarint, sp_spec_Fixed, sp_spec_width, sp_spec_counted, sp_spec_value, sp_spec_field, sp_spec_known, sp_spec_unknown, sp_spec_part, sp_spec_Write⟩
theorem thSTo : STo Go.Proofs.Tryd.prog NS MS := ⟨sp_spec_number, sp_spec_Usual, sp_spec_told, sp_spec_Told, sp_spec_Message_Flexible⟩
theorem bulkF (H : Type) : BulkF (Proofs.YtplpomlhhaccgaaDoor.Rows.uptoBulk (H := H)) Proofs.YtplpomlhhaccgaaDoor.Rows.uptoBulkAll := ⟨fun l => by cases l <;> simp [Proofs.YtplpomlhhaccgaaDoor.Rows.uptoBulk], fun _ _ => rfl, fun _ => rfl, rfl, rfl, fun _ _ => rfl⟩

def slRen : Go.Shelf.Ren := ⟨fun | 6 => 110 | 10 => 123 | 11 => 124 | 12 => 125 | 13 => 126 | 14 => 127 | 24 => 139 | 25 => 140 | 26 => 141 | 27 => 142 | 28 => 143 | 29 => 144 | 30 => 145 | 31 => 146 | 32 => 147 | 33 => 148 | 34 => 149 | 35 => 150 | 36 => 151 | 37 => 152 | 38 => 153 | 39 => 154 | n => n, fun | 20 => 20 | 26 => 148 | 35 => 161 | 0 => 0 | 37 => 163 | 3 => 3 | 41 => 139 | 44 => 168 | 49 => 65 | 51 => 101 | 4 => 4 | 54 => 179 | 53 => 178 | 58 => 183 | 5 => 5 | 9 => 9 | 60 => 185 | 64 => 188 | 66 => 190 | 67 => 191 | 17 => 17 | 32 => 158 | 33 => 159 | 82 => 206 | 12 => 12 | 75 => 199 | 76 => 200 | 77 => 201 | 78 => 202 | 79 => 203 | 80 => 204 | n => n, fun | n => n⟩
theorem sl6 : Go.Proofs.LaysGg.n6 Go.Proofs.Tryd.prog slRen where
  mixed := by kernel_rfl
  f6 := Go.Proofs.Tryd.func110.trans (congrArg some (by kernel_rfl))
  f10 := Go.Proofs.Tryd.func123.trans (congrArg some (by kernel_rfl))
  f11 := Go.Proofs.Tryd.func124.trans (congrArg some (by kernel_rfl))
  f12 := Go.Proofs.Tryd.func125.trans (congrArg some (by kernel_rfl))
  f13 := Go.Proofs.Tryd.func126.trans (congrArg some (by kernel_rfl))
  f14 := Go.Proofs.Tryd.func127.trans (congrArg some (by kernel_rfl))
  f24 := Go.Proofs.Tryd.func139.trans (congrArg some (by kernel_rfl))
  f25 := Go.Proofs.Tryd.func140.trans (congrArg some (by kernel_rfl))
  f26 := Go.Proofs.Tryd.func141.trans (congrArg some (by kernel_rfl))
  f27 := Go.Proofs.Tryd.func142.trans (congrArg some (by kernel_rfl))
  f28 := Go.Proofs.Tryd.func143.trans (congrArg some (by kernel_rfl))
  f29 := Go.Proofs.Tryd.func144.trans (congrArg some (by kernel_rfl))
  f30 := Go.Proofs.Tryd.func145.trans (congrArg some (by kernel_rfl))
  f31 := Go.Proofs.Tryd.func146.trans (congrArg some (by kernel_rfl))
  f32 := Go.Proofs.Tryd.func147.trans (congrArg some (by kernel_rfl))
  f33 := Go.Proofs.Tryd.func148.trans (congrArg some (by kernel_rfl))
  f34 := Go.Proofs.Tryd.func149.trans (congrArg some (by kernel_rfl))
  f35 := Go.Proofs.Tryd.func150.trans (congrArg some (by kernel_rfl))
  f36 := Go.Proofs.Tryd.func151.trans (congrArg some (by kernel_rfl))
  f37 := Go.Proofs.Tryd.func152.trans (congrArg some (by kernel_rfl))
  f38 := Go.Proofs.Tryd.func153.trans (congrArg some (by kernel_rfl))
  f39 := Go.Proofs.Tryd.func154.trans (congrArg some (by kernel_rfl))
  t0 := Go.Proofs.Tryd.underlying0
  a0 := Go.Proofs.Tryd.isAgg0
  z0 := Go.Proofs.Tryd.sizeOf0
  v0 := Go.Proofs.Tryd.zeroValue0
  i0 := by kernel_rfl
  t3 := Go.Proofs.Tryd.underlying3
  a3 := Go.Proofs.Tryd.isAgg3
  z3 := Go.Proofs.Tryd.sizeOf3
  v3 := Go.Proofs.Tryd.zeroValue3
  i3 := by kernel_rfl
  t4 := Go.Proofs.Tryd.underlying4
  a4 := Go.Proofs.Tryd.isAgg4
  z4 := Go.Proofs.Tryd.sizeOf4
  v4 := Go.Proofs.Tryd.zeroValue4
  i4 := by kernel_rfl
  t5 := Go.Proofs.Tryd.underlying5
  a5 := Go.Proofs.Tryd.isAgg5
  z5 := Go.Proofs.Tryd.sizeOf5
  v5 := Go.Proofs.Tryd.zeroValue5
  i5 := by kernel_rfl
  t9 := Go.Proofs.Tryd.underlying9
  a9 := Go.Proofs.Tryd.isAgg9
  z9 := Go.Proofs.Tryd.sizeOf9
  v9 := Go.Proofs.Tryd.zeroValue9
  i9 := by kernel_rfl
  t12 := Go.Proofs.Tryd.underlying12
  a12 := Go.Proofs.Tryd.isAgg12
  z12 := Go.Proofs.Tryd.sizeOf12
  v12 := Go.Proofs.Tryd.zeroValue12
  i12 := by kernel_rfl
  t17 := Go.Proofs.Tryd.underlying17
  a17 := Go.Proofs.Tryd.isAgg17
  z17 := Go.Proofs.Tryd.sizeOf17
  v17 := Go.Proofs.Tryd.zeroValue17
  i17 := by kernel_rfl
  t20 := Go.Proofs.Tryd.underlying20
  a20 := Go.Proofs.Tryd.isAgg20
  z20 := Go.Proofs.Tryd.sizeOf20
  v20 := Go.Proofs.Tryd.zeroValue20
  i20 := by kernel_rfl
  t26 := Go.Proofs.Tryd.underlying148
  a26 := Go.Proofs.Tryd.isAgg148
  z26 := Go.Proofs.Tryd.sizeOf148
  v26 := Go.Proofs.Tryd.zeroValue148
  i26 := by kernel_rfl
  t32 := Go.Proofs.Tryd.underlying158
  a32 := Go.Proofs.Tryd.isAgg158
  z32 := Go.Proofs.Tryd.sizeOf158
  v32 := Go.Proofs.Tryd.zeroValue158
  i32 := by kernel_rfl
  t33 := Go.Proofs.Tryd.underlying159
  a33 := Go.Proofs.Tryd.isAgg159
  z33 := Go.Proofs.Tryd.sizeOf159
  v33 := Go.Proofs.Tryd.zeroValue159
  i33 := by kernel_rfl
  t35 := Go.Proofs.Tryd.underlying161
  a35 := Go.Proofs.Tryd.isAgg161
  z35 := Go.Proofs.Tryd.sizeOf161
  v35 := Go.Proofs.Tryd.zeroValue161
  i35 := by kernel_rfl
  t37 := Go.Proofs.Tryd.underlying163
  a37 := Go.Proofs.Tryd.isAgg163
  z37 := Go.Proofs.Tryd.sizeOf163
  v37 := Go.Proofs.Tryd.zeroValue163
  i37 := by kernel_rfl
  t41 := Go.Proofs.Tryd.underlying139
  a41 := Go.Proofs.Tryd.isAgg139
  z41 := Go.Proofs.Tryd.sizeOf139
  v41 := Go.Proofs.Tryd.zeroValue139
  i41 := by kernel_rfl
  t44 := Go.Proofs.Tryd.underlying168
  a44 := Go.Proofs.Tryd.isAgg168
  z44 := Go.Proofs.Tryd.sizeOf168
  v44 := Go.Proofs.Tryd.zeroValue168
  i44 := by kernel_rfl
  t49 := Go.Proofs.Tryd.underlying65
  a49 := Go.Proofs.Tryd.isAgg65
  z49 := Go.Proofs.Tryd.sizeOf65
  v49 := Go.Proofs.Tryd.zeroValue65
  i49 := by kernel_rfl
  t51 := Go.Proofs.Tryd.underlying101
  a51 := Go.Proofs.Tryd.isAgg101
  z51 := Go.Proofs.Tryd.sizeOf101
  v51 := Go.Proofs.Tryd.zeroValue101
  i51 := by kernel_rfl
  t53 := Go.Proofs.Tryd.underlying178
  a53 := Go.Proofs.Tryd.isAgg178
  z53 := Go.Proofs.Tryd.sizeOf178
  v53 := Go.Proofs.Tryd.zeroValue178
  i53 := by kernel_rfl
  t54 := Go.Proofs.Tryd.underlying179
  a54 := Go.Proofs.Tryd.isAgg179
  z54 := Go.Proofs.Tryd.sizeOf179
  v54 := Go.Proofs.Tryd.zeroValue179
  i54 := by kernel_rfl
  t58 := Go.Proofs.Tryd.underlying183
  a58 := Go.Proofs.Tryd.isAgg183
  z58 := Go.Proofs.Tryd.sizeOf183
  v58 := Go.Proofs.Tryd.zeroValue183
  i58 := by kernel_rfl
  t60 := Go.Proofs.Tryd.underlying185
  a60 := Go.Proofs.Tryd.isAgg185
  z60 := Go.Proofs.Tryd.sizeOf185
  v60 := Go.Proofs.Tryd.zeroValue185
  i60 := by kernel_rfl
  t64 := Go.Proofs.Tryd.underlying188
  a64 := Go.Proofs.Tryd.isAgg188
  z64 := Go.Proofs.Tryd.sizeOf188
  v64 := Go.Proofs.Tryd.zeroValue188
  i64 := by kernel_rfl
  t66 := Go.Proofs.Tryd.underlying190
  a66 := Go.Proofs.Tryd.isAgg190
  z66 := Go.Proofs.Tryd.sizeOf190
  v66 := Go.Proofs.Tryd.zeroValue190
  i66 := by kernel_rfl
  t67 := Go.Proofs.Tryd.underlying191
  a67 := Go.Proofs.Tryd.isAgg191
  z67 := Go.Proofs.Tryd.sizeOf191
  v67 := Go.Proofs.Tryd.zeroValue191
  i67 := by kernel_rfl
  t75 := Go.Proofs.Tryd.underlying199
  a75 := Go.Proofs.Tryd.isAgg199
  z75 := Go.Proofs.Tryd.sizeOf199
  v75 := Go.Proofs.Tryd.zeroValue199
  i75 := by kernel_rfl
  t76 := Go.Proofs.Tryd.underlying200
  a76 := Go.Proofs.Tryd.isAgg200
  z76 := Go.Proofs.Tryd.sizeOf200
  v76 := Go.Proofs.Tryd.zeroValue200
  i76 := by kernel_rfl
  t77 := Go.Proofs.Tryd.underlying201
  a77 := Go.Proofs.Tryd.isAgg201
  z77 := Go.Proofs.Tryd.sizeOf201
  v77 := Go.Proofs.Tryd.zeroValue201
  i77 := by kernel_rfl
  t78 := Go.Proofs.Tryd.underlying202
  a78 := Go.Proofs.Tryd.isAgg202
  z78 := Go.Proofs.Tryd.sizeOf202
  v78 := Go.Proofs.Tryd.zeroValue202
  i78 := by kernel_rfl
  t79 := Go.Proofs.Tryd.underlying203
  a79 := Go.Proofs.Tryd.isAgg203
  z79 := Go.Proofs.Tryd.sizeOf203
  v79 := Go.Proofs.Tryd.zeroValue203
  i79 := by kernel_rfl
  t80 := Go.Proofs.Tryd.underlying204
  a80 := Go.Proofs.Tryd.isAgg204
  z80 := Go.Proofs.Tryd.sizeOf204
  v80 := Go.Proofs.Tryd.zeroValue204
  i80 := by kernel_rfl
  t82 := Go.Proofs.Tryd.underlying206
  a82 := Go.Proofs.Tryd.isAgg206
  z82 := Go.Proofs.Tryd.sizeOf206
  v82 := Go.Proofs.Tryd.zeroValue206
  i82 := by kernel_rfl

noncomputable def sI : TypeInfo := (Go.Proofs.Tryd.prog.info? NS.zbf).get (by kernel_rfl)
noncomputable def sE : TypeInfo := (Go.Proofs.Tryd.prog.info? NS.zp).get (by kernel_rfl)
theorem sortT : SortT Go.Proofs.Tryd.prog NS where
  has := ⟨_, Go.Proofs.Tryd.func110, by kernel_rfl, by kernel_rfl⟩
  out := ⟨slRen, sI, sE, 135, 131, sl6, by kernel_rfl, by kernel_rfl, by kernel_rfl, by kernel_rfl, by kernel_rfl, fun _ => by kernel_rfl, by kernel_rfl, by kernel_rfl, by kernel_rfl, by kernel_rfl, by kernel_rfl,
    fun args W => run_callFunc_extern Go.Proofs.Tryd.func135 (by kernel_rfl) (by kernel_rfl) (by kernel_rfl) (e := Extern.ReflectliteSwapper.swap true) (by kernel_rfl) args W⟩
theorem lu : LU Go.Proofs.Tryd.prog NS := ⟨zhq (by kernel_rfl)⟩
theorem tellN : TellN Go.Proofs.Tryd.prog NS := ⟨by decide, by decide, by decide, lu, sortOk baseS fnsS (by decide) lu sortT⟩

theorem own : ownKnob Go.Proofs.Tryd.prog.godebug = none := by kernel_rfl
theorem laidOut : laidOutB Go.Proofs.Tryd.prog = true := by kernel_rfl
theorem gO : Go.Proofs.Tryd.prog.globalNamed "pub-mailsack/pub/kmsg/inner/kbin.ErrNotEnoughData" = some 1 := by kernel_rfl
theorem gT : (Go.Proofs.Tryd.prog.globals[1]?).map (·.type) = some 56 := by kernel_rfl
theorem cS : Go.Proofs.Tryd.prog.cellsOf 211 = 1 := by kernel_rfl
theorem cStr : Go.Proofs.Tryd.prog.cellsOf 9 = 1 := by kernel_rfl
theorem star : "*" ++ "errors.errorString" = "*errors.errorString" := by decide
theorem rowP (u : TypeId) (h : Go.Proofs.Tryd.prog.typeName? 3 u = some "*errors.errorString") : u = 193 :=
  typeName_ptr_named (nm := "errors.errorString") (by rw [star]; kernel_rfl) (by kernel_rfl) (by decide) u (by rw [star]; exact h)
theorem bandT {a b : Bool} (h : a = true) (h' : b = true) : (a && b) = true := by rw [h, h']; rfl
theorem bigEnter : Go.Proofs.Tryd.prog.mayEnter = true := by kernel_rfl
theorem bigLifts : (Proofs.YtplpomlhhaccgaaDoor.Rows.fnTellOffsetDeleteResponseRow.lifted == Go.Proofs.Tryd.prog.liftsFinal) = true := by kernel_rfl
theorem bigMake : (Go.Proofs.Tryd.prog.make == some Proofs.YtplpomlhhaccgaaDoor.Rows.fnTellOffsetDeleteResponseRow.make) = true := by kernel_rfl
theorem stopsHeardS : Go.Proofs.Tryd.prog.stopsHeard = true := by kernel_rfl
theorem mapsRowedS : mapsRowed Go.Proofs.Tryd.prog = true := by kernel_rfl
theorem plainKeysS : (Proofs.YtplpomlhhaccgaaDoor.Rows.fnTellOffsetDeleteResponseRow.plainKeys == Go.Proofs.Tryd.prog.plainKeys) = true := by kernel_rfl
theorem mainS : Go.Proofs.Tryd.prog.mainIs = some (Proofs.YtplpomlhhaccgaaDoor.Rows.fnTellOffsetDeleteResponseCard.stood.harness.1, Proofs.YtplpomlhhaccgaaDoor.Rows.fnTellOffsetDeleteResponseCard.stood.harness.2.toList) := by kernel_rfl
theorem looksS : false = Go.Proofs.Tryd.prog.looks [] := by kernel_rfl
theorem shaped (os : Os) (args : Array Value) : ((World.doorLaid Go.Proofs.Tryd.prog 400 os).forCall (fun _ _ => 0) ⟨#[], args, []⟩).Shaped Go.Proofs.Tryd.prog := World.shaped_of_RefB (by kernel_rfl) (by kernel_rfl)
theorem door_met (os : Os) (args : Array Value) : laidMetH Go.Proofs.Tryd.prog Proofs.YtplpomlhhaccgaaDoor.Rows.fnTellOffsetDeleteResponseRow.laid ((World.doorLaid Go.Proofs.Tryd.prog 400 os).forCall (fun _ _ => 0) ⟨#[], args, []⟩).memory :=
  laidMetH_of_parts3 (fuel := 8) (laidMet_of_run' 8 (by kernel_rfl) (by kernel_rfl)) (by kernel_rfl) (by kernel_rfl)
end Go.Kf
