/- Closed facts of this translation: its numbers, its shared functions' codes, its types; no condition. -/
import Derived.Test.YtplpomlhhaccgaaGreatDoorKg
import Derived.Shelf.GgSortFunc.Whole
import Derived.Test.YtplpomlhhaccgaaGreatDoorRows
import Derived.Test.YtplpomlhhaccgaaGreatDoorTie
import Derived.Test.YtplpomlhhaccgaaGreatDoorCards
import Derived.LaidMore
import Derived.Stop.Joined
import Derived.Stop.LaidErr
import Derived.SevenTiedAt
import Derived.Deep.DeepHandedRow
import Derived.JoinedCond
set_option linter.unusedSimpArgs false
set_option linter.unusedVariables false
set_option maxRecDepth 100000
namespace Go.Kf
open Go

def NS : Nums where
  zcn := 148
  zfp := 169
  zbs := 147
  zbt := 137
  zcu := 134
  zbe := 142
  zbd := 164
  zbx := 140
  zfi := 159
  zce := 139
  zep := 149
  zaf := 176
  zdr := 135
  zay := 136
  zcb := 132
  zbj := 138
  zck := 133
  zei := 153
  zaj := 174
  zde := 185
  zge := 92
  zcy := 144
  zhc := 178
  zcs := 175
  zjv := 190
  zdp := 187
  zdo := 177
  zdn := 210
  zhb := 129
  zqd := 18
  zdc := 141
  zgd := 143
  zmf := 94
  zbr := 50
  zgz := 91
  zju := 13
  zfg := 0
  zan := 1
  t_ := 0
  zbl := 121
  zej := 35
  zy := 34
  zj := 24
  zk := 23
  zbf := 166
  za := 22
  zba := 163
  zcm := 89
  zae := 158
  zhj := 68
  zdh := 92
  zab := 37
  zbw := 197
  zad := 4
  zgv := 54
  zmz := 168
  zmk := 98
  zg := 3
  zcj := 46
  zct := 21
  zau := 2
  ztb := 172
  zxn := 20
  zag := 90
  zz := 65
  zb := 26
  zav := 9
  zgs := 171
  zgg := 173
  zp := 63
  zvp := 212
  zar := 103
  zv := 5

def MS : zcc where
  zdq := 45
  zen := 100
  zee := 98
  zdw := 17
  zkj := 16
  zgc := 48
  zcr := 97
  zli := 15
  zgn := 44
  zdl := 145
  zhn := 95
  zhm := 96
  zes := 102
  zio := 43
  zgm := 101
  zha := 47
  zhg := 49
  zlh := 46
  zhl := 146
  zdf := 51
  zjc := 99
  zrp := 10
  zro := 37
  zok := 88
  zaa := 29
  zf := 51
  zam := 31

theorem baseS : Base Go.Proofs.Tryz.prog NS := base_ok (by kernel_rfl) (by kernel_rfl) (by kernel_rfl)

theorem fok_bigEndian_Uint16 : FOk Go.Proofs.Tryz.prog 187 2 (zjh NS) [.var 2] := ⟨Go.Proofs.Tryz.f187, _, [0, 1, 4], Go.Proofs.Tryz.func187, rfl, by kernel_rfl, by kernel_rfl, by decide, by kernel_rfl, by kernel_rfl⟩
theorem fok_bigEndian_Uint32 : FOk Go.Proofs.Tryz.prog 177 2 (zjg NS) [.var 2] := ⟨Go.Proofs.Tryz.f177, _, [0, 1, 4], Go.Proofs.Tryz.func177, rfl, by kernel_rfl, by kernel_rfl, by decide, by kernel_rfl, by kernel_rfl⟩
theorem fok_bigEndian_Uint64 : FOk Go.Proofs.Tryz.prog 210 2 (zjf NS) [.var 2] := ⟨Go.Proofs.Tryz.f210, _, [0, 1, 4], Go.Proofs.Tryz.func210, rfl, by kernel_rfl, by kernel_rfl, by decide, by kernel_rfl, by kernel_rfl⟩
theorem fok_UnsafeString : FOk Go.Proofs.Tryz.prog 175 1 (zmt NS) [.var 1] := ⟨Go.Proofs.Tryz.f175, _, [0, 2], Go.Proofs.Tryz.func175, rfl, by kernel_rfl, by kernel_rfl, by decide, by kernel_rfl, by kernel_rfl⟩
theorem fok_Uvarint : FOk Go.Proofs.Tryz.prog 190 1 (zwu NS) [.var 1, .var 2] := ⟨Go.Proofs.Tryz.f190, _, [0, 2, 3, 4, 5, 8, 18, 22, 35, 39, 52, 56, 69, 73, 84], Go.Proofs.Tryz.func190, rfl, by kernel_rfl, by kernel_rfl, by decide, by kernel_rfl, by kernel_rfl⟩
theorem fok_PReader_Bool : FOk Go.Proofs.Tryz.prog 169 1 (zsz NS) [.var 1] := ⟨Go.Proofs.Tryz.f169, _, [0, 2, 9, 3], Go.Proofs.Tryz.func169, rfl, by kernel_rfl, by kernel_rfl, by decide, by kernel_rfl, by kernel_rfl⟩
theorem fok_PReader_Int16 : FOk Go.Proofs.Tryz.prog 164 1 (zsd NS) [.var 1] := ⟨Go.Proofs.Tryz.f164, _, [0, 2, 9, 3], Go.Proofs.Tryz.func164, rfl, by kernel_rfl, by kernel_rfl, by decide, by kernel_rfl, by kernel_rfl⟩
theorem fok_PReader_Int32 : FOk Go.Proofs.Tryz.prog 140 1 (zsc NS) [.var 1] := ⟨Go.Proofs.Tryz.f140, _, [0, 2, 9, 3], Go.Proofs.Tryz.func140, rfl, by kernel_rfl, by kernel_rfl, by decide, by kernel_rfl, by kernel_rfl⟩
theorem fok_PReader_readUint64 : FOk Go.Proofs.Tryz.prog 185 1 (zmp NS) [.var 1] := ⟨Go.Proofs.Tryz.f185, _, [0, 2, 9, 3], Go.Proofs.Tryz.func185, rfl, by kernel_rfl, by kernel_rfl, by decide, by kernel_rfl, by kernel_rfl⟩
theorem fok_PReader_Int64 : FOk Go.Proofs.Tryz.prog 159 1 (zlp NS) [.var 1] := ⟨Go.Proofs.Tryz.f159, _, [0, 2], Go.Proofs.Tryz.func159, rfl, by kernel_rfl, by kernel_rfl, by decide, by kernel_rfl, by kernel_rfl⟩
theorem fok_PReader_Uuid : FOk Go.Proofs.Tryz.prog 153 1 (zmv NS) [.cell 1 NS.zbl] := ⟨Go.Proofs.Tryz.f153, _, [0, 2, 3], Go.Proofs.Tryz.func153, rfl, by kernel_rfl, by kernel_rfl, by decide, by kernel_rfl, by kernel_rfl⟩
theorem fok_PReader_Uvarint : FOk Go.Proofs.Tryz.prog 174 1 (zjw NS) [.var 1] := ⟨Go.Proofs.Tryz.f174, _, [0, 2, 3, 4, 14], Go.Proofs.Tryz.func174, rfl, by kernel_rfl, by kernel_rfl, by decide, by kernel_rfl, by kernel_rfl⟩
theorem fok_PReader_Span : FOk Go.Proofs.Tryz.prog 176 2 (zmw NS) [.var 2] := ⟨Go.Proofs.Tryz.f176, _, [0, 1, 4, 16, 5], Go.Proofs.Tryz.func176, rfl, by kernel_rfl, by kernel_rfl, by decide, by kernel_rfl, by kernel_rfl⟩
theorem fok_PReader_String : FOk Go.Proofs.Tryz.prog 135 1 (zkr NS) [.var 1] := ⟨Go.Proofs.Tryz.f135, _, [0, 2, 3], Go.Proofs.Tryz.func135, rfl, by kernel_rfl, by kernel_rfl, by decide, by kernel_rfl, by kernel_rfl⟩
theorem fok_PReader_UnsafeString : FOk Go.Proofs.Tryz.prog 133 1 (zgt NS) [.var 1] := ⟨Go.Proofs.Tryz.f133, _, [0, 2, 3], Go.Proofs.Tryz.func133, rfl, by kernel_rfl, by kernel_rfl, by decide, by kernel_rfl, by kernel_rfl⟩
theorem fok_PReader_CompactString : FOk Go.Proofs.Tryz.prog 134 1 (zgp NS) [.var 1] := ⟨Go.Proofs.Tryz.f134, _, [0, 2, 3], Go.Proofs.Tryz.func134, rfl, by kernel_rfl, by kernel_rfl, by decide, by kernel_rfl, by kernel_rfl⟩
theorem fok_PReader_UnsafeCompactString : FOk Go.Proofs.Tryz.prog 132 1 (zex NS) [.var 1] := ⟨Go.Proofs.Tryz.f132, _, [0, 2, 3], Go.Proofs.Tryz.func132, rfl, by kernel_rfl, by kernel_rfl, by decide, by kernel_rfl, by kernel_rfl⟩
theorem fok_PReader_NullableString : FOk Go.Proofs.Tryz.prog 139 1 (zgf NS) [.var 1] := ⟨Go.Proofs.Tryz.f139, _, [0, 2, 3, 8, 4], Go.Proofs.Tryz.func139, rfl, by kernel_rfl, by kernel_rfl, by decide, by kernel_rfl, by kernel_rfl⟩
theorem fok_PReader_UnsafeNullableString : FOk Go.Proofs.Tryz.prog 138 1 (zeq NS) [.var 1] := ⟨Go.Proofs.Tryz.f138, _, [0, 2, 3, 8, 4], Go.Proofs.Tryz.func138, rfl, by kernel_rfl, by kernel_rfl, by decide, by kernel_rfl, by kernel_rfl⟩
theorem fok_PReader_CompactNullableString : FOk Go.Proofs.Tryz.prog 137 1 (zeo NS) [.var 1] := ⟨Go.Proofs.Tryz.f137, _, [0, 2, 3, 10, 4], Go.Proofs.Tryz.func137, rfl, by kernel_rfl, by kernel_rfl, by decide, by kernel_rfl, by kernel_rfl⟩
theorem fok_PReader_UnsafeCompactNullableString : FOk Go.Proofs.Tryz.prog 136 1 (zdu NS) [.var 1] := ⟨Go.Proofs.Tryz.f136, _, [0, 2, 3, 10, 4], Go.Proofs.Tryz.func136, rfl, by kernel_rfl, by kernel_rfl, by decide, by kernel_rfl, by kernel_rfl⟩
theorem fok_PReader_ArrayLen : FOk Go.Proofs.Tryz.prog 148 1 (zjj NS) [.var 1] := ⟨Go.Proofs.Tryz.f148, _, [0, 2, 3, 13], Go.Proofs.Tryz.func148, rfl, by kernel_rfl, by kernel_rfl, by decide, by kernel_rfl, by kernel_rfl⟩
theorem fok_PReader_CompactArrayLen : FOk Go.Proofs.Tryz.prog 147 1 (zfq NS) [.var 1] := ⟨Go.Proofs.Tryz.f147, _, [0, 2, 3, 15], Go.Proofs.Tryz.func147, rfl, by kernel_rfl, by kernel_rfl, by decide, by kernel_rfl, by kernel_rfl⟩
theorem fok_PReader_Complete : FOk Go.Proofs.Tryz.prog 142 1 (zji NS) [.var 1] := ⟨Go.Proofs.Tryz.f142, _, [0, 2, 6], Go.Proofs.Tryz.func142, rfl, by kernel_rfl, by kernel_rfl, by decide, by kernel_rfl, by kernel_rfl⟩
theorem fok_PReader_Ok : FOk Go.Proofs.Tryz.prog 149 1 (zpz NS) [.var 1] := ⟨Go.Proofs.Tryz.f149, _, [0, 2], Go.Proofs.Tryz.func149, rfl, by kernel_rfl, by kernel_rfl, by decide, by kernel_rfl, by kernel_rfl⟩
theorem fok_PTags_Set : FOk Go.Proofs.Tryz.prog 178 3 (zsb NS) [] := ⟨Go.Proofs.Tryz.f178, _, [0, 1, 2, 10], Go.Proofs.Tryz.func178, rfl, by kernel_rfl, by kernel_rfl, by decide, by kernel_rfl, by kernel_rfl⟩
theorem fok_internalReadTags : FOk Go.Proofs.Tryz.prog 141 1 (zje NS) [.cell 1 NS.zdh] := ⟨Go.Proofs.Tryz.f141, _, [0, 2, 3, 4, 10, 5, 6], Go.Proofs.Tryz.func141, rfl, by kernel_rfl, by kernel_rfl, by decide, by kernel_rfl, by kernel_rfl⟩
theorem fok_PTags_Each : FOk Go.Proofs.Tryz.prog 92 2 (zpy NS) [] := ⟨Go.Proofs.Tryz.f92, _, [0, 1, 13, 4, 24, 26, 5, 37, 38, 39, 40, 7], Go.Proofs.Tryz.func92, rfl, by kernel_rfl, by kernel_rfl, by decide, by kernel_rfl, by kernel_rfl⟩
theorem fok_PTags_Each_1 : FOk Go.Proofs.Tryz.prog 144 3 (zmu NS) [.var 3] := ⟨Go.Proofs.Tryz.f144, _, [0, 1, 2, 5], Go.Proofs.Tryz.func144, rfl, by kernel_rfl, by kernel_rfl, by decide, by kernel_rfl, by kernel_rfl⟩
theorem fok_sorted : FOk Go.Proofs.Tryz.prog 94 1 (c_sorted NS) [] := ⟨Go.Proofs.Tryz.f94, _, [0, 5, 6, 7, 2, 3, 25], Go.Proofs.Tryz.func94, rfl, by kernel_rfl, by kernel_rfl, by decide, by kernel_rfl, by kernel_rfl⟩
theorem fok_boolTree : FOk Go.Proofs.Tryz.prog 129 1 (ztv NS) [.cell 1 NS.zab] := ⟨Go.Proofs.Tryz.f129, _, [0, 2, 3], Go.Proofs.Tryz.func129, rfl, by kernel_rfl, by kernel_rfl, by decide, by kernel_rfl, by kernel_rfl⟩
theorem fok_textTree : FOk Go.Proofs.Tryz.prog 91 1 (ztu NS) [.cell 1 NS.zab] := ⟨Go.Proofs.Tryz.f91, _, [0, 2, 4], Go.Proofs.Tryz.func91, rfl, by kernel_rfl, by kernel_rfl, by decide, by kernel_rfl, by kernel_rfl⟩
theorem fok_spec_Same : FOk Go.Proofs.Tryz.prog 50 2 (zsa NS) [.var 2] := ⟨Go.Proofs.Tryz.f50, _, [0, 1, 4, 10, 12, 13, 14, 5, 24], Go.Proofs.Tryz.func50, rfl, by kernel_rfl, by kernel_rfl, by decide, by kernel_rfl, by kernel_rfl⟩
theorem fok_version : FOk Go.Proofs.Tryz.prog 13 2 (zwt NS) [.var 2] := ⟨Go.Proofs.Tryz.f13, _, [0, 1, 4], Go.Proofs.Tryz.func13, rfl, by kernel_rfl, by kernel_rfl, by decide, by kernel_rfl, by kernel_rfl⟩
theorem fok_got : FOk Go.Proofs.Tryz.prog 18 1 (c_got NS) [.cell 2 NS.zb] := ⟨Go.Proofs.Tryz.f18, _, [0, 1, 2, 3, 16, 17, 18, 19, 5, 31, 32, 33, 34, 7], Go.Proofs.Tryz.func18, rfl, by kernel_rfl, by kernel_rfl, by decide, by kernel_rfl, by kernel_rfl⟩

theorem fnsS : Fns Go.Proofs.Tryz.prog NS where
  bigEndian_Uint16 := fun _ => fok_bigEndian_Uint16
  bigEndian_Uint32 := fun _ => fok_bigEndian_Uint32
  bigEndian_Uint64 := fun _ => fok_bigEndian_Uint64
  UnsafeString := fun _ => fok_UnsafeString
  Uvarint := fun _ => fok_Uvarint
  PReader_Bool := fun _ => fok_PReader_Bool
  PReader_Int8 := fun h => absurd rfl h
  PReader_Int16 := fun _ => ⟨fok_PReader_Int16, by decide⟩
  PReader_Int32 := fun _ => ⟨fok_PReader_Int32, by decide⟩
  PReader_readUint64 := fun _ => ⟨fok_PReader_readUint64, by decide⟩
  PReader_Int64 := fun _ => ⟨fok_PReader_Int64, by decide⟩
  PReader_Uuid := fun _ => ⟨fok_PReader_Uuid, by decide⟩
  PReader_Uvarint := fun _ => ⟨fok_PReader_Uvarint, by decide⟩
  PReader_Span := fun _ => fok_PReader_Span
  PReader_String := fun _ => ⟨fok_PReader_String, by decide, by decide⟩
  PReader_UnsafeString := fun _ => ⟨fok_PReader_UnsafeString, by decide, by decide, by decide⟩
  PReader_CompactString := fun _ => ⟨fok_PReader_CompactString, by decide, by decide⟩
  PReader_UnsafeCompactString := fun _ => ⟨fok_PReader_UnsafeCompactString, by decide, by decide, by decide⟩
  PReader_NullableString := fun _ => ⟨fok_PReader_NullableString, by decide, by decide⟩
  PReader_UnsafeNullableString := fun _ => ⟨fok_PReader_UnsafeNullableString, by decide, by decide, by decide⟩
  PReader_CompactNullableString := fun _ => ⟨fok_PReader_CompactNullableString, by decide, by decide⟩
  PReader_UnsafeCompactNullableString := fun _ => ⟨fok_PReader_UnsafeCompactNullableString, by decide, by decide, by decide⟩
  PReader_Bytes := fun h => absurd rfl h
  PReader_CompactBytes := fun h => absurd rfl h
  PReader_NullableBytes := fun h => absurd rfl h
  PReader_CompactNullableBytes := fun h => absurd rfl h
  PReader_ArrayLen := fun _ => ⟨fok_PReader_ArrayLen, by decide⟩
  PReader_CompactArrayLen := fun _ => ⟨fok_PReader_CompactArrayLen, by decide⟩
  PReader_Complete := fun _ => fok_PReader_Complete
  PReader_Ok := fun _ => fok_PReader_Ok
  PTags_Set := fun _ => fok_PTags_Set
  internalReadTags := fun _ => ⟨fok_internalReadTags, by decide, by decide, by decide⟩
  PTags_Each := fun _ => ⟨fok_PTags_Each, by decide, by decide⟩
  PTags_Each_1 := fun _ => fok_PTags_Each_1
  sorted := fun _ => fok_sorted
  boolTree := fun _ => fok_boolTree
  textTree := fun _ => fok_textTree
  octetsTree := fun h => absurd rfl h
  spec_Same := fun _ => fok_spec_Same
  spec_SameTree := fun h => absurd rfl h
  version := fun _ => fok_version
  got := fun _ => fok_got

theorem implT : zfc Go.Proofs.Tryz.prog NS := ⟨sfB_ok (by kernel_rfl), sfB_ok (by kernel_rfl), ztq (by kernel_rfl), ztq (by kernel_rfl), ztq (by kernel_rfl), ztq (by kernel_rfl), ztq (by kernel_rfl), ztq (by kernel_rfl), ztq (by kernel_rfl), zhq (by kernel_rfl), zhq (by kernel_rfl)⟩
theorem specT : zfz Go.Proofs.Tryz.prog NS NS.zb NS.zz NS.zk NS.zj := ⟨sfB_ok (by kernel_rfl), sfB_ok (by kernel_rfl), ztq (by kernel_rfl), ztq (by kernel_rfl), ztq (by kernel_rfl), ztq (by kernel_rfl), ztq (by kernel_rfl), ztq (by kernel_rfl), ztq (by kernel_rfl), zhq (by kernel_rfl), zhq (by kernel_rfl)⟩
theorem spT : SpT Go.Proofs.Tryz.prog NS MS := ⟨sfB_ok (by kernel_rfl), ztq (by kernel_rfl), ztq (by kernel_rfl), ztq (by kernel_rfl), ztq (by kernel_rfl), ztq (by kernel_rfl), ztq (by kernel_rfl), ztq (by kernel_rfl), ztq (by kernel_rfl), zhq (by kernel_rfl), sfB_ok (by kernel_rfl), ztq (by kernel_rfl), ztq (by kernel_rfl), specT⟩
theorem treeO : TreeO Go.Proofs.Tryz.prog NS where
  tree := ⟨_, Go.Proofs.Tryz.underlying26, by kernel_rfl⟩
  tag := ⟨_, Go.Proofs.Tryz.underlying65, by kernel_rfl⟩
  cTree := by kernel_rfl
  cTag := by kernel_rfl
  c1 := ⟨by kernel_rfl, by kernel_rfl, by kernel_rfl, by kernel_rfl, by kernel_rfl, by kernel_rfl, by kernel_rfl⟩
theorem sp_zzFits3 : FOk Go.Proofs.Tryz.prog 88 1 (zru NS MS) [.var 2] := ⟨Go.Proofs.Tryz.f88, _, [0, 1, 2, 6], Go.Proofs.Tryz.func88, rfl, by kernel_rfl, by kernel_rfl, by decide, by kernel_rfl, by kernel_rfl⟩
theorem sp_zzFits2 : FOk Go.Proofs.Tryz.prog 37 1 (zwr NS MS) [.var 1] := ⟨Go.Proofs.Tryz.f37, _, [0, 2, 7, 8, 9, 10, 11, 4, 16], Go.Proofs.Tryz.func37, rfl, by kernel_rfl, by kernel_rfl, by decide, by kernel_rfl, by kernel_rfl⟩
theorem sp_zzFits1 : FOk Go.Proofs.Tryz.prog 10 1 (zws NS MS) [.var 2] := ⟨Go.Proofs.Tryz.f10, _, [0, 1, 2, 6, 10, 14], Go.Proofs.Tryz.func10, rfl, by kernel_rfl, by kernel_rfl, by decide, by kernel_rfl, by kernel_rfl⟩
theorem sp_spec_Field_has : FOk Go.Proofs.Tryz.prog 45 2 (zho NS MS) [.var 3] := ⟨Go.Proofs.Tryz.f45, _, [0, 1, 2, 4], Go.Proofs.Tryz.func45, rfl, by kernel_rfl, by kernel_rfl, by decide, by kernel_rfl, by kernel_rfl⟩
theorem sp_spec_Field_null : FOk Go.Proofs.Tryz.prog 100 3 (zhd NS MS) [.var 5] := ⟨Go.Proofs.Tryz.f100, _, [0, 1, 2, 3, 5, 6], Go.Proofs.Tryz.func100, rfl, by kernel_rfl, by kernel_rfl, by decide, by kernel_rfl, by kernel_rfl⟩
theorem sp_spec_whole : FOk Go.Proofs.Tryz.prog 51 1 (zln NS MS) [.var 1] := ⟨Go.Proofs.Tryz.f51, _, [0, 2], Go.Proofs.Tryz.func51, rfl, by kernel_rfl, by kernel_rfl, by decide, by kernel_rfl, by kernel_rfl⟩
theorem sp_spec_things : FOk Go.Proofs.Tryz.prog 101 1 (zkk NS MS) [.var 1] := ⟨Go.Proofs.Tryz.f101, _, [0, 2], Go.Proofs.Tryz.func101, rfl, by kernel_rfl, by kernel_rfl, by decide, by kernel_rfl, by kernel_rfl⟩
theorem sp_spec_at : FOk Go.Proofs.Tryz.prog 44 2 (zrx NS MS) [.cell 3 NS.zb] := ⟨Go.Proofs.Tryz.f44, _, [0, 1, 2, 4, 9], Go.Proofs.Tryz.func44, rfl, by kernel_rfl, by kernel_rfl, by decide, by kernel_rfl, by kernel_rfl⟩
theorem sp_spec_Uvarint : FOk Go.Proofs.Tryz.prog 97 1 (zhh NS MS) [.var 1] := ⟨Go.Proofs.Tryz.f97, _, [0, 2, 3, 5], Go.Proofs.Tryz.func97, rfl, by kernel_rfl, by kernel_rfl, by decide, by kernel_rfl, by kernel_rfl⟩
theorem sp_spec_Fixed : FOk Go.Proofs.Tryz.prog 98 2 (zjd NS MS) [.var 2] := ⟨Go.Proofs.Tryz.f98, _, [0, 1, 4, 5, 6, 10], Go.Proofs.Tryz.func98, rfl, by kernel_rfl, by kernel_rfl, by decide, by kernel_rfl, by kernel_rfl⟩
theorem sp_spec_width : FOk Go.Proofs.Tryz.prog 99 1 (zlm NS MS) [.var 1] := ⟨Go.Proofs.Tryz.f99, _, [0, 2, 3, 4, 6, 9], Go.Proofs.Tryz.func99, rfl, by kernel_rfl, by kernel_rfl, by decide, by kernel_rfl, by kernel_rfl⟩
theorem sp_spec_counted : FOk Go.Proofs.Tryz.prog 145 4 (zjl NS MS) [.var 4] := ⟨Go.Proofs.Tryz.f145, _, [0, 1, 2, 3, 8, 9, 15, 21], Go.Proofs.Tryz.func145, rfl, by kernel_rfl, by kernel_rfl, by decide, by kernel_rfl, by kernel_rfl⟩
theorem sp_spec_value : FOk Go.Proofs.Tryz.prog 146 6 (zpt NS MS) [.var 7] := ⟨Go.Proofs.Tryz.f146, _, [0, 1, 2, 3, 4, 5, 11, 12, 16, 17, 24, 13, 32, 14, 37, 45, 15, 50, 58], Go.Proofs.Tryz.func146, rfl, by kernel_rfl, by kernel_rfl, by decide, by kernel_rfl, by kernel_rfl⟩
theorem sp_spec_field : FOk Go.Proofs.Tryz.prog 95 4 (zpu NS MS) [.var 6] := ⟨Go.Proofs.Tryz.f95, _, [0, 1, 2, 3, 4, 7, 8, 9, 19, 10, 23, 11, 30, 31, 32, 12, 56, 57], Go.Proofs.Tryz.func95, rfl, by kernel_rfl, by kernel_rfl, by decide, by kernel_rfl, by kernel_rfl⟩
theorem sp_spec_known : FOk Go.Proofs.Tryz.prog 96 1 (zlo NS MS) [.var 1] := ⟨Go.Proofs.Tryz.f96, _, [0, 2, 3, 6, 7, 8, 9, 5, 14], Go.Proofs.Tryz.func96, rfl, by kernel_rfl, by kernel_rfl, by decide, by kernel_rfl, by kernel_rfl⟩
theorem sp_spec_unknown : FOk Go.Proofs.Tryz.prog 49 2 (zms NS MS) [.var 2] := ⟨Go.Proofs.Tryz.f49, _, [0, 1, 4, 5, 6, 17, 18, 19, 20, 8, 9, 36, 58, 10, 68], Go.Proofs.Tryz.func49, rfl, by kernel_rfl, by kernel_rfl, by decide, by kernel_rfl, by kernel_rfl⟩
theorem sp_spec_part : FOk Go.Proofs.Tryz.prog 43 4 (zrw NS MS) [.var 5] := ⟨Go.Proofs.Tryz.f43, _, [0, 1, 2, 3, 7, 8, 9, 10, 11, 21, 22, 23, 24, 13, 12, 35, 47, 51, 52, 53, 14, 55, 56, 57, 58, 16, 15, 73, 17, 100, 101, 102, 103, 19, 20], Go.Proofs.Tryz.func43, rfl, by kernel_rfl, by kernel_rfl, by decide, by kernel_rfl, by kernel_rfl⟩
theorem sp_spec_Write : FOk Go.Proofs.Tryz.prog 15 3 (zpv NS MS) [.var 5] := ⟨Go.Proofs.Tryz.f15, _, [0, 1, 2, 3, 5, 6], Go.Proofs.Tryz.func15, rfl, by kernel_rfl, by kernel_rfl, by decide, by kernel_rfl, by kernel_rfl⟩
theorem sp_spec_number : FOk Go.Proofs.Tryz.prog 102 2 (zkl NS MS) [.var 2] := ⟨Go.Proofs.Tryz.f102, _, [0, 1, 4, 5, 6, 10, 15, 20, 25], Go.Proofs.Tryz.func102, rfl, by kernel_rfl, by kernel_rfl, by decide, by kernel_rfl, by kernel_rfl⟩
theorem sp_spec_Usual : FOk Go.Proofs.Tryz.prog 48 2 (zpw NS MS) [.var 3] := ⟨Go.Proofs.Tryz.f48, _, [0, 1, 3, 4, 11, 12, 13, 14, 15, 6, 5, 7, 23, 32, 45, 46, 52, 53, 65, 66, 87, 31], Go.Proofs.Tryz.func48, rfl, by kernel_rfl, by kernel_rfl, by decide, by kernel_rfl, by kernel_rfl⟩
theorem sp_spec_told : FOk Go.Proofs.Tryz.prog 47 5 (zrv NS MS) [.var 8] := ⟨Go.Proofs.Tryz.f47, _, [0, 1, 2, 3, 4, 5, 8, 9, 10, 11, 12, 46, 47, 49, 50, 59, 13, 70, 79, 14, 89, 15, 97, 98, 99, 16, 114], Go.Proofs.Tryz.func47, rfl, by kernel_rfl, by kernel_rfl, by decide, by kernel_rfl, by kernel_rfl⟩
theorem sp_spec_Told : FOk Go.Proofs.Tryz.prog 16 5 (zry NS MS) [.var 7] := ⟨Go.Proofs.Tryz.f16, _, [0, 1, 2, 3, 4, 8, 9, 10, 22, 23, 24, 25, 26, 12, 11, 13, 54, 65, 76, 14, 83, 89, 90, 91, 92, 93, 16, 15, 118], Go.Proofs.Tryz.func16, rfl, by kernel_rfl, by kernel_rfl, by decide, by kernel_rfl, by kernel_rfl⟩
theorem sp_spec_Message_Flexible : FOk Go.Proofs.Tryz.prog 17 2 (zet NS MS) [.var 3] := ⟨Go.Proofs.Tryz.f17, _, [0, 1, 2, 4], Go.Proofs.Tryz.func17, rfl, by kernel_rfl, by kernel_rfl, by decide, by kernel_rfl, by kernel_rfl⟩
theorem thSZ : SZ Go.Proofs.Tryz.prog NS MS := ⟨sp_zzFits3, sp_zzFits2, sp_zzFits1⟩
theorem thSW : SW Go.Proofs.Tryz.prog NS MS := ⟨sp_spec_Field_has, sp_spec_Field_null, sp_spec_whole, sp_spec_things, sp_spec_at, sp_spec_Uvarint, sp_spec_Fixed, sp_spec_width, sp_spec_counted, sp_spec_value, sp_spec_field, sp_spec_known, sp_spec_unknown, sp_spec_part, sp_spec_Write⟩
theorem thSTo : STo Go.Proofs.Tryz.prog NS MS := ⟨sp_spec_number, sp_spec_Usual, sp_spec_told, sp_spec_Told, sp_spec_Message_Flexible⟩
theorem bulkF (H : Type) : BulkF (Proofs.YtplpomlhhaccgaaGreatDoor.Rows.uptoBulk (H := H)) Proofs.YtplpomlhhaccgaaGreatDoor.Rows.uptoBulkAll := ⟨fun l => by cases l <;> simp [Proofs.YtplpomlhhaccgaaGreatDoor.Rows.uptoBulk], fun _ _ => rfl, fun _ => rfl, rfl, rfl, fun _ _ => rfl⟩

def slRen : Go.Shelf.Ren := ⟨fun | 6 => 143 | 10 => 179 | 11 => 180 | 12 => 181 | 13 => 182 | 14 => 183 | 24 => 200 | 25 => 201 | 26 => 202 | 27 => 203 | 28 => 204 | 29 => 205 | 30 => 206 | 31 => 207 | 32 => 208 | 33 => 209 | 34 => 211 | 35 => 212 | 36 => 213 | 37 => 214 | 38 => 215 | 39 => 216 | n => n, fun | 20 => 20 | 26 => 168 | 35 => 202 | 0 => 0 | 37 => 204 | 3 => 3 | 41 => 171 | 44 => 209 | 49 => 63 | 51 => 103 | 4 => 4 | 54 => 221 | 53 => 220 | 58 => 225 | 5 => 5 | 9 => 9 | 60 => 228 | 64 => 231 | 66 => 233 | 67 => 234 | 17 => 17 | 32 => 199 | 33 => 200 | 82 => 249 | 12 => 12 | 75 => 242 | 76 => 243 | 77 => 244 | 78 => 245 | 79 => 246 | 80 => 247 | n => n, fun | n => n⟩
theorem sl6 : Go.Proofs.LaysGg.n6 Go.Proofs.Tryz.prog slRen where
  mixed := by kernel_rfl
  f6 := Go.Proofs.Tryz.func143.trans (congrArg some (by kernel_rfl))
  f10 := Go.Proofs.Tryz.func179.trans (congrArg some (by kernel_rfl))
  f11 := Go.Proofs.Tryz.func180.trans (congrArg some (by kernel_rfl))
  f12 := Go.Proofs.Tryz.func181.trans (congrArg some (by kernel_rfl))
  f13 := Go.Proofs.Tryz.func182.trans (congrArg some (by kernel_rfl))
  f14 := Go.Proofs.Tryz.func183.trans (congrArg some (by kernel_rfl))
  f24 := Go.Proofs.Tryz.func200.trans (congrArg some (by kernel_rfl))
  f25 := Go.Proofs.Tryz.func201.trans (congrArg some (by kernel_rfl))
  f26 := Go.Proofs.Tryz.func202.trans (congrArg some (by kernel_rfl))
  f27 := Go.Proofs.Tryz.func203.trans (congrArg some (by kernel_rfl))
  f28 := Go.Proofs.Tryz.func204.trans (congrArg some (by kernel_rfl))
  f29 := Go.Proofs.Tryz.func205.trans (congrArg some (by kernel_rfl))
  f30 := Go.Proofs.Tryz.func206.trans (congrArg some (by kernel_rfl))
  f31 := Go.Proofs.Tryz.func207.trans (congrArg some (by kernel_rfl))
  f32 := Go.Proofs.Tryz.func208.trans (congrArg some (by kernel_rfl))
  f33 := Go.Proofs.Tryz.func209.trans (congrArg some (by kernel_rfl))
  f34 := Go.Proofs.Tryz.func211.trans (congrArg some (by kernel_rfl))
  f35 := Go.Proofs.Tryz.func212.trans (congrArg some (by kernel_rfl))
  f36 := Go.Proofs.Tryz.func213.trans (congrArg some (by kernel_rfl))
  f37 := Go.Proofs.Tryz.func214.trans (congrArg some (by kernel_rfl))
  f38 := Go.Proofs.Tryz.func215.trans (congrArg some (by kernel_rfl))
  f39 := Go.Proofs.Tryz.func216.trans (congrArg some (by kernel_rfl))
  t0 := Go.Proofs.Tryz.underlying0
  a0 := Go.Proofs.Tryz.isAgg0
  z0 := Go.Proofs.Tryz.sizeOf0
  v0 := Go.Proofs.Tryz.zeroValue0
  i0 := by kernel_rfl
  t3 := Go.Proofs.Tryz.underlying3
  a3 := Go.Proofs.Tryz.isAgg3
  z3 := Go.Proofs.Tryz.sizeOf3
  v3 := Go.Proofs.Tryz.zeroValue3
  i3 := by kernel_rfl
  t4 := Go.Proofs.Tryz.underlying4
  a4 := Go.Proofs.Tryz.isAgg4
  z4 := Go.Proofs.Tryz.sizeOf4
  v4 := Go.Proofs.Tryz.zeroValue4
  i4 := by kernel_rfl
  t5 := Go.Proofs.Tryz.underlying5
  a5 := Go.Proofs.Tryz.isAgg5
  z5 := Go.Proofs.Tryz.sizeOf5
  v5 := Go.Proofs.Tryz.zeroValue5
  i5 := by kernel_rfl
  t9 := Go.Proofs.Tryz.underlying9
  a9 := Go.Proofs.Tryz.isAgg9
  z9 := Go.Proofs.Tryz.sizeOf9
  v9 := Go.Proofs.Tryz.zeroValue9
  i9 := by kernel_rfl
  t12 := Go.Proofs.Tryz.underlying12
  a12 := Go.Proofs.Tryz.isAgg12
  z12 := Go.Proofs.Tryz.sizeOf12
  v12 := Go.Proofs.Tryz.zeroValue12
  i12 := by kernel_rfl
  t17 := Go.Proofs.Tryz.underlying17
  a17 := Go.Proofs.Tryz.isAgg17
  z17 := Go.Proofs.Tryz.sizeOf17
  v17 := Go.Proofs.Tryz.zeroValue17
  i17 := by kernel_rfl
  t20 := Go.Proofs.Tryz.underlying20
  a20 := Go.Proofs.Tryz.isAgg20
  z20 := Go.Proofs.Tryz.sizeOf20
  v20 := Go.Proofs.Tryz.zeroValue20
  i20 := by kernel_rfl
  t26 := Go.Proofs.Tryz.underlying168
  a26 := Go.Proofs.Tryz.isAgg168
  z26 := Go.Proofs.Tryz.sizeOf168
  v26 := Go.Proofs.Tryz.zeroValue168
  i26 := by kernel_rfl
  t32 := Go.Proofs.Tryz.underlying199
  a32 := Go.Proofs.Tryz.isAgg199
  z32 := Go.Proofs.Tryz.sizeOf199
  v32 := Go.Proofs.Tryz.zeroValue199
  i32 := by kernel_rfl
  t33 := Go.Proofs.Tryz.underlying200
  a33 := Go.Proofs.Tryz.isAgg200
  z33 := Go.Proofs.Tryz.sizeOf200
  v33 := Go.Proofs.Tryz.zeroValue200
  i33 := by kernel_rfl
  t35 := Go.Proofs.Tryz.underlying202
  a35 := Go.Proofs.Tryz.isAgg202
  z35 := Go.Proofs.Tryz.sizeOf202
  v35 := Go.Proofs.Tryz.zeroValue202
  i35 := by kernel_rfl
  t37 := Go.Proofs.Tryz.underlying204
  a37 := Go.Proofs.Tryz.isAgg204
  z37 := Go.Proofs.Tryz.sizeOf204
  v37 := Go.Proofs.Tryz.zeroValue204
  i37 := by kernel_rfl
  t41 := Go.Proofs.Tryz.underlying171
  a41 := Go.Proofs.Tryz.isAgg171
  z41 := Go.Proofs.Tryz.sizeOf171
  v41 := Go.Proofs.Tryz.zeroValue171
  i41 := by kernel_rfl
  t44 := Go.Proofs.Tryz.underlying209
  a44 := Go.Proofs.Tryz.isAgg209
  z44 := Go.Proofs.Tryz.sizeOf209
  v44 := Go.Proofs.Tryz.zeroValue209
  i44 := by kernel_rfl
  t49 := Go.Proofs.Tryz.underlying63
  a49 := Go.Proofs.Tryz.isAgg63
  z49 := Go.Proofs.Tryz.sizeOf63
  v49 := Go.Proofs.Tryz.zeroValue63
  i49 := by kernel_rfl
  t51 := Go.Proofs.Tryz.underlying103
  a51 := Go.Proofs.Tryz.isAgg103
  z51 := Go.Proofs.Tryz.sizeOf103
  v51 := Go.Proofs.Tryz.zeroValue103
  i51 := by kernel_rfl
  t53 := Go.Proofs.Tryz.underlying220
  a53 := Go.Proofs.Tryz.isAgg220
  z53 := Go.Proofs.Tryz.sizeOf220
  v53 := Go.Proofs.Tryz.zeroValue220
  i53 := by kernel_rfl
  t54 := Go.Proofs.Tryz.underlying221
  a54 := Go.Proofs.Tryz.isAgg221
  z54 := Go.Proofs.Tryz.sizeOf221
  v54 := Go.Proofs.Tryz.zeroValue221
  i54 := by kernel_rfl
  t58 := Go.Proofs.Tryz.underlying225
  a58 := Go.Proofs.Tryz.isAgg225
  z58 := Go.Proofs.Tryz.sizeOf225
  v58 := Go.Proofs.Tryz.zeroValue225
  i58 := by kernel_rfl
  t60 := Go.Proofs.Tryz.underlying228
  a60 := Go.Proofs.Tryz.isAgg228
  z60 := Go.Proofs.Tryz.sizeOf228
  v60 := Go.Proofs.Tryz.zeroValue228
  i60 := by kernel_rfl
  t64 := Go.Proofs.Tryz.underlying231
  a64 := Go.Proofs.Tryz.isAgg231
  z64 := Go.Proofs.Tryz.sizeOf231
  v64 := Go.Proofs.Tryz.zeroValue231
  i64 := by kernel_rfl
  t66 := Go.Proofs.Tryz.underlying233
  a66 := Go.Proofs.Tryz.isAgg233
  z66 := Go.Proofs.Tryz.sizeOf233
  v66 := Go.Proofs.Tryz.zeroValue233
  i66 := by kernel_rfl
  t67 := Go.Proofs.Tryz.underlying234
  a67 := Go.Proofs.Tryz.isAgg234
  z67 := Go.Proofs.Tryz.sizeOf234
  v67 := Go.Proofs.Tryz.zeroValue234
  i67 := by kernel_rfl
  t75 := Go.Proofs.Tryz.underlying242
  a75 := Go.Proofs.Tryz.isAgg242
  z75 := Go.Proofs.Tryz.sizeOf242
  v75 := Go.Proofs.Tryz.zeroValue242
  i75 := by kernel_rfl
  t76 := Go.Proofs.Tryz.underlying243
  a76 := Go.Proofs.Tryz.isAgg243
  z76 := Go.Proofs.Tryz.sizeOf243
  v76 := Go.Proofs.Tryz.zeroValue243
  i76 := by kernel_rfl
  t77 := Go.Proofs.Tryz.underlying244
  a77 := Go.Proofs.Tryz.isAgg244
  z77 := Go.Proofs.Tryz.sizeOf244
  v77 := Go.Proofs.Tryz.zeroValue244
  i77 := by kernel_rfl
  t78 := Go.Proofs.Tryz.underlying245
  a78 := Go.Proofs.Tryz.isAgg245
  z78 := Go.Proofs.Tryz.sizeOf245
  v78 := Go.Proofs.Tryz.zeroValue245
  i78 := by kernel_rfl
  t79 := Go.Proofs.Tryz.underlying246
  a79 := Go.Proofs.Tryz.isAgg246
  z79 := Go.Proofs.Tryz.sizeOf246
  v79 := Go.Proofs.Tryz.zeroValue246
  i79 := by kernel_rfl
  t80 := Go.Proofs.Tryz.underlying247
  a80 := Go.Proofs.Tryz.isAgg247
  z80 := Go.Proofs.Tryz.sizeOf247
  v80 := Go.Proofs.Tryz.zeroValue247
  i80 := by kernel_rfl
  t82 := Go.Proofs.Tryz.underlying249
  a82 := Go.Proofs.Tryz.isAgg249
  z82 := Go.Proofs.Tryz.sizeOf249
  v82 := Go.Proofs.Tryz.zeroValue249
  i82 := by kernel_rfl

noncomputable def sI : TypeInfo := (Go.Proofs.Tryz.prog.info? NS.zbf).get (by kernel_rfl)
noncomputable def sE : TypeInfo := (Go.Proofs.Tryz.prog.info? NS.zp).get (by kernel_rfl)
theorem sortT : SortT Go.Proofs.Tryz.prog NS where
  has := ⟨_, Go.Proofs.Tryz.func143, by kernel_rfl, by kernel_rfl⟩
  out := ⟨slRen, sI, sE, 196, 192, sl6, by kernel_rfl, by kernel_rfl, by kernel_rfl, by kernel_rfl, by kernel_rfl, fun _ => by kernel_rfl, by kernel_rfl, by kernel_rfl, by kernel_rfl, by kernel_rfl, by kernel_rfl,
    fun args W => run_callFunc_extern Go.Proofs.Tryz.func196 (by kernel_rfl) (by kernel_rfl) (by kernel_rfl) (e := Extern.ReflectliteSwapper.swap true) (by kernel_rfl) args W⟩
theorem lu : LU Go.Proofs.Tryz.prog NS := ⟨zhq (by kernel_rfl)⟩
theorem tellN : TellN Go.Proofs.Tryz.prog NS := ⟨by decide, by decide, by decide, lu, sortOk baseS fnsS (by decide) lu sortT⟩

theorem own : ownKnob Go.Proofs.Tryz.prog.godebug = none := by kernel_rfl
theorem laidOut : laidOutB Go.Proofs.Tryz.prog = true := by kernel_rfl
theorem gO : Go.Proofs.Tryz.prog.globalNamed "pub-mailsack/pub/kmsg/inner/kbin.ErrNotEnoughData" = some 1 := by kernel_rfl
theorem gT : (Go.Proofs.Tryz.prog.globals[1]?).map (·.type) = some 54 := by kernel_rfl
theorem cS : Go.Proofs.Tryz.prog.cellsOf 254 = 1 := by kernel_rfl
theorem cStr : Go.Proofs.Tryz.prog.cellsOf 9 = 1 := by kernel_rfl
theorem star : "*" ++ "errors.errorString" = "*errors.errorString" := by decide
theorem rowP (u : TypeId) (h : Go.Proofs.Tryz.prog.typeName? 3 u = some "*errors.errorString") : u = 236 :=
  typeName_ptr_named (nm := "errors.errorString") (by rw [star]; kernel_rfl) (by kernel_rfl) (by decide) u (by rw [star]; exact h)
theorem bandT {a b : Bool} (h : a = true) (h' : b = true) : (a && b) = true := by rw [h, h']; rfl
theorem bigEnter : Go.Proofs.Tryz.prog.mayEnter = true := by kernel_rfl
theorem bigLifts : (Proofs.YtplpomlhhaccgaaGreatDoor.Rows.fnTellApiVersionsRequestRow.lifted == Go.Proofs.Tryz.prog.liftsFinal) = true := by kernel_rfl
theorem bigMake : (Go.Proofs.Tryz.prog.make == some Proofs.YtplpomlhhaccgaaGreatDoor.Rows.fnTellApiVersionsRequestRow.make) = true := by kernel_rfl
theorem stopsHeardS : Go.Proofs.Tryz.prog.stopsHeard = true := by kernel_rfl
theorem mapsRowedS : mapsRowed Go.Proofs.Tryz.prog = true := by kernel_rfl
theorem plainKeysS : (Proofs.YtplpomlhhaccgaaGreatDoor.Rows.fnTellApiVersionsRequestRow.plainKeys == Go.Proofs.Tryz.prog.plainKeys) = true := by kernel_rfl
theorem mainS : Go.Proofs.Tryz.prog.mainIs = some (Proofs.YtplpomlhhaccgaaGreatDoor.Rows.fnTellApiVersionsRequestCard.stood.harness.1, Proofs.YtplpomlhhaccgaaGreatDoor.Rows.fnTellApiVersionsRequestCard.stood.harness.2.toList) := by kernel_rfl
theorem looksS : false = Go.Proofs.Tryz.prog.looks [] := by kernel_rfl
theorem shaped (os : Os) (args : Array Value) : ((World.doorLaid Go.Proofs.Tryz.prog 400 os).forCall (fun _ _ => 0) ⟨#[], args, []⟩).Shaped Go.Proofs.Tryz.prog := World.shaped_of_RefB (by kernel_rfl) (by kernel_rfl)
theorem door_met (os : Os) (args : Array Value) : laidMetH Go.Proofs.Tryz.prog Proofs.YtplpomlhhaccgaaGreatDoor.Rows.fnTellApiVersionsRequestRow.laid ((World.doorLaid Go.Proofs.Tryz.prog 400 os).forCall (fun _ _ => 0) ⟨#[], args, []⟩).memory :=
  laidMetH_of_parts3 (fuel := 8) (laidMet_of_run' 8 (by kernel_rfl) (by kernel_rfl)) (by kernel_rfl) (by kernel_rfl)
end Go.Kf
