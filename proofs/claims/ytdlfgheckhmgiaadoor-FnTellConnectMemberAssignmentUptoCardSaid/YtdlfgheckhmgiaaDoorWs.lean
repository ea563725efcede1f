/- Closed facts of this translation: its numbers, its shared functions' codes, its types; no condition. -/
import Derived.Test.YtdlfgheckhmgiaaDoorWg
import Derived.Test.YtdlfgheckhmgiaaDoorWg
import Derived.Shelf.GgSortFunc.Whole
import Derived.Test.YtdlfgheckhmgiaaDoorRows
import Derived.Test.YtdlfgheckhmgiaaDoorTie
import Derived.Test.YtdlfgheckhmgiaaDoorCards
import Derived.LaidMore
import Derived.Stop.Joined
import Derived.Stop.LaidErr
import Derived.SevenTiedAt
import Derived.Deep.DeepHandedRow
import Derived.JoinedCond
set_option linter.unusedSimpArgs false
set_option linter.unusedVariables false
set_option maxRecDepth 100000
namespace Go.Kf
open Go

def NS : Nums where
  zcr := 175
  zfy := 202
  zbv := 183
  zbx := 192
  zcl := 197
  zba := 177
  zax := 171
  zfc := 210
  zbz := 180
  zfo := 174
  zec := 195
  zci := 194
  zeu := 176
  zaf := 208
  zde := 173
  zbd := 191
  zbp := 196
  zbl := 193
  zca := 172
  zen := 185
  zao := 206
  zdj := 235
  zgk := 132
  zdd := 189
  zhk := 207
  zcv := 234
  zkk := 244
  zda := 233
  zdw := 236
  zdv := 251
  zhj := 146
  zqn := 19
  zdi := 186
  zgj := 188
  zms := 134
  zbu := 63
  zjb := 23
  zgh := 164
  zwu := 26
  zex := 0
  zah := 1
  t_ := 0
  zbr := 129
  zeo := 33
  zv := 32
  zk := 24
  zn := 23
  zbi := 226
  za := 22
  zbf := 224
  zch := 140
  zad := 213
  zhs := 75
  zdl := 79
  zz := 35
  zbo := 257
  zae := 4
  zgn := 60
  znk := 228
  zmx := 133
  zg := 3
  zcj := 53
  zcw := 21
  zav := 2
  zhz := 141
  zxu := 20
  zag := 77
  zab := 72
  zc := 26
  zaw := 9
  zgz := 264
  zfq := 172
  zp := 70
  zvz := 276
  zat := 221
  zy := 5

def MS : zcd where
  zdx := 58
  zer := 125
  zeb := 55
  zea := 18
  zku := 17
  zgi := 61
  zcu := 182
  zlq := 56
  zgu := 57
  zdr := 237
  zhw := 181
  zhv := 128
  zey := 127
  zja := 123
  zgt := 126
  zhi := 60
  zho := 62
  zlp := 59
  zhu := 238
  zdk := 64
  zjs := 124
  zrx := 13
  zrw := 49
  zoz := 118
  zac := 28
  zf := 51
  zai := 30

theorem baseS : Base Go.Proofs.Tryd.prog NS := base_ok (by kernel_rfl) (by kernel_rfl) (by kernel_rfl)

theorem fok_bigEndian_Uint16 : FOk Go.Proofs.Tryd.prog 233 2 (zjx NS) [.var 2] := ⟨Go.Proofs.Tryd.f233, _, [0, 1, 4], Go.Proofs.Tryd.func233, rfl, by kernel_rfl, by kernel_rfl, by decide, by kernel_rfl, by kernel_rfl⟩
theorem fok_bigEndian_Uint32 : FOk Go.Proofs.Tryd.prog 236 2 (zjw NS) [.var 2] := ⟨Go.Proofs.Tryd.f236, _, [0, 1, 4], Go.Proofs.Tryd.func236, rfl, by kernel_rfl, by kernel_rfl, by decide, by kernel_rfl, by kernel_rfl⟩
theorem fok_bigEndian_Uint64 : FOk Go.Proofs.Tryd.prog 251 2 (zjv NS) [.var 2] := ⟨Go.Proofs.Tryd.f251, _, [0, 1, 4], Go.Proofs.Tryd.func251, rfl, by kernel_rfl, by kernel_rfl, by decide, by kernel_rfl, by kernel_rfl⟩
theorem fok_UnsafeString : FOk Go.Proofs.Tryd.prog 234 1 (zne NS) [.var 1] := ⟨Go.Proofs.Tryd.f234, _, [0, 2], Go.Proofs.Tryd.func234, rfl, by kernel_rfl, by kernel_rfl, by decide, by kernel_rfl, by kernel_rfl⟩
theorem fok_Uvarint : FOk Go.Proofs.Tryd.prog 244 1 (zxc NS) [.var 1, .var 2] := ⟨Go.Proofs.Tryd.f244, _, [0, 2, 3, 4, 5, 8, 18, 22, 35, 39, 52, 56, 69, 73, 84], Go.Proofs.Tryd.func244, rfl, by kernel_rfl, by kernel_rfl, by decide, by kernel_rfl, by kernel_rfl⟩
theorem fok_PReader_Bool : FOk Go.Proofs.Tryd.prog 202 1 (zth NS) [.var 1] := ⟨Go.Proofs.Tryd.f202, _, [0, 2, 9, 3], Go.Proofs.Tryd.func202, rfl, by kernel_rfl, by kernel_rfl, by decide, by kernel_rfl, by kernel_rfl⟩
theorem fok_PReader_Int8 : FOk Go.Proofs.Tryd.prog 195 1 (ztg NS) [.var 1] := ⟨Go.Proofs.Tryd.f195, _, [0, 2, 9, 3], Go.Proofs.Tryd.func195, rfl, by kernel_rfl, by kernel_rfl, by decide, by kernel_rfl, by kernel_rfl⟩
theorem fok_PReader_Uint16 : FOk Go.Proofs.Tryd.prog 210 1 (zqo NS) [.var 1] := ⟨Go.Proofs.Tryd.f210, _, [0, 2, 9, 3], Go.Proofs.Tryd.func210, rfl, by kernel_rfl, by kernel_rfl, by decide, by kernel_rfl, by kernel_rfl⟩
theorem fok_PReader_Int16 : FOk Go.Proofs.Tryd.prog 171 1 (zsl NS) [.var 1] := ⟨Go.Proofs.Tryd.f171, _, [0, 2, 9, 3], Go.Proofs.Tryd.func171, rfl, by kernel_rfl, by kernel_rfl, by decide, by kernel_rfl, by kernel_rfl⟩
theorem fok_PReader_Int32 : FOk Go.Proofs.Tryd.prog 180 1 (zsk NS) [.var 1] := ⟨Go.Proofs.Tryd.f180, _, [0, 2, 9, 3], Go.Proofs.Tryd.func180, rfl, by kernel_rfl, by kernel_rfl, by decide, by kernel_rfl, by kernel_rfl⟩
theorem fok_PReader_readUint64 : FOk Go.Proofs.Tryd.prog 235 1 (znb NS) [.var 1] := ⟨Go.Proofs.Tryd.f235, _, [0, 2, 9, 3], Go.Proofs.Tryd.func235, rfl, by kernel_rfl, by kernel_rfl, by decide, by kernel_rfl, by kernel_rfl⟩
theorem fok_PReader_Int64 : FOk Go.Proofs.Tryd.prog 174 1 (zlx NS) [.var 1] := ⟨Go.Proofs.Tryd.f174, _, [0, 2], Go.Proofs.Tryd.func174, rfl, by kernel_rfl, by kernel_rfl, by decide, by kernel_rfl, by kernel_rfl⟩
theorem fok_PReader_Uuid : FOk Go.Proofs.Tryd.prog 185 1 (zng NS) [.cell 1 NS.zbr] := ⟨Go.Proofs.Tryd.f185, _, [0, 2, 3], Go.Proofs.Tryd.func185, rfl, by kernel_rfl, by kernel_rfl, by decide, by kernel_rfl, by kernel_rfl⟩
theorem fok_PReader_Uvarint : FOk Go.Proofs.Tryd.prog 206 1 (zkl NS) [.var 1] := ⟨Go.Proofs.Tryd.f206, _, [0, 2, 3, 4, 14], Go.Proofs.Tryd.func206, rfl, by kernel_rfl, by kernel_rfl, by decide, by kernel_rfl, by kernel_rfl⟩
theorem fok_PReader_Span : FOk Go.Proofs.Tryd.prog 208 2 (znh NS) [.var 2] := ⟨Go.Proofs.Tryd.f208, _, [0, 1, 4, 16, 5], Go.Proofs.Tryd.func208, rfl, by kernel_rfl, by kernel_rfl, by decide, by kernel_rfl, by kernel_rfl⟩
theorem fok_PReader_String : FOk Go.Proofs.Tryd.prog 173 1 (zlb NS) [.var 1] := ⟨Go.Proofs.Tryd.f173, _, [0, 2, 3], Go.Proofs.Tryd.func173, rfl, by kernel_rfl, by kernel_rfl, by decide, by kernel_rfl, by kernel_rfl⟩
theorem fok_PReader_UnsafeString : FOk Go.Proofs.Tryd.prog 172 1 (zhb NS) [.var 1] := ⟨Go.Proofs.Tryd.f172, _, [0, 2, 3], Go.Proofs.Tryd.func172, rfl, by kernel_rfl, by kernel_rfl, by decide, by kernel_rfl, by kernel_rfl⟩
theorem fok_PReader_CompactString : FOk Go.Proofs.Tryd.prog 197 1 (zgw NS) [.var 1] := ⟨Go.Proofs.Tryd.f197, _, [0, 2, 3], Go.Proofs.Tryd.func197, rfl, by kernel_rfl, by kernel_rfl, by decide, by kernel_rfl, by kernel_rfl⟩
theorem fok_PReader_UnsafeCompactString : FOk Go.Proofs.Tryd.prog 196 1 (zfd NS) [.var 1] := ⟨Go.Proofs.Tryd.f196, _, [0, 2, 3], Go.Proofs.Tryd.func196, rfl, by kernel_rfl, by kernel_rfl, by decide, by kernel_rfl, by kernel_rfl⟩
theorem fok_PReader_NullableString : FOk Go.Proofs.Tryd.prog 194 1 (zgl NS) [.var 1] := ⟨Go.Proofs.Tryd.f194, _, [0, 2, 3, 8, 4], Go.Proofs.Tryd.func194, rfl, by kernel_rfl, by kernel_rfl, by decide, by kernel_rfl, by kernel_rfl⟩
theorem fok_PReader_UnsafeNullableString : FOk Go.Proofs.Tryd.prog 193 1 (zev NS) [.var 1] := ⟨Go.Proofs.Tryd.f193, _, [0, 2, 3, 8, 4], Go.Proofs.Tryd.func193, rfl, by kernel_rfl, by kernel_rfl, by decide, by kernel_rfl, by kernel_rfl⟩
theorem fok_PReader_CompactNullableString : FOk Go.Proofs.Tryd.prog 192 1 (zes NS) [.var 1] := ⟨Go.Proofs.Tryd.f192, _, [0, 2, 3, 10, 4], Go.Proofs.Tryd.func192, rfl, by kernel_rfl, by kernel_rfl, by decide, by kernel_rfl, by kernel_rfl⟩
theorem fok_PReader_UnsafeCompactNullableString : FOk Go.Proofs.Tryd.prog 191 1 (zdz NS) [.var 1] := ⟨Go.Proofs.Tryd.f191, _, [0, 2, 3, 10, 4], Go.Proofs.Tryd.func191, rfl, by kernel_rfl, by kernel_rfl, by decide, by kernel_rfl, by kernel_rfl⟩
theorem fok_PReader_ArrayLen : FOk Go.Proofs.Tryd.prog 175 1 (zjz NS) [.var 1] := ⟨Go.Proofs.Tryd.f175, _, [0, 2, 3, 13], Go.Proofs.Tryd.func175, rfl, by kernel_rfl, by kernel_rfl, by decide, by kernel_rfl, by kernel_rfl⟩
theorem fok_PReader_CompactArrayLen : FOk Go.Proofs.Tryd.prog 183 1 (zfz NS) [.var 1] := ⟨Go.Proofs.Tryd.f183, _, [0, 2, 3, 15], Go.Proofs.Tryd.func183, rfl, by kernel_rfl, by kernel_rfl, by decide, by kernel_rfl, by kernel_rfl⟩
theorem fok_PReader_Complete : FOk Go.Proofs.Tryd.prog 177 1 (zjy NS) [.var 1] := ⟨Go.Proofs.Tryd.f177, _, [0, 2, 6], Go.Proofs.Tryd.func177, rfl, by kernel_rfl, by kernel_rfl, by decide, by kernel_rfl, by kernel_rfl⟩
theorem fok_PReader_Ok : FOk Go.Proofs.Tryd.prog 176 1 (zql NS) [.var 1] := ⟨Go.Proofs.Tryd.f176, _, [0, 2], Go.Proofs.Tryd.func176, rfl, by kernel_rfl, by kernel_rfl, by decide, by kernel_rfl, by kernel_rfl⟩
theorem fok_PTags_Set : FOk Go.Proofs.Tryd.prog 207 3 (zsj NS) [] := ⟨Go.Proofs.Tryd.f207, _, [0, 1, 2, 10], Go.Proofs.Tryd.func207, rfl, by kernel_rfl, by kernel_rfl, by decide, by kernel_rfl, by kernel_rfl⟩
theorem fok_internalReadTags : FOk Go.Proofs.Tryd.prog 186 1 (zju NS) [.cell 1 NS.zdl] := ⟨Go.Proofs.Tryd.f186, _, [0, 2, 3, 4, 10, 5, 6], Go.Proofs.Tryd.func186, rfl, by kernel_rfl, by kernel_rfl, by decide, by kernel_rfl, by kernel_rfl⟩
theorem fok_PTags_Each : FOk Go.Proofs.Tryd.prog 132 2 (zqk NS) [] := ⟨Go.Proofs.Tryd.f132, _, [0, 1, 13, 4, 24, 26, 5, 37, 38, 39, 40, 7], Go.Proofs.Tryd.func132, rfl, by kernel_rfl, by kernel_rfl, by decide, by kernel_rfl, by kernel_rfl⟩
theorem fok_PTags_Each_1 : FOk Go.Proofs.Tryd.prog 189 3 (znf NS) [.var 3] := ⟨Go.Proofs.Tryd.f189, _, [0, 1, 2, 5], Go.Proofs.Tryd.func189, rfl, by kernel_rfl, by kernel_rfl, by decide, by kernel_rfl, by kernel_rfl⟩
theorem fok_sorted : FOk Go.Proofs.Tryd.prog 134 1 (c_sorted NS) [] := ⟨Go.Proofs.Tryd.f134, _, [0, 5, 6, 7, 2, 3, 25], Go.Proofs.Tryd.func134, rfl, by kernel_rfl, by kernel_rfl, by decide, by kernel_rfl, by kernel_rfl⟩
theorem fok_boolTree : FOk Go.Proofs.Tryd.prog 146 1 (zud NS) [.cell 1 NS.zz] := ⟨Go.Proofs.Tryd.f146, _, [0, 2, 3], Go.Proofs.Tryd.func146, rfl, by kernel_rfl, by kernel_rfl, by decide, by kernel_rfl, by kernel_rfl⟩
theorem fok_textTree : FOk Go.Proofs.Tryd.prog 164 1 (zuc NS) [.cell 1 NS.zz] := ⟨Go.Proofs.Tryd.f164, _, [0, 2, 4], Go.Proofs.Tryd.func164, rfl, by kernel_rfl, by kernel_rfl, by decide, by kernel_rfl, by kernel_rfl⟩
theorem fok_spec_Same : FOk Go.Proofs.Tryd.prog 63 2 (zsi NS) [.var 2] := ⟨Go.Proofs.Tryd.f63, _, [0, 1, 4, 10, 12, 13, 14, 5, 24], Go.Proofs.Tryd.func63, rfl, by kernel_rfl, by kernel_rfl, by decide, by kernel_rfl, by kernel_rfl⟩
theorem fok_spec_SameTree : FOk Go.Proofs.Tryd.prog 23 2 (zsh NS) [.var 4] := ⟨Go.Proofs.Tryd.f23, _, [0, 1, 2, 3, 4, 44, 47, 48, 49, 5, 62, 66, 67, 68, 6, 98], Go.Proofs.Tryd.func23, rfl, by kernel_rfl, by kernel_rfl, by decide, by kernel_rfl, by kernel_rfl⟩
theorem fok_version : FOk Go.Proofs.Tryd.prog 26 2 (c_version NS) [.var 2] := ⟨Go.Proofs.Tryd.f26, _, [0, 1, 4], Go.Proofs.Tryd.func26, rfl, by kernel_rfl, by kernel_rfl, by decide, by kernel_rfl, by kernel_rfl⟩
theorem fok_got : FOk Go.Proofs.Tryd.prog 19 1 (c_got NS) [.cell 2 NS.zc] := ⟨Go.Proofs.Tryd.f19, _, [0, 1, 2, 3, 16, 17, 18, 19, 5, 31, 32, 33, 34, 7], Go.Proofs.Tryd.func19, rfl, by kernel_rfl, by kernel_rfl, by decide, by kernel_rfl, by kernel_rfl⟩

theorem fnsS : Fns Go.Proofs.Tryd.prog NS where
  bigEndian_Uint16 := fun _ => fok_bigEndian_Uint16
  bigEndian_Uint32 := fun _ => fok_bigEndian_Uint32
  bigEndian_Uint64 := fun _ => fok_bigEndian_Uint64
  UnsafeString := fun _ => fok_UnsafeString
  Uvarint := fun _ => fok_Uvarint
  PReader_Bool := fun _ => fok_PReader_Bool
  PReader_Int8 := fun _ => fok_PReader_Int8
  PReader_Uint16 := fun _ => ⟨fok_PReader_Uint16, by decide⟩
  PReader_Int16 := fun _ => ⟨fok_PReader_Int16, by decide⟩
  PReader_Int32 := fun _ => ⟨fok_PReader_Int32, by decide⟩
  PReader_readUint64 := fun _ => ⟨fok_PReader_readUint64, by decide⟩
  PReader_Int64 := fun _ => ⟨fok_PReader_Int64, by decide⟩
  PReader_Uuid := fun _ => ⟨fok_PReader_Uuid, by decide⟩
  PReader_Uvarint := fun _ => ⟨fok_PReader_Uvarint, by decide⟩
  PReader_Span := fun _ => fok_PReader_Span
  PReader_String := fun _ => ⟨fok_PReader_String, by decide, by decide⟩
  PReader_UnsafeString := fun _ => ⟨fok_PReader_UnsafeString, by decide, by decide, by decide⟩
  PReader_CompactString := fun _ => ⟨fok_PReader_CompactString, by decide, by decide⟩
  PReader_UnsafeCompactString := fun _ => ⟨fok_PReader_UnsafeCompactString, by decide, by decide, by decide⟩
  PReader_NullableString := fun _ => ⟨fok_PReader_NullableString, by decide, by decide⟩
  PReader_UnsafeNullableString := fun _ => ⟨fok_PReader_UnsafeNullableString, by decide, by decide, by decide⟩
  PReader_CompactNullableString := fun _ => ⟨fok_PReader_CompactNullableString, by decide, by decide⟩
  PReader_UnsafeCompactNullableString := fun _ => ⟨fok_PReader_UnsafeCompactNullableString, by decide, by decide, by decide⟩
  PReader_Bytes := fun h => absurd rfl h
  PReader_CompactBytes := fun h => absurd rfl h
  PReader_NullableBytes := fun h => absurd rfl h
  PReader_CompactNullableBytes := fun h => absurd rfl h
  PReader_ArrayLen := fun _ => ⟨fok_PReader_ArrayLen, by decide⟩
  PReader_CompactArrayLen := fun _ => ⟨fok_PReader_CompactArrayLen, by decide⟩
  PReader_Complete := fun _ => fok_PReader_Complete
  PReader_Ok := fun _ => fok_PReader_Ok
  PTags_Set := fun _ => fok_PTags_Set
  internalReadTags := fun _ => ⟨fok_internalReadTags, by decide, by decide, by decide⟩
  PTags_Each := fun _ => ⟨fok_PTags_Each, by decide, by decide⟩
  PTags_Each_1 := fun _ => fok_PTags_Each_1
  sorted := fun _ => fok_sorted
  boolTree := fun _ => fok_boolTree
  textTree := fun _ => fok_textTree
  octetsTree := fun h => absurd rfl h
  spec_Same := fun _ => fok_spec_Same
  spec_SameTree := fun _ => ⟨fok_spec_SameTree, by decide⟩
  version := fun _ => fok_version
  got := fun _ => fok_got

theorem implT : zff Go.Proofs.Tryd.prog NS := ⟨sfB_ok (by kernel_rfl), sfB_ok (by kernel_rfl), zty (by kernel_rfl), zty (by kernel_rfl), zty (by kernel_rfl), zty (by kernel_rfl), zty (by kernel_rfl), zty (by kernel_rfl), zty (by kernel_rfl), zhr (by kernel_rfl), zhr (by kernel_rfl)⟩
theorem specT : zgf Go.Proofs.Tryd.prog NS NS.zc NS.zab NS.zn NS.zk := ⟨sfB_ok (by kernel_rfl), sfB_ok (by kernel_rfl), zty (by kernel_rfl), zty (by kernel_rfl), zty (by kernel_rfl), zty (by kernel_rfl), zty (by kernel_rfl), zty (by kernel_rfl), zty (by kernel_rfl), zhr (by kernel_rfl), zhr (by kernel_rfl)⟩
theorem spT : SpT Go.Proofs.Tryd.prog NS MS := ⟨sfB_ok (by kernel_rfl), zty (by kernel_rfl), zty (by kernel_rfl), zty (by kernel_rfl), zty (by kernel_rfl), zty (by kernel_rfl), zty (by kernel_rfl), zty (by kernel_rfl), zty (by kernel_rfl), zhr (by kernel_rfl), sfB_ok (by kernel_rfl), zty (by kernel_rfl), zty (by kernel_rfl), specT⟩
theorem treeO : TreeO Go.Proofs.Tryd.prog NS where
  tree := ⟨_, Go.Proofs.Tryd.underlying26, by kernel_rfl⟩
  tag := ⟨_, Go.Proofs.Tryd.underlying72, by kernel_rfl⟩
  cTree := by kernel_rfl
  cTag := by kernel_rfl
  c1 := ⟨by kernel_rfl, by kernel_rfl, by kernel_rfl, by kernel_rfl, by kernel_rfl, by kernel_rfl, by kernel_rfl⟩
theorem sp_zzFits3 : FOk Go.Proofs.Tryd.prog 118 1 (zsc NS MS) [.var 2] := ⟨Go.Proofs.Tryd.f118, _, [0, 1, 2, 6], Go.Proofs.Tryd.func118, rfl, by kernel_rfl, by kernel_rfl, by decide, by kernel_rfl, by kernel_rfl⟩
theorem sp_zzFits2 : FOk Go.Proofs.Tryd.prog 49 1 (zxa NS MS) [.var 1] := ⟨Go.Proofs.Tryd.f49, _, [0, 2, 7, 8, 9, 10, 11, 4, 16], Go.Proofs.Tryd.func49, rfl, by kernel_rfl, by kernel_rfl, by decide, by kernel_rfl, by kernel_rfl⟩
theorem sp_zzFits1 : FOk Go.Proofs.Tryd.prog 13 1 (zxb NS MS) [.var 2] := ⟨Go.Proofs.Tryd.f13, _, [0, 1, 2, 6, 10, 14], Go.Proofs.Tryd.func13, rfl, by kernel_rfl, by kernel_rfl, by decide, by kernel_rfl, by kernel_rfl⟩
theorem sp_spec_Field_has : FOk Go.Proofs.Tryd.prog 58 2 (zhx NS MS) [.var 3] := ⟨Go.Proofs.Tryd.f58, _, [0, 1, 2, 4], Go.Proofs.Tryd.func58, rfl, by kernel_rfl, by kernel_rfl, by decide, by kernel_rfl, by kernel_rfl⟩
theorem sp_spec_Field_null : FOk Go.Proofs.Tryd.prog 125 3 (zhl NS MS) [.var 5] := ⟨Go.Proofs.Tryd.f125, _, [0, 1, 2, 3, 5, 6], Go.Proofs.Tryd.func125, rfl, by kernel_rfl, by kernel_rfl, by decide, by kernel_rfl, by kernel_rfl⟩
theorem sp_spec_whole : FOk Go.Proofs.Tryd.prog 64 1 (zlv NS MS) [.var 1] := ⟨Go.Proofs.Tryd.f64, _, [0, 2], Go.Proofs.Tryd.func64, rfl, by kernel_rfl, by kernel_rfl, by decide, by kernel_rfl, by kernel_rfl⟩
theorem sp_spec_things : FOk Go.Proofs.Tryd.prog 126 1 (zkv NS MS) [.var 1] := ⟨Go.Proofs.Tryd.f126, _, [0, 2], Go.Proofs.Tryd.func126, rfl, by kernel_rfl, by kernel_rfl, by decide, by kernel_rfl, by kernel_rfl⟩
theorem sp_spec_at : FOk Go.Proofs.Tryd.prog 57 2 (zsf NS MS) [.cell 3 NS.zc] := ⟨Go.Proofs.Tryd.f57, _, [0, 1, 2, 4, 9], Go.Proofs.Tryd.func57, rfl, by kernel_rfl, by kernel_rfl, by decide, by kernel_rfl, by kernel_rfl⟩
theorem sp_spec_Uvarint : FOk Go.Proofs.Tryd.prog 182 1 (zhp NS MS) [.var 1] := ⟨Go.Proofs.Tryd.f182, _, [0, 2, 3, 5], Go.Proofs.Tryd.func182, rfl, by kernel_rfl, by kernel_rfl, by decide, by kernel_rfl, by kernel_rfl⟩
theorem sp_spec_Fixed : FOk Go.Proofs.Tryd.prog 55 2 (zjt NS MS) [.var 2] := ⟨Go.Proofs.Tryd.f55, _, [0, 1, 4, 5, 6, 10], Go.Proofs.Tryd.func55, rfl, by kernel_rfl, by kernel_rfl, by decide, by kernel_rfl, by kernel_rfl⟩
theorem sp_spec_width : FOk Go.Proofs.Tryd.prog 124 1 (zlu NS MS) [.var 1] := ⟨Go.Proofs.Tryd.f124, _, [0, 2, 3, 4, 6, 9], Go.Proofs.Tryd.func124, rfl, by kernel_rfl, by kernel_rfl, by decide, by kernel_rfl, by kernel_rfl⟩
theorem sp_spec_counted : FOk Go.Proofs.Tryd.prog 237 4 (zkb NS MS) [.var 4] := ⟨Go.Proofs.Tryd.f237, _, [0, 1, 2, 3, 8, 9, 15, 21], Go.Proofs.Tryd.func237, rfl, by kernel_rfl, by kernel_rfl, by decide, by kernel_rfl, by kernel_rfl⟩
theorem sp_spec_value : FOk Go.Proofs.Tryd.prog 238 6 (zqf NS MS) [.var 7] := ⟨Go.Proofs.Tryd.f238, _, [0, 1, 2, 3, 4, 5, 11, 12, 16, 17, 24, 13, 32, 14, 37, 45, 15, 50, 58], Go.Proofs.Tryd.func238, rfl, by kernel_rfl, by kernel_rfl, by decide, by kernel_rfl, by kernel_rfl⟩
theorem sp_spec_field : FOk Go.Proofs.Tryd.prog 181 4 (zqg NS MS) [.var 6] := ⟨Go.Proofs.Tryd.f181, _, [0, 1, 2, 3, 4, 7, 8, 9, 19, 10, 23, 11, 30, 31, 32, 12, 56, 57], Go.Proofs.Tryd.func181, rfl, by kernel_rfl, by kernel_rfl, by decide, by kernel_rfl, by kernel_rfl⟩
theorem sp_spec_known : FOk Go.Proofs.Tryd.prog 128 1 (zlw NS MS) [.var 1] := ⟨Go.Proofs.Tryd.f128, _, [0, 2, 3, 6, 7, 8, 9, 5, 14], Go.Proofs.Tryd.func128, rfl, by kernel_rfl, by kernel_rfl, by decide, by kernel_rfl, by kernel_rfl⟩
theorem sp_spec_unknown : FOk Go.Proofs.Tryd.prog 62 2 (znd NS MS) [.var 2] := ⟨Go.Proofs.Tryd.f62, _, [0, 1, 4, 5, 6, 17, 18, 19, 20, 8, 9, 36, 58, 10, 68], Go.Proofs.Tryd.func62, rfl, by kernel_rfl, by kernel_rfl, by decide, by kernel_rfl, by kernel_rfl⟩
theorem sp_spec_part : FOk Go.Proofs.Tryd.prog 123 4 (zse NS MS) [.var 5] := ⟨Go.Proofs.Tryd.f123, _, [0, 1, 2, 3, 7, 8, 9, 10, 11, 21, 22, 23, 24, 13, 12, 35, 47, 51, 52, 53, 14, 55, 56, 57, 58, 16, 15, 73, 17, 100, 101, 102, 103, 19, 20], Go.Proofs.Tryd.func123, rfl, by kernel_rfl, by kernel_rfl, by decide, by kernel_rfl, by kernel_rfl⟩
theorem sp_spec_Write : FOk Go.Proofs.Tryd.prog 56 3 (zqh NS MS) [.var 5] := ⟨Go.Proofs.Tryd.f56, _, [0, 1, 2, 3, 5, 6], Go.Proofs.Tryd.func56, rfl, by kernel_rfl, by kernel_rfl, by decide, by kernel_rfl, by kernel_rfl⟩
theorem sp_spec_number : FOk Go.Proofs.Tryd.prog 127 2 (zkw NS MS) [.var 2] := ⟨Go.Proofs.Tryd.f127, _, [0, 1, 4, 5, 6, 10, 15, 20, 25], Go.Proofs.Tryd.func127, rfl, by kernel_rfl, by kernel_rfl, by decide, by kernel_rfl, by kernel_rfl⟩
theorem sp_spec_Usual : FOk Go.Proofs.Tryd.prog 61 2 (zqi NS MS) [.var 3] := ⟨Go.Proofs.Tryd.f61, _, [0, 1, 3, 4, 11, 12, 13, 14, 15, 6, 5, 7, 23, 32, 45, 46, 52, 53, 65, 66, 87, 31], Go.Proofs.Tryd.func61, rfl, by kernel_rfl, by kernel_rfl, by decide, by kernel_rfl, by kernel_rfl⟩
theorem sp_spec_told : FOk Go.Proofs.Tryd.prog 60 5 (zsd NS MS) [.var 8] := ⟨Go.Proofs.Tryd.f60, _, [0, 1, 2, 3, 4, 5, 8, 9, 10, 11, 12, 46, 47, 49, 50, 59, 13, 70, 79, 14, 89, 15, 97, 98, 99, 16, 114], Go.Proofs.Tryd.func60, rfl, by kernel_rfl, by kernel_rfl, by decide, by kernel_rfl, by kernel_rfl⟩
theorem sp_spec_Told : FOk Go.Proofs.Tryd.prog 17 5 (zsg NS MS) [.var 7] := ⟨Go.Proofs.Tryd.f17, _, [0, 1, 2, 3, 4, 8, 9, 10, 22, 23, 24, 25, 26, 12, 11, 13, 54, 65, 76, 14, 83, 89, 90, 91, 92, 93, 16, 15, 118], Go.Proofs.Tryd.func17, rfl, by kernel_rfl, by kernel_rfl, by decide, by kernel_rfl, by kernel_rfl⟩
theorem sp_spec_Message_Flexible : FOk Go.Proofs.Tryd.prog 18 2 (zez NS MS) [.var 3] := ⟨Go.Proofs.Tryd.f18, _, [0, 1, 2, 4], Go.Proofs.Tryd.func18, rfl, by kernel_rfl, by kernel_rfl, by decide, by kernel_rfl, by kernel_rfl⟩
theorem thSZ : SZ Go.Proofs.Tryd.prog NS MS := ⟨sp_zzFits3, sp_zzFits2, sp_zzFits1⟩
theorem thSW : SW Go.Proofs.Tryd.prog NS MS := ⟨sp_spec_Field_has, sp_spec_Field_null, sp_spec_whole, sp_spec_things, sp_spec_at, sp_spec_Uvarint, sp_spec_Fixed, sp_spec_width, sp_spec_counted, sp_spec_value, sp_spec_field, sp_spec_known, sp_spec_unknown, sp_spec_part, sp_spec_Write⟩
theorem thSTo : STo Go.Proofs.Tryd.prog NS MS := ⟨sp_spec_number, sp_spec_Usual, sp_spec_told, sp_spec_Told, sp_spec_Message_Flexible, by decide⟩
theorem bulkF (H : Type) : BulkF (Proofs.YtdlfgheckhmgiaaDoor.Rows.uptoBulk (H := H)) Proofs.YtdlfgheckhmgiaaDoor.Rows.uptoBulkAll := ⟨fun l => by cases l <;> simp [Proofs.YtdlfgheckhmgiaaDoor.Rows.uptoBulk], fun _ _ => rfl, fun _ => rfl, rfl, rfl, fun _ _ => rfl⟩

def slRen : Go.Shelf.Ren := ⟨fun | 6 => 188 | 10 => 239 | 11 => 240 | 12 => 241 | 13 => 242 | 14 => 243 | 24 => 261 | 25 => 262 | 26 => 263 | 27 => 264 | 28 => 265 | 29 => 266 | 30 => 267 | 31 => 268 | 32 => 269 | 33 => 270 | 34 => 272 | 35 => 273 | 36 => 274 | 37 => 275 | 38 => 276 | 39 => 277 | n => n, fun | 20 => 20 | 26 => 228 | 35 => 268 | 0 => 0 | 37 => 270 | 3 => 3 | 41 => 264 | 44 => 275 | 49 => 70 | 51 => 221 | 4 => 4 | 54 => 287 | 53 => 286 | 58 => 291 | 5 => 5 | 9 => 9 | 60 => 293 | 64 => 296 | 66 => 298 | 67 => 299 | 17 => 17 | 32 => 265 | 33 => 266 | 82 => 314 | 12 => 12 | 75 => 307 | 76 => 308 | 77 => 309 | 78 => 310 | 79 => 311 | 80 => 312 | n => n, fun | n => n⟩
theorem sl6 : Go.Proofs.LaysGg.n6 Go.Proofs.Tryd.prog slRen where
  mixed := by kernel_rfl
  f6 := Go.Proofs.Tryd.func188.trans (congrArg some (by kernel_rfl))
  f10 := Go.Proofs.Tryd.func239.trans (congrArg some (by kernel_rfl))
  f11 := Go.Proofs.Tryd.func240.trans (congrArg some (by kernel_rfl))
  f12 := Go.Proofs.Tryd.func241.trans (congrArg some (by kernel_rfl))
  f13 := Go.Proofs.Tryd.func242.trans (congrArg some (by kernel_rfl))
  f14 := Go.Proofs.Tryd.func243.trans (congrArg some (by kernel_rfl))
  f24 := Go.Proofs.Tryd.func261.trans (congrArg some (by kernel_rfl))
  f25 := Go.Proofs.Tryd.func262.trans (congrArg some (by kernel_rfl))
  f26 := Go.Proofs.Tryd.func263.trans (congrArg some (by kernel_rfl))
  f27 := Go.Proofs.Tryd.func264.trans (congrArg some (by kernel_rfl))
  f28 := Go.Proofs.Tryd.func265.trans (congrArg some (by kernel_rfl))
  f29 := Go.Proofs.Tryd.func266.trans (congrArg some (by kernel_rfl))
  f30 := Go.Proofs.Tryd.func267.trans (congrArg some (by kernel_rfl))
  f31 := Go.Proofs.Tryd.func268.trans (congrArg some (by kernel_rfl))
  f32 := Go.Proofs.Tryd.func269.trans (congrArg some (by kernel_rfl))
  f33 := Go.Proofs.Tryd.func270.trans (congrArg some (by kernel_rfl))
  f34 := Go.Proofs.Tryd.func272.trans (congrArg some (by kernel_rfl))
  f35 := Go.Proofs.Tryd.func273.trans (congrArg some (by kernel_rfl))
  f36 := Go.Proofs.Tryd.func274.trans (congrArg some (by kernel_rfl))
  f37 := Go.Proofs.Tryd.func275.trans (congrArg some (by kernel_rfl))
  f38 := Go.Proofs.Tryd.func276.trans (congrArg some (by kernel_rfl))
  f39 := Go.Proofs.Tryd.func277.trans (congrArg some (by kernel_rfl))
  t0 := Go.Proofs.Tryd.underlying0
  a0 := Go.Proofs.Tryd.isAgg0
  z0 := Go.Proofs.Tryd.sizeOf0
  v0 := Go.Proofs.Tryd.zeroValue0
  i0 := by kernel_rfl
  t3 := Go.Proofs.Tryd.underlying3
  a3 := Go.Proofs.Tryd.isAgg3
  z3 := Go.Proofs.Tryd.sizeOf3
  v3 := Go.Proofs.Tryd.zeroValue3
  i3 := by kernel_rfl
  t4 := Go.Proofs.Tryd.underlying4
  a4 := Go.Proofs.Tryd.isAgg4
  z4 := Go.Proofs.Tryd.sizeOf4
  v4 := Go.Proofs.Tryd.zeroValue4
  i4 := by kernel_rfl
  t5 := Go.Proofs.Tryd.underlying5
  a5 := Go.Proofs.Tryd.isAgg5
  z5 := Go.Proofs.Tryd.sizeOf5
  v5 := Go.Proofs.Tryd.zeroValue5
  i5 := by kernel_rfl
  t9 := Go.Proofs.Tryd.underlying9
  a9 := Go.Proofs.Tryd.isAgg9
  z9 := Go.Proofs.Tryd.sizeOf9
  v9 := Go.Proofs.Tryd.zeroValue9
  i9 := by kernel_rfl
  t12 := Go.Proofs.Tryd.underlying12
  a12 := Go.Proofs.Tryd.isAgg12
  z12 := Go.Proofs.Tryd.sizeOf12
  v12 := Go.Proofs.Tryd.zeroValue12
  i12 := by kernel_rfl
  t17 := Go.Proofs.Tryd.underlying17
  a17 := Go.Proofs.Tryd.isAgg17
  z17 := Go.Proofs.Tryd.sizeOf17
  v17 := Go.Proofs.Tryd.zeroValue17
  i17 := by kernel_rfl
  t20 := Go.Proofs.Tryd.underlying20
  a20 := Go.Proofs.Tryd.isAgg20
  z20 := Go.Proofs.Tryd.sizeOf20
  v20 := Go.Proofs.Tryd.zeroValue20
  i20 := by kernel_rfl
  t26 := Go.Proofs.Tryd.underlying228
  a26 := Go.Proofs.Tryd.isAgg228
  z26 := Go.Proofs.Tryd.sizeOf228
  v26 := Go.Proofs.Tryd.zeroValue228
  i26 := by kernel_rfl
  t32 := Go.Proofs.Tryd.underlying265
  a32 := Go.Proofs.Tryd.isAgg265
  z32 := Go.Proofs.Tryd.sizeOf265
  v32 := Go.Proofs.Tryd.zeroValue265
  i32 := by kernel_rfl
  t33 := Go.Proofs.Tryd.underlying266
  a33 := Go.Proofs.Tryd.isAgg266
  z33 := Go.Proofs.Tryd.sizeOf266
  v33 := Go.Proofs.Tryd.zeroValue266
  i33 := by kernel_rfl
  t35 := Go.Proofs.Tryd.underlying268
  a35 := Go.Proofs.Tryd.isAgg268
  z35 := Go.Proofs.Tryd.sizeOf268
  v35 := Go.Proofs.Tryd.zeroValue268
  i35 := by kernel_rfl
  t37 := Go.Proofs.Tryd.underlying270
  a37 := Go.Proofs.Tryd.isAgg270
  z37 := Go.Proofs.Tryd.sizeOf270
  v37 := Go.Proofs.Tryd.zeroValue270
  i37 := by kernel_rfl
  t41 := Go.Proofs.Tryd.underlying264
  a41 := Go.Proofs.Tryd.isAgg264
  z41 := Go.Proofs.Tryd.sizeOf264
  v41 := Go.Proofs.Tryd.zeroValue264
  i41 := by kernel_rfl
  t44 := Go.Proofs.Tryd.underlying275
  a44 := Go.Proofs.Tryd.isAgg275
  z44 := Go.Proofs.Tryd.sizeOf275
  v44 := Go.Proofs.Tryd.zeroValue275
  i44 := by kernel_rfl
  t49 := Go.Proofs.Tryd.underlying70
  a49 := Go.Proofs.Tryd.isAgg70
  z49 := Go.Proofs.Tryd.sizeOf70
  v49 := Go.Proofs.Tryd.zeroValue70
  i49 := by kernel_rfl
  t51 := Go.Proofs.Tryd.underlying221
  a51 := Go.Proofs.Tryd.isAgg221
  z51 := Go.Proofs.Tryd.sizeOf221
  v51 := Go.Proofs.Tryd.zeroValue221
  i51 := by kernel_rfl
  t53 := Go.Proofs.Tryd.underlying286
  a53 := Go.Proofs.Tryd.isAgg286
  z53 := Go.Proofs.Tryd.sizeOf286
  v53 := Go.Proofs.Tryd.zeroValue286
  i53 := by kernel_rfl
  t54 := Go.Proofs.Tryd.underlying287
  a54 := Go.Proofs.Tryd.isAgg287
  z54 := Go.Proofs.Tryd.sizeOf287
  v54 := Go.Proofs.Tryd.zeroValue287
  i54 := by kernel_rfl
  t58 := Go.Proofs.Tryd.underlying291
  a58 := Go.Proofs.Tryd.isAgg291
  z58 := Go.Proofs.Tryd.sizeOf291
  v58 := Go.Proofs.Tryd.zeroValue291
  i58 := by kernel_rfl
  t60 := Go.Proofs.Tryd.underlying293
  a60 := Go.Proofs.Tryd.isAgg293
  z60 := Go.Proofs.Tryd.sizeOf293
  v60 := Go.Proofs.Tryd.zeroValue293
  i60 := by kernel_rfl
  t64 := Go.Proofs.Tryd.underlying296
  a64 := Go.Proofs.Tryd.isAgg296
  z64 := Go.Proofs.Tryd.sizeOf296
  v64 := Go.Proofs.Tryd.zeroValue296
  i64 := by kernel_rfl
  t66 := Go.Proofs.Tryd.underlying298
  a66 := Go.Proofs.Tryd.isAgg298
  z66 := Go.Proofs.Tryd.sizeOf298
  v66 := Go.Proofs.Tryd.zeroValue298
  i66 := by kernel_rfl
  t67 := Go.Proofs.Tryd.underlying299
  a67 := Go.Proofs.Tryd.isAgg299
  z67 := Go.Proofs.Tryd.sizeOf299
  v67 := Go.Proofs.Tryd.zeroValue299
  i67 := by kernel_rfl
  t75 := Go.Proofs.Tryd.underlying307
  a75 := Go.Proofs.Tryd.isAgg307
  z75 := Go.Proofs.Tryd.sizeOf307
  v75 := Go.Proofs.Tryd.zeroValue307
  i75 := by kernel_rfl
  t76 := Go.Proofs.Tryd.underlying308
  a76 := Go.Proofs.Tryd.isAgg308
  z76 := Go.Proofs.Tryd.sizeOf308
  v76 := Go.Proofs.Tryd.zeroValue308
  i76 := by kernel_rfl
  t77 := Go.Proofs.Tryd.underlying309
  a77 := Go.Proofs.Tryd.isAgg309
  z77 := Go.Proofs.Tryd.sizeOf309
  v77 := Go.Proofs.Tryd.zeroValue309
  i77 := by kernel_rfl
  t78 := Go.Proofs.Tryd.underlying310
  a78 := Go.Proofs.Tryd.isAgg310
  z78 := Go.Proofs.Tryd.sizeOf310
  v78 := Go.Proofs.Tryd.zeroValue310
  i78 := by kernel_rfl
  t79 := Go.Proofs.Tryd.underlying311
  a79 := Go.Proofs.Tryd.isAgg311
  z79 := Go.Proofs.Tryd.sizeOf311
  v79 := Go.Proofs.Tryd.zeroValue311
  i79 := by kernel_rfl
  t80 := Go.Proofs.Tryd.underlying312
  a80 := Go.Proofs.Tryd.isAgg312
  z80 := Go.Proofs.Tryd.sizeOf312
  v80 := Go.Proofs.Tryd.zeroValue312
  i80 := by kernel_rfl
  t82 := Go.Proofs.Tryd.underlying314
  a82 := Go.Proofs.Tryd.isAgg314
  z82 := Go.Proofs.Tryd.sizeOf314
  v82 := Go.Proofs.Tryd.zeroValue314
  i82 := by kernel_rfl

noncomputable def sI : TypeInfo := (Go.Proofs.Tryd.prog.info? NS.zbi).get (by kernel_rfl)
noncomputable def sE : TypeInfo := (Go.Proofs.Tryd.prog.info? NS.zp).get (by kernel_rfl)
theorem sortT : SortT Go.Proofs.Tryd.prog NS where
  has := ⟨_, Go.Proofs.Tryd.func188, by kernel_rfl, by kernel_rfl⟩
  out := ⟨slRen, sI, sE, 257, 253, sl6, by kernel_rfl, by kernel_rfl, by kernel_rfl, by kernel_rfl, by kernel_rfl, fun _ => by kernel_rfl, by kernel_rfl, by kernel_rfl, by kernel_rfl, by kernel_rfl, by kernel_rfl,
    fun args W => run_callFunc_extern Go.Proofs.Tryd.func257 (by kernel_rfl) (by kernel_rfl) (by kernel_rfl) (e := Extern.ReflectliteSwapper.swap true) (by kernel_rfl) args W⟩
theorem lu : LU Go.Proofs.Tryd.prog NS := ⟨zhr (by kernel_rfl)⟩
theorem tellN : TellN Go.Proofs.Tryd.prog NS := ⟨by decide, by decide, by decide, lu, sortOk baseS fnsS (by decide) lu sortT⟩

theorem own : ownKnob Go.Proofs.Tryd.prog.godebug = none := by kernel_rfl
theorem laidOut : laidOutB Go.Proofs.Tryd.prog = true := by kernel_rfl
theorem gO : Go.Proofs.Tryd.prog.globalNamed "pub-mailsack/pub/kmsg/inner/kbin.ErrNotEnoughData" = some 1 := by kernel_rfl
theorem gT : (Go.Proofs.Tryd.prog.globals[1]?).map (·.type) = some 60 := by kernel_rfl
theorem cS : Go.Proofs.Tryd.prog.cellsOf 319 = 1 := by kernel_rfl
theorem cStr : Go.Proofs.Tryd.prog.cellsOf 9 = 1 := by kernel_rfl
theorem star : "*" ++ "errors.errorString" = "*errors.errorString" := by decide
theorem rowP (u : TypeId) (h : Go.Proofs.Tryd.prog.typeName? 3 u = some "*errors.errorString") : u = 301 :=
  typeName_ptr_named (nm := "errors.errorString") (by rw [star]; kernel_rfl) (by kernel_rfl) (by decide) u (by rw [star]; exact h)
theorem bandT {a b : Bool} (h : a = true) (h' : b = true) : (a && b) = true := by rw [h, h']; rfl
theorem bigEnter : Go.Proofs.Tryd.prog.mayEnter = true := by kernel_rfl
theorem bigLifts : (Proofs.YtdlfgheckhmgiaaDoor.Rows.fnTellConnectMemberAssignmentRow.lifted == Go.Proofs.Tryd.prog.liftsFinal) = true := by kernel_rfl
theorem bigMake : (Go.Proofs.Tryd.prog.make == some Proofs.YtdlfgheckhmgiaaDoor.Rows.fnTellConnectMemberAssignmentRow.make) = true := by kernel_rfl
theorem stopsHeardS : Go.Proofs.Tryd.prog.stopsHeard = true := by kernel_rfl
theorem mapsRowedS : mapsRowed Go.Proofs.Tryd.prog = true := by kernel_rfl
theorem plainKeysS : (Proofs.YtdlfgheckhmgiaaDoor.Rows.fnTellConnectMemberAssignmentRow.plainKeys == Go.Proofs.Tryd.prog.plainKeys) = true := by kernel_rfl
theorem mainS : Go.Proofs.Tryd.prog.mainIs = some (Proofs.YtdlfgheckhmgiaaDoor.Rows.fnTellConnectMemberAssignmentCard.stood.harness.1, Proofs.YtdlfgheckhmgiaaDoor.Rows.fnTellConnectMemberAssignmentCard.stood.harness.2.toList) := by kernel_rfl
theorem looksS : false = Go.Proofs.Tryd.prog.looks [] := by kernel_rfl
theorem shaped (os : Os) (args : Array Value) : ((World.doorLaid Go.Proofs.Tryd.prog 400 os).forCall (fun _ _ => 0) ⟨#[], args, []⟩).Shaped Go.Proofs.Tryd.prog := World.shaped_of_RefB (by kernel_rfl) (by kernel_rfl)
theorem door_met (os : Os) (args : Array Value) : laidMetH Go.Proofs.Tryd.prog Proofs.YtdlfgheckhmgiaaDoor.Rows.fnTellConnectMemberAssignmentRow.laid ((World.doorLaid Go.Proofs.Tryd.prog 400 os).forCall (fun _ _ => 0) ⟨#[], args, []⟩).memory :=
  laidMetH_of_parts3 (fuel := 8) (laidMet_of_run' 8 (by kernel_rfl) (by kernel_rfl)) (by kernel_rfl) (by kernel_rfl)
end Go.Kf
