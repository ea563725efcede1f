/- Closed facts of this translation: its numbers, its shared functions' codes, its types; no condition. -/
import Derived.Test.YtgmhkfdpdbecmaaGreatDoorKf
import Derived.Test.YtgmhkfdpdbecmaaGreatDoorKf
import Derived.Test.YtgmhkfdpdbecmaaGreatDoorKf
import Derived.Shelf.GgSortFunc.Whole
import Derived.Test.YtgmhkfdpdbecmaaGreatDoorRows
import Derived.Test.YtgmhkfdpdbecmaaGreatDoorTie
import Derived.Test.YtgmhkfdpdbecmaaGreatDoorCards
import Derived.LaidMore
import Derived.Stop.Joined
import Derived.Stop.LaidErr
import Derived.SevenTiedAt
import Derived.Deep.DeepHandedRow
import Derived.JoinedCond
set_option linter.unusedSimpArgs false
set_option linter.unusedVariables false
set_option maxRecDepth 100000
namespace Go.Kf
open Go

def NS : Nums where
  zcl := 179
  zgf := 209
  zbn := 178
  zbq := 194
  zct := 184
  zbd := 181
  zbc := 192
  zfg := 208
  zbs := 190
  zft := 218
  zge := 201
  zcc := 196
  zex := 180
  zx := 222
  zdv := 185
  zaz := 193
  zbx := 182
  zbh := 195
  zck := 183
  zeo := 199
  zaf := 220
  zdh := 229
  zgp := 188
  zda := 226
  zhl := 223
  zcp := 221
  zkp := 230
  zcy := 228
  zdt := 227
  zds := 236
  zdg := 186
  zgo := 225
  zen := 20
  zko := 17
  zfc := 1
  zag := 0
  t_ := 0
  zu := 109
  zn := 24
  zab := 23
  zbf := 222
  za := 22
  zba := 206
  zbm := 100
  zq := 200
  zdf := 80
  zbj := 226
  zav := 4
  zhi := 49
  znv := 224
  znc := 210
  ze := 3
  zbp := 40
  zcg := 21
  zde := 2
  zwv := 117
  zyw := 20
  zp := 78
  zac := 75
  zf := 26
  zai := 9
  zcd := 198
  zes := 152
  zb := 73
  zwu := 230
  zaa := 89
  zg := 5

def MS : zcr where
  zff := 122
  zfx := 172
  zeh := 176
  zvx := 276
  zco := 127
  zlz := 18
  zjj := 124
  zdn := 174
  zhz := 123
  zhy := 125
  zji := 54
  zis := 173
  zkc := 128
  zxs := 126
  zhx := 175
  zew := 129
  zjt := 177
  zsu := 14
  zst := 51
  zpb := 120
  zal := 29
  zi := 45
  zas := 31

def AN : zdp where
  zcq := 132
  zie := 162
  zbg := 131
  zaj := 151
  zcj := 142
  zce := 133
  zdd := 141
  zcu := 140
  zfy := 171
  zid := 150
  zbb := 152
  zdk := 143
  zdz := 134
  zdo := 161
  zep := 197
  zib := 147
  zdb := 135
  zei := 137
  zcx := 189
  zjl := 136
  zia := 187
  zgd := 219
  zeb := 224
  t_PTags := 208

theorem baseS : Base Go.Proofs.Tryz.prog NS := base_ok (by kernel_rfl) (by kernel_rfl) (by kernel_rfl)

theorem fok_bigEndian_Uint16 : FOk Go.Proofs.Tryz.prog 228 2 (zjy NS) [.var 2] := ⟨Go.Proofs.Tryz.f228, _, [0, 1, 4], Go.Proofs.Tryz.func228, rfl, by kernel_rfl, by kernel_rfl, by decide, by kernel_rfl, by kernel_rfl⟩
theorem fok_bigEndian_Uint32 : FOk Go.Proofs.Tryz.prog 227 2 (zjx NS) [.var 2] := ⟨Go.Proofs.Tryz.f227, _, [0, 1, 4], Go.Proofs.Tryz.func227, rfl, by kernel_rfl, by kernel_rfl, by decide, by kernel_rfl, by kernel_rfl⟩
theorem fok_bigEndian_Uint64 : FOk Go.Proofs.Tryz.prog 236 2 (zjw NS) [.var 2] := ⟨Go.Proofs.Tryz.f236, _, [0, 1, 4], Go.Proofs.Tryz.func236, rfl, by kernel_rfl, by kernel_rfl, by decide, by kernel_rfl, by kernel_rfl⟩
theorem fok_UnsafeString : FOk Go.Proofs.Tryz.prog 221 1 (znp NS) [.var 1] := ⟨Go.Proofs.Tryz.f221, _, [0, 2], Go.Proofs.Tryz.func221, rfl, by kernel_rfl, by kernel_rfl, by decide, by kernel_rfl, by kernel_rfl⟩
theorem fok_Uvarint : FOk Go.Proofs.Tryz.prog 230 1 (zyd NS) [.var 1, .var 2] := ⟨Go.Proofs.Tryz.f230, _, [0, 2, 3, 4, 5, 8, 18, 22, 35, 39, 52, 56, 69, 73, 84], Go.Proofs.Tryz.func230, rfl, by kernel_rfl, by kernel_rfl, by decide, by kernel_rfl, by kernel_rfl⟩
theorem fok_PReader_Bool : FOk Go.Proofs.Tryz.prog 209 1 (ztv NS) [.var 1] := ⟨Go.Proofs.Tryz.f209, _, [0, 2, 9, 3], Go.Proofs.Tryz.func209, rfl, by kernel_rfl, by kernel_rfl, by decide, by kernel_rfl, by kernel_rfl⟩
theorem fok_PReader_Int8 : FOk Go.Proofs.Tryz.prog 201 1 (ztu NS) [.var 1] := ⟨Go.Proofs.Tryz.f201, _, [0, 2, 9, 3], Go.Proofs.Tryz.func201, rfl, by kernel_rfl, by kernel_rfl, by decide, by kernel_rfl, by kernel_rfl⟩
theorem fok_PReader_Uint16 : FOk Go.Proofs.Tryz.prog 208 1 (zrc NS) [.var 1] := ⟨Go.Proofs.Tryz.f208, _, [0, 2, 9, 3], Go.Proofs.Tryz.func208, rfl, by kernel_rfl, by kernel_rfl, by decide, by kernel_rfl, by kernel_rfl⟩
theorem fok_PReader_Int16 : FOk Go.Proofs.Tryz.prog 192 1 (zte NS) [.var 1] := ⟨Go.Proofs.Tryz.f192, _, [0, 2, 9, 3], Go.Proofs.Tryz.func192, rfl, by kernel_rfl, by kernel_rfl, by decide, by kernel_rfl, by kernel_rfl⟩
theorem fok_PReader_Int32 : FOk Go.Proofs.Tryz.prog 190 1 (ztd NS) [.var 1] := ⟨Go.Proofs.Tryz.f190, _, [0, 2, 9, 3], Go.Proofs.Tryz.func190, rfl, by kernel_rfl, by kernel_rfl, by decide, by kernel_rfl, by kernel_rfl⟩
theorem fok_PReader_readUint64 : FOk Go.Proofs.Tryz.prog 229 1 (znh NS) [.var 1] := ⟨Go.Proofs.Tryz.f229, _, [0, 2, 9, 3], Go.Proofs.Tryz.func229, rfl, by kernel_rfl, by kernel_rfl, by decide, by kernel_rfl, by kernel_rfl⟩
theorem fok_PReader_Int64 : FOk Go.Proofs.Tryz.prog 218 1 (zmi NS) [.var 1] := ⟨Go.Proofs.Tryz.f218, _, [0, 2], Go.Proofs.Tryz.func218, rfl, by kernel_rfl, by kernel_rfl, by decide, by kernel_rfl, by kernel_rfl⟩
theorem fok_PReader_Uuid : FOk Go.Proofs.Tryz.prog 199 1 (znr NS) [.cell 1 NS.zu] := ⟨Go.Proofs.Tryz.f199, _, [0, 2, 3], Go.Proofs.Tryz.func199, rfl, by kernel_rfl, by kernel_rfl, by decide, by kernel_rfl, by kernel_rfl⟩
theorem fok_PReader_Uvarint : FOk Go.Proofs.Tryz.prog 220 1 (zkq NS) [.var 1] := ⟨Go.Proofs.Tryz.f220, _, [0, 2, 3, 4, 14], Go.Proofs.Tryz.func220, rfl, by kernel_rfl, by kernel_rfl, by decide, by kernel_rfl, by kernel_rfl⟩
theorem fok_PReader_Span : FOk Go.Proofs.Tryz.prog 222 2 (zns NS) [.var 2] := ⟨Go.Proofs.Tryz.f222, _, [0, 1, 4, 16, 5], Go.Proofs.Tryz.func222, rfl, by kernel_rfl, by kernel_rfl, by decide, by kernel_rfl, by kernel_rfl⟩
theorem fok_PReader_String : FOk Go.Proofs.Tryz.prog 185 1 (zlm NS) [.var 1] := ⟨Go.Proofs.Tryz.f185, _, [0, 2, 3], Go.Proofs.Tryz.func185, rfl, by kernel_rfl, by kernel_rfl, by decide, by kernel_rfl, by kernel_rfl⟩
theorem fok_PReader_UnsafeString : FOk Go.Proofs.Tryz.prog 183 1 (zhf NS) [.var 1] := ⟨Go.Proofs.Tryz.f183, _, [0, 2, 3], Go.Proofs.Tryz.func183, rfl, by kernel_rfl, by kernel_rfl, by decide, by kernel_rfl, by kernel_rfl⟩
theorem fok_PReader_CompactString : FOk Go.Proofs.Tryz.prog 184 1 (zha NS) [.var 1] := ⟨Go.Proofs.Tryz.f184, _, [0, 2, 3], Go.Proofs.Tryz.func184, rfl, by kernel_rfl, by kernel_rfl, by decide, by kernel_rfl, by kernel_rfl⟩
theorem fok_PReader_UnsafeCompactString : FOk Go.Proofs.Tryz.prog 182 1 (zfh NS) [.var 1] := ⟨Go.Proofs.Tryz.f182, _, [0, 2, 3], Go.Proofs.Tryz.func182, rfl, by kernel_rfl, by kernel_rfl, by decide, by kernel_rfl, by kernel_rfl⟩
theorem fok_PReader_NullableString : FOk Go.Proofs.Tryz.prog 196 1 (zgq NS) [.var 1] := ⟨Go.Proofs.Tryz.f196, _, [0, 2, 3, 8, 4], Go.Proofs.Tryz.func196, rfl, by kernel_rfl, by kernel_rfl, by decide, by kernel_rfl, by kernel_rfl⟩
theorem fok_PReader_UnsafeNullableString : FOk Go.Proofs.Tryz.prog 195 1 (zey NS) [.var 1] := ⟨Go.Proofs.Tryz.f195, _, [0, 2, 3, 8, 4], Go.Proofs.Tryz.func195, rfl, by kernel_rfl, by kernel_rfl, by decide, by kernel_rfl, by kernel_rfl⟩
theorem fok_PReader_CompactNullableString : FOk Go.Proofs.Tryz.prog 194 1 (zeu NS) [.var 1] := ⟨Go.Proofs.Tryz.f194, _, [0, 2, 3, 10, 4], Go.Proofs.Tryz.func194, rfl, by kernel_rfl, by kernel_rfl, by decide, by kernel_rfl, by kernel_rfl⟩
theorem fok_PReader_UnsafeCompactNullableString : FOk Go.Proofs.Tryz.prog 193 1 (zdy NS) [.var 1] := ⟨Go.Proofs.Tryz.f193, _, [0, 2, 3, 10, 4], Go.Proofs.Tryz.func193, rfl, by kernel_rfl, by kernel_rfl, by decide, by kernel_rfl, by kernel_rfl⟩
theorem fok_PReader_ArrayLen : FOk Go.Proofs.Tryz.prog 179 1 (zka NS) [.var 1] := ⟨Go.Proofs.Tryz.f179, _, [0, 2, 3, 13], Go.Proofs.Tryz.func179, rfl, by kernel_rfl, by kernel_rfl, by decide, by kernel_rfl, by kernel_rfl⟩
theorem fok_PReader_CompactArrayLen : FOk Go.Proofs.Tryz.prog 178 1 (zgg NS) [.var 1] := ⟨Go.Proofs.Tryz.f178, _, [0, 2, 3, 15], Go.Proofs.Tryz.func178, rfl, by kernel_rfl, by kernel_rfl, by decide, by kernel_rfl, by kernel_rfl⟩
theorem fok_PReader_Complete : FOk Go.Proofs.Tryz.prog 181 1 (zjz NS) [.var 1] := ⟨Go.Proofs.Tryz.f181, _, [0, 2, 6], Go.Proofs.Tryz.func181, rfl, by kernel_rfl, by kernel_rfl, by decide, by kernel_rfl, by kernel_rfl⟩
theorem fok_PReader_Ok : FOk Go.Proofs.Tryz.prog 180 1 (zqw NS) [.var 1] := ⟨Go.Proofs.Tryz.f180, _, [0, 2], Go.Proofs.Tryz.func180, rfl, by kernel_rfl, by kernel_rfl, by decide, by kernel_rfl, by kernel_rfl⟩
theorem fok_PTags_Set : FOk Go.Proofs.Tryz.prog 223 3 (ztc NS) [] := ⟨Go.Proofs.Tryz.f223, _, [0, 1, 2, 10], Go.Proofs.Tryz.func223, rfl, by kernel_rfl, by kernel_rfl, by decide, by kernel_rfl, by kernel_rfl⟩
theorem fok_internalReadTags : FOk Go.Proofs.Tryz.prog 186 1 (zjv NS) [.cell 1 NS.zdf] := ⟨Go.Proofs.Tryz.f186, _, [0, 2, 3, 4, 10, 5, 6], Go.Proofs.Tryz.func186, rfl, by kernel_rfl, by kernel_rfl, by decide, by kernel_rfl, by kernel_rfl⟩
theorem fok_PTags_Each : FOk Go.Proofs.Tryz.prog 188 2 (zqv NS) [] := ⟨Go.Proofs.Tryz.f188, _, [0, 1, 13, 4, 24, 26, 5, 37, 38, 39, 40, 7], Go.Proofs.Tryz.func188, rfl, by kernel_rfl, by kernel_rfl, by decide, by kernel_rfl, by kernel_rfl⟩
theorem fok_PTags_Each_1 : FOk Go.Proofs.Tryz.prog 226 3 (znq NS) [.var 3] := ⟨Go.Proofs.Tryz.f226, _, [0, 1, 2, 5], Go.Proofs.Tryz.func226, rfl, by kernel_rfl, by kernel_rfl, by decide, by kernel_rfl, by kernel_rfl⟩
theorem fok_spec_Same : FOk Go.Proofs.Tryz.prog 20 2 (ztb NS) [.var 2] := ⟨Go.Proofs.Tryz.f20, _, [0, 1, 4, 10, 12, 13, 14, 5, 24], Go.Proofs.Tryz.func20, rfl, by kernel_rfl, by kernel_rfl, by decide, by kernel_rfl, by kernel_rfl⟩
theorem fok_version : FOk Go.Proofs.Tryz.prog 17 2 (zyb NS) [.var 2] := ⟨Go.Proofs.Tryz.f17, _, [0, 1, 4], Go.Proofs.Tryz.func17, rfl, by kernel_rfl, by kernel_rfl, by decide, by kernel_rfl, by kernel_rfl⟩

theorem fnsS : Fns Go.Proofs.Tryz.prog NS where
  bigEndian_Uint16 := fun _ => fok_bigEndian_Uint16
  bigEndian_Uint32 := fun _ => fok_bigEndian_Uint32
  bigEndian_Uint64 := fun _ => fok_bigEndian_Uint64
  UnsafeString := fun _ => fok_UnsafeString
  Uvarint := fun _ => fok_Uvarint
  PReader_Bool := fun _ => fok_PReader_Bool
  PReader_Int8 := fun _ => fok_PReader_Int8
  PReader_Uint16 := fun _ => ⟨fok_PReader_Uint16, by decide⟩
  PReader_Int16 := fun _ => ⟨fok_PReader_Int16, by decide⟩
  PReader_Int32 := fun _ => ⟨fok_PReader_Int32, by decide⟩
  PReader_readUint64 := fun _ => ⟨fok_PReader_readUint64, by decide⟩
  PReader_Int64 := fun _ => ⟨fok_PReader_Int64, by decide⟩
  PReader_Uuid := fun _ => ⟨fok_PReader_Uuid, by decide⟩
  PReader_Uvarint := fun _ => ⟨fok_PReader_Uvarint, by decide⟩
  PReader_Span := fun _ => fok_PReader_Span
  PReader_String := fun _ => ⟨fok_PReader_String, by decide, by decide⟩
  PReader_UnsafeString := fun _ => ⟨fok_PReader_UnsafeString, by decide, by decide, by decide⟩
  PReader_CompactString := fun _ => ⟨fok_PReader_CompactString, by decide, by decide⟩
  PReader_UnsafeCompactString := fun _ => ⟨fok_PReader_UnsafeCompactString, by decide, by decide, by decide⟩
  PReader_NullableString := fun _ => ⟨fok_PReader_NullableString, by decide, by decide⟩
  PReader_UnsafeNullableString := fun _ => ⟨fok_PReader_UnsafeNullableString, by decide, by decide, by decide⟩
  PReader_CompactNullableString := fun _ => ⟨fok_PReader_CompactNullableString, by decide, by decide⟩
  PReader_UnsafeCompactNullableString := fun _ => ⟨fok_PReader_UnsafeCompactNullableString, by decide, by decide, by decide⟩
  PReader_Bytes := fun h => absurd rfl h
  PReader_CompactBytes := fun h => absurd rfl h
  PReader_NullableBytes := fun h => absurd rfl h
  PReader_CompactNullableBytes := fun h => absurd rfl h
  PReader_ArrayLen := fun _ => ⟨fok_PReader_ArrayLen, by decide⟩
  PReader_CompactArrayLen := fun _ => ⟨fok_PReader_CompactArrayLen, by decide⟩
  PReader_Complete := fun _ => fok_PReader_Complete
  PReader_Ok := fun _ => fok_PReader_Ok
  PTags_Set := fun _ => fok_PTags_Set
  internalReadTags := fun _ => ⟨fok_internalReadTags, by decide, by decide, by decide⟩
  PTags_Each := fun _ => ⟨fok_PTags_Each, by decide, by decide⟩
  PTags_Each_1 := fun _ => fok_PTags_Each_1
  sorted := fun h => absurd rfl h
  boolTree := fun h => absurd rfl h
  textTree := fun h => absurd rfl h
  octetsTree := fun h => absurd rfl h
  spec_Same := fun _ => fok_spec_Same
  spec_SameTree := fun h => absurd rfl h
  version := fun _ => fok_version
  got := fun h => absurd rfl h
theorem specT : zrd Go.Proofs.Tryz.prog NS NS.zf NS.zac NS.zab NS.zn := ⟨sfB_ok (by kernel_rfl), sfB_ok (by kernel_rfl), zun (by kernel_rfl), zun (by kernel_rfl), zun (by kernel_rfl), zun (by kernel_rfl), zun (by kernel_rfl), zun (by kernel_rfl), zun (by kernel_rfl), zij (by kernel_rfl), zij (by kernel_rfl)⟩
theorem spT : SpT Go.Proofs.Tryz.prog NS MS := ⟨sfB_ok (by kernel_rfl), zun (by kernel_rfl), zun (by kernel_rfl), zun (by kernel_rfl), zun (by kernel_rfl), zun (by kernel_rfl), zun (by kernel_rfl), zun (by kernel_rfl), zun (by kernel_rfl), zij (by kernel_rfl), sfB_ok (by kernel_rfl), zun (by kernel_rfl), zun (by kernel_rfl), specT⟩
theorem treeO : TreeO Go.Proofs.Tryz.prog NS where
  tree := ⟨_, Go.Proofs.Tryz.underlying26, by kernel_rfl⟩
  tag := ⟨_, Go.Proofs.Tryz.underlying75, by kernel_rfl⟩
  cTree := by kernel_rfl
  cTag := by kernel_rfl
  c1 := ⟨by kernel_rfl, by kernel_rfl, by kernel_rfl, by kernel_rfl, by kernel_rfl, by kernel_rfl, by kernel_rfl⟩
theorem sp_zzFits3 : FOk Go.Proofs.Tryz.prog 120 1 (zsx NS MS) [.var 2] := ⟨Go.Proofs.Tryz.f120, _, [0, 1, 2, 6], Go.Proofs.Tryz.func120, rfl, by kernel_rfl, by kernel_rfl, by decide, by kernel_rfl, by kernel_rfl⟩
theorem sp_zzFits2 : FOk Go.Proofs.Tryz.prog 51 1 (zxz NS MS) [.var 1] := ⟨Go.Proofs.Tryz.f51, _, [0, 2, 7, 8, 9, 10, 11, 4, 16], Go.Proofs.Tryz.func51, rfl, by kernel_rfl, by kernel_rfl, by decide, by kernel_rfl, by kernel_rfl⟩
theorem sp_zzFits1 : FOk Go.Proofs.Tryz.prog 14 1 (zya NS MS) [.var 2] := ⟨Go.Proofs.Tryz.f14, _, [0, 1, 2, 6, 10, 14], Go.Proofs.Tryz.func14, rfl, by kernel_rfl, by kernel_rfl, by decide, by kernel_rfl, by kernel_rfl⟩
theorem sp_spec_Field_has : FOk Go.Proofs.Tryz.prog 122 2 (zig NS MS) [.var 3] := ⟨Go.Proofs.Tryz.f122, _, [0, 1, 2, 4], Go.Proofs.Tryz.func122, rfl, by kernel_rfl, by kernel_rfl, by decide, by kernel_rfl, by kernel_rfl⟩
theorem sp_spec_Field_null : FOk Go.Proofs.Tryz.prog 172 3 (zhm NS MS) [.var 5] := ⟨Go.Proofs.Tryz.f172, _, [0, 1, 2, 3, 5, 6], Go.Proofs.Tryz.func172, rfl, by kernel_rfl, by kernel_rfl, by decide, by kernel_rfl, by kernel_rfl⟩
theorem sp_spec_whole : FOk Go.Proofs.Tryz.prog 129 1 (zmf NS MS) [.var 1] := ⟨Go.Proofs.Tryz.f129, _, [0, 2], Go.Proofs.Tryz.func129, rfl, by kernel_rfl, by kernel_rfl, by decide, by kernel_rfl, by kernel_rfl⟩
theorem sp_spec_things : FOk Go.Proofs.Tryz.prog 173 1 (zlf NS MS) [.var 1] := ⟨Go.Proofs.Tryz.f173, _, [0, 2], Go.Proofs.Tryz.func173, rfl, by kernel_rfl, by kernel_rfl, by decide, by kernel_rfl, by kernel_rfl⟩
theorem sp_spec_at : FOk Go.Proofs.Tryz.prog 124 2 (zsz NS MS) [.cell 3 NS.zf] := ⟨Go.Proofs.Tryz.f124, _, [0, 1, 2, 4, 9], Go.Proofs.Tryz.func124, rfl, by kernel_rfl, by kernel_rfl, by decide, by kernel_rfl, by kernel_rfl⟩
theorem sp_spec_Uvarint : FOk Go.Proofs.Tryz.prog 127 1 (zhp NS MS) [.var 1] := ⟨Go.Proofs.Tryz.f127, _, [0, 2, 3, 5], Go.Proofs.Tryz.func127, rfl, by kernel_rfl, by kernel_rfl, by decide, by kernel_rfl, by kernel_rfl⟩
theorem sp_spec_Fixed : FOk Go.Proofs.Tryz.prog 176 2 (zju NS MS) [.var 2] := ⟨Go.Proofs.Tryz.f176, _, [0, 1, 4, 5, 6, 10], Go.Proofs.Tryz.func176, rfl, by kernel_rfl, by kernel_rfl, by decide, by kernel_rfl, by kernel_rfl⟩
theorem sp_spec_width : FOk Go.Proofs.Tryz.prog 177 1 (zme NS MS) [.var 1] := ⟨Go.Proofs.Tryz.f177, _, [0, 2, 3, 4, 6, 9], Go.Proofs.Tryz.func177, rfl, by kernel_rfl, by kernel_rfl, by decide, by kernel_rfl, by kernel_rfl⟩
theorem sp_spec_counted : FOk Go.Proofs.Tryz.prog 174 4 (zkd NS MS) [.var 4] := ⟨Go.Proofs.Tryz.f174, _, [0, 1, 2, 3, 8, 9, 15, 21], Go.Proofs.Tryz.func174, rfl, by kernel_rfl, by kernel_rfl, by decide, by kernel_rfl, by kernel_rfl⟩
theorem sp_spec_value : FOk Go.Proofs.Tryz.prog 175 6 (zqs NS MS) [.var 7] := ⟨Go.Proofs.Tryz.f175, _, [0, 1, 2, 3, 4, 5, 11, 12, 16, 17, 24, 13, 32, 14, 37, 45, 15, 50, 58], Go.Proofs.Tryz.func175, rfl, by kernel_rfl, by kernel_rfl, by decide, by kernel_rfl, by kernel_rfl⟩
theorem sp_spec_field : FOk Go.Proofs.Tryz.prog 123 4 (zqt NS MS) [.var 6] := ⟨Go.Proofs.Tryz.f123, _, [0, 1, 2, 3, 4, 7, 8, 9, 19, 10, 23, 11, 30, 31, 32, 12, 56, 57], Go.Proofs.Tryz.func123, rfl, by kernel_rfl, by kernel_rfl, by decide, by kernel_rfl, by kernel_rfl⟩
theorem sp_spec_known : FOk Go.Proofs.Tryz.prog 125 1 (zmg NS MS) [.var 1] := ⟨Go.Proofs.Tryz.f125, _, [0, 2, 3, 6, 7, 8, 9, 5, 14], Go.Proofs.Tryz.func125, rfl, by kernel_rfl, by kernel_rfl, by decide, by kernel_rfl, by kernel_rfl⟩
theorem sp_spec_unknown : FOk Go.Proofs.Tryz.prog 128 2 (zno NS MS) [.var 2] := ⟨Go.Proofs.Tryz.f128, _, [0, 1, 4, 5, 6, 17, 18, 19, 20, 8, 9, 36, 58, 10, 68], Go.Proofs.Tryz.func128, rfl, by kernel_rfl, by kernel_rfl, by decide, by kernel_rfl, by kernel_rfl⟩
theorem sp_spec_part : FOk Go.Proofs.Tryz.prog 54 4 (zsy NS MS) [.var 5] := ⟨Go.Proofs.Tryz.f54, _, [0, 1, 2, 3, 7, 8, 9, 10, 11, 21, 22, 23, 24, 13, 12, 35, 47, 51, 52, 53, 14, 55, 56, 57, 58, 16, 15, 73, 17, 100, 101, 102, 103, 19, 20], Go.Proofs.Tryz.func54, rfl, by kernel_rfl, by kernel_rfl, by decide, by kernel_rfl, by kernel_rfl⟩
theorem sp_spec_Write : FOk Go.Proofs.Tryz.prog 18 3 (zqu NS MS) [.var 5] := ⟨Go.Proofs.Tryz.f18, _, [0, 1, 2, 3, 5, 6], Go.Proofs.Tryz.func18, rfl, by kernel_rfl, by kernel_rfl, by decide, by kernel_rfl, by kernel_rfl⟩
theorem thSZ : SZ Go.Proofs.Tryz.prog NS MS := ⟨sp_zzFits3, sp_zzFits2, sp_zzFits1⟩
theorem thSW : SW Go.Proofs.Tryz.prog NS MS := ⟨sp_spec_Field_has, sp_spec_Field_null, sp_spec_whole, sp_spec_things, sp_spec_at, sp_spec_Uvarint, sp_spec_Fixed, sp_spec_width, sp_spec_counted, sp_spec_value, sp_spec_field, sp_spec_known, sp_spec_unknown, sp_spec_part, sp_spec_Write⟩
theorem ap_AppendBool : FOk Go.Proofs.Tryz.prog 162 2 (zmn NS AN) [.var 2] := ⟨Go.Proofs.Tryz.f162, _, [0, 1, 4, 5], Go.Proofs.Tryz.func162, rfl, by kernel_rfl, by kernel_rfl, by decide, by kernel_rfl, by kernel_rfl⟩
theorem ap_AppendInt8 : FOk Go.Proofs.Tryz.prog 150 2 (zmm NS AN) [.var 2] := ⟨Go.Proofs.Tryz.f150, _, [0, 1, 4], Go.Proofs.Tryz.func150, rfl, by kernel_rfl, by kernel_rfl, by decide, by kernel_rfl, by kernel_rfl⟩
theorem ap_AppendInt16 : FOk Go.Proofs.Tryz.prog 141 2 (zga NS AN) [.var 2] := ⟨Go.Proofs.Tryz.f141, _, [0, 1, 4], Go.Proofs.Tryz.func141, rfl, by kernel_rfl, by kernel_rfl, by decide, by kernel_rfl, by kernel_rfl⟩
theorem ap_AppendUint16 : FOk Go.Proofs.Tryz.prog 161 2 (zeq NS AN) [.var 2] := ⟨Go.Proofs.Tryz.f161, _, [0, 1, 4], Go.Proofs.Tryz.func161, rfl, by kernel_rfl, by kernel_rfl, by decide, by kernel_rfl, by kernel_rfl⟩
theorem ap_AppendInt32 : FOk Go.Proofs.Tryz.prog 140 2 (zhb NS AN) [.var 2] := ⟨Go.Proofs.Tryz.f140, _, [0, 1, 4], Go.Proofs.Tryz.func140, rfl, by kernel_rfl, by kernel_rfl, by decide, by kernel_rfl, by kernel_rfl⟩
theorem ap_AppendUint32 : FOk Go.Proofs.Tryz.prog 197 2 (zfi NS AN) [.var 2] := ⟨Go.Proofs.Tryz.f197, _, [0, 1, 4], Go.Proofs.Tryz.func197, rfl, by kernel_rfl, by kernel_rfl, by decide, by kernel_rfl, by kernel_rfl⟩
theorem ap_AppendInt64 : FOk Go.Proofs.Tryz.prog 171 2 (zlh NS AN) [.var 2] := ⟨Go.Proofs.Tryz.f171, _, [0, 1, 4], Go.Proofs.Tryz.func171, rfl, by kernel_rfl, by kernel_rfl, by decide, by kernel_rfl, by kernel_rfl⟩
theorem ap_AppendUuid : FOk Go.Proofs.Tryz.prog 147 2 (zml NS AN) [.var 3] := ⟨Go.Proofs.Tryz.f147, _, [0, 1, 3, 4], Go.Proofs.Tryz.func147, rfl, by kernel_rfl, by kernel_rfl, by decide, by kernel_rfl, by kernel_rfl⟩
theorem ap_AppendUvarint : FOk Go.Proofs.Tryz.prog 135 2 (zmk NS AN) [.var 2] := ⟨Go.Proofs.Tryz.f135, _, [0, 1, 4, 6, 7, 34, 56, 73, 85], Go.Proofs.Tryz.func135, rfl, by kernel_rfl, by kernel_rfl, by decide, by kernel_rfl, by kernel_rfl⟩
theorem ap_AppendString : FOk Go.Proofs.Tryz.prog 134 2 (zhr NS AN) [.var 2] := ⟨Go.Proofs.Tryz.f134, _, [0, 1, 4], Go.Proofs.Tryz.func134, rfl, by kernel_rfl, by kernel_rfl, by decide, by kernel_rfl, by kernel_rfl⟩
theorem ap_AppendCompactString : FOk Go.Proofs.Tryz.prog 133 2 (zek NS AN) [.var 2] := ⟨Go.Proofs.Tryz.f133, _, [0, 1, 4], Go.Proofs.Tryz.func133, rfl, by kernel_rfl, by kernel_rfl, by decide, by kernel_rfl, by kernel_rfl⟩
theorem ap_AppendNullableString : FOk Go.Proofs.Tryz.prog 143 2 (zfk NS AN) [.var 2] := ⟨Go.Proofs.Tryz.f143, _, [0, 1, 4, 6], Go.Proofs.Tryz.func143, rfl, by kernel_rfl, by kernel_rfl, by decide, by kernel_rfl, by kernel_rfl⟩
theorem ap_AppendCompactNullableString : FOk Go.Proofs.Tryz.prog 142 2 (zdw NS AN) [.var 2] := ⟨Go.Proofs.Tryz.f142, _, [0, 1, 4, 6], Go.Proofs.Tryz.func142, rfl, by kernel_rfl, by kernel_rfl, by decide, by kernel_rfl, by kernel_rfl⟩
theorem ap_AppendArrayLen : FOk Go.Proofs.Tryz.prog 132 2 (zih NS AN) [.var 2] := ⟨Go.Proofs.Tryz.f132, _, [0, 1, 4], Go.Proofs.Tryz.func132, rfl, by kernel_rfl, by kernel_rfl, by decide, by kernel_rfl, by kernel_rfl⟩
theorem ap_AppendCompactArrayLen : FOk Go.Proofs.Tryz.prog 131 2 (zfd NS AN) [.var 2] := ⟨Go.Proofs.Tryz.f131, _, [0, 1, 4], Go.Proofs.Tryz.func131, rfl, by kernel_rfl, by kernel_rfl, by decide, by kernel_rfl, by kernel_rfl⟩
theorem ap_AppendNullableArrayLen : FOk Go.Proofs.Tryz.prog 152 3 (zev NS AN) [.var 3] := ⟨Go.Proofs.Tryz.f152, _, [0, 1, 2, 6, 7], Go.Proofs.Tryz.func152, rfl, by kernel_rfl, by kernel_rfl, by decide, by kernel_rfl, by kernel_rfl⟩
theorem ap_AppendCompactNullableArrayLen : FOk Go.Proofs.Tryz.prog 151 3 (zdm NS AN) [.var 3] := ⟨Go.Proofs.Tryz.f151, _, [0, 1, 2, 6, 7], Go.Proofs.Tryz.func151, rfl, by kernel_rfl, by kernel_rfl, by decide, by kernel_rfl, by kernel_rfl⟩
theorem ap_appendUint64 : FOk Go.Proofs.Tryz.prog 219 2 (zhq NS AN) [.var 2] := ⟨Go.Proofs.Tryz.f219, _, [0, 1, 4], Go.Proofs.Tryz.func219, rfl, by kernel_rfl, by kernel_rfl, by decide, by kernel_rfl, by kernel_rfl⟩
theorem ap_UvarintLen : FOk Go.Proofs.Tryz.prog 187 1 (zmh NS AN) [.var 1] := ⟨Go.Proofs.Tryz.f187, _, [0, 2], Go.Proofs.Tryz.func187, rfl, by kernel_rfl, by kernel_rfl, by decide, by kernel_rfl, by kernel_rfl⟩
theorem ap_math_bits_Len32 : FOk Go.Proofs.Tryz.prog 224 1 (zfz NS AN) [.var 1] := ⟨Go.Proofs.Tryz.f224, _, [0, 2, 4, 8], Go.Proofs.Tryz.func224, rfl, by kernel_rfl, by kernel_rfl, by decide, by kernel_rfl, by kernel_rfl⟩
theorem ap_PTags_Len : FOk Go.Proofs.Tryz.prog 136 1 (zlg NS AN) [.var 1] := ⟨Go.Proofs.Tryz.f136, _, [0, 2], Go.Proofs.Tryz.func136, rfl, by kernel_rfl, by kernel_rfl, by decide, by kernel_rfl, by kernel_rfl⟩
theorem ap_PTags_AppendEach : FOk Go.Proofs.Tryz.prog 137 2 (zfn NS AN) [.var 3] := ⟨Go.Proofs.Tryz.f137, _, [0, 1, 3, 4], Go.Proofs.Tryz.func137, rfl, by kernel_rfl, by kernel_rfl, by decide, by kernel_rfl, by kernel_rfl⟩
theorem ap_PTags_AppendEach_1 : FOk Go.Proofs.Tryz.prog 189 3 (zdx NS AN) [] := ⟨Go.Proofs.Tryz.f189, _, [0, 1, 2], Go.Proofs.Tryz.func189, rfl, by kernel_rfl, by kernel_rfl, by decide, by kernel_rfl, by kernel_rfl⟩
theorem apFns : ApFns Go.Proofs.Tryz.prog NS AN where
  b := fun _ => ap_AppendBool
  i8 := fun _ => ap_AppendInt8
  u16 := ap_AppendUint16
  i16 := fun _ => ap_AppendInt16
  u32 := fun _ => ap_AppendUint32
  i32 := fun _ => ap_AppendInt32
  u64 := fun _ => ap_appendUint64
  i64 := fun _ => ap_AppendInt64
  uu := fun _ => ⟨by decide, ap_AppendUuid⟩
  str := fun _ => ⟨by decide, ap_AppendString⟩
  cstr := fun _ => ap_AppendCompactString
  nstr := fun _ => ⟨by decide, by decide, ap_AppendNullableString⟩
  cnstr := fun _ => ⟨by decide, by decide, ap_AppendCompactNullableString⟩
  nob := ⟨rfl, rfl, rfl, rfl⟩
  al := fun _ => ⟨by decide, ap_AppendArrayLen⟩
  cal := fun _ => ap_AppendCompactArrayLen
  nal := fun _ => ⟨by decide, ap_AppendNullableArrayLen⟩
  cnal := fun _ => ap_AppendCompactNullableArrayLen
  uv := ⟨ap_math_bits_Len32, ap_UvarintLen, ap_AppendUvarint⟩
  tl := ap_PTags_Len
  ea := ap_PTags_AppendEach
  e1 := ap_PTags_AppendEach_1
theorem bulkF (H : Type) : BulkF (Proofs.YtgmhkfdpdbecmaaGreatDoor.Rows.uptoBulk (H := H)) Proofs.YtgmhkfdpdbecmaaGreatDoor.Rows.uptoBulkAll := ⟨fun l => by cases l <;> simp [Proofs.YtgmhkfdpdbecmaaGreatDoor.Rows.uptoBulk], fun _ _ => rfl, fun _ => rfl, rfl, rfl, fun _ _ => rfl⟩

def slRen : Go.Shelf.Ren := ⟨fun | 6 => 225 | 10 => 231 | 11 => 232 | 12 => 233 | 13 => 234 | 14 => 235 | 24 => 224 | 25 => 246 | 26 => 247 | 27 => 248 | 28 => 249 | 29 => 250 | 30 => 251 | 31 => 252 | 32 => 253 | 33 => 254 | 34 => 255 | 35 => 256 | 36 => 257 | 37 => 258 | 38 => 259 | 39 => 260 | n => n, fun | 20 => 20 | 26 => 224 | 35 => 235 | 0 => 0 | 37 => 237 | 3 => 3 | 41 => 198 | 44 => 242 | 49 => 73 | 51 => 89 | 4 => 4 | 54 => 250 | 53 => 249 | 58 => 254 | 5 => 5 | 9 => 9 | 60 => 256 | 64 => 259 | 66 => 261 | 67 => 262 | 17 => 17 | 32 => 232 | 33 => 233 | 82 => 277 | 12 => 12 | 75 => 270 | 76 => 271 | 77 => 272 | 78 => 273 | 79 => 274 | 80 => 275 | n => n, fun | n => n⟩
theorem sl6 : Go.Proofs.LaysGg.n6 Go.Proofs.Tryz.prog slRen where
  mixed := by kernel_rfl
  f6 := Go.Proofs.Tryz.func225.trans (congrArg some (by kernel_rfl))
  f10 := Go.Proofs.Tryz.func231.trans (congrArg some (by kernel_rfl))
  f11 := Go.Proofs.Tryz.func232.trans (congrArg some (by kernel_rfl))
  f12 := Go.Proofs.Tryz.func233.trans (congrArg some (by kernel_rfl))
  f13 := Go.Proofs.Tryz.func234.trans (congrArg some (by kernel_rfl))
  f14 := Go.Proofs.Tryz.func235.trans (congrArg some (by kernel_rfl))
  f24 := Go.Proofs.Tryz.func224.trans (congrArg some (by kernel_rfl))
  f25 := Go.Proofs.Tryz.func246.trans (congrArg some (by kernel_rfl))
  f26 := Go.Proofs.Tryz.func247.trans (congrArg some (by kernel_rfl))
  f27 := Go.Proofs.Tryz.func248.trans (congrArg some (by kernel_rfl))
  f28 := Go.Proofs.Tryz.func249.trans (congrArg some (by kernel_rfl))
  f29 := Go.Proofs.Tryz.func250.trans (congrArg some (by kernel_rfl))
  f30 := Go.Proofs.Tryz.func251.trans (congrArg some (by kernel_rfl))
  f31 := Go.Proofs.Tryz.func252.trans (congrArg some (by kernel_rfl))
  f32 := Go.Proofs.Tryz.func253.trans (congrArg some (by kernel_rfl))
  f33 := Go.Proofs.Tryz.func254.trans (congrArg some (by kernel_rfl))
  f34 := Go.Proofs.Tryz.func255.trans (congrArg some (by kernel_rfl))
  f35 := Go.Proofs.Tryz.func256.trans (congrArg some (by kernel_rfl))
  f36 := Go.Proofs.Tryz.func257.trans (congrArg some (by kernel_rfl))
  f37 := Go.Proofs.Tryz.func258.trans (congrArg some (by kernel_rfl))
  f38 := Go.Proofs.Tryz.func259.trans (congrArg some (by kernel_rfl))
  f39 := Go.Proofs.Tryz.func260.trans (congrArg some (by kernel_rfl))
  t0 := Go.Proofs.Tryz.underlying0
  a0 := Go.Proofs.Tryz.isAgg0
  z0 := Go.Proofs.Tryz.sizeOf0
  v0 := Go.Proofs.Tryz.zeroValue0
  i0 := by kernel_rfl
  t3 := Go.Proofs.Tryz.underlying3
  a3 := Go.Proofs.Tryz.isAgg3
  z3 := Go.Proofs.Tryz.sizeOf3
  v3 := Go.Proofs.Tryz.zeroValue3
  i3 := by kernel_rfl
  t4 := Go.Proofs.Tryz.underlying4
  a4 := Go.Proofs.Tryz.isAgg4
  z4 := Go.Proofs.Tryz.sizeOf4
  v4 := Go.Proofs.Tryz.zeroValue4
  i4 := by kernel_rfl
  t5 := Go.Proofs.Tryz.underlying5
  a5 := Go.Proofs.Tryz.isAgg5
  z5 := Go.Proofs.Tryz.sizeOf5
  v5 := Go.Proofs.Tryz.zeroValue5
  i5 := by kernel_rfl
  t9 := Go.Proofs.Tryz.underlying9
  a9 := Go.Proofs.Tryz.isAgg9
  z9 := Go.Proofs.Tryz.sizeOf9
  v9 := Go.Proofs.Tryz.zeroValue9
  i9 := by kernel_rfl
  t12 := Go.Proofs.Tryz.underlying12
  a12 := Go.Proofs.Tryz.isAgg12
  z12 := Go.Proofs.Tryz.sizeOf12
  v12 := Go.Proofs.Tryz.zeroValue12
  i12 := by kernel_rfl
  t17 := Go.Proofs.Tryz.underlying17
  a17 := Go.Proofs.Tryz.isAgg17
  z17 := Go.Proofs.Tryz.sizeOf17
  v17 := Go.Proofs.Tryz.zeroValue17
  i17 := by kernel_rfl
  t20 := Go.Proofs.Tryz.underlying20
  a20 := Go.Proofs.Tryz.isAgg20
  z20 := Go.Proofs.Tryz.sizeOf20
  v20 := Go.Proofs.Tryz.zeroValue20
  i20 := by kernel_rfl
  t26 := Go.Proofs.Tryz.underlying224
  a26 := Go.Proofs.Tryz.isAgg224
  z26 := Go.Proofs.Tryz.sizeOf224
  v26 := Go.Proofs.Tryz.zeroValue224
  i26 := by kernel_rfl
  t32 := Go.Proofs.Tryz.underlying232
  a32 := Go.Proofs.Tryz.isAgg232
  z32 := Go.Proofs.Tryz.sizeOf232
  v32 := Go.Proofs.Tryz.zeroValue232
  i32 := by kernel_rfl
  t33 := Go.Proofs.Tryz.underlying233
  a33 := Go.Proofs.Tryz.isAgg233
  z33 := Go.Proofs.Tryz.sizeOf233
  v33 := Go.Proofs.Tryz.zeroValue233
  i33 := by kernel_rfl
  t35 := Go.Proofs.Tryz.underlying235
  a35 := Go.Proofs.Tryz.isAgg235
  z35 := Go.Proofs.Tryz.sizeOf235
  v35 := Go.Proofs.Tryz.zeroValue235
  i35 := by kernel_rfl
  t37 := Go.Proofs.Tryz.underlying237
  a37 := Go.Proofs.Tryz.isAgg237
  z37 := Go.Proofs.Tryz.sizeOf237
  v37 := Go.Proofs.Tryz.zeroValue237
  i37 := by kernel_rfl
  t41 := Go.Proofs.Tryz.underlying198
  a41 := Go.Proofs.Tryz.isAgg198
  z41 := Go.Proofs.Tryz.sizeOf198
  v41 := Go.Proofs.Tryz.zeroValue198
  i41 := by kernel_rfl
  t44 := Go.Proofs.Tryz.underlying242
  a44 := Go.Proofs.Tryz.isAgg242
  z44 := Go.Proofs.Tryz.sizeOf242
  v44 := Go.Proofs.Tryz.zeroValue242
  i44 := by kernel_rfl
  t49 := Go.Proofs.Tryz.underlying73
  a49 := Go.Proofs.Tryz.isAgg73
  z49 := Go.Proofs.Tryz.sizeOf73
  v49 := Go.Proofs.Tryz.zeroValue73
  i49 := by kernel_rfl
  t51 := Go.Proofs.Tryz.underlying89
  a51 := Go.Proofs.Tryz.isAgg89
  z51 := Go.Proofs.Tryz.sizeOf89
  v51 := Go.Proofs.Tryz.zeroValue89
  i51 := by kernel_rfl
  t53 := Go.Proofs.Tryz.underlying249
  a53 := Go.Proofs.Tryz.isAgg249
  z53 := Go.Proofs.Tryz.sizeOf249
  v53 := Go.Proofs.Tryz.zeroValue249
  i53 := by kernel_rfl
  t54 := Go.Proofs.Tryz.underlying250
  a54 := Go.Proofs.Tryz.isAgg250
  z54 := Go.Proofs.Tryz.sizeOf250
  v54 := Go.Proofs.Tryz.zeroValue250
  i54 := by kernel_rfl
  t58 := Go.Proofs.Tryz.underlying254
  a58 := Go.Proofs.Tryz.isAgg254
  z58 := Go.Proofs.Tryz.sizeOf254
  v58 := Go.Proofs.Tryz.zeroValue254
  i58 := by kernel_rfl
  t60 := Go.Proofs.Tryz.underlying256
  a60 := Go.Proofs.Tryz.isAgg256
  z60 := Go.Proofs.Tryz.sizeOf256
  v60 := Go.Proofs.Tryz.zeroValue256
  i60 := by kernel_rfl
  t64 := Go.Proofs.Tryz.underlying259
  a64 := Go.Proofs.Tryz.isAgg259
  z64 := Go.Proofs.Tryz.sizeOf259
  v64 := Go.Proofs.Tryz.zeroValue259
  i64 := by kernel_rfl
  t66 := Go.Proofs.Tryz.underlying261
  a66 := Go.Proofs.Tryz.isAgg261
  z66 := Go.Proofs.Tryz.sizeOf261
  v66 := Go.Proofs.Tryz.zeroValue261
  i66 := by kernel_rfl
  t67 := Go.Proofs.Tryz.underlying262
  a67 := Go.Proofs.Tryz.isAgg262
  z67 := Go.Proofs.Tryz.sizeOf262
  v67 := Go.Proofs.Tryz.zeroValue262
  i67 := by kernel_rfl
  t75 := Go.Proofs.Tryz.underlying270
  a75 := Go.Proofs.Tryz.isAgg270
  z75 := Go.Proofs.Tryz.sizeOf270
  v75 := Go.Proofs.Tryz.zeroValue270
  i75 := by kernel_rfl
  t76 := Go.Proofs.Tryz.underlying271
  a76 := Go.Proofs.Tryz.isAgg271
  z76 := Go.Proofs.Tryz.sizeOf271
  v76 := Go.Proofs.Tryz.zeroValue271
  i76 := by kernel_rfl
  t77 := Go.Proofs.Tryz.underlying272
  a77 := Go.Proofs.Tryz.isAgg272
  z77 := Go.Proofs.Tryz.sizeOf272
  v77 := Go.Proofs.Tryz.zeroValue272
  i77 := by kernel_rfl
  t78 := Go.Proofs.Tryz.underlying273
  a78 := Go.Proofs.Tryz.isAgg273
  z78 := Go.Proofs.Tryz.sizeOf273
  v78 := Go.Proofs.Tryz.zeroValue273
  i78 := by kernel_rfl
  t79 := Go.Proofs.Tryz.underlying274
  a79 := Go.Proofs.Tryz.isAgg274
  z79 := Go.Proofs.Tryz.sizeOf274
  v79 := Go.Proofs.Tryz.zeroValue274
  i79 := by kernel_rfl
  t80 := Go.Proofs.Tryz.underlying275
  a80 := Go.Proofs.Tryz.isAgg275
  z80 := Go.Proofs.Tryz.sizeOf275
  v80 := Go.Proofs.Tryz.zeroValue275
  i80 := by kernel_rfl
  t82 := Go.Proofs.Tryz.underlying277
  a82 := Go.Proofs.Tryz.isAgg277
  z82 := Go.Proofs.Tryz.sizeOf277
  v82 := Go.Proofs.Tryz.zeroValue277
  i82 := by kernel_rfl

noncomputable def sI : TypeInfo := (Go.Proofs.Tryz.prog.info? NS.zbf).get (by kernel_rfl)
noncomputable def sE : TypeInfo := (Go.Proofs.Tryz.prog.info? NS.zb).get (by kernel_rfl)
theorem sortT : SortT Go.Proofs.Tryz.prog NS where
  has := ⟨_, Go.Proofs.Tryz.func225, by kernel_rfl, by kernel_rfl⟩
  out := ⟨slRen, sI, sE, 242, 238, sl6, by kernel_rfl, by kernel_rfl, by kernel_rfl, by kernel_rfl, by kernel_rfl, fun _ => by kernel_rfl, by kernel_rfl, by kernel_rfl, by kernel_rfl, by kernel_rfl, by kernel_rfl,
    fun args W => run_callFunc_extern Go.Proofs.Tryz.func242 (by kernel_rfl) (by kernel_rfl) (by kernel_rfl) (e := Extern.ReflectliteSwapper.swap true) (by kernel_rfl) args W⟩
theorem lu : LU Go.Proofs.Tryz.prog NS := ⟨zij (by kernel_rfl)⟩
theorem eachN : EachN Go.Proofs.Tryz.prog NS := ⟨by decide, by decide, lu, sortOk baseS fnsS (by decide) lu sortT⟩
theorem apC : ApC Go.Proofs.Tryz.prog NS AN := apC_of baseS apFns eachN

theorem own : ownKnob Go.Proofs.Tryz.prog.godebug = none := by kernel_rfl
theorem laidOut : laidOutB Go.Proofs.Tryz.prog = true := by kernel_rfl
theorem gO : Go.Proofs.Tryz.prog.globalNamed "pub-mailsack/pub/kmsg/inner/kbin.ErrNotEnoughData" = some 0 := by kernel_rfl
theorem gT : (Go.Proofs.Tryz.prog.globals[0]?).map (·.type) = some 49 := by kernel_rfl
theorem cS : Go.Proofs.Tryz.prog.cellsOf 282 = 1 := by kernel_rfl
theorem cStr : Go.Proofs.Tryz.prog.cellsOf 9 = 1 := by kernel_rfl
theorem star : "*" ++ "errors.errorString" = "*errors.errorString" := by decide
theorem rowP (u : TypeId) (h : Go.Proofs.Tryz.prog.typeName? 3 u = some "*errors.errorString") : u = 264 :=
  typeName_ptr_named (nm := "errors.errorString") (by rw [star]; kernel_rfl) (by kernel_rfl) (by decide) u (by rw [star]; exact h)
theorem bandT {a b : Bool} (h : a = true) (h' : b = true) : (a && b) = true := by rw [h, h']; rfl
theorem bigEnter : Go.Proofs.Tryz.prog.mayEnter = true := by kernel_rfl
theorem bigLifts : (Proofs.YtgmhkfdpdbecmaaGreatDoor.Rows.fnBehindDeleteGroupsRequestRow.lifted == Go.Proofs.Tryz.prog.liftsFinal) = true := by kernel_rfl
theorem bigMake : (Go.Proofs.Tryz.prog.make == some Proofs.YtgmhkfdpdbecmaaGreatDoor.Rows.fnBehindDeleteGroupsRequestRow.make) = true := by kernel_rfl
theorem stopsHeardS : Go.Proofs.Tryz.prog.stopsHeard = true := by kernel_rfl
theorem mapsRowedS : mapsRowed Go.Proofs.Tryz.prog = true := by kernel_rfl
theorem plainKeysS : (Proofs.YtgmhkfdpdbecmaaGreatDoor.Rows.fnBehindDeleteGroupsRequestRow.plainKeys == Go.Proofs.Tryz.prog.plainKeys) = true := by kernel_rfl
theorem mainS : Go.Proofs.Tryz.prog.mainIs = some (Proofs.YtgmhkfdpdbecmaaGreatDoor.Rows.fnBehindDeleteGroupsRequestCard.stood.harness.1, Proofs.YtgmhkfdpdbecmaaGreatDoor.Rows.fnBehindDeleteGroupsRequestCard.stood.harness.2.toList) := by kernel_rfl
theorem looksS : false = Go.Proofs.Tryz.prog.looks [] := by kernel_rfl
theorem shaped (os : Os) (args : Array Value) : ((World.doorLaid Go.Proofs.Tryz.prog 400 os).forCall (fun _ _ => 0) ⟨#[], args, []⟩).Shaped Go.Proofs.Tryz.prog := World.shaped_of_RefB (by kernel_rfl) (by kernel_rfl)
theorem door_met (os : Os) (args : Array Value) : laidMetH Go.Proofs.Tryz.prog Proofs.YtgmhkfdpdbecmaaGreatDoor.Rows.fnBehindDeleteGroupsRequestRow.laid ((World.doorLaid Go.Proofs.Tryz.prog 400 os).forCall (fun _ _ => 0) ⟨#[], args, []⟩).memory :=
  laidMetH_of_parts3 (fuel := 8) (laidMet_of_run' 8 (by kernel_rfl) (by kernel_rfl)) (by kernel_rfl) (by kernel_rfl)
end Go.Kf
