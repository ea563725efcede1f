/- Closed facts of this translation: its numbers, its shared functions' codes, its types; no condition. -/
import Derived.Test.YtccgofjnacenhaaGreatDoorBg
import Derived.Shelf.GgSortFunc.Whole
import Derived.Test.YtccgofjnacenhaaGreatDoorRows
import Derived.Test.YtccgofjnacenhaaGreatDoorTie
import Derived.Test.YtccgofjnacenhaaGreatDoorCards
import Derived.LaidMore
import Derived.Stop.Joined
import Derived.Stop.LaidErr
import Derived.SevenTiedAt
import Derived.Deep.DeepHandedRow
import Derived.JoinedCond
set_option linter.unusedSimpArgs false
set_option linter.unusedVariables false
set_option maxRecDepth 100000
namespace Go.Kf
open Go

def NS : Nums where
  zcp := 135
  zfv := 139
  zec := 160
  zbu := 134
  zda := 159
  zbv := 126
  zcw := 132
  zbi := 137
  zbh := 124
  zfb := 153
  zby := 123
  zfn := 149
  zfu := 129
  zcf := 128
  zes := 136
  zaf := 177
  zdt := 133
  zbb := 125
  zcc := 130
  zbn := 127
  zcm := 131
  zel := 148
  zak := 175
  zdg := 184
  zgi := 89
  zdb := 143
  zhh := 178
  zcu := 176
  zkc := 191
  zcz := 174
  zdr := 173
  zdq := 211
  zhg := 108
  zqh := 17
  zdf := 140
  zfm := 186
  zgh := 142
  zmm := 91
  zbt := 48
  zhe := 87
  zkb := 12
  zev := 0
  zaq := 1
  t_ := 0
  zay := 120
  zem := 35
  zu := 34
  zj := 24
  zn := 23
  zbj := 171
  za := 22
  zbd := 169
  zco := 87
  zad := 161
  zho := 69
  zdi := 92
  zz := 37
  zbp := 203
  zae := 4
  zgz := 56
  zng := 173
  zmr := 102
  zf := 3
  zcl := 47
  zcv := 21
  zav := 2
  ztd := 88
  zxr := 20
  zag := 90
  zab := 66
  zc := 26
  zaw := 9
  zgv := 176
  zfp := 128
  zp := 64
  zvt := 223
  zat := 107
  zw := 5

def MS : zcd where
  zds := 43
  zeq := 97
  zeh := 95
  zdz := 16
  zkn := 15
  zgg := 46
  zct := 94
  zll := 14
  zgr := 42
  zdn := 144
  zhs := 92
  zhr := 93
  zew := 76
  zis := 41
  zgq := 98
  zhf := 45
  zhl := 47
  zlk := 44
  zhq := 145
  zdh := 49
  zji := 96
  zrs := 9
  zrr := 34
  zoq := 84
  zac := 29
  zg := 52
  zam := 31

theorem baseS : Base Go.Proofs.Tryz.prog NS := base_ok (by kernel_rfl) (by kernel_rfl) (by kernel_rfl)

theorem fok_bigEndian_Uint16 : FOk Go.Proofs.Tryz.prog 174 2 (zjn NS) [.var 2] := ⟨Go.Proofs.Tryz.f174, _, [0, 1, 4], Go.Proofs.Tryz.func174, rfl, by kernel_rfl, by kernel_rfl, by decide, by kernel_rfl, by kernel_rfl⟩
theorem fok_bigEndian_Uint32 : FOk Go.Proofs.Tryz.prog 173 2 (zjm NS) [.var 2] := ⟨Go.Proofs.Tryz.f173, _, [0, 1, 4], Go.Proofs.Tryz.func173, rfl, by kernel_rfl, by kernel_rfl, by decide, by kernel_rfl, by kernel_rfl⟩
theorem fok_bigEndian_Uint64 : FOk Go.Proofs.Tryz.prog 211 2 (zjl NS) [.var 2] := ⟨Go.Proofs.Tryz.f211, _, [0, 1, 4], Go.Proofs.Tryz.func211, rfl, by kernel_rfl, by kernel_rfl, by decide, by kernel_rfl, by kernel_rfl⟩
theorem fok_UnsafeString : FOk Go.Proofs.Tryz.prog 176 1 (zna NS) [.var 1] := ⟨Go.Proofs.Tryz.f176, _, [0, 2], Go.Proofs.Tryz.func176, rfl, by kernel_rfl, by kernel_rfl, by decide, by kernel_rfl, by kernel_rfl⟩
theorem fok_Uvarint : FOk Go.Proofs.Tryz.prog 191 1 (zwy NS) [.var 1, .var 2] := ⟨Go.Proofs.Tryz.f191, _, [0, 2, 3, 4, 5, 8, 18, 22, 35, 39, 52, 56, 69, 73, 84], Go.Proofs.Tryz.func191, rfl, by kernel_rfl, by kernel_rfl, by decide, by kernel_rfl, by kernel_rfl⟩
theorem fok_PReader_Bool : FOk Go.Proofs.Tryz.prog 139 1 (ztb NS) [.var 1] := ⟨Go.Proofs.Tryz.f139, _, [0, 2, 9, 3], Go.Proofs.Tryz.func139, rfl, by kernel_rfl, by kernel_rfl, by decide, by kernel_rfl, by kernel_rfl⟩
theorem fok_PReader_Int8 : FOk Go.Proofs.Tryz.prog 129 1 (zta NS) [.var 1] := ⟨Go.Proofs.Tryz.f129, _, [0, 2, 9, 3], Go.Proofs.Tryz.func129, rfl, by kernel_rfl, by kernel_rfl, by decide, by kernel_rfl, by kernel_rfl⟩
theorem fok_PReader_Uint16 : FOk Go.Proofs.Tryz.prog 153 1 (zqj NS) [.var 1] := ⟨Go.Proofs.Tryz.f153, _, [0, 2, 9, 3], Go.Proofs.Tryz.func153, rfl, by kernel_rfl, by kernel_rfl, by decide, by kernel_rfl, by kernel_rfl⟩
theorem fok_PReader_Int16 : FOk Go.Proofs.Tryz.prog 124 1 (zsg NS) [.var 1] := ⟨Go.Proofs.Tryz.f124, _, [0, 2, 9, 3], Go.Proofs.Tryz.func124, rfl, by kernel_rfl, by kernel_rfl, by decide, by kernel_rfl, by kernel_rfl⟩
theorem fok_PReader_Int32 : FOk Go.Proofs.Tryz.prog 123 1 (zsf NS) [.var 1] := ⟨Go.Proofs.Tryz.f123, _, [0, 2, 9, 3], Go.Proofs.Tryz.func123, rfl, by kernel_rfl, by kernel_rfl, by decide, by kernel_rfl, by kernel_rfl⟩
theorem fok_PReader_readUint64 : FOk Go.Proofs.Tryz.prog 184 1 (zmw NS) [.var 1] := ⟨Go.Proofs.Tryz.f184, _, [0, 2, 9, 3], Go.Proofs.Tryz.func184, rfl, by kernel_rfl, by kernel_rfl, by decide, by kernel_rfl, by kernel_rfl⟩
theorem fok_PReader_Int64 : FOk Go.Proofs.Tryz.prog 149 1 (zls NS) [.var 1] := ⟨Go.Proofs.Tryz.f149, _, [0, 2], Go.Proofs.Tryz.func149, rfl, by kernel_rfl, by kernel_rfl, by decide, by kernel_rfl, by kernel_rfl⟩
theorem fok_PReader_Uuid : FOk Go.Proofs.Tryz.prog 148 1 (znc NS) [.cell 1 NS.zay] := ⟨Go.Proofs.Tryz.f148, _, [0, 2, 3], Go.Proofs.Tryz.func148, rfl, by kernel_rfl, by kernel_rfl, by decide, by kernel_rfl, by kernel_rfl⟩
theorem fok_PReader_Uvarint : FOk Go.Proofs.Tryz.prog 175 1 (zkd NS) [.var 1] := ⟨Go.Proofs.Tryz.f175, _, [0, 2, 3, 4, 14], Go.Proofs.Tryz.func175, rfl, by kernel_rfl, by kernel_rfl, by decide, by kernel_rfl, by kernel_rfl⟩
theorem fok_PReader_Span : FOk Go.Proofs.Tryz.prog 177 2 (znd NS) [.var 2] := ⟨Go.Proofs.Tryz.f177, _, [0, 1, 4, 16, 5], Go.Proofs.Tryz.func177, rfl, by kernel_rfl, by kernel_rfl, by decide, by kernel_rfl, by kernel_rfl⟩
theorem fok_PReader_String : FOk Go.Proofs.Tryz.prog 133 1 (zku NS) [.var 1] := ⟨Go.Proofs.Tryz.f133, _, [0, 2, 3], Go.Proofs.Tryz.func133, rfl, by kernel_rfl, by kernel_rfl, by decide, by kernel_rfl, by kernel_rfl⟩
theorem fok_PReader_UnsafeString : FOk Go.Proofs.Tryz.prog 131 1 (zgw NS) [.var 1] := ⟨Go.Proofs.Tryz.f131, _, [0, 2, 3], Go.Proofs.Tryz.func131, rfl, by kernel_rfl, by kernel_rfl, by decide, by kernel_rfl, by kernel_rfl⟩
theorem fok_PReader_CompactString : FOk Go.Proofs.Tryz.prog 132 1 (zgt NS) [.var 1] := ⟨Go.Proofs.Tryz.f132, _, [0, 2, 3], Go.Proofs.Tryz.func132, rfl, by kernel_rfl, by kernel_rfl, by decide, by kernel_rfl, by kernel_rfl⟩
theorem fok_PReader_UnsafeCompactString : FOk Go.Proofs.Tryz.prog 130 1 (zfc NS) [.var 1] := ⟨Go.Proofs.Tryz.f130, _, [0, 2, 3], Go.Proofs.Tryz.func130, rfl, by kernel_rfl, by kernel_rfl, by decide, by kernel_rfl, by kernel_rfl⟩
theorem fok_PReader_NullableString : FOk Go.Proofs.Tryz.prog 128 1 (zgj NS) [.var 1] := ⟨Go.Proofs.Tryz.f128, _, [0, 2, 3, 8, 4], Go.Proofs.Tryz.func128, rfl, by kernel_rfl, by kernel_rfl, by decide, by kernel_rfl, by kernel_rfl⟩
theorem fok_PReader_UnsafeNullableString : FOk Go.Proofs.Tryz.prog 127 1 (zet NS) [.var 1] := ⟨Go.Proofs.Tryz.f127, _, [0, 2, 3, 8, 4], Go.Proofs.Tryz.func127, rfl, by kernel_rfl, by kernel_rfl, by decide, by kernel_rfl, by kernel_rfl⟩
theorem fok_PReader_CompactNullableString : FOk Go.Proofs.Tryz.prog 126 1 (zer NS) [.var 1] := ⟨Go.Proofs.Tryz.f126, _, [0, 2, 3, 10, 4], Go.Proofs.Tryz.func126, rfl, by kernel_rfl, by kernel_rfl, by decide, by kernel_rfl, by kernel_rfl⟩
theorem fok_PReader_UnsafeCompactNullableString : FOk Go.Proofs.Tryz.prog 125 1 (zdx NS) [.var 1] := ⟨Go.Proofs.Tryz.f125, _, [0, 2, 3, 10, 4], Go.Proofs.Tryz.func125, rfl, by kernel_rfl, by kernel_rfl, by decide, by kernel_rfl, by kernel_rfl⟩
theorem fok_PReader_Bytes : FOk Go.Proofs.Tryz.prog 160 1 (zlt NS) [.var 1] := ⟨Go.Proofs.Tryz.f160, _, [0, 2, 3, 7], Go.Proofs.Tryz.func160, rfl, by kernel_rfl, by kernel_rfl, by decide, by kernel_rfl, by kernel_rfl⟩
theorem fok_PReader_CompactBytes : FOk Go.Proofs.Tryz.prog 159 1 (zgx NS) [.var 1] := ⟨Go.Proofs.Tryz.f159, _, [0, 2, 3, 9], Go.Proofs.Tryz.func159, rfl, by kernel_rfl, by kernel_rfl, by decide, by kernel_rfl, by kernel_rfl⟩
theorem fok_PReader_ArrayLen : FOk Go.Proofs.Tryz.prog 135 1 (zjp NS) [.var 1] := ⟨Go.Proofs.Tryz.f135, _, [0, 2, 3, 13], Go.Proofs.Tryz.func135, rfl, by kernel_rfl, by kernel_rfl, by decide, by kernel_rfl, by kernel_rfl⟩
theorem fok_PReader_CompactArrayLen : FOk Go.Proofs.Tryz.prog 134 1 (zfw NS) [.var 1] := ⟨Go.Proofs.Tryz.f134, _, [0, 2, 3, 15], Go.Proofs.Tryz.func134, rfl, by kernel_rfl, by kernel_rfl, by decide, by kernel_rfl, by kernel_rfl⟩
theorem fok_PReader_Complete : FOk Go.Proofs.Tryz.prog 137 1 (zjo NS) [.var 1] := ⟨Go.Proofs.Tryz.f137, _, [0, 2, 6], Go.Proofs.Tryz.func137, rfl, by kernel_rfl, by kernel_rfl, by decide, by kernel_rfl, by kernel_rfl⟩
theorem fok_PReader_Ok : FOk Go.Proofs.Tryz.prog 136 1 (zqd NS) [.var 1] := ⟨Go.Proofs.Tryz.f136, _, [0, 2], Go.Proofs.Tryz.func136, rfl, by kernel_rfl, by kernel_rfl, by decide, by kernel_rfl, by kernel_rfl⟩
theorem fok_PTags_Set : FOk Go.Proofs.Tryz.prog 178 3 (zse NS) [] := ⟨Go.Proofs.Tryz.f178, _, [0, 1, 2, 10], Go.Proofs.Tryz.func178, rfl, by kernel_rfl, by kernel_rfl, by decide, by kernel_rfl, by kernel_rfl⟩
theorem fok_internalReadTags : FOk Go.Proofs.Tryz.prog 140 1 (zjk NS) [.cell 1 NS.zdi] := ⟨Go.Proofs.Tryz.f140, _, [0, 2, 3, 4, 10, 5, 6], Go.Proofs.Tryz.func140, rfl, by kernel_rfl, by kernel_rfl, by decide, by kernel_rfl, by kernel_rfl⟩
theorem fok_PTags_Each : FOk Go.Proofs.Tryz.prog 89 2 (zqc NS) [] := ⟨Go.Proofs.Tryz.f89, _, [0, 1, 13, 4, 24, 26, 5, 37, 38, 39, 40, 7], Go.Proofs.Tryz.func89, rfl, by kernel_rfl, by kernel_rfl, by decide, by kernel_rfl, by kernel_rfl⟩
theorem fok_PTags_Each_1 : FOk Go.Proofs.Tryz.prog 143 3 (znb NS) [.var 3] := ⟨Go.Proofs.Tryz.f143, _, [0, 1, 2, 5], Go.Proofs.Tryz.func143, rfl, by kernel_rfl, by kernel_rfl, by decide, by kernel_rfl, by kernel_rfl⟩
theorem fok_sorted : FOk Go.Proofs.Tryz.prog 91 1 (c_sorted NS) [] := ⟨Go.Proofs.Tryz.f91, _, [0, 5, 6, 7, 2, 3, 25], Go.Proofs.Tryz.func91, rfl, by kernel_rfl, by kernel_rfl, by decide, by kernel_rfl, by kernel_rfl⟩
theorem fok_boolTree : FOk Go.Proofs.Tryz.prog 108 1 (ztx NS) [.cell 1 NS.zz] := ⟨Go.Proofs.Tryz.f108, _, [0, 2, 3], Go.Proofs.Tryz.func108, rfl, by kernel_rfl, by kernel_rfl, by decide, by kernel_rfl, by kernel_rfl⟩
theorem fok_textTree : FOk Go.Proofs.Tryz.prog 87 1 (ztw NS) [.cell 1 NS.zz] := ⟨Go.Proofs.Tryz.f87, _, [0, 2, 4], Go.Proofs.Tryz.func87, rfl, by kernel_rfl, by kernel_rfl, by decide, by kernel_rfl, by kernel_rfl⟩
theorem fok_octetsTree : FOk Go.Proofs.Tryz.prog 186 1 (zqb NS) [.cell 1 NS.zz] := ⟨Go.Proofs.Tryz.f186, _, [0, 2], Go.Proofs.Tryz.func186, rfl, by kernel_rfl, by kernel_rfl, by decide, by kernel_rfl, by kernel_rfl⟩
theorem fok_spec_Same : FOk Go.Proofs.Tryz.prog 48 2 (zsd NS) [.var 2] := ⟨Go.Proofs.Tryz.f48, _, [0, 1, 4, 10, 12, 13, 14, 5, 24], Go.Proofs.Tryz.func48, rfl, by kernel_rfl, by kernel_rfl, by decide, by kernel_rfl, by kernel_rfl⟩
theorem fok_version : FOk Go.Proofs.Tryz.prog 12 2 (zwx NS) [.var 2] := ⟨Go.Proofs.Tryz.f12, _, [0, 1, 4], Go.Proofs.Tryz.func12, rfl, by kernel_rfl, by kernel_rfl, by decide, by kernel_rfl, by kernel_rfl⟩
theorem fok_got : FOk Go.Proofs.Tryz.prog 17 1 (c_got NS) [.cell 2 NS.zc] := ⟨Go.Proofs.Tryz.f17, _, [0, 1, 2, 3, 16, 17, 18, 19, 5, 31, 32, 33, 34, 7], Go.Proofs.Tryz.func17, rfl, by kernel_rfl, by kernel_rfl, by decide, by kernel_rfl, by kernel_rfl⟩

theorem fnsS : Fns Go.Proofs.Tryz.prog NS where
  bigEndian_Uint16 := fun _ => fok_bigEndian_Uint16
  bigEndian_Uint32 := fun _ => fok_bigEndian_Uint32
  bigEndian_Uint64 := fun _ => fok_bigEndian_Uint64
  UnsafeString := fun _ => fok_UnsafeString
  Uvarint := fun _ => fok_Uvarint
  PReader_Bool := fun _ => fok_PReader_Bool
  PReader_Int8 := fun _ => fok_PReader_Int8
  PReader_Uint16 := fun _ => ⟨fok_PReader_Uint16, by decide⟩
  PReader_Int16 := fun _ => ⟨fok_PReader_Int16, by decide⟩
  PReader_Int32 := fun _ => ⟨fok_PReader_Int32, by decide⟩
  PReader_readUint64 := fun _ => ⟨fok_PReader_readUint64, by decide⟩
  PReader_Int64 := fun _ => ⟨fok_PReader_Int64, by decide⟩
  PReader_Uuid := fun _ => ⟨fok_PReader_Uuid, by decide⟩
  PReader_Uvarint := fun _ => ⟨fok_PReader_Uvarint, by decide⟩
  PReader_Span := fun _ => fok_PReader_Span
  PReader_String := fun _ => ⟨fok_PReader_String, by decide, by decide⟩
  PReader_UnsafeString := fun _ => ⟨fok_PReader_UnsafeString, by decide, by decide, by decide⟩
  PReader_CompactString := fun _ => ⟨fok_PReader_CompactString, by decide, by decide⟩
  PReader_UnsafeCompactString := fun _ => ⟨fok_PReader_UnsafeCompactString, by decide, by decide, by decide⟩
  PReader_NullableString := fun _ => ⟨fok_PReader_NullableString, by decide, by decide⟩
  PReader_UnsafeNullableString := fun _ => ⟨fok_PReader_UnsafeNullableString, by decide, by decide, by decide⟩
  PReader_CompactNullableString := fun _ => ⟨fok_PReader_CompactNullableString, by decide, by decide⟩
  PReader_UnsafeCompactNullableString := fun _ => ⟨fok_PReader_UnsafeCompactNullableString, by decide, by decide, by decide⟩
  PReader_Bytes := fun _ => ⟨fok_PReader_Bytes, by decide, by decide⟩
  PReader_CompactBytes := fun _ => ⟨fok_PReader_CompactBytes, by decide, by decide⟩
  PReader_NullableBytes := fun h => absurd rfl h
  PReader_CompactNullableBytes := fun h => absurd rfl h
  PReader_ArrayLen := fun _ => ⟨fok_PReader_ArrayLen, by decide⟩
  PReader_CompactArrayLen := fun _ => ⟨fok_PReader_CompactArrayLen, by decide⟩
  PReader_Complete := fun _ => fok_PReader_Complete
  PReader_Ok := fun _ => fok_PReader_Ok
  PTags_Set := fun _ => fok_PTags_Set
  internalReadTags := fun _ => ⟨fok_internalReadTags, by decide, by decide, by decide⟩
  PTags_Each := fun _ => ⟨fok_PTags_Each, by decide, by decide⟩
  PTags_Each_1 := fun _ => fok_PTags_Each_1
  sorted := fun _ => fok_sorted
  boolTree := fun _ => fok_boolTree
  textTree := fun _ => fok_textTree
  octetsTree := fun _ => fok_octetsTree
  spec_Same := fun _ => fok_spec_Same
  spec_SameTree := fun h => absurd rfl h
  version := fun _ => fok_version
  got := fun _ => fok_got

theorem implT : zfe Go.Proofs.Tryz.prog NS := ⟨sfB_ok (by kernel_rfl), sfB_ok (by kernel_rfl), zts (by kernel_rfl), zts (by kernel_rfl), zts (by kernel_rfl), zts (by kernel_rfl), zts (by kernel_rfl), zts (by kernel_rfl), zts (by kernel_rfl), zhv (by kernel_rfl), zhv (by kernel_rfl)⟩
theorem specT : zge Go.Proofs.Tryz.prog NS NS.zc NS.zab NS.zn NS.zj := ⟨sfB_ok (by kernel_rfl), sfB_ok (by kernel_rfl), zts (by kernel_rfl), zts (by kernel_rfl), zts (by kernel_rfl), zts (by kernel_rfl), zts (by kernel_rfl), zts (by kernel_rfl), zts (by kernel_rfl), zhv (by kernel_rfl), zhv (by kernel_rfl)⟩
theorem spT : SpT Go.Proofs.Tryz.prog NS MS := ⟨sfB_ok (by kernel_rfl), zts (by kernel_rfl), zts (by kernel_rfl), zts (by kernel_rfl), zts (by kernel_rfl), zts (by kernel_rfl), zts (by kernel_rfl), zts (by kernel_rfl), zts (by kernel_rfl), zhv (by kernel_rfl), sfB_ok (by kernel_rfl), zts (by kernel_rfl), zts (by kernel_rfl), specT⟩
theorem treeO : TreeO Go.Proofs.Tryz.prog NS where
  tree := ⟨_, Go.Proofs.Tryz.underlying26, by kernel_rfl⟩
  tag := ⟨_, Go.Proofs.Tryz.underlying66, by kernel_rfl⟩
  cTree := by kernel_rfl
  cTag := by kernel_rfl
  c1 := ⟨by kernel_rfl, by kernel_rfl, by kernel_rfl, by kernel_rfl, by kernel_rfl, by kernel_rfl, by kernel_rfl⟩
theorem sp_zzFits3 : FOk Go.Proofs.Tryz.prog 84 1 (zrx NS MS) [.var 2] := ⟨Go.Proofs.Tryz.f84, _, [0, 1, 2, 6], Go.Proofs.Tryz.func84, rfl, by kernel_rfl, by kernel_rfl, by decide, by kernel_rfl, by kernel_rfl⟩
theorem sp_zzFits2 : FOk Go.Proofs.Tryz.prog 34 1 (zwv NS MS) [.var 1] := ⟨Go.Proofs.Tryz.f34, _, [0, 2, 7, 8, 9, 10, 11, 4, 16], Go.Proofs.Tryz.func34, rfl, by kernel_rfl, by kernel_rfl, by decide, by kernel_rfl, by kernel_rfl⟩
theorem sp_zzFits1 : FOk Go.Proofs.Tryz.prog 9 1 (zww NS MS) [.var 2] := ⟨Go.Proofs.Tryz.f9, _, [0, 1, 2, 6, 10, 14], Go.Proofs.Tryz.func9, rfl, by kernel_rfl, by kernel_rfl, by decide, by kernel_rfl, by kernel_rfl⟩
theorem sp_spec_Field_has : FOk Go.Proofs.Tryz.prog 43 2 (zht NS MS) [.var 3] := ⟨Go.Proofs.Tryz.f43, _, [0, 1, 2, 4], Go.Proofs.Tryz.func43, rfl, by kernel_rfl, by kernel_rfl, by decide, by kernel_rfl, by kernel_rfl⟩
theorem sp_spec_Field_null : FOk Go.Proofs.Tryz.prog 97 3 (zhi NS MS) [.var 5] := ⟨Go.Proofs.Tryz.f97, _, [0, 1, 2, 3, 5, 6], Go.Proofs.Tryz.func97, rfl, by kernel_rfl, by kernel_rfl, by decide, by kernel_rfl, by kernel_rfl⟩
theorem sp_spec_whole : FOk Go.Proofs.Tryz.prog 49 1 (zlq NS MS) [.var 1] := ⟨Go.Proofs.Tryz.f49, _, [0, 2], Go.Proofs.Tryz.func49, rfl, by kernel_rfl, by kernel_rfl, by decide, by kernel_rfl, by kernel_rfl⟩
theorem sp_spec_things : FOk Go.Proofs.Tryz.prog 98 1 (zko NS MS) [.var 1] := ⟨Go.Proofs.Tryz.f98, _, [0, 2], Go.Proofs.Tryz.func98, rfl, by kernel_rfl, by kernel_rfl, by decide, by kernel_rfl, by kernel_rfl⟩
theorem sp_spec_at : FOk Go.Proofs.Tryz.prog 42 2 (zsa NS MS) [.cell 3 NS.zc] := ⟨Go.Proofs.Tryz.f42, _, [0, 1, 2, 4, 9], Go.Proofs.Tryz.func42, rfl, by kernel_rfl, by kernel_rfl, by decide, by kernel_rfl, by kernel_rfl⟩
theorem sp_spec_Uvarint : FOk Go.Proofs.Tryz.prog 94 1 (zhm NS MS) [.var 1] := ⟨Go.Proofs.Tryz.f94, _, [0, 2, 3, 5], Go.Proofs.Tryz.func94, rfl, by kernel_rfl, by kernel_rfl, by decide, by kernel_rfl, by kernel_rfl⟩
theorem sp_spec_Fixed : FOk Go.Proofs.Tryz.prog 95 2 (zjj NS MS) [.var 2] := ⟨Go.Proofs.Tryz.f95, _, [0, 1, 4, 5, 6, 10], Go.Proofs.Tryz.func95, rfl, by kernel_rfl, by kernel_rfl, by decide, by kernel_rfl, by kernel_rfl⟩
theorem sp_spec_width : FOk Go.Proofs.Tryz.prog 96 1 (zlp NS MS) [.var 1] := ⟨Go.Proofs.Tryz.f96, _, [0, 2, 3, 4, 6, 9], Go.Proofs.Tryz.func96, rfl, by kernel_rfl, by kernel_rfl, by decide, by kernel_rfl, by kernel_rfl⟩
theorem sp_spec_counted : FOk Go.Proofs.Tryz.prog 144 4 (zjt NS MS) [.var 4] := ⟨Go.Proofs.Tryz.f144, _, [0, 1, 2, 3, 8, 9, 15, 21], Go.Proofs.Tryz.func144, rfl, by kernel_rfl, by kernel_rfl, by decide, by kernel_rfl, by kernel_rfl⟩
theorem sp_spec_value : FOk Go.Proofs.Tryz.prog 145 6 (zpx NS MS) [.var 7] := ⟨Go.Proofs.Tryz.f145, _, [0, 1, 2, 3, 4, 5, 11, 12, 16, 17, 24, 13, 32, 14, 37, 45, 15, 50, 58], Go.Proofs.Tryz.func145, rfl, by kernel_rfl, by kernel_rfl, by decide, by kernel_rfl, by kernel_rfl⟩
theorem sp_spec_field : FOk Go.Proofs.Tryz.prog 92 4 (zpy NS MS) [.var 6] := ⟨Go.Proofs.Tryz.f92, _, [0, 1, 2, 3, 4, 7, 8, 9, 19, 10, 23, 11, 30, 31, 32, 12, 56, 57], Go.Proofs.Tryz.func92, rfl, by kernel_rfl, by kernel_rfl, by decide, by kernel_rfl, by kernel_rfl⟩
theorem sp_spec_known : FOk Go.Proofs.Tryz.prog 93 1 (zlr NS MS) [.var 1] := ⟨Go.Proofs.Tryz.f93, _, [0, 2, 3, 6, 7, 8, 9, 5, 14], Go.Proofs.Tryz.func93, rfl, by kernel_rfl, by kernel_rfl, by decide, by kernel_rfl, by kernel_rfl⟩
theorem sp_spec_unknown : FOk Go.Proofs.Tryz.prog 47 2 (zmz NS MS) [.var 2] := ⟨Go.Proofs.Tryz.f47, _, [0, 1, 4, 5, 6, 17, 18, 19, 20, 8, 9, 36, 58, 10, 68], Go.Proofs.Tryz.func47, rfl, by kernel_rfl, by kernel_rfl, by decide, by kernel_rfl, by kernel_rfl⟩
theorem sp_spec_part : FOk Go.Proofs.Tryz.prog 41 4 (zrz NS MS) [.var 5] := ⟨Go.Proofs.Tryz.f41, _, [0, 1, 2, 3, 7, 8, 9, 10, 11, 21, 22, 23, 24, 13, 12, 35, 47, 51, 52, 53, 14, 55, 56, 57, 58, 16, 15, 73, 17, 100, 101, 102, 103, 19, 20], Go.Proofs.Tryz.func41, rfl, by kernel_rfl, by kernel_rfl, by decide, by kernel_rfl, by kernel_rfl⟩
theorem sp_spec_Write : FOk Go.Proofs.Tryz.prog 14 3 (zpz NS MS) [.var 5] := ⟨Go.Proofs.Tryz.f14, _, [0, 1, 2, 3, 5, 6], Go.Proofs.Tryz.func14, rfl, by kernel_rfl, by kernel_rfl, by decide, by kernel_rfl, by kernel_rfl⟩
theorem sp_spec_number : FOk Go.Proofs.Tryz.prog 76 2 (zkp NS MS) [.var 2] := ⟨Go.Proofs.Tryz.f76, _, [0, 1, 4, 5, 6, 10, 15, 20, 25], Go.Proofs.Tryz.func76, rfl, by kernel_rfl, by kernel_rfl, by decide, by kernel_rfl, by kernel_rfl⟩
theorem sp_spec_Usual : FOk Go.Proofs.Tryz.prog 46 2 (zqa NS MS) [.var 3] := ⟨Go.Proofs.Tryz.f46, _, [0, 1, 3, 4, 11, 12, 13, 14, 15, 6, 5, 7, 23, 32, 45, 46, 52, 53, 65, 66, 87, 31], Go.Proofs.Tryz.func46, rfl, by kernel_rfl, by kernel_rfl, by decide, by kernel_rfl, by kernel_rfl⟩
theorem sp_spec_told : FOk Go.Proofs.Tryz.prog 45 5 (zry NS MS) [.var 8] := ⟨Go.Proofs.Tryz.f45, _, [0, 1, 2, 3, 4, 5, 8, 9, 10, 11, 12, 46, 47, 49, 50, 59, 13, 70, 79, 14, 89, 15, 97, 98, 99, 16, 114], Go.Proofs.Tryz.func45, rfl, by kernel_rfl, by kernel_rfl, by decide, by kernel_rfl, by kernel_rfl⟩
theorem sp_spec_Told : FOk Go.Proofs.Tryz.prog 15 5 (zsb NS MS) [.var 7] := ⟨Go.Proofs.Tryz.f15, _, [0, 1, 2, 3, 4, 8, 9, 10, 22, 23, 24, 25, 26, 12, 11, 13, 54, 65, 76, 14, 83, 89, 90, 91, 92, 93, 16, 15, 118], Go.Proofs.Tryz.func15, rfl, by kernel_rfl, by kernel_rfl, by decide, by kernel_rfl, by kernel_rfl⟩
theorem sp_spec_Message_Flexible : FOk Go.Proofs.Tryz.prog 16 2 (zex NS MS) [.var 3] := ⟨Go.Proofs.Tryz.f16, _, [0, 1, 2, 4], Go.Proofs.Tryz.func16, rfl, by kernel_rfl, by kernel_rfl, by decide, by kernel_rfl, by kernel_rfl⟩
theorem thSZ : SZ Go.Proofs.Tryz.prog NS MS := ⟨sp_zzFits3, sp_zzFits2, sp_zzFits1⟩
theorem thSW : SW Go.Proofs.Tryz.prog NS MS := ⟨sp_spec_Field_has, sp_spec_Field_null, sp_spec_whole, sp_spec_things, sp_spec_at, sp_spec_Uvarint, sp_spec_Fixed, sp_spec_width, sp_spec_counted, sp_spec_value, sp_spec_field, sp_spec_known, sp_spec_unknown, sp_spec_part, sp_spec_Write⟩
theorem thSTo : STo Go.Proofs.Tryz.prog NS MS := ⟨sp_spec_number, sp_spec_Usual, sp_spec_told, sp_spec_Told, sp_spec_Message_Flexible⟩
theorem bulkF (H : Type) : BulkF (Proofs.YtccgofjnacenhaaGreatDoor.Rows.uptoBulk (H := H)) Proofs.YtccgofjnacenhaaGreatDoor.Rows.uptoBulkAll := ⟨fun l => by cases l <;> simp [Proofs.YtccgofjnacenhaaGreatDoor.Rows.uptoBulk], fun _ _ => rfl, fun _ => rfl, rfl, rfl, fun _ _ => rfl⟩

def slRen : Go.Shelf.Ren := ⟨fun | 6 => 142 | 10 => 179 | 11 => 180 | 12 => 181 | 13 => 182 | 14 => 183 | 24 => 201 | 25 => 202 | 26 => 203 | 27 => 204 | 28 => 205 | 29 => 206 | 30 => 207 | 31 => 208 | 32 => 209 | 33 => 210 | 34 => 213 | 35 => 214 | 36 => 215 | 37 => 216 | 38 => 217 | 39 => 218 | n => n, fun | 20 => 20 | 26 => 173 | 35 => 212 | 0 => 0 | 37 => 214 | 3 => 3 | 41 => 176 | 44 => 219 | 49 => 64 | 51 => 107 | 4 => 4 | 54 => 232 | 53 => 231 | 58 => 236 | 5 => 5 | 9 => 9 | 60 => 239 | 64 => 242 | 66 => 244 | 67 => 245 | 17 => 17 | 32 => 209 | 33 => 210 | 82 => 260 | 12 => 12 | 75 => 253 | 76 => 254 | 77 => 255 | 78 => 256 | 79 => 257 | 80 => 258 | n => n, fun | n => n⟩
theorem sl6 : Go.Proofs.LaysGg.n6 Go.Proofs.Tryz.prog slRen where
  mixed := by kernel_rfl
  f6 := Go.Proofs.Tryz.func142.trans (congrArg some (by kernel_rfl))
  f10 := Go.Proofs.Tryz.func179.trans (congrArg some (by kernel_rfl))
  f11 := Go.Proofs.Tryz.func180.trans (congrArg some (by kernel_rfl))
  f12 := Go.Proofs.Tryz.func181.trans (congrArg some (by kernel_rfl))
  f13 := Go.Proofs.Tryz.func182.trans (congrArg some (by kernel_rfl))
  f14 := Go.Proofs.Tryz.func183.trans (congrArg some (by kernel_rfl))
  f24 := Go.Proofs.Tryz.func201.trans (congrArg some (by kernel_rfl))
  f25 := Go.Proofs.Tryz.func202.trans (congrArg some (by kernel_rfl))
  f26 := Go.Proofs.Tryz.func203.trans (congrArg some (by kernel_rfl))
  f27 := Go.Proofs.Tryz.func204.trans (congrArg some (by kernel_rfl))
  f28 := Go.Proofs.Tryz.func205.trans (congrArg some (by kernel_rfl))
  f29 := Go.Proofs.Tryz.func206.trans (congrArg some (by kernel_rfl))
  f30 := Go.Proofs.Tryz.func207.trans (congrArg some (by kernel_rfl))
  f31 := Go.Proofs.Tryz.func208.trans (congrArg some (by kernel_rfl))
  f32 := Go.Proofs.Tryz.func209.trans (congrArg some (by kernel_rfl))
  f33 := Go.Proofs.Tryz.func210.trans (congrArg some (by kernel_rfl))
  f34 := Go.Proofs.Tryz.func213.trans (congrArg some (by kernel_rfl))
  f35 := Go.Proofs.Tryz.func214.trans (congrArg some (by kernel_rfl))
  f36 := Go.Proofs.Tryz.func215.trans (congrArg some (by kernel_rfl))
  f37 := Go.Proofs.Tryz.func216.trans (congrArg some (by kernel_rfl))
  f38 := Go.Proofs.Tryz.func217.trans (congrArg some (by kernel_rfl))
  f39 := Go.Proofs.Tryz.func218.trans (congrArg some (by kernel_rfl))
  t0 := Go.Proofs.Tryz.underlying0
  a0 := Go.Proofs.Tryz.isAgg0
  z0 := Go.Proofs.Tryz.sizeOf0
  v0 := Go.Proofs.Tryz.zeroValue0
  i0 := by kernel_rfl
  t3 := Go.Proofs.Tryz.underlying3
  a3 := Go.Proofs.Tryz.isAgg3
  z3 := Go.Proofs.Tryz.sizeOf3
  v3 := Go.Proofs.Tryz.zeroValue3
  i3 := by kernel_rfl
  t4 := Go.Proofs.Tryz.underlying4
  a4 := Go.Proofs.Tryz.isAgg4
  z4 := Go.Proofs.Tryz.sizeOf4
  v4 := Go.Proofs.Tryz.zeroValue4
  i4 := by kernel_rfl
  t5 := Go.Proofs.Tryz.underlying5
  a5 := Go.Proofs.Tryz.isAgg5
  z5 := Go.Proofs.Tryz.sizeOf5
  v5 := Go.Proofs.Tryz.zeroValue5
  i5 := by kernel_rfl
  t9 := Go.Proofs.Tryz.underlying9
  a9 := Go.Proofs.Tryz.isAgg9
  z9 := Go.Proofs.Tryz.sizeOf9
  v9 := Go.Proofs.Tryz.zeroValue9
  i9 := by kernel_rfl
  t12 := Go.Proofs.Tryz.underlying12
  a12 := Go.Proofs.Tryz.isAgg12
  z12 := Go.Proofs.Tryz.sizeOf12
  v12 := Go.Proofs.Tryz.zeroValue12
  i12 := by kernel_rfl
  t17 := Go.Proofs.Tryz.underlying17
  a17 := Go.Proofs.Tryz.isAgg17
  z17 := Go.Proofs.Tryz.sizeOf17
  v17 := Go.Proofs.Tryz.zeroValue17
  i17 := by kernel_rfl
  t20 := Go.Proofs.Tryz.underlying20
  a20 := Go.Proofs.Tryz.isAgg20
  z20 := Go.Proofs.Tryz.sizeOf20
  v20 := Go.Proofs.Tryz.zeroValue20
  i20 := by kernel_rfl
  t26 := Go.Proofs.Tryz.underlying173
  a26 := Go.Proofs.Tryz.isAgg173
  z26 := Go.Proofs.Tryz.sizeOf173
  v26 := Go.Proofs.Tryz.zeroValue173
  i26 := by kernel_rfl
  t32 := Go.Proofs.Tryz.underlying209
  a32 := Go.Proofs.Tryz.isAgg209
  z32 := Go.Proofs.Tryz.sizeOf209
  v32 := Go.Proofs.Tryz.zeroValue209
  i32 := by kernel_rfl
  t33 := Go.Proofs.Tryz.underlying210
  a33 := Go.Proofs.Tryz.isAgg210
  z33 := Go.Proofs.Tryz.sizeOf210
  v33 := Go.Proofs.Tryz.zeroValue210
  i33 := by kernel_rfl
  t35 := Go.Proofs.Tryz.underlying212
  a35 := Go.Proofs.Tryz.isAgg212
  z35 := Go.Proofs.Tryz.sizeOf212
  v35 := Go.Proofs.Tryz.zeroValue212
  i35 := by kernel_rfl
  t37 := Go.Proofs.Tryz.underlying214
  a37 := Go.Proofs.Tryz.isAgg214
  z37 := Go.Proofs.Tryz.sizeOf214
  v37 := Go.Proofs.Tryz.zeroValue214
  i37 := by kernel_rfl
  t41 := Go.Proofs.Tryz.underlying176
  a41 := Go.Proofs.Tryz.isAgg176
  z41 := Go.Proofs.Tryz.sizeOf176
  v41 := Go.Proofs.Tryz.zeroValue176
  i41 := by kernel_rfl
  t44 := Go.Proofs.Tryz.underlying219
  a44 := Go.Proofs.Tryz.isAgg219
  z44 := Go.Proofs.Tryz.sizeOf219
  v44 := Go.Proofs.Tryz.zeroValue219
  i44 := by kernel_rfl
  t49 := Go.Proofs.Tryz.underlying64
  a49 := Go.Proofs.Tryz.isAgg64
  z49 := Go.Proofs.Tryz.sizeOf64
  v49 := Go.Proofs.Tryz.zeroValue64
  i49 := by kernel_rfl
  t51 := Go.Proofs.Tryz.underlying107
  a51 := Go.Proofs.Tryz.isAgg107
  z51 := Go.Proofs.Tryz.sizeOf107
  v51 := Go.Proofs.Tryz.zeroValue107
  i51 := by kernel_rfl
  t53 := Go.Proofs.Tryz.underlying231
  a53 := Go.Proofs.Tryz.isAgg231
  z53 := Go.Proofs.Tryz.sizeOf231
  v53 := Go.Proofs.Tryz.zeroValue231
  i53 := by kernel_rfl
  t54 := Go.Proofs.Tryz.underlying232
  a54 := Go.Proofs.Tryz.isAgg232
  z54 := Go.Proofs.Tryz.sizeOf232
  v54 := Go.Proofs.Tryz.zeroValue232
  i54 := by kernel_rfl
  t58 := Go.Proofs.Tryz.underlying236
  a58 := Go.Proofs.Tryz.isAgg236
  z58 := Go.Proofs.Tryz.sizeOf236
  v58 := Go.Proofs.Tryz.zeroValue236
  i58 := by kernel_rfl
  t60 := Go.Proofs.Tryz.underlying239
  a60 := Go.Proofs.Tryz.isAgg239
  z60 := Go.Proofs.Tryz.sizeOf239
  v60 := Go.Proofs.Tryz.zeroValue239
  i60 := by kernel_rfl
  t64 := Go.Proofs.Tryz.underlying242
  a64 := Go.Proofs.Tryz.isAgg242
  z64 := Go.Proofs.Tryz.sizeOf242
  v64 := Go.Proofs.Tryz.zeroValue242
  i64 := by kernel_rfl
  t66 := Go.Proofs.Tryz.underlying244
  a66 := Go.Proofs.Tryz.isAgg244
  z66 := Go.Proofs.Tryz.sizeOf244
  v66 := Go.Proofs.Tryz.zeroValue244
  i66 := by kernel_rfl
  t67 := Go.Proofs.Tryz.underlying245
  a67 := Go.Proofs.Tryz.isAgg245
  z67 := Go.Proofs.Tryz.sizeOf245
  v67 := Go.Proofs.Tryz.zeroValue245
  i67 := by kernel_rfl
  t75 := Go.Proofs.Tryz.underlying253
  a75 := Go.Proofs.Tryz.isAgg253
  z75 := Go.Proofs.Tryz.sizeOf253
  v75 := Go.Proofs.Tryz.zeroValue253
  i75 := by kernel_rfl
  t76 := Go.Proofs.Tryz.underlying254
  a76 := Go.Proofs.Tryz.isAgg254
  z76 := Go.Proofs.Tryz.sizeOf254
  v76 := Go.Proofs.Tryz.zeroValue254
  i76 := by kernel_rfl
  t77 := Go.Proofs.Tryz.underlying255
  a77 := Go.Proofs.Tryz.isAgg255
  z77 := Go.Proofs.Tryz.sizeOf255
  v77 := Go.Proofs.Tryz.zeroValue255
  i77 := by kernel_rfl
  t78 := Go.Proofs.Tryz.underlying256
  a78 := Go.Proofs.Tryz.isAgg256
  z78 := Go.Proofs.Tryz.sizeOf256
  v78 := Go.Proofs.Tryz.zeroValue256
  i78 := by kernel_rfl
  t79 := Go.Proofs.Tryz.underlying257
  a79 := Go.Proofs.Tryz.isAgg257
  z79 := Go.Proofs.Tryz.sizeOf257
  v79 := Go.Proofs.Tryz.zeroValue257
  i79 := by kernel_rfl
  t80 := Go.Proofs.Tryz.underlying258
  a80 := Go.Proofs.Tryz.isAgg258
  z80 := Go.Proofs.Tryz.sizeOf258
  v80 := Go.Proofs.Tryz.zeroValue258
  i80 := by kernel_rfl
  t82 := Go.Proofs.Tryz.underlying260
  a82 := Go.Proofs.Tryz.isAgg260
  z82 := Go.Proofs.Tryz.sizeOf260
  v82 := Go.Proofs.Tryz.zeroValue260
  i82 := by kernel_rfl

noncomputable def sI : TypeInfo := (Go.Proofs.Tryz.prog.info? NS.zbj).get (by kernel_rfl)
noncomputable def sE : TypeInfo := (Go.Proofs.Tryz.prog.info? NS.zp).get (by kernel_rfl)
theorem sortT : SortT Go.Proofs.Tryz.prog NS where
  has := ⟨_, Go.Proofs.Tryz.func142, by kernel_rfl, by kernel_rfl⟩
  out := ⟨slRen, sI, sE, 197, 193, sl6, by kernel_rfl, by kernel_rfl, by kernel_rfl, by kernel_rfl, by kernel_rfl, fun _ => by kernel_rfl, by kernel_rfl, by kernel_rfl, by kernel_rfl, by kernel_rfl, by kernel_rfl,
    fun args W => run_callFunc_extern Go.Proofs.Tryz.func197 (by kernel_rfl) (by kernel_rfl) (by kernel_rfl) (e := Extern.ReflectliteSwapper.swap true) (by kernel_rfl) args W⟩
theorem lu : LU Go.Proofs.Tryz.prog NS := ⟨zhv (by kernel_rfl)⟩
theorem tellN : TellN Go.Proofs.Tryz.prog NS := ⟨by decide, by decide, by decide, lu, sortOk baseS fnsS (by decide) lu sortT⟩

theorem own : ownKnob Go.Proofs.Tryz.prog.godebug = none := by kernel_rfl
theorem laidOut : laidOutB Go.Proofs.Tryz.prog = true := by kernel_rfl
theorem gO : Go.Proofs.Tryz.prog.globalNamed "pub-mailsack/pub/kmsg/inner/kbin.ErrNotEnoughData" = some 1 := by kernel_rfl
theorem gT : (Go.Proofs.Tryz.prog.globals[1]?).map (·.type) = some 56 := by kernel_rfl
theorem cS : Go.Proofs.Tryz.prog.cellsOf 265 = 1 := by kernel_rfl
theorem cStr : Go.Proofs.Tryz.prog.cellsOf 9 = 1 := by kernel_rfl
theorem star : "*" ++ "errors.errorString" = "*errors.errorString" := by decide
theorem rowP (u : TypeId) (h : Go.Proofs.Tryz.prog.typeName? 3 u = some "*errors.errorString") : u = 247 :=
  typeName_ptr_named (nm := "errors.errorString") (by rw [star]; kernel_rfl) (by kernel_rfl) (by decide) u (by rw [star]; exact h)
theorem bandT {a b : Bool} (h : a = true) (h' : b = true) : (a && b) = true := by rw [h, h']; rfl
theorem bigEnter : Go.Proofs.Tryz.prog.mayEnter = true := by kernel_rfl
theorem bigLifts : (Proofs.YtccgofjnacenhaaGreatDoor.Rows.fnTellDescribeClusterResponseRow.lifted == Go.Proofs.Tryz.prog.liftsFinal) = true := by kernel_rfl
theorem bigMake : (Go.Proofs.Tryz.prog.make == some Proofs.YtccgofjnacenhaaGreatDoor.Rows.fnTellDescribeClusterResponseRow.make) = true := by kernel_rfl
theorem stopsHeardS : Go.Proofs.Tryz.prog.stopsHeard = true := by kernel_rfl
theorem mapsRowedS : mapsRowed Go.Proofs.Tryz.prog = true := by kernel_rfl
theorem plainKeysS : (Proofs.YtccgofjnacenhaaGreatDoor.Rows.fnTellDescribeClusterResponseRow.plainKeys == Go.Proofs.Tryz.prog.plainKeys) = true := by kernel_rfl
theorem mainS : Go.Proofs.Tryz.prog.mainIs = some (Proofs.YtccgofjnacenhaaGreatDoor.Rows.fnTellDescribeClusterResponseCard.stood.harness.1, Proofs.YtccgofjnacenhaaGreatDoor.Rows.fnTellDescribeClusterResponseCard.stood.harness.2.toList) := by kernel_rfl
theorem looksS : false = Go.Proofs.Tryz.prog.looks [] := by kernel_rfl
theorem shaped (os : Os) (args : Array Value) : ((World.doorLaid Go.Proofs.Tryz.prog 400 os).forCall (fun _ _ => 0) ⟨#[], args, []⟩).Shaped Go.Proofs.Tryz.prog := World.shaped_of_RefB (by kernel_rfl) (by kernel_rfl)
theorem door_met (os : Os) (args : Array Value) : laidMetH Go.Proofs.Tryz.prog Proofs.YtccgofjnacenhaaGreatDoor.Rows.fnTellDescribeClusterResponseRow.laid ((World.doorLaid Go.Proofs.Tryz.prog 400 os).forCall (fun _ _ => 0) ⟨#[], args, []⟩).memory :=
  laidMetH_of_parts3 (fuel := 8) (laidMet_of_run' 8 (by kernel_rfl) (by kernel_rfl)) (by kernel_rfl) (by kernel_rfl)
end Go.Kf
