/- Closed facts of this translation: its numbers, its shared functions' codes, its types; no condition. -/
import Derived.Test.YtlildailoffclaaKf
import Derived.Test.YtlildailoffclaaKf
import Derived.Test.YtlildailoffclaaKf
import Derived.Shelf.GgSortFunc.Whole
import Derived.Test.YtlildailoffclaaRows
import Derived.LaidMore
import Derived.Stop.Joined
import Derived.Deep.DeepHandedRow
import Derived.JoinedCond
set_option linter.unusedSimpArgs false
set_option linter.unusedVariables false
set_option maxRecDepth 100000
namespace Go.Kf
open Go

def NS : Nums where
  zgk := 126
  zcm := 141
  zdn := 84
  zgj := 140
  zec := 14
  zke := 13
  t_ := 0
  zag := 131
  zbt := 37
  zbh := 36
  zi := 24
  zj := 23
  zav := 181
  za := 22
  zay := 94
  zcr := 62
  zcq := 53
  zaa := 39
  zaq := 4
  zgf := 183
  zfs := 107
  ze := 3
  zbd := 45
  zbp := 21
  zbn := 2
  zjw := 87
  zmp := 20
  zz := 51
  zy := 61
  zb := 26
  zal := 9
  zbr := 169
  zed := 167
  zc := 59
  zad := 117
  zk := 5

def MS : zaz where
  zfa := 92
  zet := 89
  zdv := 50
  zty := 186
  zcd := 95
  zjm := 18
  zes := 44
  zde := 128
  zhq := 93
  zhp := 91
  ziw := 47
  zgm := 90
  zfy := 45
  zvq := 94
  zho := 129
  zdi := 46
  zjl := 130
  znn := 10
  zqr := 37
  znm := 81
  zab := 29
  zg := 50
  zac := 31

def AN : zck where
  zce := 103
  zhv := 98
  zgp := 123
  zba := 102
  zdp := 122
  zbu := 109
  zbs := 96
  zbx := 85
  zbi := 104
  zfp := 115
  zhu := 114
  zda := 110
  zdw := 97
  zdg := 124
  zdf := 132
  zhs := 108
  zcb := 86
  zek := 88
  zcg := 127
  ziz := 87
  zhr := 125
  zfz := 136
  zdz := 139
  t_PTags := 165

def LN : zen where
  f_at := 83
  zll := 16
  zhc := 138
  ziy := 133
  zkf := 17
  zfo := 43
  zjk := 118

theorem baseS : Base Go.Proofs.Try.prog NS := base_ok (by kernel_rfl) (by kernel_rfl) (by kernel_rfl)

theorem fok_PTags_Set : FOk Go.Proofs.Try.prog 84 3 (zra NS) [] := ⟨Go.Proofs.Try.f84, _, [0, 1, 2, 10], Go.Proofs.Try.func84, rfl, by kernel_rfl, by kernel_rfl, by decide, by kernel_rfl, by kernel_rfl⟩
theorem fok_PTags_Each : FOk Go.Proofs.Try.prog 126 2 (zpi NS) [] := ⟨Go.Proofs.Try.f126, _, [0, 1, 13, 4, 24, 26, 5, 37, 38, 39, 40, 7], Go.Proofs.Try.func126, rfl, by kernel_rfl, by kernel_rfl, by decide, by kernel_rfl, by kernel_rfl⟩
theorem fok_PTags_Each_1 : FOk Go.Proofs.Try.prog 141 3 (zmn NS) [.var 3] := ⟨Go.Proofs.Try.f141, _, [0, 1, 2, 5], Go.Proofs.Try.func141, rfl, by kernel_rfl, by kernel_rfl, by decide, by kernel_rfl, by kernel_rfl⟩
theorem fok_spec_Same : FOk Go.Proofs.Try.prog 14 2 (zqz NS) [.var 2] := ⟨Go.Proofs.Try.f14, _, [0, 1, 4, 10, 12, 13, 14, 5, 24], Go.Proofs.Try.func14, rfl, by kernel_rfl, by kernel_rfl, by decide, by kernel_rfl, by kernel_rfl⟩
theorem fok_version : FOk Go.Proofs.Try.prog 13 2 (zwb NS) [.var 2] := ⟨Go.Proofs.Try.f13, _, [0, 1, 4], Go.Proofs.Try.func13, rfl, by kernel_rfl, by kernel_rfl, by decide, by kernel_rfl, by kernel_rfl⟩

theorem fnsS : Fns Go.Proofs.Try.prog NS where
  bigEndian_Uint16 := fun h => absurd rfl h
  bigEndian_Uint32 := fun h => absurd rfl h
  bigEndian_Uint64 := fun h => absurd rfl h
  UnsafeString := fun h => absurd rfl h
  Uvarint := fun h => absurd rfl h
  PReader_Bool := fun h => absurd rfl h
  PReader_Int8 := fun h => absurd rfl h
  PReader_Uint16 := fun h => absurd rfl h
  PReader_Int16 := fun h => absurd rfl h
  PReader_Int32 := fun h => absurd rfl h
  PReader_readUint64 := fun h => absurd rfl h
  PReader_Int64 := fun h => absurd rfl h
  PReader_Uuid := fun h => absurd rfl h
  PReader_Uvarint := fun h => absurd rfl h
  PReader_Span := fun h => absurd rfl h
  PReader_String := fun h => absurd rfl h
  PReader_UnsafeString := fun h => absurd rfl h
  PReader_CompactString := fun h => absurd rfl h
  PReader_UnsafeCompactString := fun h => absurd rfl h
  PReader_NullableString := fun h => absurd rfl h
  PReader_UnsafeNullableString := fun h => absurd rfl h
  PReader_CompactNullableString := fun h => absurd rfl h
  PReader_UnsafeCompactNullableString := fun h => absurd rfl h
  PReader_Bytes := fun h => absurd rfl h
  PReader_CompactBytes := fun h => absurd rfl h
  PReader_NullableBytes := fun h => absurd rfl h
  PReader_CompactNullableBytes := fun h => absurd rfl h
  PReader_ArrayLen := fun h => absurd rfl h
  PReader_CompactArrayLen := fun h => absurd rfl h
  PReader_Complete := fun h => absurd rfl h
  PReader_Ok := fun h => absurd rfl h
  PTags_Set := fun _ => fok_PTags_Set
  internalReadTags := fun h => absurd rfl h
  PTags_Each := fun _ => ⟨fok_PTags_Each, by decide, by decide⟩
  PTags_Each_1 := fun _ => fok_PTags_Each_1
  sorted := fun h => absurd rfl h
  boolTree := fun h => absurd rfl h
  textTree := fun h => absurd rfl h
  octetsTree := fun h => absurd rfl h
  spec_Same := fun _ => fok_spec_Same
  spec_SameTree := fun h => absurd rfl h
  version := fun _ => fok_version
  got := fun h => absurd rfl h

theorem implT : zct Go.Proofs.Try.prog NS NS.zaa NS.zcr NS.zbh NS.zbt := ⟨sfB_ok (by kernel_rfl), sfB_ok (by kernel_rfl), zvm (by kernel_rfl), zvm (by kernel_rfl), zvm (by kernel_rfl), zvm (by kernel_rfl), zvm (by kernel_rfl), zvm (by kernel_rfl), zvm (by kernel_rfl), zin (by kernel_rfl), zin (by kernel_rfl)⟩
theorem specT : zct Go.Proofs.Try.prog NS NS.zb NS.zy NS.zj NS.zi := ⟨sfB_ok (by kernel_rfl), sfB_ok (by kernel_rfl), zvm (by kernel_rfl), zvm (by kernel_rfl), zvm (by kernel_rfl), zvm (by kernel_rfl), zvm (by kernel_rfl), zvm (by kernel_rfl), zvm (by kernel_rfl), zin (by kernel_rfl), zin (by kernel_rfl)⟩
theorem spT : SpT Go.Proofs.Try.prog NS MS := ⟨sfB_ok (by kernel_rfl), zvm (by kernel_rfl), zvm (by kernel_rfl), zvm (by kernel_rfl), zvm (by kernel_rfl), zvm (by kernel_rfl), zvm (by kernel_rfl), zvm (by kernel_rfl), zvm (by kernel_rfl), zin (by kernel_rfl), sfB_ok (by kernel_rfl), zvm (by kernel_rfl), zvm (by kernel_rfl), specT⟩
theorem treeO : TreeO Go.Proofs.Try.prog NS where
  tree := ⟨_, Go.Proofs.Try.underlying26, by kernel_rfl⟩
  tag := ⟨_, Go.Proofs.Try.underlying61, by kernel_rfl⟩
  cTree := by kernel_rfl
  cTag := by kernel_rfl
  c1 := ⟨by kernel_rfl, by kernel_rfl, by kernel_rfl, by kernel_rfl, by kernel_rfl, by kernel_rfl, by kernel_rfl⟩
theorem sp_zzFits3 : FOk Go.Proofs.Try.prog 81 1 (zqw NS MS) [.var 2] := ⟨Go.Proofs.Try.f81, _, [0, 1, 2, 6], Go.Proofs.Try.func81, rfl, by kernel_rfl, by kernel_rfl, by decide, by kernel_rfl, by kernel_rfl⟩
theorem sp_zzFits2 : FOk Go.Proofs.Try.prog 37 1 (zvz NS MS) [.var 1] := ⟨Go.Proofs.Try.f37, _, [0, 2, 7, 8, 9, 10, 11, 4, 16], Go.Proofs.Try.func37, rfl, by kernel_rfl, by kernel_rfl, by decide, by kernel_rfl, by kernel_rfl⟩
theorem sp_zzFits1 : FOk Go.Proofs.Try.prog 10 1 (zwa NS MS) [.var 2] := ⟨Go.Proofs.Try.f10, _, [0, 1, 2, 6, 10, 14], Go.Proofs.Try.func10, rfl, by kernel_rfl, by kernel_rfl, by decide, by kernel_rfl, by kernel_rfl⟩
theorem sp_spec_Field_has : FOk Go.Proofs.Try.prog 92 2 (zib NS MS) [.var 3] := ⟨Go.Proofs.Try.f92, _, [0, 1, 2, 4], Go.Proofs.Try.func92, rfl, by kernel_rfl, by kernel_rfl, by decide, by kernel_rfl, by kernel_rfl⟩
theorem sp_spec_Field_null : FOk Go.Proofs.Try.prog 89 3 (zhd NS MS) [.var 5] := ⟨Go.Proofs.Try.f89, _, [0, 1, 2, 3, 5, 6], Go.Proofs.Try.func89, rfl, by kernel_rfl, by kernel_rfl, by decide, by kernel_rfl, by kernel_rfl⟩
theorem sp_spec_whole : FOk Go.Proofs.Try.prog 46 1 (zlo NS MS) [.var 1] := ⟨Go.Proofs.Try.f46, _, [0, 2], Go.Proofs.Try.func46, rfl, by kernel_rfl, by kernel_rfl, by decide, by kernel_rfl, by kernel_rfl⟩
theorem sp_spec_things : FOk Go.Proofs.Try.prog 90 1 (zks NS MS) [.var 1] := ⟨Go.Proofs.Try.f90, _, [0, 2], Go.Proofs.Try.func90, rfl, by kernel_rfl, by kernel_rfl, by decide, by kernel_rfl, by kernel_rfl⟩
theorem sp_spec_at : FOk Go.Proofs.Try.prog 44 2 (zlq NS MS) [.cell 3 NS.zb] := ⟨Go.Proofs.Try.f44, _, [0, 1, 2, 4, 9], Go.Proofs.Try.func44, rfl, by kernel_rfl, by kernel_rfl, by decide, by kernel_rfl, by kernel_rfl⟩
theorem sp_spec_Uvarint : FOk Go.Proofs.Try.prog 95 1 (zhi NS MS) [.var 1] := ⟨Go.Proofs.Try.f95, _, [0, 2, 3, 5], Go.Proofs.Try.func95, rfl, by kernel_rfl, by kernel_rfl, by decide, by kernel_rfl, by kernel_rfl⟩
theorem sp_spec_Fixed : FOk Go.Proofs.Try.prog 50 2 (zjo NS MS) [.var 2] := ⟨Go.Proofs.Try.f50, _, [0, 1, 4, 5, 6, 10], Go.Proofs.Try.func50, rfl, by kernel_rfl, by kernel_rfl, by decide, by kernel_rfl, by kernel_rfl⟩
theorem sp_spec_width : FOk Go.Proofs.Try.prog 130 1 (zln NS MS) [.var 1] := ⟨Go.Proofs.Try.f130, _, [0, 2, 3, 4, 6, 9], Go.Proofs.Try.func130, rfl, by kernel_rfl, by kernel_rfl, by decide, by kernel_rfl, by kernel_rfl⟩
theorem sp_spec_counted : FOk Go.Proofs.Try.prog 128 4 (zjt NS MS) [.var 4] := ⟨Go.Proofs.Try.f128, _, [0, 1, 2, 3, 8, 9, 15, 21], Go.Proofs.Try.func128, rfl, by kernel_rfl, by kernel_rfl, by decide, by kernel_rfl, by kernel_rfl⟩
theorem sp_spec_value : FOk Go.Proofs.Try.prog 129 6 (zpf NS MS) [.var 7] := ⟨Go.Proofs.Try.f129, _, [0, 1, 2, 3, 4, 5, 11, 12, 16, 17, 24, 13, 32, 14, 37, 45, 15, 50, 58], Go.Proofs.Try.func129, rfl, by kernel_rfl, by kernel_rfl, by decide, by kernel_rfl, by kernel_rfl⟩
theorem sp_spec_field : FOk Go.Proofs.Try.prog 93 4 (zpg NS MS) [.var 6] := ⟨Go.Proofs.Try.f93, _, [0, 1, 2, 3, 4, 7, 8, 9, 19, 10, 23, 11, 30, 31, 32, 12, 56, 57], Go.Proofs.Try.func93, rfl, by kernel_rfl, by kernel_rfl, by decide, by kernel_rfl, by kernel_rfl⟩
theorem sp_spec_known : FOk Go.Proofs.Try.prog 91 1 (zlp NS MS) [.var 1] := ⟨Go.Proofs.Try.f91, _, [0, 2, 3, 6, 7, 8, 9, 5, 14], Go.Proofs.Try.func91, rfl, by kernel_rfl, by kernel_rfl, by decide, by kernel_rfl, by kernel_rfl⟩
theorem sp_spec_unknown : FOk Go.Proofs.Try.prog 45 2 (zmm NS MS) [.var 2] := ⟨Go.Proofs.Try.f45, _, [0, 1, 4, 5, 6, 17, 18, 19, 20, 8, 9, 36, 58, 10, 68], Go.Proofs.Try.func45, rfl, by kernel_rfl, by kernel_rfl, by decide, by kernel_rfl, by kernel_rfl⟩
theorem sp_spec_part : FOk Go.Proofs.Try.prog 47 4 (zqx NS MS) [.var 5] := ⟨Go.Proofs.Try.f47, _, [0, 1, 2, 3, 7, 8, 9, 10, 11, 21, 22, 23, 24, 13, 12, 35, 47, 51, 52, 53, 14, 55, 56, 57, 58, 16, 15, 73, 17, 100, 101, 102, 103, 19, 20], Go.Proofs.Try.func47, rfl, by kernel_rfl, by kernel_rfl, by decide, by kernel_rfl, by kernel_rfl⟩
theorem sp_spec_Write : FOk Go.Proofs.Try.prog 18 3 (zph NS MS) [.var 5] := ⟨Go.Proofs.Try.f18, _, [0, 1, 2, 3, 5, 6], Go.Proofs.Try.func18, rfl, by kernel_rfl, by kernel_rfl, by decide, by kernel_rfl, by kernel_rfl⟩
theorem thSZ : SZ Go.Proofs.Try.prog NS MS := ⟨sp_zzFits3, sp_zzFits2, sp_zzFits1⟩
theorem thSW : SW Go.Proofs.Try.prog NS MS := ⟨sp_spec_Field_has, sp_spec_Field_null, sp_spec_whole, sp_spec_things, sp_spec_at, sp_spec_Uvarint, sp_spec_Fixed, sp_spec_width, sp_spec_counted, sp_spec_value, sp_spec_field, sp_spec_known, sp_spec_unknown, sp_spec_part, sp_spec_Write⟩
theorem ap_AppendBool : FOk Go.Proofs.Try.prog 98 2 (zlv NS AN) [.var 2] := ⟨Go.Proofs.Try.f98, _, [0, 1, 4, 5], Go.Proofs.Try.func98, rfl, by kernel_rfl, by kernel_rfl, by decide, by kernel_rfl, by kernel_rfl⟩
theorem ap_AppendInt8 : FOk Go.Proofs.Try.prog 114 2 (zlu NS AN) [.var 2] := ⟨Go.Proofs.Try.f114, _, [0, 1, 4], Go.Proofs.Try.func114, rfl, by kernel_rfl, by kernel_rfl, by decide, by kernel_rfl, by kernel_rfl⟩
theorem ap_AppendInt16 : FOk Go.Proofs.Try.prog 85 2 (zfr NS AN) [.var 2] := ⟨Go.Proofs.Try.f85, _, [0, 1, 4], Go.Proofs.Try.func85, rfl, by kernel_rfl, by kernel_rfl, by decide, by kernel_rfl, by kernel_rfl⟩
theorem ap_AppendUint16 : FOk Go.Proofs.Try.prog 124 2 (zep NS AN) [.var 2] := ⟨Go.Proofs.Try.f124, _, [0, 1, 4], Go.Proofs.Try.func124, rfl, by kernel_rfl, by kernel_rfl, by decide, by kernel_rfl, by kernel_rfl⟩
theorem ap_AppendInt32 : FOk Go.Proofs.Try.prog 104 2 (zew NS AN) [.var 2] := ⟨Go.Proofs.Try.f104, _, [0, 1, 4], Go.Proofs.Try.func104, rfl, by kernel_rfl, by kernel_rfl, by decide, by kernel_rfl, by kernel_rfl⟩
theorem ap_AppendUint32 : FOk Go.Proofs.Try.prog 132 2 (zdx NS AN) [.var 2] := ⟨Go.Proofs.Try.f132, _, [0, 1, 4], Go.Proofs.Try.func132, rfl, by kernel_rfl, by kernel_rfl, by decide, by kernel_rfl, by kernel_rfl⟩
theorem ap_AppendInt64 : FOk Go.Proofs.Try.prog 115 2 (zkw NS AN) [.var 2] := ⟨Go.Proofs.Try.f115, _, [0, 1, 4], Go.Proofs.Try.func115, rfl, by kernel_rfl, by kernel_rfl, by decide, by kernel_rfl, by kernel_rfl⟩
theorem ap_AppendUuid : FOk Go.Proofs.Try.prog 108 2 (zlt NS AN) [.var 3] := ⟨Go.Proofs.Try.f108, _, [0, 1, 3, 4], Go.Proofs.Try.func108, rfl, by kernel_rfl, by kernel_rfl, by decide, by kernel_rfl, by kernel_rfl⟩
theorem ap_AppendUvarint : FOk Go.Proofs.Try.prog 86 2 (zls NS AN) [.var 2] := ⟨Go.Proofs.Try.f86, _, [0, 1, 4, 6, 7, 34, 56, 73, 85], Go.Proofs.Try.func86, rfl, by kernel_rfl, by kernel_rfl, by decide, by kernel_rfl, by kernel_rfl⟩
theorem ap_AppendString : FOk Go.Proofs.Try.prog 97 2 (zhk NS AN) [.var 2] := ⟨Go.Proofs.Try.f97, _, [0, 1, 4], Go.Proofs.Try.func97, rfl, by kernel_rfl, by kernel_rfl, by decide, by kernel_rfl, by kernel_rfl⟩
theorem ap_AppendCompactString : FOk Go.Proofs.Try.prog 96 2 (zem NS AN) [.var 2] := ⟨Go.Proofs.Try.f96, _, [0, 1, 4], Go.Proofs.Try.func96, rfl, by kernel_rfl, by kernel_rfl, by decide, by kernel_rfl, by kernel_rfl⟩
theorem ap_AppendNullableString : FOk Go.Proofs.Try.prog 110 2 (zfd NS AN) [.var 2] := ⟨Go.Proofs.Try.f110, _, [0, 1, 4, 6], Go.Proofs.Try.func110, rfl, by kernel_rfl, by kernel_rfl, by decide, by kernel_rfl, by kernel_rfl⟩
theorem ap_AppendCompactNullableString : FOk Go.Proofs.Try.prog 109 2 (zdo NS AN) [.var 2] := ⟨Go.Proofs.Try.f109, _, [0, 1, 4, 6], Go.Proofs.Try.func109, rfl, by kernel_rfl, by kernel_rfl, by decide, by kernel_rfl, by kernel_rfl⟩
theorem ap_AppendArrayLen : FOk Go.Proofs.Try.prog 103 2 (zid NS AN) [.var 2] := ⟨Go.Proofs.Try.f103, _, [0, 1, 4], Go.Proofs.Try.func103, rfl, by kernel_rfl, by kernel_rfl, by decide, by kernel_rfl, by kernel_rfl⟩
theorem ap_AppendCompactArrayLen : FOk Go.Proofs.Try.prog 102 2 (zex NS AN) [.var 2] := ⟨Go.Proofs.Try.f102, _, [0, 1, 4], Go.Proofs.Try.func102, rfl, by kernel_rfl, by kernel_rfl, by decide, by kernel_rfl, by kernel_rfl⟩
theorem ap_appendUint64 : FOk Go.Proofs.Try.prog 136 2 (zhj NS AN) [.var 2] := ⟨Go.Proofs.Try.f136, _, [0, 1, 4], Go.Proofs.Try.func136, rfl, by kernel_rfl, by kernel_rfl, by decide, by kernel_rfl, by kernel_rfl⟩
theorem ap_UvarintLen : FOk Go.Proofs.Try.prog 125 1 (zlr NS AN) [.var 1] := ⟨Go.Proofs.Try.f125, _, [0, 2], Go.Proofs.Try.func125, rfl, by kernel_rfl, by kernel_rfl, by decide, by kernel_rfl, by kernel_rfl⟩
theorem ap_math_bits_Len32 : FOk Go.Proofs.Try.prog 139 1 (zfq NS AN) [.var 1] := ⟨Go.Proofs.Try.f139, _, [0, 2, 4, 8], Go.Proofs.Try.func139, rfl, by kernel_rfl, by kernel_rfl, by decide, by kernel_rfl, by kernel_rfl⟩
theorem ap_PTags_Len : FOk Go.Proofs.Try.prog 87 1 (zkt NS AN) [.var 1] := ⟨Go.Proofs.Try.f87, _, [0, 2], Go.Proofs.Try.func87, rfl, by kernel_rfl, by kernel_rfl, by decide, by kernel_rfl, by kernel_rfl⟩
theorem ap_PTags_AppendEach : FOk Go.Proofs.Try.prog 88 2 (zfj NS AN) [.var 3] := ⟨Go.Proofs.Try.f88, _, [0, 1, 3, 4], Go.Proofs.Try.func88, rfl, by kernel_rfl, by kernel_rfl, by decide, by kernel_rfl, by kernel_rfl⟩
theorem ap_PTags_AppendEach_1 : FOk Go.Proofs.Try.prog 127 3 (zdq NS AN) [] := ⟨Go.Proofs.Try.f127, _, [0, 1, 2], Go.Proofs.Try.func127, rfl, by kernel_rfl, by kernel_rfl, by decide, by kernel_rfl, by kernel_rfl⟩
theorem ap_AppendBytes : FOk Go.Proofs.Try.prog 123 2 (zkx NS AN) [.var 2] := ⟨Go.Proofs.Try.f123, _, [0, 1, 4], Go.Proofs.Try.func123, rfl, by kernel_rfl, by kernel_rfl, by decide, by kernel_rfl, by kernel_rfl⟩
theorem ap_AppendCompactBytes : FOk Go.Proofs.Try.prog 122 2 (zfw NS AN) [.var 2] := ⟨Go.Proofs.Try.f122, _, [0, 1, 4], Go.Proofs.Try.func122, rfl, by kernel_rfl, by kernel_rfl, by decide, by kernel_rfl, by kernel_rfl⟩
theorem lk_spec_Fit : FOk Go.Proofs.Try.prog 17 3 (zsv NS MS LN) [.cell 4 NS.zb] := ⟨Go.Proofs.Try.f17, _, [0, 1, 2, 5, 6, 7, 13, 14, 15, 16, 9, 8, 35, 36, 37, 38, 11], Go.Proofs.Try.func17, rfl, by kernel_rfl, by kernel_rfl, by decide, by kernel_rfl, by kernel_rfl⟩
theorem lk_spec_fitted : FOk Go.Proofs.Try.prog 43 3 (znr NS MS LN) [.cell 5 NS.zb] := ⟨Go.Proofs.Try.f43, _, [0, 1, 2, 3, 5, 6, 7, 18, 19, 27, 8, 37, 9, 10, 60, 61, 62, 63, 12], Go.Proofs.Try.func43, rfl, by kernel_rfl, by kernel_rfl, by decide, by kernel_rfl, by kernel_rfl⟩
theorem lk_given : FOk Go.Proofs.Try.prog 16 1 (c_got (zws NS LN)) [.cell 2 NS.zaa] := ⟨Go.Proofs.Try.f16, _, [0, 1, 2, 3, 16, 17, 18, 19, 5, 31, 32, 33, 34, 7], Go.Proofs.Try.func16, rfl, by kernel_rfl, by kernel_rfl, by decide, by kernel_rfl, by kernel_rfl⟩
theorem lk_at : FOk Go.Proofs.Try.prog 83 2 (zlq (zws NS LN) MS) [.cell 3 NS.zaa] := ⟨Go.Proofs.Try.f83, _, [0, 1, 2, 4, 9], Go.Proofs.Try.func83, rfl, by kernel_rfl, by kernel_rfl, by decide, by kernel_rfl, by kernel_rfl⟩
theorem lk_textOf : FOk Go.Proofs.Try.prog 118 1 (c_textOf NS MS LN) [.var 2] := ⟨Go.Proofs.Try.f118, _, [0, 1, 2, 5, 3], Go.Proofs.Try.func118, rfl, by kernel_rfl, by kernel_rfl, by decide, by kernel_rfl, by kernel_rfl⟩
theorem lk_octetsOf : FOk Go.Proofs.Try.prog 138 1 (zsw NS MS LN) [.var 2] := ⟨Go.Proofs.Try.f138, _, [0, 1, 2, 4], Go.Proofs.Try.func138, rfl, by kernel_rfl, by kernel_rfl, by decide, by kernel_rfl, by kernel_rfl⟩
theorem lk_sixteen : FOk Go.Proofs.Try.prog 133 1 (zwc NS MS LN) [.cell 1 NS.zag] := ⟨Go.Proofs.Try.f133, _, [0, 2], Go.Proofs.Try.func133, rfl, by kernel_rfl, by kernel_rfl, by decide, by kernel_rfl, by kernel_rfl⟩
theorem smk : SMk Go.Proofs.Try.prog NS MS LN := ⟨lk_spec_Fit, lk_spec_fitted⟩
theorem smg : SMg Go.Proofs.Try.prog NS MS LN := ⟨lk_given, lk_at, fun _ => ⟨by decide, lk_textOf⟩, fun _ => lk_octetsOf, fun _ => ⟨by decide, lk_sixteen⟩, by decide, by decide⟩
theorem trF : TrF Go.Proofs.Try.prog NS := ⟨fpB_ok (by kernel_rfl), fpB_ok (by kernel_rfl), fpB_ok (by kernel_rfl), fpB_ok (by kernel_rfl)⟩
theorem apFns : ApFns Go.Proofs.Try.prog NS AN where
  b := fun _ => ap_AppendBool
  i8 := fun _ => ⟨by decide, ap_AppendInt8⟩
  u16 := ap_AppendUint16
  i16 := fun _ => ap_AppendInt16
  u32 := fun _ => ap_AppendUint32
  i32 := fun _ => ap_AppendInt32
  u64 := fun _ => ap_appendUint64
  i64 := fun _ => ap_AppendInt64
  uu := fun _ => ⟨by decide, ap_AppendUuid⟩
  str := fun _ => ⟨by decide, ap_AppendString⟩
  cstr := fun _ => ap_AppendCompactString
  nstr := fun _ => ⟨by decide, by decide, ap_AppendNullableString⟩
  cnstr := fun _ => ⟨by decide, by decide, ap_AppendCompactNullableString⟩
  byt := fun _ => ⟨by decide, ap_AppendBytes⟩
  cbyt := fun _ => ap_AppendCompactBytes
  nob := ⟨rfl, rfl⟩
  al := fun _ => ⟨by decide, ap_AppendArrayLen⟩
  cal := fun _ => ap_AppendCompactArrayLen
  nal := fun h => absurd rfl h
  cnal := fun h => absurd rfl h
  uv := ⟨ap_math_bits_Len32, ap_UvarintLen, ap_AppendUvarint⟩
  tl := ap_PTags_Len
  ea := ap_PTags_AppendEach
  e1 := ap_PTags_AppendEach_1
theorem bulkF (H : Type) : BulkF (Proofs.Ytlildailoffclaa.Rows.uptoBulk (H := H)) Proofs.Ytlildailoffclaa.Rows.uptoBulkAll := ⟨fun l => by cases l <;> simp [Proofs.Ytlildailoffclaa.Rows.uptoBulk], fun _ _ => rfl, fun _ => rfl, rfl, rfl, fun _ _ => rfl⟩

def slRen : Go.Shelf.Ren := ⟨fun | 6 => 140 | 10 => 142 | 11 => 143 | 12 => 144 | 13 => 145 | 14 => 146 | 24 => 139 | 25 => 156 | 26 => 157 | 27 => 158 | 28 => 159 | 29 => 160 | 30 => 161 | 31 => 162 | 32 => 163 | 33 => 164 | 34 => 165 | 35 => 166 | 36 => 167 | 37 => 168 | 38 => 169 | 39 => 170 | n => n, fun | 20 => 20 | 26 => 183 | 35 => 187 | 0 => 0 | 37 => 189 | 3 => 3 | 41 => 169 | 44 => 194 | 49 => 59 | 51 => 117 | 4 => 4 | 54 => 201 | 53 => 200 | 58 => 205 | 5 => 5 | 9 => 9 | 60 => 207 | 64 => 211 | 66 => 213 | 67 => 214 | 17 => 17 | 32 => 184 | 33 => 185 | 82 => 229 | 12 => 12 | 75 => 222 | 76 => 223 | 77 => 224 | 78 => 225 | 79 => 226 | 80 => 227 | n => n, fun | n => n⟩
theorem sl6 : Go.Proofs.LaysGg.n6 Go.Proofs.Try.prog slRen where
  mixed := by kernel_rfl
  f6 := Go.Proofs.Try.func140.trans (congrArg some (by kernel_rfl))
  f10 := Go.Proofs.Try.func142.trans (congrArg some (by kernel_rfl))
  f11 := Go.Proofs.Try.func143.trans (congrArg some (by kernel_rfl))
  f12 := Go.Proofs.Try.func144.trans (congrArg some (by kernel_rfl))
  f13 := Go.Proofs.Try.func145.trans (congrArg some (by kernel_rfl))
  f14 := Go.Proofs.Try.func146.trans (congrArg some (by kernel_rfl))
  f24 := Go.Proofs.Try.func139.trans (congrArg some (by kernel_rfl))
  f25 := Go.Proofs.Try.func156.trans (congrArg some (by kernel_rfl))
  f26 := Go.Proofs.Try.func157.trans (congrArg some (by kernel_rfl))
  f27 := Go.Proofs.Try.func158.trans (congrArg some (by kernel_rfl))
  f28 := Go.Proofs.Try.func159.trans (congrArg some (by kernel_rfl))
  f29 := Go.Proofs.Try.func160.trans (congrArg some (by kernel_rfl))
  f30 := Go.Proofs.Try.func161.trans (congrArg some (by kernel_rfl))
  f31 := Go.Proofs.Try.func162.trans (congrArg some (by kernel_rfl))
  f32 := Go.Proofs.Try.func163.trans (congrArg some (by kernel_rfl))
  f33 := Go.Proofs.Try.func164.trans (congrArg some (by kernel_rfl))
  f34 := Go.Proofs.Try.func165.trans (congrArg some (by kernel_rfl))
  f35 := Go.Proofs.Try.func166.trans (congrArg some (by kernel_rfl))
  f36 := Go.Proofs.Try.func167.trans (congrArg some (by kernel_rfl))
  f37 := Go.Proofs.Try.func168.trans (congrArg some (by kernel_rfl))
  f38 := Go.Proofs.Try.func169.trans (congrArg some (by kernel_rfl))
  f39 := Go.Proofs.Try.func170.trans (congrArg some (by kernel_rfl))
  t0 := Go.Proofs.Try.underlying0
  a0 := Go.Proofs.Try.isAgg0
  z0 := Go.Proofs.Try.sizeOf0
  v0 := Go.Proofs.Try.zeroValue0
  i0 := by kernel_rfl
  t3 := Go.Proofs.Try.underlying3
  a3 := Go.Proofs.Try.isAgg3
  z3 := Go.Proofs.Try.sizeOf3
  v3 := Go.Proofs.Try.zeroValue3
  i3 := by kernel_rfl
  t4 := Go.Proofs.Try.underlying4
  a4 := Go.Proofs.Try.isAgg4
  z4 := Go.Proofs.Try.sizeOf4
  v4 := Go.Proofs.Try.zeroValue4
  i4 := by kernel_rfl
  t5 := Go.Proofs.Try.underlying5
  a5 := Go.Proofs.Try.isAgg5
  z5 := Go.Proofs.Try.sizeOf5
  v5 := Go.Proofs.Try.zeroValue5
  i5 := by kernel_rfl
  t9 := Go.Proofs.Try.underlying9
  a9 := Go.Proofs.Try.isAgg9
  z9 := Go.Proofs.Try.sizeOf9
  v9 := Go.Proofs.Try.zeroValue9
  i9 := by kernel_rfl
  t12 := Go.Proofs.Try.underlying12
  a12 := Go.Proofs.Try.isAgg12
  z12 := Go.Proofs.Try.sizeOf12
  v12 := Go.Proofs.Try.zeroValue12
  i12 := by kernel_rfl
  t17 := Go.Proofs.Try.underlying17
  a17 := Go.Proofs.Try.isAgg17
  z17 := Go.Proofs.Try.sizeOf17
  v17 := Go.Proofs.Try.zeroValue17
  i17 := by kernel_rfl
  t20 := Go.Proofs.Try.underlying20
  a20 := Go.Proofs.Try.isAgg20
  z20 := Go.Proofs.Try.sizeOf20
  v20 := Go.Proofs.Try.zeroValue20
  i20 := by kernel_rfl
  t26 := Go.Proofs.Try.underlying183
  a26 := Go.Proofs.Try.isAgg183
  z26 := Go.Proofs.Try.sizeOf183
  v26 := Go.Proofs.Try.zeroValue183
  i26 := by kernel_rfl
  t32 := Go.Proofs.Try.underlying184
  a32 := Go.Proofs.Try.isAgg184
  z32 := Go.Proofs.Try.sizeOf184
  v32 := Go.Proofs.Try.zeroValue184
  i32 := by kernel_rfl
  t33 := Go.Proofs.Try.underlying185
  a33 := Go.Proofs.Try.isAgg185
  z33 := Go.Proofs.Try.sizeOf185
  v33 := Go.Proofs.Try.zeroValue185
  i33 := by kernel_rfl
  t35 := Go.Proofs.Try.underlying187
  a35 := Go.Proofs.Try.isAgg187
  z35 := Go.Proofs.Try.sizeOf187
  v35 := Go.Proofs.Try.zeroValue187
  i35 := by kernel_rfl
  t37 := Go.Proofs.Try.underlying189
  a37 := Go.Proofs.Try.isAgg189
  z37 := Go.Proofs.Try.sizeOf189
  v37 := Go.Proofs.Try.zeroValue189
  i37 := by kernel_rfl
  t41 := Go.Proofs.Try.underlying169
  a41 := Go.Proofs.Try.isAgg169
  z41 := Go.Proofs.Try.sizeOf169
  v41 := Go.Proofs.Try.zeroValue169
  i41 := by kernel_rfl
  t44 := Go.Proofs.Try.underlying194
  a44 := Go.Proofs.Try.isAgg194
  z44 := Go.Proofs.Try.sizeOf194
  v44 := Go.Proofs.Try.zeroValue194
  i44 := by kernel_rfl
  t49 := Go.Proofs.Try.underlying59
  a49 := Go.Proofs.Try.isAgg59
  z49 := Go.Proofs.Try.sizeOf59
  v49 := Go.Proofs.Try.zeroValue59
  i49 := by kernel_rfl
  t51 := Go.Proofs.Try.underlying117
  a51 := Go.Proofs.Try.isAgg117
  z51 := Go.Proofs.Try.sizeOf117
  v51 := Go.Proofs.Try.zeroValue117
  i51 := by kernel_rfl
  t53 := Go.Proofs.Try.underlying200
  a53 := Go.Proofs.Try.isAgg200
  z53 := Go.Proofs.Try.sizeOf200
  v53 := Go.Proofs.Try.zeroValue200
  i53 := by kernel_rfl
  t54 := Go.Proofs.Try.underlying201
  a54 := Go.Proofs.Try.isAgg201
  z54 := Go.Proofs.Try.sizeOf201
  v54 := Go.Proofs.Try.zeroValue201
  i54 := by kernel_rfl
  t58 := Go.Proofs.Try.underlying205
  a58 := Go.Proofs.Try.isAgg205
  z58 := Go.Proofs.Try.sizeOf205
  v58 := Go.Proofs.Try.zeroValue205
  i58 := by kernel_rfl
  t60 := Go.Proofs.Try.underlying207
  a60 := Go.Proofs.Try.isAgg207
  z60 := Go.Proofs.Try.sizeOf207
  v60 := Go.Proofs.Try.zeroValue207
  i60 := by kernel_rfl
  t64 := Go.Proofs.Try.underlying211
  a64 := Go.Proofs.Try.isAgg211
  z64 := Go.Proofs.Try.sizeOf211
  v64 := Go.Proofs.Try.zeroValue211
  i64 := by kernel_rfl
  t66 := Go.Proofs.Try.underlying213
  a66 := Go.Proofs.Try.isAgg213
  z66 := Go.Proofs.Try.sizeOf213
  v66 := Go.Proofs.Try.zeroValue213
  i66 := by kernel_rfl
  t67 := Go.Proofs.Try.underlying214
  a67 := Go.Proofs.Try.isAgg214
  z67 := Go.Proofs.Try.sizeOf214
  v67 := Go.Proofs.Try.zeroValue214
  i67 := by kernel_rfl
  t75 := Go.Proofs.Try.underlying222
  a75 := Go.Proofs.Try.isAgg222
  z75 := Go.Proofs.Try.sizeOf222
  v75 := Go.Proofs.Try.zeroValue222
  i75 := by kernel_rfl
  t76 := Go.Proofs.Try.underlying223
  a76 := Go.Proofs.Try.isAgg223
  z76 := Go.Proofs.Try.sizeOf223
  v76 := Go.Proofs.Try.zeroValue223
  i76 := by kernel_rfl
  t77 := Go.Proofs.Try.underlying224
  a77 := Go.Proofs.Try.isAgg224
  z77 := Go.Proofs.Try.sizeOf224
  v77 := Go.Proofs.Try.zeroValue224
  i77 := by kernel_rfl
  t78 := Go.Proofs.Try.underlying225
  a78 := Go.Proofs.Try.isAgg225
  z78 := Go.Proofs.Try.sizeOf225
  v78 := Go.Proofs.Try.zeroValue225
  i78 := by kernel_rfl
  t79 := Go.Proofs.Try.underlying226
  a79 := Go.Proofs.Try.isAgg226
  z79 := Go.Proofs.Try.sizeOf226
  v79 := Go.Proofs.Try.zeroValue226
  i79 := by kernel_rfl
  t80 := Go.Proofs.Try.underlying227
  a80 := Go.Proofs.Try.isAgg227
  z80 := Go.Proofs.Try.sizeOf227
  v80 := Go.Proofs.Try.zeroValue227
  i80 := by kernel_rfl
  t82 := Go.Proofs.Try.underlying229
  a82 := Go.Proofs.Try.isAgg229
  z82 := Go.Proofs.Try.sizeOf229
  v82 := Go.Proofs.Try.zeroValue229
  i82 := by kernel_rfl

noncomputable def sI : TypeInfo := (Go.Proofs.Try.prog.info? NS.zav).get (by kernel_rfl)
noncomputable def sE : TypeInfo := (Go.Proofs.Try.prog.info? NS.zc).get (by kernel_rfl)
theorem sortT : SortT Go.Proofs.Try.prog NS where
  has := ⟨_, Go.Proofs.Try.func140, by kernel_rfl, by kernel_rfl⟩
  out := ⟨slRen, sI, sE, 152, 148, sl6, by kernel_rfl, by kernel_rfl, by kernel_rfl, by kernel_rfl, by kernel_rfl, fun _ => by kernel_rfl, by kernel_rfl, by kernel_rfl, by kernel_rfl, by kernel_rfl, by kernel_rfl,
    fun args W => run_callFunc_extern Go.Proofs.Try.func152 (by kernel_rfl) (by kernel_rfl) (by kernel_rfl) (e := Extern.ReflectliteSwapper.swap true) (by kernel_rfl) args W⟩
theorem lu : LU Go.Proofs.Try.prog NS := ⟨zin (by kernel_rfl)⟩
theorem eachN : EachN Go.Proofs.Try.prog NS := ⟨by decide, by decide, lu, sortOk baseS fnsS (by decide) lu sortT⟩
theorem apC : ApC Go.Proofs.Try.prog NS AN := apC_of baseS apFns eachN

theorem own : ownKnob Go.Proofs.Try.prog.godebug = none := by kernel_rfl
theorem laidOut : laidOutB Go.Proofs.Try.prog = true := by kernel_rfl
theorem bandT {a b : Bool} (h : a = true) (h' : b = true) : (a && b) = true := by rw [h, h']; rfl
theorem bigEnter : Go.Proofs.Try.prog.mayEnter = true := by kernel_rfl
theorem bigLifts : (Proofs.Ytlildailoffclaa.Rows.fnMakeUpdateMetadataResponseRow.lifted == Go.Proofs.Try.prog.liftsFinal) = true := by kernel_rfl
theorem bigMake : (Go.Proofs.Try.prog.make == some Proofs.Ytlildailoffclaa.Rows.fnMakeUpdateMetadataResponseRow.make) = true := by kernel_rfl
theorem stopsHeardS : Go.Proofs.Try.prog.stopsHeard = true := by kernel_rfl
theorem mapsRowedS : mapsRowed Go.Proofs.Try.prog = true := by kernel_rfl
theorem plainKeysS : (Proofs.Ytlildailoffclaa.Rows.fnMakeUpdateMetadataResponseRow.plainKeys == Go.Proofs.Try.prog.plainKeys) = true := by kernel_rfl
theorem shaped (os : Os) (args : Array Value) : ((World.doorLaid Go.Proofs.Try.prog 400 os).forCall (fun _ _ => 0) ⟨#[], args, []⟩).Shaped Go.Proofs.Try.prog := World.shaped_of_RefB (by kernel_rfl) (by kernel_rfl)
theorem one_of {l : List Value} (h : l.all Value.oneCell' = true) : ∀ c ∈ l, c.oneCell' = true := List.all_eq_true.1 h
end Go.Kf
