/- Closed facts of this translation: its numbers, its shared functions' codes, its types; no condition. -/
import Derived.Test.YtdlfgheckhmgiaaDoorKe
import Derived.Shelf.GgSortFunc.Whole
import Derived.Test.YtdlfgheckhmgiaaDoorRows
import Derived.Test.YtdlfgheckhmgiaaDoorTie
import Derived.Test.YtdlfgheckhmgiaaDoorCards
import Derived.LaidMore
import Derived.Stop.Joined
import Derived.Stop.LaidErr
import Derived.SevenTiedAt
set_option linter.unusedSimpArgs false
set_option linter.unusedVariables false
set_option maxRecDepth 100000
namespace Go.Kf
open Go

def NS : Nums where
  zbv := 175
  zem := 202
  zba := 183
  zbb := 192
  zbr := 197
  zat := 177
  zar := 171
  zdw := 210
  zbd := 180
  zef := 174
  zdb := 195
  zbp := 194
  zdp := 176
  zu := 208
  zch := 173
  zaj := 191
  zay := 196
  zaw := 193
  zbf := 172
  zdj := 185
  zz := 206
  zcm := 235
  zew := 132
  zcf := 189
  zfs := 207
  zby := 234
  zhm := 244
  zcb := 233
  zcw := 236
  zcv := 251
  zfr := 146
  zle := 19
  zcl := 186
  zev := 188
  zjc := 134
  zdd := 63
  zce := 23
  zeu := 164
  zgn := 26
  zds := 0
  zaa := 1
  t_ := 0
  zai := 129
  zdk := 33
  zg := 32
  zr := 24
  zy := 23
  zav := 226
  zb := 22
  zao := 224
  zbo := 140
  zp := 213
  zfz := 75
  zco := 79
  zj := 35
  zax := 257
  zbg := 4
  zfn := 60
  zjo := 228
  zje := 133
  zo := 3
  zbu := 53
  zcd := 21
  zdz := 2
  zpj := 141
  zrc := 20
  zv := 77
  zbk := 72
  zh := 26
  zaf := 9
  zfy := 264
  zez := 172
  zm := 70
  zpi := 276
  zbl := 221
  zk := 5

theorem baseS : Base Go.Proofs.Tryd.prog NS := base_ok (by kernel_rfl) (by kernel_rfl) (by kernel_rfl)

theorem fok_bigEndian_Uint16 : FOk Go.Proofs.Tryd.prog 233 2 (zha NS) [.var 2] := ⟨Go.Proofs.Tryd.f233, _, [0, 1, 4], Go.Proofs.Tryd.func233, rfl, by kernel_rfl, by kernel_rfl, by decide, by kernel_rfl, by kernel_rfl⟩
theorem fok_bigEndian_Uint32 : FOk Go.Proofs.Tryd.prog 236 2 (zgz NS) [.var 2] := ⟨Go.Proofs.Tryd.f236, _, [0, 1, 4], Go.Proofs.Tryd.func236, rfl, by kernel_rfl, by kernel_rfl, by decide, by kernel_rfl, by kernel_rfl⟩
theorem fok_bigEndian_Uint64 : FOk Go.Proofs.Tryd.prog 251 2 (zgy NS) [.var 2] := ⟨Go.Proofs.Tryd.f251, _, [0, 1, 4], Go.Proofs.Tryd.func251, rfl, by kernel_rfl, by kernel_rfl, by decide, by kernel_rfl, by kernel_rfl⟩
theorem fok_UnsafeString : FOk Go.Proofs.Tryd.prog 234 1 (zjk NS) [.var 1] := ⟨Go.Proofs.Tryd.f234, _, [0, 2], Go.Proofs.Tryd.func234, rfl, by kernel_rfl, by kernel_rfl, by decide, by kernel_rfl, by kernel_rfl⟩
theorem fok_Uvarint : FOk Go.Proofs.Tryd.prog 244 1 (zql NS) [.var 1, .var 2] := ⟨Go.Proofs.Tryd.f244, _, [0, 2, 3, 4, 5, 8, 18, 22, 35, 39, 52, 56, 69, 73, 84], Go.Proofs.Tryd.func244, rfl, by kernel_rfl, by kernel_rfl, by decide, by kernel_rfl, by kernel_rfl⟩
theorem fok_PReader_Bool : FOk Go.Proofs.Tryd.prog 202 1 (znk NS) [.var 1] := ⟨Go.Proofs.Tryd.f202, _, [0, 2, 9, 3], Go.Proofs.Tryd.func202, rfl, by kernel_rfl, by kernel_rfl, by decide, by kernel_rfl, by kernel_rfl⟩
theorem fok_PReader_Int8 : FOk Go.Proofs.Tryd.prog 195 1 (znj NS) [.var 1] := ⟨Go.Proofs.Tryd.f195, _, [0, 2, 9, 3], Go.Proofs.Tryd.func195, rfl, by kernel_rfl, by kernel_rfl, by decide, by kernel_rfl, by kernel_rfl⟩
theorem fok_PReader_Uint16 : FOk Go.Proofs.Tryd.prog 210 1 (zlx NS) [.var 1] := ⟨Go.Proofs.Tryd.f210, _, [0, 2, 9, 3], Go.Proofs.Tryd.func210, rfl, by kernel_rfl, by kernel_rfl, by decide, by kernel_rfl, by kernel_rfl⟩
theorem fok_PReader_Int16 : FOk Go.Proofs.Tryd.prog 171 1 (zmx NS) [.var 1] := ⟨Go.Proofs.Tryd.f171, _, [0, 2, 9, 3], Go.Proofs.Tryd.func171, rfl, by kernel_rfl, by kernel_rfl, by decide, by kernel_rfl, by kernel_rfl⟩
theorem fok_PReader_Int32 : FOk Go.Proofs.Tryd.prog 180 1 (zmw NS) [.var 1] := ⟨Go.Proofs.Tryd.f180, _, [0, 2, 9, 3], Go.Proofs.Tryd.func180, rfl, by kernel_rfl, by kernel_rfl, by decide, by kernel_rfl, by kernel_rfl⟩
theorem fok_PReader_readUint64 : FOk Go.Proofs.Tryd.prog 235 1 (zjg NS) [.var 1] := ⟨Go.Proofs.Tryd.f235, _, [0, 2, 9, 3], Go.Proofs.Tryd.func235, rfl, by kernel_rfl, by kernel_rfl, by decide, by kernel_rfl, by kernel_rfl⟩
theorem fok_PReader_Int64 : FOk Go.Proofs.Tryd.prog 174 1 (zio NS) [.var 1] := ⟨Go.Proofs.Tryd.f174, _, [0, 2], Go.Proofs.Tryd.func174, rfl, by kernel_rfl, by kernel_rfl, by decide, by kernel_rfl, by kernel_rfl⟩
theorem fok_PReader_Uuid : FOk Go.Proofs.Tryd.prog 185 1 (zjm NS) [.cell 1 NS.zai] := ⟨Go.Proofs.Tryd.f185, _, [0, 2, 3], Go.Proofs.Tryd.func185, rfl, by kernel_rfl, by kernel_rfl, by decide, by kernel_rfl, by kernel_rfl⟩
theorem fok_PReader_Uvarint : FOk Go.Proofs.Tryd.prog 206 1 (zho NS) [.var 1] := ⟨Go.Proofs.Tryd.f206, _, [0, 2, 3, 4, 14], Go.Proofs.Tryd.func206, rfl, by kernel_rfl, by kernel_rfl, by decide, by kernel_rfl, by kernel_rfl⟩
theorem fok_PReader_Span : FOk Go.Proofs.Tryd.prog 208 2 (zjn NS) [.var 2] := ⟨Go.Proofs.Tryd.f208, _, [0, 1, 4, 16, 5], Go.Proofs.Tryd.func208, rfl, by kernel_rfl, by kernel_rfl, by decide, by kernel_rfl, by kernel_rfl⟩
theorem fok_PReader_String : FOk Go.Proofs.Tryd.prog 173 1 (zif NS) [.var 1] := ⟨Go.Proofs.Tryd.f173, _, [0, 2, 3], Go.Proofs.Tryd.func173, rfl, by kernel_rfl, by kernel_rfl, by decide, by kernel_rfl, by kernel_rfl⟩
theorem fok_PReader_UnsafeString : FOk Go.Proofs.Tryd.prog 172 1 (zfk NS) [.var 1] := ⟨Go.Proofs.Tryd.f172, _, [0, 2, 3], Go.Proofs.Tryd.func172, rfl, by kernel_rfl, by kernel_rfl, by decide, by kernel_rfl, by kernel_rfl⟩
theorem fok_PReader_CompactString : FOk Go.Proofs.Tryd.prog 197 1 (zfi NS) [.var 1] := ⟨Go.Proofs.Tryd.f197, _, [0, 2, 3], Go.Proofs.Tryd.func197, rfl, by kernel_rfl, by kernel_rfl, by decide, by kernel_rfl, by kernel_rfl⟩
theorem fok_PReader_UnsafeCompactString : FOk Go.Proofs.Tryd.prog 196 1 (zdx NS) [.var 1] := ⟨Go.Proofs.Tryd.f196, _, [0, 2, 3], Go.Proofs.Tryd.func196, rfl, by kernel_rfl, by kernel_rfl, by decide, by kernel_rfl, by kernel_rfl⟩
theorem fok_PReader_NullableString : FOk Go.Proofs.Tryd.prog 194 1 (zex NS) [.var 1] := ⟨Go.Proofs.Tryd.f194, _, [0, 2, 3, 8, 4], Go.Proofs.Tryd.func194, rfl, by kernel_rfl, by kernel_rfl, by decide, by kernel_rfl, by kernel_rfl⟩
theorem fok_PReader_UnsafeNullableString : FOk Go.Proofs.Tryd.prog 193 1 (zdq NS) [.var 1] := ⟨Go.Proofs.Tryd.f193, _, [0, 2, 3, 8, 4], Go.Proofs.Tryd.func193, rfl, by kernel_rfl, by kernel_rfl, by decide, by kernel_rfl, by kernel_rfl⟩
theorem fok_PReader_CompactNullableString : FOk Go.Proofs.Tryd.prog 192 1 (zdn NS) [.var 1] := ⟨Go.Proofs.Tryd.f192, _, [0, 2, 3, 10, 4], Go.Proofs.Tryd.func192, rfl, by kernel_rfl, by kernel_rfl, by decide, by kernel_rfl, by kernel_rfl⟩
theorem fok_PReader_UnsafeCompactNullableString : FOk Go.Proofs.Tryd.prog 191 1 (zcz NS) [.var 1] := ⟨Go.Proofs.Tryd.f191, _, [0, 2, 3, 10, 4], Go.Proofs.Tryd.func191, rfl, by kernel_rfl, by kernel_rfl, by decide, by kernel_rfl, by kernel_rfl⟩
theorem fok_PReader_ArrayLen : FOk Go.Proofs.Tryd.prog 175 1 (zhc NS) [.var 1] := ⟨Go.Proofs.Tryd.f175, _, [0, 2, 3, 13], Go.Proofs.Tryd.func175, rfl, by kernel_rfl, by kernel_rfl, by decide, by kernel_rfl, by kernel_rfl⟩
theorem fok_PReader_CompactArrayLen : FOk Go.Proofs.Tryd.prog 183 1 (zen NS) [.var 1] := ⟨Go.Proofs.Tryd.f183, _, [0, 2, 3, 15], Go.Proofs.Tryd.func183, rfl, by kernel_rfl, by kernel_rfl, by decide, by kernel_rfl, by kernel_rfl⟩
theorem fok_PReader_Complete : FOk Go.Proofs.Tryd.prog 177 1 (zhb NS) [.var 1] := ⟨Go.Proofs.Tryd.f177, _, [0, 2, 6], Go.Proofs.Tryd.func177, rfl, by kernel_rfl, by kernel_rfl, by decide, by kernel_rfl, by kernel_rfl⟩
theorem fok_PReader_Ok : FOk Go.Proofs.Tryd.prog 176 1 (zlt NS) [.var 1] := ⟨Go.Proofs.Tryd.f176, _, [0, 2], Go.Proofs.Tryd.func176, rfl, by kernel_rfl, by kernel_rfl, by decide, by kernel_rfl, by kernel_rfl⟩
theorem fok_PTags_Set : FOk Go.Proofs.Tryd.prog 207 3 (zmv NS) [] := ⟨Go.Proofs.Tryd.f207, _, [0, 1, 2, 10], Go.Proofs.Tryd.func207, rfl, by kernel_rfl, by kernel_rfl, by decide, by kernel_rfl, by kernel_rfl⟩
theorem fok_internalReadTags : FOk Go.Proofs.Tryd.prog 186 1 (zgx NS) [.cell 1 NS.zco] := ⟨Go.Proofs.Tryd.f186, _, [0, 2, 3, 4, 10, 5, 6], Go.Proofs.Tryd.func186, rfl, by kernel_rfl, by kernel_rfl, by decide, by kernel_rfl, by kernel_rfl⟩
theorem fok_PTags_Each : FOk Go.Proofs.Tryd.prog 132 2 (zls NS) [] := ⟨Go.Proofs.Tryd.f132, _, [0, 1, 13, 4, 24, 26, 5, 37, 38, 39, 40, 7], Go.Proofs.Tryd.func132, rfl, by kernel_rfl, by kernel_rfl, by decide, by kernel_rfl, by kernel_rfl⟩
theorem fok_PTags_Each_1 : FOk Go.Proofs.Tryd.prog 189 3 (zjl NS) [.var 3] := ⟨Go.Proofs.Tryd.f189, _, [0, 1, 2, 5], Go.Proofs.Tryd.func189, rfl, by kernel_rfl, by kernel_rfl, by decide, by kernel_rfl, by kernel_rfl⟩
theorem fok_sorted : FOk Go.Proofs.Tryd.prog 134 1 (c_sorted NS) [] := ⟨Go.Proofs.Tryd.f134, _, [0, 5, 6, 7, 2, 3, 25], Go.Proofs.Tryd.func134, rfl, by kernel_rfl, by kernel_rfl, by decide, by kernel_rfl, by kernel_rfl⟩
theorem fok_boolTree : FOk Go.Proofs.Tryd.prog 146 1 (zob NS) [.cell 1 NS.zj] := ⟨Go.Proofs.Tryd.f146, _, [0, 2, 3], Go.Proofs.Tryd.func146, rfl, by kernel_rfl, by kernel_rfl, by decide, by kernel_rfl, by kernel_rfl⟩
theorem fok_textTree : FOk Go.Proofs.Tryd.prog 164 1 (zoa NS) [.cell 1 NS.zj] := ⟨Go.Proofs.Tryd.f164, _, [0, 2, 4], Go.Proofs.Tryd.func164, rfl, by kernel_rfl, by kernel_rfl, by decide, by kernel_rfl, by kernel_rfl⟩
theorem fok_spec_Same : FOk Go.Proofs.Tryd.prog 63 2 (zmu NS) [.var 2] := ⟨Go.Proofs.Tryd.f63, _, [0, 1, 4, 10, 12, 13, 14, 5, 24], Go.Proofs.Tryd.func63, rfl, by kernel_rfl, by kernel_rfl, by decide, by kernel_rfl, by kernel_rfl⟩
theorem fok_spec_SameTree : FOk Go.Proofs.Tryd.prog 23 2 (zin NS) [.var 4] := ⟨Go.Proofs.Tryd.f23, _, [0, 1, 2, 3, 4, 44, 47, 48, 49, 5, 62, 66, 67, 68, 6, 98], Go.Proofs.Tryd.func23, rfl, by kernel_rfl, by kernel_rfl, by decide, by kernel_rfl, by kernel_rfl⟩
theorem fok_version : FOk Go.Proofs.Tryd.prog 26 2 (zqk NS) [.var 2] := ⟨Go.Proofs.Tryd.f26, _, [0, 1, 4], Go.Proofs.Tryd.func26, rfl, by kernel_rfl, by kernel_rfl, by decide, by kernel_rfl, by kernel_rfl⟩
theorem fok_got : FOk Go.Proofs.Tryd.prog 19 1 (c_got NS) [.cell 2 NS.zh] := ⟨Go.Proofs.Tryd.f19, _, [0, 1, 2, 3, 16, 17, 18, 19, 5, 31, 32, 33, 34, 7], Go.Proofs.Tryd.func19, rfl, by kernel_rfl, by kernel_rfl, by decide, by kernel_rfl, by kernel_rfl⟩

theorem fnsS : Fns Go.Proofs.Tryd.prog NS where
  bigEndian_Uint16 := fun _ => fok_bigEndian_Uint16
  bigEndian_Uint32 := fun _ => fok_bigEndian_Uint32
  bigEndian_Uint64 := fun _ => fok_bigEndian_Uint64
  UnsafeString := fun _ => fok_UnsafeString
  Uvarint := fun _ => fok_Uvarint
  PReader_Bool := fun _ => fok_PReader_Bool
  PReader_Int8 := fun _ => fok_PReader_Int8
  PReader_Uint16 := fun _ => ⟨fok_PReader_Uint16, by decide⟩
  PReader_Int16 := fun _ => ⟨fok_PReader_Int16, by decide⟩
  PReader_Int32 := fun _ => ⟨fok_PReader_Int32, by decide⟩
  PReader_readUint64 := fun _ => ⟨fok_PReader_readUint64, by decide⟩
  PReader_Int64 := fun _ => ⟨fok_PReader_Int64, by decide⟩
  PReader_Uuid := fun _ => ⟨fok_PReader_Uuid, by decide⟩
  PReader_Uvarint := fun _ => ⟨fok_PReader_Uvarint, by decide⟩
  PReader_Span := fun _ => fok_PReader_Span
  PReader_String := fun _ => ⟨fok_PReader_String, by decide, by decide⟩
  PReader_UnsafeString := fun _ => ⟨fok_PReader_UnsafeString, by decide, by decide, by decide⟩
  PReader_CompactString := fun _ => ⟨fok_PReader_CompactString, by decide, by decide⟩
  PReader_UnsafeCompactString := fun _ => ⟨fok_PReader_UnsafeCompactString, by decide, by decide, by decide⟩
  PReader_NullableString := fun _ => ⟨fok_PReader_NullableString, by decide, by decide⟩
  PReader_UnsafeNullableString := fun _ => ⟨fok_PReader_UnsafeNullableString, by decide, by decide, by decide⟩
  PReader_CompactNullableString := fun _ => ⟨fok_PReader_CompactNullableString, by decide, by decide⟩
  PReader_UnsafeCompactNullableString := fun _ => ⟨fok_PReader_UnsafeCompactNullableString, by decide, by decide, by decide⟩
  PReader_Bytes := fun h => absurd rfl h
  PReader_CompactBytes := fun h => absurd rfl h
  PReader_NullableBytes := fun h => absurd rfl h
  PReader_CompactNullableBytes := fun h => absurd rfl h
  PReader_ArrayLen := fun _ => ⟨fok_PReader_ArrayLen, by decide⟩
  PReader_CompactArrayLen := fun _ => ⟨fok_PReader_CompactArrayLen, by decide⟩
  PReader_Complete := fun _ => fok_PReader_Complete
  PReader_Ok := fun _ => fok_PReader_Ok
  PTags_Set := fun _ => fok_PTags_Set
  internalReadTags := fun _ => ⟨fok_internalReadTags, by decide, by decide, by decide⟩
  PTags_Each := fun _ => ⟨fok_PTags_Each, by decide, by decide⟩
  PTags_Each_1 := fun _ => fok_PTags_Each_1
  sorted := fun _ => fok_sorted
  boolTree := fun _ => fok_boolTree
  textTree := fun _ => fok_textTree
  octetsTree := fun h => absurd rfl h
  spec_Same := fun _ => fok_spec_Same
  spec_SameTree := fun _ => ⟨fok_spec_SameTree, by decide⟩
  version := fun _ => fok_version
  got := fun _ => fok_got

theorem implT : zdt Go.Proofs.Tryd.prog NS := ⟨sfB_ok (by kernel_rfl), sfB_ok (by kernel_rfl), znx (by kernel_rfl), znx (by kernel_rfl), znx (by kernel_rfl), znx (by kernel_rfl), znx (by kernel_rfl), znx (by kernel_rfl), znx (by kernel_rfl), zfx (by kernel_rfl), zfx (by kernel_rfl)⟩
theorem specT : zei Go.Proofs.Tryd.prog NS NS.zh NS.zbk NS.zy NS.zr := ⟨sfB_ok (by kernel_rfl), sfB_ok (by kernel_rfl), znx (by kernel_rfl), znx (by kernel_rfl), znx (by kernel_rfl), znx (by kernel_rfl), znx (by kernel_rfl), znx (by kernel_rfl), znx (by kernel_rfl), zfx (by kernel_rfl), zfx (by kernel_rfl)⟩

def slRen : Go.Shelf.Ren := ⟨fun | 6 => 188 | 10 => 239 | 11 => 240 | 12 => 241 | 13 => 242 | 14 => 243 | 24 => 261 | 25 => 262 | 26 => 263 | 27 => 264 | 28 => 265 | 29 => 266 | 30 => 267 | 31 => 268 | 32 => 269 | 33 => 270 | 34 => 272 | 35 => 273 | 36 => 274 | 37 => 275 | 38 => 276 | 39 => 277 | n => n, fun | 20 => 20 | 26 => 228 | 35 => 268 | 0 => 0 | 37 => 270 | 3 => 3 | 41 => 264 | 44 => 275 | 49 => 70 | 51 => 221 | 4 => 4 | 54 => 287 | 53 => 286 | 58 => 291 | 5 => 5 | 9 => 9 | 60 => 293 | 64 => 296 | 66 => 298 | 67 => 299 | 17 => 17 | 32 => 265 | 33 => 266 | 82 => 314 | 12 => 12 | 75 => 307 | 76 => 308 | 77 => 309 | 78 => 310 | 79 => 311 | 80 => 312 | n => n, fun | n => n⟩
theorem sl6 : Go.Proofs.LaysGg.n6 Go.Proofs.Tryd.prog slRen where
  mixed := by kernel_rfl
  f6 := Go.Proofs.Tryd.func188.trans (congrArg some (by kernel_rfl))
  f10 := Go.Proofs.Tryd.func239.trans (congrArg some (by kernel_rfl))
  f11 := Go.Proofs.Tryd.func240.trans (congrArg some (by kernel_rfl))
  f12 := Go.Proofs.Tryd.func241.trans (congrArg some (by kernel_rfl))
  f13 := Go.Proofs.Tryd.func242.trans (congrArg some (by kernel_rfl))
  f14 := Go.Proofs.Tryd.func243.trans (congrArg some (by kernel_rfl))
  f24 := Go.Proofs.Tryd.func261.trans (congrArg some (by kernel_rfl))
  f25 := Go.Proofs.Tryd.func262.trans (congrArg some (by kernel_rfl))
  f26 := Go.Proofs.Tryd.func263.trans (congrArg some (by kernel_rfl))
  f27 := Go.Proofs.Tryd.func264.trans (congrArg some (by kernel_rfl))
  f28 := Go.Proofs.Tryd.func265.trans (congrArg some (by kernel_rfl))
  f29 := Go.Proofs.Tryd.func266.trans (congrArg some (by kernel_rfl))
  f30 := Go.Proofs.Tryd.func267.trans (congrArg some (by kernel_rfl))
  f31 := Go.Proofs.Tryd.func268.trans (congrArg some (by kernel_rfl))
  f32 := Go.Proofs.Tryd.func269.trans (congrArg some (by kernel_rfl))
  f33 := Go.Proofs.Tryd.func270.trans (congrArg some (by kernel_rfl))
  f34 := Go.Proofs.Tryd.func272.trans (congrArg some (by kernel_rfl))
  f35 := Go.Proofs.Tryd.func273.trans (congrArg some (by kernel_rfl))
  f36 := Go.Proofs.Tryd.func274.trans (congrArg some (by kernel_rfl))
  f37 := Go.Proofs.Tryd.func275.trans (congrArg some (by kernel_rfl))
  f38 := Go.Proofs.Tryd.func276.trans (congrArg some (by kernel_rfl))
  f39 := Go.Proofs.Tryd.func277.trans (congrArg some (by kernel_rfl))
  t0 := Go.Proofs.Tryd.underlying0
  a0 := Go.Proofs.Tryd.isAgg0
  z0 := Go.Proofs.Tryd.sizeOf0
  v0 := Go.Proofs.Tryd.zeroValue0
  i0 := by kernel_rfl
  t3 := Go.Proofs.Tryd.underlying3
  a3 := Go.Proofs.Tryd.isAgg3
  z3 := Go.Proofs.Tryd.sizeOf3
  v3 := Go.Proofs.Tryd.zeroValue3
  i3 := by kernel_rfl
  t4 := Go.Proofs.Tryd.underlying4
  a4 := Go.Proofs.Tryd.isAgg4
  z4 := Go.Proofs.Tryd.sizeOf4
  v4 := Go.Proofs.Tryd.zeroValue4
  i4 := by kernel_rfl
  t5 := Go.Proofs.Tryd.underlying5
  a5 := Go.Proofs.Tryd.isAgg5
  z5 := Go.Proofs.Tryd.sizeOf5
  v5 := Go.Proofs.Tryd.zeroValue5
  i5 := by kernel_rfl
  t9 := Go.Proofs.Tryd.underlying9
  a9 := Go.Proofs.Tryd.isAgg9
  z9 := Go.Proofs.Tryd.sizeOf9
  v9 := Go.Proofs.Tryd.zeroValue9
  i9 := by kernel_rfl
  t12 := Go.Proofs.Tryd.underlying12
  a12 := Go.Proofs.Tryd.isAgg12
  z12 := Go.Proofs.Tryd.sizeOf12
  v12 := Go.Proofs.Tryd.zeroValue12
  i12 := by kernel_rfl
  t17 := Go.Proofs.Tryd.underlying17
  a17 := Go.Proofs.Tryd.isAgg17
  z17 := Go.Proofs.Tryd.sizeOf17
  v17 := Go.Proofs.Tryd.zeroValue17
  i17 := by kernel_rfl
  t20 := Go.Proofs.Tryd.underlying20
  a20 := Go.Proofs.Tryd.isAgg20
  z20 := Go.Proofs.Tryd.sizeOf20
  v20 := Go.Proofs.Tryd.zeroValue20
  i20 := by kernel_rfl
  t26 := Go.Proofs.Tryd.underlying228
  a26 := Go.Proofs.Tryd.isAgg228
  z26 := Go.Proofs.Tryd.sizeOf228
  v26 := Go.Proofs.Tryd.zeroValue228
  i26 := by kernel_rfl
  t32 := Go.Proofs.Tryd.underlying265
  a32 := Go.Proofs.Tryd.isAgg265
  z32 := Go.Proofs.Tryd.sizeOf265
  v32 := Go.Proofs.Tryd.zeroValue265
  i32 := by kernel_rfl
  t33 := Go.Proofs.Tryd.underlying266
  a33 := Go.Proofs.Tryd.isAgg266
  z33 := Go.Proofs.Tryd.sizeOf266
  v33 := Go.Proofs.Tryd.zeroValue266
  i33 := by kernel_rfl
  t35 := Go.Proofs.Tryd.underlying268
  a35 := Go.Proofs.Tryd.isAgg268
  z35 := Go.Proofs.Tryd.sizeOf268
  v35 := Go.Proofs.Tryd.zeroValue268
  i35 := by kernel_rfl
  t37 := Go.Proofs.Tryd.underlying270
  a37 := Go.Proofs.Tryd.isAgg270
  z37 := Go.Proofs.Tryd.sizeOf270
  v37 := Go.Proofs.Tryd.zeroValue270
  i37 := by kernel_rfl
  t41 := Go.Proofs.Tryd.underlying264
  a41 := Go.Proofs.Tryd.isAgg264
  z41 := Go.Proofs.Tryd.sizeOf264
  v41 := Go.Proofs.Tryd.zeroValue264
  i41 := by kernel_rfl
  t44 := Go.Proofs.Tryd.underlying275
  a44 := Go.Proofs.Tryd.isAgg275
  z44 := Go.Proofs.Tryd.sizeOf275
  v44 := Go.Proofs.Tryd.zeroValue275
  i44 := by kernel_rfl
  t49 := Go.Proofs.Tryd.underlying70
  a49 := Go.Proofs.Tryd.isAgg70
  z49 := Go.Proofs.Tryd.sizeOf70
  v49 := Go.Proofs.Tryd.zeroValue70
  i49 := by kernel_rfl
  t51 := Go.Proofs.Tryd.underlying221
  a51 := Go.Proofs.Tryd.isAgg221
  z51 := Go.Proofs.Tryd.sizeOf221
  v51 := Go.Proofs.Tryd.zeroValue221
  i51 := by kernel_rfl
  t53 := Go.Proofs.Tryd.underlying286
  a53 := Go.Proofs.Tryd.isAgg286
  z53 := Go.Proofs.Tryd.sizeOf286
  v53 := Go.Proofs.Tryd.zeroValue286
  i53 := by kernel_rfl
  t54 := Go.Proofs.Tryd.underlying287
  a54 := Go.Proofs.Tryd.isAgg287
  z54 := Go.Proofs.Tryd.sizeOf287
  v54 := Go.Proofs.Tryd.zeroValue287
  i54 := by kernel_rfl
  t58 := Go.Proofs.Tryd.underlying291
  a58 := Go.Proofs.Tryd.isAgg291
  z58 := Go.Proofs.Tryd.sizeOf291
  v58 := Go.Proofs.Tryd.zeroValue291
  i58 := by kernel_rfl
  t60 := Go.Proofs.Tryd.underlying293
  a60 := Go.Proofs.Tryd.isAgg293
  z60 := Go.Proofs.Tryd.sizeOf293
  v60 := Go.Proofs.Tryd.zeroValue293
  i60 := by kernel_rfl
  t64 := Go.Proofs.Tryd.underlying296
  a64 := Go.Proofs.Tryd.isAgg296
  z64 := Go.Proofs.Tryd.sizeOf296
  v64 := Go.Proofs.Tryd.zeroValue296
  i64 := by kernel_rfl
  t66 := Go.Proofs.Tryd.underlying298
  a66 := Go.Proofs.Tryd.isAgg298
  z66 := Go.Proofs.Tryd.sizeOf298
  v66 := Go.Proofs.Tryd.zeroValue298
  i66 := by kernel_rfl
  t67 := Go.Proofs.Tryd.underlying299
  a67 := Go.Proofs.Tryd.isAgg299
  z67 := Go.Proofs.Tryd.sizeOf299
  v67 := Go.Proofs.Tryd.zeroValue299
  i67 := by kernel_rfl
  t75 := Go.Proofs.Tryd.underlying307
  a75 := Go.Proofs.Tryd.isAgg307
  z75 := Go.Proofs.Tryd.sizeOf307
  v75 := Go.Proofs.Tryd.zeroValue307
  i75 := by kernel_rfl
  t76 := Go.Proofs.Tryd.underlying308
  a76 := Go.Proofs.Tryd.isAgg308
  z76 := Go.Proofs.Tryd.sizeOf308
  v76 := Go.Proofs.Tryd.zeroValue308
  i76 := by kernel_rfl
  t77 := Go.Proofs.Tryd.underlying309
  a77 := Go.Proofs.Tryd.isAgg309
  z77 := Go.Proofs.Tryd.sizeOf309
  v77 := Go.Proofs.Tryd.zeroValue309
  i77 := by kernel_rfl
  t78 := Go.Proofs.Tryd.underlying310
  a78 := Go.Proofs.Tryd.isAgg310
  z78 := Go.Proofs.Tryd.sizeOf310
  v78 := Go.Proofs.Tryd.zeroValue310
  i78 := by kernel_rfl
  t79 := Go.Proofs.Tryd.underlying311
  a79 := Go.Proofs.Tryd.isAgg311
  z79 := Go.Proofs.Tryd.sizeOf311
  v79 := Go.Proofs.Tryd.zeroValue311
  i79 := by kernel_rfl
  t80 := Go.Proofs.Tryd.underlying312
  a80 := Go.Proofs.Tryd.isAgg312
  z80 := Go.Proofs.Tryd.sizeOf312
  v80 := Go.Proofs.Tryd.zeroValue312
  i80 := by kernel_rfl
  t82 := Go.Proofs.Tryd.underlying314
  a82 := Go.Proofs.Tryd.isAgg314
  z82 := Go.Proofs.Tryd.sizeOf314
  v82 := Go.Proofs.Tryd.zeroValue314
  i82 := by kernel_rfl

noncomputable def sI : TypeInfo := (Go.Proofs.Tryd.prog.info? NS.zav).get (by kernel_rfl)
noncomputable def sE : TypeInfo := (Go.Proofs.Tryd.prog.info? NS.zm).get (by kernel_rfl)
theorem sortT : SortT Go.Proofs.Tryd.prog NS where
  has := ⟨_, Go.Proofs.Tryd.func188, by kernel_rfl, by kernel_rfl⟩
  out := ⟨slRen, sI, sE, 257, 253, sl6, by kernel_rfl, by kernel_rfl, by kernel_rfl, by kernel_rfl, by kernel_rfl, fun _ => by kernel_rfl, by kernel_rfl, by kernel_rfl, by kernel_rfl, by kernel_rfl, by kernel_rfl,
    fun args W => run_callFunc_extern Go.Proofs.Tryd.func257 (by kernel_rfl) (by kernel_rfl) (by kernel_rfl) (e := Extern.ReflectliteSwapper.swap true) (by kernel_rfl) args W⟩
theorem lu : LU Go.Proofs.Tryd.prog NS := ⟨zfx (by kernel_rfl)⟩
theorem tellN : TellN Go.Proofs.Tryd.prog NS := ⟨by decide, by decide, by decide, lu, sortOk baseS fnsS (by decide) lu sortT⟩

theorem own : ownKnob Go.Proofs.Tryd.prog.godebug = none := by kernel_rfl
theorem laidOut : laidOutB Go.Proofs.Tryd.prog = true := by kernel_rfl
theorem gO : Go.Proofs.Tryd.prog.globalNamed "pub-mailsack/pub/kmsg/inner/kbin.ErrNotEnoughData" = some 1 := by kernel_rfl
theorem gT : (Go.Proofs.Tryd.prog.globals[1]?).map (·.type) = some 60 := by kernel_rfl
theorem cS : Go.Proofs.Tryd.prog.cellsOf 319 = 1 := by kernel_rfl
theorem cStr : Go.Proofs.Tryd.prog.cellsOf 9 = 1 := by kernel_rfl
theorem star : "*" ++ "errors.errorString" = "*errors.errorString" := by decide
theorem rowP (u : TypeId) (h : Go.Proofs.Tryd.prog.typeName? 3 u = some "*errors.errorString") : u = 301 :=
  typeName_ptr_named (nm := "errors.errorString") (by rw [star]; kernel_rfl) (by kernel_rfl) (by decide) u (by rw [star]; exact h)
theorem bandT {a b : Bool} (h : a = true) (h' : b = true) : (a && b) = true := by rw [h, h']; rfl
theorem bigEnter : Go.Proofs.Tryd.prog.mayEnter = true := by kernel_rfl
theorem bigLifts : (Proofs.YtdlfgheckhmgiaaDoor.Rows.fnTellConnectMemberAssignmentRow.lifted == Go.Proofs.Tryd.prog.liftsFinal) = true := by kernel_rfl
theorem bigMake : (Go.Proofs.Tryd.prog.make == some Proofs.YtdlfgheckhmgiaaDoor.Rows.fnTellConnectMemberAssignmentRow.make) = true := by kernel_rfl
theorem stopsHeardS : Go.Proofs.Tryd.prog.stopsHeard = true := by kernel_rfl
theorem mapsRowedS : mapsRowed Go.Proofs.Tryd.prog = true := by kernel_rfl
theorem plainKeysS : (Proofs.YtdlfgheckhmgiaaDoor.Rows.fnTellConnectMemberAssignmentRow.plainKeys == Go.Proofs.Tryd.prog.plainKeys) = true := by kernel_rfl
theorem mainS : Go.Proofs.Tryd.prog.mainIs = some (Proofs.YtdlfgheckhmgiaaDoor.Rows.fnTellConnectMemberAssignmentCard.stood.harness.1, Proofs.YtdlfgheckhmgiaaDoor.Rows.fnTellConnectMemberAssignmentCard.stood.harness.2.toList) := by kernel_rfl
theorem looksS : false = Go.Proofs.Tryd.prog.looks [] := by kernel_rfl
theorem shaped (os : Os) (args : Array Value) : ((World.doorLaid Go.Proofs.Tryd.prog 400 os).forCall (fun _ _ => 0) ⟨#[], args, []⟩).Shaped Go.Proofs.Tryd.prog := World.shaped_of_RefB (by kernel_rfl) (by kernel_rfl)
theorem door_met (os : Os) (args : Array Value) : laidMetH Go.Proofs.Tryd.prog Proofs.YtdlfgheckhmgiaaDoor.Rows.fnTellConnectMemberAssignmentRow.laid ((World.doorLaid Go.Proofs.Tryd.prog 400 os).forCall (fun _ _ => 0) ⟨#[], args, []⟩).memory :=
  laidMetH_of_parts3 (fuel := 8) (laidMet_of_run' 8 (by kernel_rfl) (by kernel_rfl)) (by kernel_rfl) (by kernel_rfl)
end Go.Kf
