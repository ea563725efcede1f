/- Closed facts of this translation: its numbers, its shared functions' codes, its types; no condition. -/
import Derived.Test.YtfgfenphgeffgaaDoorKe
import Derived.Shelf.GgSortFunc.Whole
import Derived.Test.YtfgfenphgeffgaaDoorRows
import Derived.Test.YtfgfenphgeffgaaDoorTie
import Derived.Test.YtfgfenphgeffgaaDoorCards
import Derived.LaidMore
import Derived.Stop.Joined
import Derived.Stop.LaidErr
import Derived.SevenTiedAt
set_option linter.unusedSimpArgs false
set_option linter.unusedVariables false
set_option maxRecDepth 100000
namespace Go.Kf
open Go

/-- The numbers of this translation. -/
def NS : Nums where
  f_PReader_ArrayLen := 183
  f_PReader_Bool := 208
  f_PReader_CompactArrayLen := 182
  f_PReader_CompactNullableString := 189
  f_PReader_CompactString := 195
  f_PReader_Complete := 185
  f_PReader_Int16 := 187
  f_PReader_Int32 := 181
  f_PReader_Int64 := 202
  f_PReader_Int8 := 192
  f_PReader_NullableString := 191
  f_PReader_Ok := 184
  f_PReader_Span := 218
  f_PReader_String := 196
  f_PReader_UnsafeCompactNullableString := 188
  f_PReader_UnsafeCompactString := 193
  f_PReader_UnsafeNullableString := 190
  f_PReader_UnsafeString := 194
  f_PReader_Uuid := 205
  f_PReader_Uvarint := 216
  f_PReader_readUint64 := 259
  f_PTags_Each := 130
  f_PTags_Each_1 := 200
  f_PTags_Set := 217
  f_UnsafeString := 253
  f_Uvarint := 261
  f_bigEndian_Uint16 := 252
  f_bigEndian_Uint32 := 251
  f_bigEndian_Uint64 := 289
  f_boolTree := 144
  f_got := 20
  f_internalReadTags := 197
  f_sort_Slice := 199
  f_sorted := 132
  f_spec_Same := 60
  f_spec_SameTree := 19
  f_textTree := 166
  f_version := 17
  g_BigEndian := 0
  g_ErrNotEnoughData := 1
  t_ := 0
  t_16_uint8 := 115
  t_LTag := 25
  t_LTree := 24
  t_Lspec_Tag := 33
  t_Lspec_Tree := 32
  t_Luint32 := 213
  t_Luint8 := 22
  t_PReader := 211
  t_Pstring := 94
  t_Reader := 203
  t_Tag := 51
  t_Tags := 88
  t_Tree := 27
  t_bigEndian := 257
  t_bool := 4
  t_error := 44
  t_func_int_int_bool := 215
  t_func_uint32_Luint8 := 100
  t_int := 3
  t_int16 := 38
  t_int32 := 21
  t_int64 := 2
  t_int8 := 95
  t_interface := 20
  t_map_uint32_Luint8 := 86
  t_spec_Tag := 50
  t_spec_Tree := 35
  t_string := 9
  t_uint := 269
  t_uint16 := 146
  t_uint32 := 48
  t_uint32_int := 275
  t_uint64 := 273
  t_uint8 := 5

theorem baseS : Base Go.Proofs.Tryd.prog NS := base_ok (by kernel_rfl) (by kernel_rfl) (by kernel_rfl)

theorem fok_bigEndian_Uint16 : FOk Go.Proofs.Tryd.prog 252 2 (c_bigEndian_Uint16 NS) [.var 2] := ⟨Go.Proofs.Tryd.f252, _, [0, 1, 4], Go.Proofs.Tryd.func252, rfl, by kernel_rfl, by kernel_rfl, by decide, by kernel_rfl, by kernel_rfl⟩
theorem fok_bigEndian_Uint32 : FOk Go.Proofs.Tryd.prog 251 2 (c_bigEndian_Uint32 NS) [.var 2] := ⟨Go.Proofs.Tryd.f251, _, [0, 1, 4], Go.Proofs.Tryd.func251, rfl, by kernel_rfl, by kernel_rfl, by decide, by kernel_rfl, by kernel_rfl⟩
theorem fok_bigEndian_Uint64 : FOk Go.Proofs.Tryd.prog 289 2 (c_bigEndian_Uint64 NS) [.var 2] := ⟨Go.Proofs.Tryd.f289, _, [0, 1, 4], Go.Proofs.Tryd.func289, rfl, by kernel_rfl, by kernel_rfl, by decide, by kernel_rfl, by kernel_rfl⟩
theorem fok_UnsafeString : FOk Go.Proofs.Tryd.prog 253 1 (c_UnsafeString NS) [.var 1] := ⟨Go.Proofs.Tryd.f253, _, [0, 2], Go.Proofs.Tryd.func253, rfl, by kernel_rfl, by kernel_rfl, by decide, by kernel_rfl, by kernel_rfl⟩
theorem fok_Uvarint : FOk Go.Proofs.Tryd.prog 261 1 (c_Uvarint NS) [.var 1, .var 2] := ⟨Go.Proofs.Tryd.f261, _, [0, 2, 3, 4, 5, 8, 18, 22, 35, 39, 52, 56, 69, 73, 84], Go.Proofs.Tryd.func261, rfl, by kernel_rfl, by kernel_rfl, by decide, by kernel_rfl, by kernel_rfl⟩
theorem fok_PReader_Bool : FOk Go.Proofs.Tryd.prog 208 1 (c_PReader_Bool NS) [.var 1] := ⟨Go.Proofs.Tryd.f208, _, [0, 2, 9, 3], Go.Proofs.Tryd.func208, rfl, by kernel_rfl, by kernel_rfl, by decide, by kernel_rfl, by kernel_rfl⟩
theorem fok_PReader_Int8 : FOk Go.Proofs.Tryd.prog 192 1 (c_PReader_Int8 NS) [.var 1] := ⟨Go.Proofs.Tryd.f192, _, [0, 2, 9, 3], Go.Proofs.Tryd.func192, rfl, by kernel_rfl, by kernel_rfl, by decide, by kernel_rfl, by kernel_rfl⟩
theorem fok_PReader_Int16 : FOk Go.Proofs.Tryd.prog 187 1 (c_PReader_Int16 NS) [.var 1] := ⟨Go.Proofs.Tryd.f187, _, [0, 2, 9, 3], Go.Proofs.Tryd.func187, rfl, by kernel_rfl, by kernel_rfl, by decide, by kernel_rfl, by kernel_rfl⟩
theorem fok_PReader_Int32 : FOk Go.Proofs.Tryd.prog 181 1 (c_PReader_Int32 NS) [.var 1] := ⟨Go.Proofs.Tryd.f181, _, [0, 2, 9, 3], Go.Proofs.Tryd.func181, rfl, by kernel_rfl, by kernel_rfl, by decide, by kernel_rfl, by kernel_rfl⟩
theorem fok_PReader_readUint64 : FOk Go.Proofs.Tryd.prog 259 1 (c_PReader_readUint64 NS) [.var 1] := ⟨Go.Proofs.Tryd.f259, _, [0, 2, 9, 3], Go.Proofs.Tryd.func259, rfl, by kernel_rfl, by kernel_rfl, by decide, by kernel_rfl, by kernel_rfl⟩
theorem fok_PReader_Int64 : FOk Go.Proofs.Tryd.prog 202 1 (c_PReader_Int64 NS) [.var 1] := ⟨Go.Proofs.Tryd.f202, _, [0, 2], Go.Proofs.Tryd.func202, rfl, by kernel_rfl, by kernel_rfl, by decide, by kernel_rfl, by kernel_rfl⟩
theorem fok_PReader_Uuid : FOk Go.Proofs.Tryd.prog 205 1 (c_PReader_Uuid NS) [.cell 1 NS.t_16_uint8] := ⟨Go.Proofs.Tryd.f205, _, [0, 2, 3], Go.Proofs.Tryd.func205, rfl, by kernel_rfl, by kernel_rfl, by decide, by kernel_rfl, by kernel_rfl⟩
theorem fok_PReader_Uvarint : FOk Go.Proofs.Tryd.prog 216 1 (c_PReader_Uvarint NS) [.var 1] := ⟨Go.Proofs.Tryd.f216, _, [0, 2, 3, 4, 14], Go.Proofs.Tryd.func216, rfl, by kernel_rfl, by kernel_rfl, by decide, by kernel_rfl, by kernel_rfl⟩
theorem fok_PReader_Span : FOk Go.Proofs.Tryd.prog 218 2 (c_PReader_Span NS) [.var 2] := ⟨Go.Proofs.Tryd.f218, _, [0, 1, 4, 16, 5], Go.Proofs.Tryd.func218, rfl, by kernel_rfl, by kernel_rfl, by decide, by kernel_rfl, by kernel_rfl⟩
theorem fok_PReader_String : FOk Go.Proofs.Tryd.prog 196 1 (c_PReader_String NS) [.var 1] := ⟨Go.Proofs.Tryd.f196, _, [0, 2, 3], Go.Proofs.Tryd.func196, rfl, by kernel_rfl, by kernel_rfl, by decide, by kernel_rfl, by kernel_rfl⟩
theorem fok_PReader_UnsafeString : FOk Go.Proofs.Tryd.prog 194 1 (c_PReader_UnsafeString NS) [.var 1] := ⟨Go.Proofs.Tryd.f194, _, [0, 2, 3], Go.Proofs.Tryd.func194, rfl, by kernel_rfl, by kernel_rfl, by decide, by kernel_rfl, by kernel_rfl⟩
theorem fok_PReader_CompactString : FOk Go.Proofs.Tryd.prog 195 1 (c_PReader_CompactString NS) [.var 1] := ⟨Go.Proofs.Tryd.f195, _, [0, 2, 3], Go.Proofs.Tryd.func195, rfl, by kernel_rfl, by kernel_rfl, by decide, by kernel_rfl, by kernel_rfl⟩
theorem fok_PReader_UnsafeCompactString : FOk Go.Proofs.Tryd.prog 193 1 (c_PReader_UnsafeCompactString NS) [.var 1] := ⟨Go.Proofs.Tryd.f193, _, [0, 2, 3], Go.Proofs.Tryd.func193, rfl, by kernel_rfl, by kernel_rfl, by decide, by kernel_rfl, by kernel_rfl⟩
theorem fok_PReader_NullableString : FOk Go.Proofs.Tryd.prog 191 1 (c_PReader_NullableString NS) [.var 1] := ⟨Go.Proofs.Tryd.f191, _, [0, 2, 3, 8, 4], Go.Proofs.Tryd.func191, rfl, by kernel_rfl, by kernel_rfl, by decide, by kernel_rfl, by kernel_rfl⟩
theorem fok_PReader_UnsafeNullableString : FOk Go.Proofs.Tryd.prog 190 1 (c_PReader_UnsafeNullableString NS) [.var 1] := ⟨Go.Proofs.Tryd.f190, _, [0, 2, 3, 8, 4], Go.Proofs.Tryd.func190, rfl, by kernel_rfl, by kernel_rfl, by decide, by kernel_rfl, by kernel_rfl⟩
theorem fok_PReader_CompactNullableString : FOk Go.Proofs.Tryd.prog 189 1 (c_PReader_CompactNullableString NS) [.var 1] := ⟨Go.Proofs.Tryd.f189, _, [0, 2, 3, 10, 4], Go.Proofs.Tryd.func189, rfl, by kernel_rfl, by kernel_rfl, by decide, by kernel_rfl, by kernel_rfl⟩
theorem fok_PReader_UnsafeCompactNullableString : FOk Go.Proofs.Tryd.prog 188 1 (c_PReader_UnsafeCompactNullableString NS) [.var 1] := ⟨Go.Proofs.Tryd.f188, _, [0, 2, 3, 10, 4], Go.Proofs.Tryd.func188, rfl, by kernel_rfl, by kernel_rfl, by decide, by kernel_rfl, by kernel_rfl⟩
theorem fok_PReader_ArrayLen : FOk Go.Proofs.Tryd.prog 183 1 (c_PReader_ArrayLen NS) [.var 1] := ⟨Go.Proofs.Tryd.f183, _, [0, 2, 3, 13], Go.Proofs.Tryd.func183, rfl, by kernel_rfl, by kernel_rfl, by decide, by kernel_rfl, by kernel_rfl⟩
theorem fok_PReader_CompactArrayLen : FOk Go.Proofs.Tryd.prog 182 1 (c_PReader_CompactArrayLen NS) [.var 1] := ⟨Go.Proofs.Tryd.f182, _, [0, 2, 3, 15], Go.Proofs.Tryd.func182, rfl, by kernel_rfl, by kernel_rfl, by decide, by kernel_rfl, by kernel_rfl⟩
theorem fok_PReader_Complete : FOk Go.Proofs.Tryd.prog 185 1 (c_PReader_Complete NS) [.var 1] := ⟨Go.Proofs.Tryd.f185, _, [0, 2, 6], Go.Proofs.Tryd.func185, rfl, by kernel_rfl, by kernel_rfl, by decide, by kernel_rfl, by kernel_rfl⟩
theorem fok_PReader_Ok : FOk Go.Proofs.Tryd.prog 184 1 (c_PReader_Ok NS) [.var 1] := ⟨Go.Proofs.Tryd.f184, _, [0, 2], Go.Proofs.Tryd.func184, rfl, by kernel_rfl, by kernel_rfl, by decide, by kernel_rfl, by kernel_rfl⟩
theorem fok_PTags_Set : FOk Go.Proofs.Tryd.prog 217 3 (c_PTags_Set NS) [] := ⟨Go.Proofs.Tryd.f217, _, [0, 1, 2, 10], Go.Proofs.Tryd.func217, rfl, by kernel_rfl, by kernel_rfl, by decide, by kernel_rfl, by kernel_rfl⟩
theorem fok_internalReadTags : FOk Go.Proofs.Tryd.prog 197 1 (c_internalReadTags NS) [.cell 1 NS.t_Tags] := ⟨Go.Proofs.Tryd.f197, _, [0, 2, 3, 4, 10, 5, 6], Go.Proofs.Tryd.func197, rfl, by kernel_rfl, by kernel_rfl, by decide, by kernel_rfl, by kernel_rfl⟩
theorem fok_PTags_Each : FOk Go.Proofs.Tryd.prog 130 2 (c_PTags_Each NS) [] := ⟨Go.Proofs.Tryd.f130, _, [0, 1, 13, 4, 24, 26, 5, 37, 38, 39, 40, 7], Go.Proofs.Tryd.func130, rfl, by kernel_rfl, by kernel_rfl, by decide, by kernel_rfl, by kernel_rfl⟩
theorem fok_PTags_Each_1 : FOk Go.Proofs.Tryd.prog 200 3 (c_PTags_Each_1 NS) [.var 3] := ⟨Go.Proofs.Tryd.f200, _, [0, 1, 2, 5], Go.Proofs.Tryd.func200, rfl, by kernel_rfl, by kernel_rfl, by decide, by kernel_rfl, by kernel_rfl⟩
theorem fok_sorted : FOk Go.Proofs.Tryd.prog 132 1 (c_sorted NS) [] := ⟨Go.Proofs.Tryd.f132, _, [0, 5, 6, 7, 2, 3, 25], Go.Proofs.Tryd.func132, rfl, by kernel_rfl, by kernel_rfl, by decide, by kernel_rfl, by kernel_rfl⟩
theorem fok_boolTree : FOk Go.Proofs.Tryd.prog 144 1 (c_boolTree NS) [.cell 1 NS.t_Tree] := ⟨Go.Proofs.Tryd.f144, _, [0, 2, 3], Go.Proofs.Tryd.func144, rfl, by kernel_rfl, by kernel_rfl, by decide, by kernel_rfl, by kernel_rfl⟩
theorem fok_textTree : FOk Go.Proofs.Tryd.prog 166 1 (c_textTree NS) [.cell 1 NS.t_Tree] := ⟨Go.Proofs.Tryd.f166, _, [0, 2, 4], Go.Proofs.Tryd.func166, rfl, by kernel_rfl, by kernel_rfl, by decide, by kernel_rfl, by kernel_rfl⟩
theorem fok_spec_Same : FOk Go.Proofs.Tryd.prog 60 2 (c_spec_Same NS) [.var 2] := ⟨Go.Proofs.Tryd.f60, _, [0, 1, 4, 10, 12, 13, 14, 5, 24], Go.Proofs.Tryd.func60, rfl, by kernel_rfl, by kernel_rfl, by decide, by kernel_rfl, by kernel_rfl⟩
theorem fok_spec_SameTree : FOk Go.Proofs.Tryd.prog 19 2 (c_spec_SameTree NS) [.var 4] := ⟨Go.Proofs.Tryd.f19, _, [0, 1, 2, 3, 4, 44, 47, 48, 49, 5, 62, 66, 67, 68, 6, 98], Go.Proofs.Tryd.func19, rfl, by kernel_rfl, by kernel_rfl, by decide, by kernel_rfl, by kernel_rfl⟩
theorem fok_version : FOk Go.Proofs.Tryd.prog 17 2 (c_version NS) [.var 2] := ⟨Go.Proofs.Tryd.f17, _, [0, 1, 4], Go.Proofs.Tryd.func17, rfl, by kernel_rfl, by kernel_rfl, by decide, by kernel_rfl, by kernel_rfl⟩
theorem fok_got : FOk Go.Proofs.Tryd.prog 20 1 (c_got NS) [.cell 2 NS.t_spec_Tree] := ⟨Go.Proofs.Tryd.f20, _, [0, 1, 2, 3, 16, 17, 18, 19, 5, 31, 32, 33, 34, 7], Go.Proofs.Tryd.func20, rfl, by kernel_rfl, by kernel_rfl, by decide, by kernel_rfl, by kernel_rfl⟩

theorem fnsS : Fns Go.Proofs.Tryd.prog NS where
  bigEndian_Uint16 := fun _ => fok_bigEndian_Uint16
  bigEndian_Uint32 := fun _ => fok_bigEndian_Uint32
  bigEndian_Uint64 := fun _ => fok_bigEndian_Uint64
  UnsafeString := fun _ => fok_UnsafeString
  Uvarint := fun _ => fok_Uvarint
  PReader_Bool := fun _ => fok_PReader_Bool
  PReader_Int8 := fun _ => fok_PReader_Int8
  PReader_Int16 := fun _ => ⟨fok_PReader_Int16, by decide⟩
  PReader_Int32 := fun _ => ⟨fok_PReader_Int32, by decide⟩
  PReader_readUint64 := fun _ => ⟨fok_PReader_readUint64, by decide⟩
  PReader_Int64 := fun _ => ⟨fok_PReader_Int64, by decide⟩
  PReader_Uuid := fun _ => ⟨fok_PReader_Uuid, by decide⟩
  PReader_Uvarint := fun _ => ⟨fok_PReader_Uvarint, by decide⟩
  PReader_Span := fun _ => fok_PReader_Span
  PReader_String := fun _ => ⟨fok_PReader_String, by decide, by decide⟩
  PReader_UnsafeString := fun _ => ⟨fok_PReader_UnsafeString, by decide, by decide, by decide⟩
  PReader_CompactString := fun _ => ⟨fok_PReader_CompactString, by decide, by decide⟩
  PReader_UnsafeCompactString := fun _ => ⟨fok_PReader_UnsafeCompactString, by decide, by decide, by decide⟩
  PReader_NullableString := fun _ => ⟨fok_PReader_NullableString, by decide, by decide⟩
  PReader_UnsafeNullableString := fun _ => ⟨fok_PReader_UnsafeNullableString, by decide, by decide, by decide⟩
  PReader_CompactNullableString := fun _ => ⟨fok_PReader_CompactNullableString, by decide, by decide⟩
  PReader_UnsafeCompactNullableString := fun _ => ⟨fok_PReader_UnsafeCompactNullableString, by decide, by decide, by decide⟩
  PReader_Bytes := fun h => absurd rfl h
  PReader_CompactBytes := fun h => absurd rfl h
  PReader_NullableBytes := fun h => absurd rfl h
  PReader_CompactNullableBytes := fun h => absurd rfl h
  PReader_ArrayLen := fun _ => ⟨fok_PReader_ArrayLen, by decide⟩
  PReader_CompactArrayLen := fun _ => ⟨fok_PReader_CompactArrayLen, by decide⟩
  PReader_Complete := fun _ => fok_PReader_Complete
  PReader_Ok := fun _ => fok_PReader_Ok
  PTags_Set := fun _ => fok_PTags_Set
  internalReadTags := fun _ => ⟨fok_internalReadTags, by decide, by decide, by decide⟩
  PTags_Each := fun _ => ⟨fok_PTags_Each, by decide, by decide⟩
  PTags_Each_1 := fun _ => fok_PTags_Each_1
  sorted := fun _ => fok_sorted
  boolTree := fun _ => fok_boolTree
  textTree := fun _ => fok_textTree
  octetsTree := fun h => absurd rfl h
  spec_Same := fun _ => fok_spec_Same
  spec_SameTree := fun _ => ⟨fok_spec_SameTree, by decide⟩
  version := fun _ => fok_version
  got := fun _ => fok_got

theorem implT : ImplT Go.Proofs.Tryd.prog NS := ⟨sfB_ok (by kernel_rfl), sfB_ok (by kernel_rfl), hfB_ok (by kernel_rfl), hfB_ok (by kernel_rfl), hfB_ok (by kernel_rfl), hfB_ok (by kernel_rfl), hfB_ok (by kernel_rfl), hfB_ok (by kernel_rfl), hfB_ok (by kernel_rfl), tiB_ok (by kernel_rfl), tiB_ok (by kernel_rfl)⟩
theorem specT : TreeT Go.Proofs.Tryd.prog NS NS.t_spec_Tree NS.t_spec_Tag NS.t_Lspec_Tree NS.t_Lspec_Tag := ⟨sfB_ok (by kernel_rfl), sfB_ok (by kernel_rfl), hfB_ok (by kernel_rfl), hfB_ok (by kernel_rfl), hfB_ok (by kernel_rfl), hfB_ok (by kernel_rfl), hfB_ok (by kernel_rfl), hfB_ok (by kernel_rfl), hfB_ok (by kernel_rfl), tiB_ok (by kernel_rfl), tiB_ok (by kernel_rfl)⟩

def slRen : Go.Shelf.Ren := ⟨fun | 6 => 199 | 10 => 254 | 11 => 255 | 12 => 256 | 13 => 257 | 14 => 258 | 24 => 279 | 25 => 280 | 26 => 281 | 27 => 282 | 28 => 283 | 29 => 284 | 30 => 285 | 31 => 286 | 32 => 287 | 33 => 288 | 34 => 291 | 35 => 292 | 36 => 293 | 37 => 294 | 38 => 295 | 39 => 296 | n => n, fun | 20 => 20 | 26 => 215 | 35 => 264 | 0 => 0 | 37 => 266 | 3 => 3 | 41 => 269 | 44 => 272 | 49 => 48 | 51 => 273 | 4 => 4 | 54 => 285 | 53 => 284 | 58 => 289 | 5 => 5 | 9 => 9 | 60 => 292 | 64 => 295 | 66 => 297 | 67 => 298 | 17 => 17 | 32 => 261 | 33 => 262 | 82 => 313 | 12 => 12 | 75 => 306 | 76 => 307 | 77 => 308 | 78 => 309 | 79 => 310 | 80 => 311 | n => n, fun | n => n⟩
theorem sl6 : Go.Proofs.LaysGg.n6 Go.Proofs.Tryd.prog slRen where
  mixed := by kernel_rfl
  f6 := Go.Proofs.Tryd.func199.trans (congrArg some (by kernel_rfl))
  f10 := Go.Proofs.Tryd.func254.trans (congrArg some (by kernel_rfl))
  f11 := Go.Proofs.Tryd.func255.trans (congrArg some (by kernel_rfl))
  f12 := Go.Proofs.Tryd.func256.trans (congrArg some (by kernel_rfl))
  f13 := Go.Proofs.Tryd.func257.trans (congrArg some (by kernel_rfl))
  f14 := Go.Proofs.Tryd.func258.trans (congrArg some (by kernel_rfl))
  f24 := Go.Proofs.Tryd.func279.trans (congrArg some (by kernel_rfl))
  f25 := Go.Proofs.Tryd.func280.trans (congrArg some (by kernel_rfl))
  f26 := Go.Proofs.Tryd.func281.trans (congrArg some (by kernel_rfl))
  f27 := Go.Proofs.Tryd.func282.trans (congrArg some (by kernel_rfl))
  f28 := Go.Proofs.Tryd.func283.trans (congrArg some (by kernel_rfl))
  f29 := Go.Proofs.Tryd.func284.trans (congrArg some (by kernel_rfl))
  f30 := Go.Proofs.Tryd.func285.trans (congrArg some (by kernel_rfl))
  f31 := Go.Proofs.Tryd.func286.trans (congrArg some (by kernel_rfl))
  f32 := Go.Proofs.Tryd.func287.trans (congrArg some (by kernel_rfl))
  f33 := Go.Proofs.Tryd.func288.trans (congrArg some (by kernel_rfl))
  f34 := Go.Proofs.Tryd.func291.trans (congrArg some (by kernel_rfl))
  f35 := Go.Proofs.Tryd.func292.trans (congrArg some (by kernel_rfl))
  f36 := Go.Proofs.Tryd.func293.trans (congrArg some (by kernel_rfl))
  f37 := Go.Proofs.Tryd.func294.trans (congrArg some (by kernel_rfl))
  f38 := Go.Proofs.Tryd.func295.trans (congrArg some (by kernel_rfl))
  f39 := Go.Proofs.Tryd.func296.trans (congrArg some (by kernel_rfl))
  t0 := Go.Proofs.Tryd.underlying0
  a0 := Go.Proofs.Tryd.isAgg0
  z0 := Go.Proofs.Tryd.sizeOf0
  v0 := Go.Proofs.Tryd.zeroValue0
  i0 := by kernel_rfl
  t3 := Go.Proofs.Tryd.underlying3
  a3 := Go.Proofs.Tryd.isAgg3
  z3 := Go.Proofs.Tryd.sizeOf3
  v3 := Go.Proofs.Tryd.zeroValue3
  i3 := by kernel_rfl
  t4 := Go.Proofs.Tryd.underlying4
  a4 := Go.Proofs.Tryd.isAgg4
  z4 := Go.Proofs.Tryd.sizeOf4
  v4 := Go.Proofs.Tryd.zeroValue4
  i4 := by kernel_rfl
  t5 := Go.Proofs.Tryd.underlying5
  a5 := Go.Proofs.Tryd.isAgg5
  z5 := Go.Proofs.Tryd.sizeOf5
  v5 := Go.Proofs.Tryd.zeroValue5
  i5 := by kernel_rfl
  t9 := Go.Proofs.Tryd.underlying9
  a9 := Go.Proofs.Tryd.isAgg9
  z9 := Go.Proofs.Tryd.sizeOf9
  v9 := Go.Proofs.Tryd.zeroValue9
  i9 := by kernel_rfl
  t12 := Go.Proofs.Tryd.underlying12
  a12 := Go.Proofs.Tryd.isAgg12
  z12 := Go.Proofs.Tryd.sizeOf12
  v12 := Go.Proofs.Tryd.zeroValue12
  i12 := by kernel_rfl
  t17 := Go.Proofs.Tryd.underlying17
  a17 := Go.Proofs.Tryd.isAgg17
  z17 := Go.Proofs.Tryd.sizeOf17
  v17 := Go.Proofs.Tryd.zeroValue17
  i17 := by kernel_rfl
  t20 := Go.Proofs.Tryd.underlying20
  a20 := Go.Proofs.Tryd.isAgg20
  z20 := Go.Proofs.Tryd.sizeOf20
  v20 := Go.Proofs.Tryd.zeroValue20
  i20 := by kernel_rfl
  t26 := Go.Proofs.Tryd.underlying215
  a26 := Go.Proofs.Tryd.isAgg215
  z26 := Go.Proofs.Tryd.sizeOf215
  v26 := Go.Proofs.Tryd.zeroValue215
  i26 := by kernel_rfl
  t32 := Go.Proofs.Tryd.underlying261
  a32 := Go.Proofs.Tryd.isAgg261
  z32 := Go.Proofs.Tryd.sizeOf261
  v32 := Go.Proofs.Tryd.zeroValue261
  i32 := by kernel_rfl
  t33 := Go.Proofs.Tryd.underlying262
  a33 := Go.Proofs.Tryd.isAgg262
  z33 := Go.Proofs.Tryd.sizeOf262
  v33 := Go.Proofs.Tryd.zeroValue262
  i33 := by kernel_rfl
  t35 := Go.Proofs.Tryd.underlying264
  a35 := Go.Proofs.Tryd.isAgg264
  z35 := Go.Proofs.Tryd.sizeOf264
  v35 := Go.Proofs.Tryd.zeroValue264
  i35 := by kernel_rfl
  t37 := Go.Proofs.Tryd.underlying266
  a37 := Go.Proofs.Tryd.isAgg266
  z37 := Go.Proofs.Tryd.sizeOf266
  v37 := Go.Proofs.Tryd.zeroValue266
  i37 := by kernel_rfl
  t41 := Go.Proofs.Tryd.underlying269
  a41 := Go.Proofs.Tryd.isAgg269
  z41 := Go.Proofs.Tryd.sizeOf269
  v41 := Go.Proofs.Tryd.zeroValue269
  i41 := by kernel_rfl
  t44 := Go.Proofs.Tryd.underlying272
  a44 := Go.Proofs.Tryd.isAgg272
  z44 := Go.Proofs.Tryd.sizeOf272
  v44 := Go.Proofs.Tryd.zeroValue272
  i44 := by kernel_rfl
  t49 := Go.Proofs.Tryd.underlying48
  a49 := Go.Proofs.Tryd.isAgg48
  z49 := Go.Proofs.Tryd.sizeOf48
  v49 := Go.Proofs.Tryd.zeroValue48
  i49 := by kernel_rfl
  t51 := Go.Proofs.Tryd.underlying273
  a51 := Go.Proofs.Tryd.isAgg273
  z51 := Go.Proofs.Tryd.sizeOf273
  v51 := Go.Proofs.Tryd.zeroValue273
  i51 := by kernel_rfl
  t53 := Go.Proofs.Tryd.underlying284
  a53 := Go.Proofs.Tryd.isAgg284
  z53 := Go.Proofs.Tryd.sizeOf284
  v53 := Go.Proofs.Tryd.zeroValue284
  i53 := by kernel_rfl
  t54 := Go.Proofs.Tryd.underlying285
  a54 := Go.Proofs.Tryd.isAgg285
  z54 := Go.Proofs.Tryd.sizeOf285
  v54 := Go.Proofs.Tryd.zeroValue285
  i54 := by kernel_rfl
  t58 := Go.Proofs.Tryd.underlying289
  a58 := Go.Proofs.Tryd.isAgg289
  z58 := Go.Proofs.Tryd.sizeOf289
  v58 := Go.Proofs.Tryd.zeroValue289
  i58 := by kernel_rfl
  t60 := Go.Proofs.Tryd.underlying292
  a60 := Go.Proofs.Tryd.isAgg292
  z60 := Go.Proofs.Tryd.sizeOf292
  v60 := Go.Proofs.Tryd.zeroValue292
  i60 := by kernel_rfl
  t64 := Go.Proofs.Tryd.underlying295
  a64 := Go.Proofs.Tryd.isAgg295
  z64 := Go.Proofs.Tryd.sizeOf295
  v64 := Go.Proofs.Tryd.zeroValue295
  i64 := by kernel_rfl
  t66 := Go.Proofs.Tryd.underlying297
  a66 := Go.Proofs.Tryd.isAgg297
  z66 := Go.Proofs.Tryd.sizeOf297
  v66 := Go.Proofs.Tryd.zeroValue297
  i66 := by kernel_rfl
  t67 := Go.Proofs.Tryd.underlying298
  a67 := Go.Proofs.Tryd.isAgg298
  z67 := Go.Proofs.Tryd.sizeOf298
  v67 := Go.Proofs.Tryd.zeroValue298
  i67 := by kernel_rfl
  t75 := Go.Proofs.Tryd.underlying306
  a75 := Go.Proofs.Tryd.isAgg306
  z75 := Go.Proofs.Tryd.sizeOf306
  v75 := Go.Proofs.Tryd.zeroValue306
  i75 := by kernel_rfl
  t76 := Go.Proofs.Tryd.underlying307
  a76 := Go.Proofs.Tryd.isAgg307
  z76 := Go.Proofs.Tryd.sizeOf307
  v76 := Go.Proofs.Tryd.zeroValue307
  i76 := by kernel_rfl
  t77 := Go.Proofs.Tryd.underlying308
  a77 := Go.Proofs.Tryd.isAgg308
  z77 := Go.Proofs.Tryd.sizeOf308
  v77 := Go.Proofs.Tryd.zeroValue308
  i77 := by kernel_rfl
  t78 := Go.Proofs.Tryd.underlying309
  a78 := Go.Proofs.Tryd.isAgg309
  z78 := Go.Proofs.Tryd.sizeOf309
  v78 := Go.Proofs.Tryd.zeroValue309
  i78 := by kernel_rfl
  t79 := Go.Proofs.Tryd.underlying310
  a79 := Go.Proofs.Tryd.isAgg310
  z79 := Go.Proofs.Tryd.sizeOf310
  v79 := Go.Proofs.Tryd.zeroValue310
  i79 := by kernel_rfl
  t80 := Go.Proofs.Tryd.underlying311
  a80 := Go.Proofs.Tryd.isAgg311
  z80 := Go.Proofs.Tryd.sizeOf311
  v80 := Go.Proofs.Tryd.zeroValue311
  i80 := by kernel_rfl
  t82 := Go.Proofs.Tryd.underlying313
  a82 := Go.Proofs.Tryd.isAgg313
  z82 := Go.Proofs.Tryd.sizeOf313
  v82 := Go.Proofs.Tryd.zeroValue313
  i82 := by kernel_rfl

noncomputable def sI : TypeInfo := (Go.Proofs.Tryd.prog.info? NS.t_Luint32).get (by kernel_rfl)
noncomputable def sE : TypeInfo := (Go.Proofs.Tryd.prog.info? NS.t_uint32).get (by kernel_rfl)
theorem sortT : SortT Go.Proofs.Tryd.prog NS where
  has := ⟨_, Go.Proofs.Tryd.func199, by kernel_rfl, by kernel_rfl⟩
  out := ⟨slRen, sI, sE, 275, 271, sl6, by kernel_rfl, by kernel_rfl, by kernel_rfl, by kernel_rfl, by kernel_rfl, fun _ => by kernel_rfl, by kernel_rfl, by kernel_rfl, by kernel_rfl, by kernel_rfl, by kernel_rfl,
    fun args W => run_callFunc_extern Go.Proofs.Tryd.func275 (by kernel_rfl) (by kernel_rfl) (by kernel_rfl) (e := Extern.ReflectliteSwapper.swap true) (by kernel_rfl) args W⟩
theorem lu : LU Go.Proofs.Tryd.prog NS := ⟨tiB_ok (by kernel_rfl)⟩
theorem tellN : TellN Go.Proofs.Tryd.prog NS := ⟨by decide, by decide, by decide, lu, sortOk baseS fnsS (by decide) lu sortT⟩

theorem own : ownKnob Go.Proofs.Tryd.prog.godebug = none := by kernel_rfl
theorem laidOut : laidOutB Go.Proofs.Tryd.prog = true := by kernel_rfl
theorem gO : Go.Proofs.Tryd.prog.globalNamed "pub-mailsack/pub/kmsg/inner/kbin.ErrNotEnoughData" = some 1 := by kernel_rfl
theorem gT : (Go.Proofs.Tryd.prog.globals[1]?).map (·.type) = some 44 := by kernel_rfl
theorem cS : Go.Proofs.Tryd.prog.cellsOf 318 = 1 := by kernel_rfl
theorem cStr : Go.Proofs.Tryd.prog.cellsOf 9 = 1 := by kernel_rfl
theorem star : "*" ++ "errors.errorString" = "*errors.errorString" := by decide
theorem rowP (u : TypeId) (h : Go.Proofs.Tryd.prog.typeName? 3 u = some "*errors.errorString") : u = 300 :=
  typeName_ptr_named (nm := "errors.errorString") (by rw [star]; kernel_rfl) (by kernel_rfl) (by decide) u (by rw [star]; exact h)
theorem bandT {a b : Bool} (h : a = true) (h' : b = true) : (a && b) = true := by rw [h, h']; rfl
theorem bigEnter : Go.Proofs.Tryd.prog.mayEnter = true := by kernel_rfl
theorem bigLifts : (Proofs.YtfgfenphgeffgaaDoor.Rows.fnUnsafeIncrementalAlterConfigsResponseRow.lifted == Go.Proofs.Tryd.prog.liftsFinal) = true := by kernel_rfl
theorem bigMake : (Go.Proofs.Tryd.prog.make == some Proofs.YtfgfenphgeffgaaDoor.Rows.fnUnsafeIncrementalAlterConfigsResponseRow.make) = true := by kernel_rfl
theorem stopsHeardS : Go.Proofs.Tryd.prog.stopsHeard = true := by kernel_rfl
theorem mapsRowedS : mapsRowed Go.Proofs.Tryd.prog = true := by kernel_rfl
theorem plainKeysS : (Proofs.YtfgfenphgeffgaaDoor.Rows.fnUnsafeIncrementalAlterConfigsResponseRow.plainKeys == Go.Proofs.Tryd.prog.plainKeys) = true := by kernel_rfl
theorem mainS : Go.Proofs.Tryd.prog.mainIs = some (Proofs.YtfgfenphgeffgaaDoor.Rows.fnUnsafeIncrementalAlterConfigsResponseCard.stood.harness.1, Proofs.YtfgfenphgeffgaaDoor.Rows.fnUnsafeIncrementalAlterConfigsResponseCard.stood.harness.2.toList) := by kernel_rfl
theorem looksS : false = Go.Proofs.Tryd.prog.looks [] := by kernel_rfl
theorem shaped (os : Os) (args : Array Value) : ((World.doorLaid Go.Proofs.Tryd.prog 400 os).forCall (fun _ _ => 0) ⟨#[], args, []⟩).Shaped Go.Proofs.Tryd.prog := World.shaped_of_RefB (by kernel_rfl) (by kernel_rfl)
theorem door_met (os : Os) (args : Array Value) : laidMetH Go.Proofs.Tryd.prog Proofs.YtfgfenphgeffgaaDoor.Rows.fnUnsafeIncrementalAlterConfigsResponseRow.laid ((World.doorLaid Go.Proofs.Tryd.prog 400 os).forCall (fun _ _ => 0) ⟨#[], args, []⟩).memory :=
  laidMetH_of_parts3 (fuel := 8) (laidMet_of_run' 8 (by kernel_rfl) (by kernel_rfl)) (by kernel_rfl) (by kernel_rfl)
end Go.Kf
