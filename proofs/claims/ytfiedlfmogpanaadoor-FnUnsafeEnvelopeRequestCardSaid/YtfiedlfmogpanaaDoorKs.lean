/- Closed facts of this translation: its numbers, its shared functions' codes, its types; no condition. -/
import Derived.Test.YtfiedlfmogpanaaDoorKe
import Derived.Shelf.GgSortFunc.Whole
import Derived.Test.YtfiedlfmogpanaaDoorRows
import Derived.Test.YtfiedlfmogpanaaDoorTie
import Derived.Test.YtfiedlfmogpanaaDoorCards
import Derived.LaidMore
import Derived.Stop.Joined
import Derived.Stop.LaidErr
import Derived.SevenTiedAt
set_option linter.unusedSimpArgs false
set_option linter.unusedVariables false
set_option maxRecDepth 100000
namespace Go.Kf
open Go

/-- The numbers of this translation. -/
def NS : Nums where
  f_PReader_ArrayLen := 170
  f_PReader_Bool := 186
  f_PReader_Bytes := 158
  f_PReader_CompactArrayLen := 169
  f_PReader_CompactBytes := 157
  f_PReader_CompactNullableBytes := 159
  f_PReader_CompactNullableString := 166
  f_PReader_CompactString := 163
  f_PReader_Complete := 154
  f_PReader_Int16 := 150
  f_PReader_Int32 := 152
  f_PReader_Int64 := 151
  f_PReader_Int8 := 187
  f_PReader_NullableBytes := 160
  f_PReader_NullableString := 168
  f_PReader_Ok := 171
  f_PReader_Span := 202
  f_PReader_String := 164
  f_PReader_UnsafeCompactNullableString := 165
  f_PReader_UnsafeCompactString := 161
  f_PReader_UnsafeNullableString := 167
  f_PReader_UnsafeString := 162
  f_PReader_Uuid := 173
  f_PReader_Uvarint := 200
  f_PReader_readUint64 := 198
  f_PTags_Each := 111
  f_PTags_Each_1 := 156
  f_PTags_Set := 201
  f_UnsafeString := 208
  f_Uvarint := 217
  f_bigEndian_Uint16 := 197
  f_bigEndian_Uint32 := 199
  f_bigEndian_Uint64 := 216
  f_boolTree := 140
  f_got := 18
  f_internalReadTags := 153
  f_octetsTree := 116
  f_sort_Slice := 155
  f_sorted := 113
  f_spec_Same := 53
  f_spec_SameTree := 17
  f_textTree := 123
  f_version := 15
  g_BigEndian := 0
  g_ErrNotEnoughData := 1
  t_ := 0
  t_16_uint8 := 115
  t_LTag := 25
  t_LTree := 24
  t_Lspec_Tag := 33
  t_Lspec_Tree := 32
  t_Luint32 := 160
  t_Luint8 := 22
  t_PReader := 157
  t_Pstring := 107
  t_Reader := 153
  t_Tag := 58
  t_Tags := 74
  t_Tree := 27
  t_bigEndian := 188
  t_bool := 4
  t_error := 51
  t_func_int_int_bool := 162
  t_func_uint32_Luint8 := 100
  t_int := 3
  t_int16 := 45
  t_int32 := 21
  t_int64 := 2
  t_int8 := 132
  t_interface := 20
  t_map_uint32_Luint8 := 72
  t_spec_Tag := 57
  t_spec_Tree := 35
  t_string := 9
  t_uint := 202
  t_uint16 := 186
  t_uint32 := 55
  t_uint32_int := 213
  t_uint64 := 174
  t_uint8 := 5

theorem baseS : Base Go.Proofs.Tryd.prog NS := base_ok (by kernel_rfl) (by kernel_rfl) (by kernel_rfl)

theorem fok_bigEndian_Uint16 : FOk Go.Proofs.Tryd.prog 197 2 (c_bigEndian_Uint16 NS) [.var 2] := ⟨Go.Proofs.Tryd.f197, _, [0, 1, 4], Go.Proofs.Tryd.func197, rfl, by kernel_rfl, by kernel_rfl, by decide, by kernel_rfl, by kernel_rfl⟩
theorem fok_bigEndian_Uint32 : FOk Go.Proofs.Tryd.prog 199 2 (c_bigEndian_Uint32 NS) [.var 2] := ⟨Go.Proofs.Tryd.f199, _, [0, 1, 4], Go.Proofs.Tryd.func199, rfl, by kernel_rfl, by kernel_rfl, by decide, by kernel_rfl, by kernel_rfl⟩
theorem fok_bigEndian_Uint64 : FOk Go.Proofs.Tryd.prog 216 2 (c_bigEndian_Uint64 NS) [.var 2] := ⟨Go.Proofs.Tryd.f216, _, [0, 1, 4], Go.Proofs.Tryd.func216, rfl, by kernel_rfl, by kernel_rfl, by decide, by kernel_rfl, by kernel_rfl⟩
theorem fok_UnsafeString : FOk Go.Proofs.Tryd.prog 208 1 (c_UnsafeString NS) [.var 1] := ⟨Go.Proofs.Tryd.f208, _, [0, 2], Go.Proofs.Tryd.func208, rfl, by kernel_rfl, by kernel_rfl, by decide, by kernel_rfl, by kernel_rfl⟩
theorem fok_Uvarint : FOk Go.Proofs.Tryd.prog 217 1 (c_Uvarint NS) [.var 1, .var 2] := ⟨Go.Proofs.Tryd.f217, _, [0, 2, 3, 4, 5, 8, 18, 22, 35, 39, 52, 56, 69, 73, 84], Go.Proofs.Tryd.func217, rfl, by kernel_rfl, by kernel_rfl, by decide, by kernel_rfl, by kernel_rfl⟩
theorem fok_PReader_Bool : FOk Go.Proofs.Tryd.prog 186 1 (c_PReader_Bool NS) [.var 1] := ⟨Go.Proofs.Tryd.f186, _, [0, 2, 9, 3], Go.Proofs.Tryd.func186, rfl, by kernel_rfl, by kernel_rfl, by decide, by kernel_rfl, by kernel_rfl⟩
theorem fok_PReader_Int8 : FOk Go.Proofs.Tryd.prog 187 1 (c_PReader_Int8 NS) [.var 1] := ⟨Go.Proofs.Tryd.f187, _, [0, 2, 9, 3], Go.Proofs.Tryd.func187, rfl, by kernel_rfl, by kernel_rfl, by decide, by kernel_rfl, by kernel_rfl⟩
theorem fok_PReader_Int16 : FOk Go.Proofs.Tryd.prog 150 1 (c_PReader_Int16 NS) [.var 1] := ⟨Go.Proofs.Tryd.f150, _, [0, 2, 9, 3], Go.Proofs.Tryd.func150, rfl, by kernel_rfl, by kernel_rfl, by decide, by kernel_rfl, by kernel_rfl⟩
theorem fok_PReader_Int32 : FOk Go.Proofs.Tryd.prog 152 1 (c_PReader_Int32 NS) [.var 1] := ⟨Go.Proofs.Tryd.f152, _, [0, 2, 9, 3], Go.Proofs.Tryd.func152, rfl, by kernel_rfl, by kernel_rfl, by decide, by kernel_rfl, by kernel_rfl⟩
theorem fok_PReader_readUint64 : FOk Go.Proofs.Tryd.prog 198 1 (c_PReader_readUint64 NS) [.var 1] := ⟨Go.Proofs.Tryd.f198, _, [0, 2, 9, 3], Go.Proofs.Tryd.func198, rfl, by kernel_rfl, by kernel_rfl, by decide, by kernel_rfl, by kernel_rfl⟩
theorem fok_PReader_Int64 : FOk Go.Proofs.Tryd.prog 151 1 (c_PReader_Int64 NS) [.var 1] := ⟨Go.Proofs.Tryd.f151, _, [0, 2], Go.Proofs.Tryd.func151, rfl, by kernel_rfl, by kernel_rfl, by decide, by kernel_rfl, by kernel_rfl⟩
theorem fok_PReader_Uuid : FOk Go.Proofs.Tryd.prog 173 1 (c_PReader_Uuid NS) [.cell 1 NS.t_16_uint8] := ⟨Go.Proofs.Tryd.f173, _, [0, 2, 3], Go.Proofs.Tryd.func173, rfl, by kernel_rfl, by kernel_rfl, by decide, by kernel_rfl, by kernel_rfl⟩
theorem fok_PReader_Uvarint : FOk Go.Proofs.Tryd.prog 200 1 (c_PReader_Uvarint NS) [.var 1] := ⟨Go.Proofs.Tryd.f200, _, [0, 2, 3, 4, 14], Go.Proofs.Tryd.func200, rfl, by kernel_rfl, by kernel_rfl, by decide, by kernel_rfl, by kernel_rfl⟩
theorem fok_PReader_Span : FOk Go.Proofs.Tryd.prog 202 2 (c_PReader_Span NS) [.var 2] := ⟨Go.Proofs.Tryd.f202, _, [0, 1, 4, 16, 5], Go.Proofs.Tryd.func202, rfl, by kernel_rfl, by kernel_rfl, by decide, by kernel_rfl, by kernel_rfl⟩
theorem fok_PReader_String : FOk Go.Proofs.Tryd.prog 164 1 (c_PReader_String NS) [.var 1] := ⟨Go.Proofs.Tryd.f164, _, [0, 2, 3], Go.Proofs.Tryd.func164, rfl, by kernel_rfl, by kernel_rfl, by decide, by kernel_rfl, by kernel_rfl⟩
theorem fok_PReader_UnsafeString : FOk Go.Proofs.Tryd.prog 162 1 (c_PReader_UnsafeString NS) [.var 1] := ⟨Go.Proofs.Tryd.f162, _, [0, 2, 3], Go.Proofs.Tryd.func162, rfl, by kernel_rfl, by kernel_rfl, by decide, by kernel_rfl, by kernel_rfl⟩
theorem fok_PReader_CompactString : FOk Go.Proofs.Tryd.prog 163 1 (c_PReader_CompactString NS) [.var 1] := ⟨Go.Proofs.Tryd.f163, _, [0, 2, 3], Go.Proofs.Tryd.func163, rfl, by kernel_rfl, by kernel_rfl, by decide, by kernel_rfl, by kernel_rfl⟩
theorem fok_PReader_UnsafeCompactString : FOk Go.Proofs.Tryd.prog 161 1 (c_PReader_UnsafeCompactString NS) [.var 1] := ⟨Go.Proofs.Tryd.f161, _, [0, 2, 3], Go.Proofs.Tryd.func161, rfl, by kernel_rfl, by kernel_rfl, by decide, by kernel_rfl, by kernel_rfl⟩
theorem fok_PReader_NullableString : FOk Go.Proofs.Tryd.prog 168 1 (c_PReader_NullableString NS) [.var 1] := ⟨Go.Proofs.Tryd.f168, _, [0, 2, 3, 8, 4], Go.Proofs.Tryd.func168, rfl, by kernel_rfl, by kernel_rfl, by decide, by kernel_rfl, by kernel_rfl⟩
theorem fok_PReader_UnsafeNullableString : FOk Go.Proofs.Tryd.prog 167 1 (c_PReader_UnsafeNullableString NS) [.var 1] := ⟨Go.Proofs.Tryd.f167, _, [0, 2, 3, 8, 4], Go.Proofs.Tryd.func167, rfl, by kernel_rfl, by kernel_rfl, by decide, by kernel_rfl, by kernel_rfl⟩
theorem fok_PReader_CompactNullableString : FOk Go.Proofs.Tryd.prog 166 1 (c_PReader_CompactNullableString NS) [.var 1] := ⟨Go.Proofs.Tryd.f166, _, [0, 2, 3, 10, 4], Go.Proofs.Tryd.func166, rfl, by kernel_rfl, by kernel_rfl, by decide, by kernel_rfl, by kernel_rfl⟩
theorem fok_PReader_UnsafeCompactNullableString : FOk Go.Proofs.Tryd.prog 165 1 (c_PReader_UnsafeCompactNullableString NS) [.var 1] := ⟨Go.Proofs.Tryd.f165, _, [0, 2, 3, 10, 4], Go.Proofs.Tryd.func165, rfl, by kernel_rfl, by kernel_rfl, by decide, by kernel_rfl, by kernel_rfl⟩
theorem fok_PReader_Bytes : FOk Go.Proofs.Tryd.prog 158 1 (c_PReader_Bytes NS) [.var 1] := ⟨Go.Proofs.Tryd.f158, _, [0, 2, 3, 7], Go.Proofs.Tryd.func158, rfl, by kernel_rfl, by kernel_rfl, by decide, by kernel_rfl, by kernel_rfl⟩
theorem fok_PReader_CompactBytes : FOk Go.Proofs.Tryd.prog 157 1 (c_PReader_CompactBytes NS) [.var 1] := ⟨Go.Proofs.Tryd.f157, _, [0, 2, 3, 9], Go.Proofs.Tryd.func157, rfl, by kernel_rfl, by kernel_rfl, by decide, by kernel_rfl, by kernel_rfl⟩
theorem fok_PReader_NullableBytes : FOk Go.Proofs.Tryd.prog 160 1 (c_PReader_NullableBytes NS) [.var 1] := ⟨Go.Proofs.Tryd.f160, _, [0, 2, 3, 8, 4], Go.Proofs.Tryd.func160, rfl, by kernel_rfl, by kernel_rfl, by decide, by kernel_rfl, by kernel_rfl⟩
theorem fok_PReader_CompactNullableBytes : FOk Go.Proofs.Tryd.prog 159 1 (c_PReader_CompactNullableBytes NS) [.var 1] := ⟨Go.Proofs.Tryd.f159, _, [0, 2, 3, 10, 4], Go.Proofs.Tryd.func159, rfl, by kernel_rfl, by kernel_rfl, by decide, by kernel_rfl, by kernel_rfl⟩
theorem fok_PReader_ArrayLen : FOk Go.Proofs.Tryd.prog 170 1 (c_PReader_ArrayLen NS) [.var 1] := ⟨Go.Proofs.Tryd.f170, _, [0, 2, 3, 13], Go.Proofs.Tryd.func170, rfl, by kernel_rfl, by kernel_rfl, by decide, by kernel_rfl, by kernel_rfl⟩
theorem fok_PReader_CompactArrayLen : FOk Go.Proofs.Tryd.prog 169 1 (c_PReader_CompactArrayLen NS) [.var 1] := ⟨Go.Proofs.Tryd.f169, _, [0, 2, 3, 15], Go.Proofs.Tryd.func169, rfl, by kernel_rfl, by kernel_rfl, by decide, by kernel_rfl, by kernel_rfl⟩
theorem fok_PReader_Complete : FOk Go.Proofs.Tryd.prog 154 1 (c_PReader_Complete NS) [.var 1] := ⟨Go.Proofs.Tryd.f154, _, [0, 2, 6], Go.Proofs.Tryd.func154, rfl, by kernel_rfl, by kernel_rfl, by decide, by kernel_rfl, by kernel_rfl⟩
theorem fok_PReader_Ok : FOk Go.Proofs.Tryd.prog 171 1 (c_PReader_Ok NS) [.var 1] := ⟨Go.Proofs.Tryd.f171, _, [0, 2], Go.Proofs.Tryd.func171, rfl, by kernel_rfl, by kernel_rfl, by decide, by kernel_rfl, by kernel_rfl⟩
theorem fok_PTags_Set : FOk Go.Proofs.Tryd.prog 201 3 (c_PTags_Set NS) [] := ⟨Go.Proofs.Tryd.f201, _, [0, 1, 2, 10], Go.Proofs.Tryd.func201, rfl, by kernel_rfl, by kernel_rfl, by decide, by kernel_rfl, by kernel_rfl⟩
theorem fok_internalReadTags : FOk Go.Proofs.Tryd.prog 153 1 (c_internalReadTags NS) [.cell 1 NS.t_Tags] := ⟨Go.Proofs.Tryd.f153, _, [0, 2, 3, 4, 10, 5, 6], Go.Proofs.Tryd.func153, rfl, by kernel_rfl, by kernel_rfl, by decide, by kernel_rfl, by kernel_rfl⟩
theorem fok_PTags_Each : FOk Go.Proofs.Tryd.prog 111 2 (c_PTags_Each NS) [] := ⟨Go.Proofs.Tryd.f111, _, [0, 1, 13, 4, 24, 26, 5, 37, 38, 39, 40, 7], Go.Proofs.Tryd.func111, rfl, by kernel_rfl, by kernel_rfl, by decide, by kernel_rfl, by kernel_rfl⟩
theorem fok_PTags_Each_1 : FOk Go.Proofs.Tryd.prog 156 3 (c_PTags_Each_1 NS) [.var 3] := ⟨Go.Proofs.Tryd.f156, _, [0, 1, 2, 5], Go.Proofs.Tryd.func156, rfl, by kernel_rfl, by kernel_rfl, by decide, by kernel_rfl, by kernel_rfl⟩
theorem fok_sorted : FOk Go.Proofs.Tryd.prog 113 1 (c_sorted NS) [] := ⟨Go.Proofs.Tryd.f113, _, [0, 5, 6, 7, 2, 3, 25], Go.Proofs.Tryd.func113, rfl, by kernel_rfl, by kernel_rfl, by decide, by kernel_rfl, by kernel_rfl⟩
theorem fok_boolTree : FOk Go.Proofs.Tryd.prog 140 1 (c_boolTree NS) [.cell 1 NS.t_Tree] := ⟨Go.Proofs.Tryd.f140, _, [0, 2, 3], Go.Proofs.Tryd.func140, rfl, by kernel_rfl, by kernel_rfl, by decide, by kernel_rfl, by kernel_rfl⟩
theorem fok_textTree : FOk Go.Proofs.Tryd.prog 123 1 (c_textTree NS) [.cell 1 NS.t_Tree] := ⟨Go.Proofs.Tryd.f123, _, [0, 2, 4], Go.Proofs.Tryd.func123, rfl, by kernel_rfl, by kernel_rfl, by decide, by kernel_rfl, by kernel_rfl⟩
theorem fok_octetsTree : FOk Go.Proofs.Tryd.prog 116 1 (c_octetsTree NS) [.cell 1 NS.t_Tree] := ⟨Go.Proofs.Tryd.f116, _, [0, 2], Go.Proofs.Tryd.func116, rfl, by kernel_rfl, by kernel_rfl, by decide, by kernel_rfl, by kernel_rfl⟩
theorem fok_spec_Same : FOk Go.Proofs.Tryd.prog 53 2 (c_spec_Same NS) [.var 2] := ⟨Go.Proofs.Tryd.f53, _, [0, 1, 4, 10, 12, 13, 14, 5, 24], Go.Proofs.Tryd.func53, rfl, by kernel_rfl, by kernel_rfl, by decide, by kernel_rfl, by kernel_rfl⟩
theorem fok_spec_SameTree : FOk Go.Proofs.Tryd.prog 17 2 (c_spec_SameTree NS) [.var 4] := ⟨Go.Proofs.Tryd.f17, _, [0, 1, 2, 3, 4, 44, 47, 48, 49, 5, 62, 66, 67, 68, 6, 98], Go.Proofs.Tryd.func17, rfl, by kernel_rfl, by kernel_rfl, by decide, by kernel_rfl, by kernel_rfl⟩
theorem fok_version : FOk Go.Proofs.Tryd.prog 15 2 (c_version NS) [.var 2] := ⟨Go.Proofs.Tryd.f15, _, [0, 1, 4], Go.Proofs.Tryd.func15, rfl, by kernel_rfl, by kernel_rfl, by decide, by kernel_rfl, by kernel_rfl⟩
theorem fok_got : FOk Go.Proofs.Tryd.prog 18 1 (c_got NS) [.cell 2 NS.t_spec_Tree] := ⟨Go.Proofs.Tryd.f18, _, [0, 1, 2, 3, 16, 17, 18, 19, 5, 31, 32, 33, 34, 7], Go.Proofs.Tryd.func18, rfl, by kernel_rfl, by kernel_rfl, by decide, by kernel_rfl, by kernel_rfl⟩

theorem fnsS : Fns Go.Proofs.Tryd.prog NS where
  bigEndian_Uint16 := fun _ => fok_bigEndian_Uint16
  bigEndian_Uint32 := fun _ => fok_bigEndian_Uint32
  bigEndian_Uint64 := fun _ => fok_bigEndian_Uint64
  UnsafeString := fun _ => fok_UnsafeString
  Uvarint := fun _ => fok_Uvarint
  PReader_Bool := fun _ => fok_PReader_Bool
  PReader_Int8 := fun _ => fok_PReader_Int8
  PReader_Int16 := fun _ => ⟨fok_PReader_Int16, by decide⟩
  PReader_Int32 := fun _ => ⟨fok_PReader_Int32, by decide⟩
  PReader_readUint64 := fun _ => ⟨fok_PReader_readUint64, by decide⟩
  PReader_Int64 := fun _ => ⟨fok_PReader_Int64, by decide⟩
  PReader_Uuid := fun _ => ⟨fok_PReader_Uuid, by decide⟩
  PReader_Uvarint := fun _ => ⟨fok_PReader_Uvarint, by decide⟩
  PReader_Span := fun _ => fok_PReader_Span
  PReader_String := fun _ => ⟨fok_PReader_String, by decide, by decide⟩
  PReader_UnsafeString := fun _ => ⟨fok_PReader_UnsafeString, by decide, by decide, by decide⟩
  PReader_CompactString := fun _ => ⟨fok_PReader_CompactString, by decide, by decide⟩
  PReader_UnsafeCompactString := fun _ => ⟨fok_PReader_UnsafeCompactString, by decide, by decide, by decide⟩
  PReader_NullableString := fun _ => ⟨fok_PReader_NullableString, by decide, by decide⟩
  PReader_UnsafeNullableString := fun _ => ⟨fok_PReader_UnsafeNullableString, by decide, by decide, by decide⟩
  PReader_CompactNullableString := fun _ => ⟨fok_PReader_CompactNullableString, by decide, by decide⟩
  PReader_UnsafeCompactNullableString := fun _ => ⟨fok_PReader_UnsafeCompactNullableString, by decide, by decide, by decide⟩
  PReader_Bytes := fun _ => ⟨fok_PReader_Bytes, by decide, by decide⟩
  PReader_CompactBytes := fun _ => ⟨fok_PReader_CompactBytes, by decide, by decide⟩
  PReader_NullableBytes := fun _ => ⟨fok_PReader_NullableBytes, by decide, by decide⟩
  PReader_CompactNullableBytes := fun _ => ⟨fok_PReader_CompactNullableBytes, by decide, by decide⟩
  PReader_ArrayLen := fun _ => ⟨fok_PReader_ArrayLen, by decide⟩
  PReader_CompactArrayLen := fun _ => ⟨fok_PReader_CompactArrayLen, by decide⟩
  PReader_Complete := fun _ => fok_PReader_Complete
  PReader_Ok := fun _ => fok_PReader_Ok
  PTags_Set := fun _ => fok_PTags_Set
  internalReadTags := fun _ => ⟨fok_internalReadTags, by decide, by decide, by decide⟩
  PTags_Each := fun _ => ⟨fok_PTags_Each, by decide, by decide⟩
  PTags_Each_1 := fun _ => fok_PTags_Each_1
  sorted := fun _ => fok_sorted
  boolTree := fun _ => fok_boolTree
  textTree := fun _ => fok_textTree
  octetsTree := fun _ => fok_octetsTree
  spec_Same := fun _ => fok_spec_Same
  spec_SameTree := fun _ => ⟨fok_spec_SameTree, by decide⟩
  version := fun _ => fok_version
  got := fun _ => fok_got

theorem implT : ImplT Go.Proofs.Tryd.prog NS := ⟨sfB_ok (by kernel_rfl), sfB_ok (by kernel_rfl), hfB_ok (by kernel_rfl), hfB_ok (by kernel_rfl), hfB_ok (by kernel_rfl), hfB_ok (by kernel_rfl), hfB_ok (by kernel_rfl), hfB_ok (by kernel_rfl), hfB_ok (by kernel_rfl), tiB_ok (by kernel_rfl), tiB_ok (by kernel_rfl)⟩
theorem specT : TreeT Go.Proofs.Tryd.prog NS NS.t_spec_Tree NS.t_spec_Tag NS.t_Lspec_Tree NS.t_Lspec_Tag := ⟨sfB_ok (by kernel_rfl), sfB_ok (by kernel_rfl), hfB_ok (by kernel_rfl), hfB_ok (by kernel_rfl), hfB_ok (by kernel_rfl), hfB_ok (by kernel_rfl), hfB_ok (by kernel_rfl), hfB_ok (by kernel_rfl), hfB_ok (by kernel_rfl), tiB_ok (by kernel_rfl), tiB_ok (by kernel_rfl)⟩

def slRen : Go.Shelf.Ren := ⟨fun | 6 => 155 | 10 => 203 | 11 => 204 | 12 => 205 | 13 => 206 | 14 => 207 | 24 => 227 | 25 => 228 | 26 => 229 | 27 => 230 | 28 => 231 | 29 => 232 | 30 => 233 | 31 => 234 | 32 => 235 | 33 => 236 | 34 => 237 | 35 => 238 | 36 => 239 | 37 => 240 | 38 => 241 | 39 => 242 | n => n, fun | 20 => 20 | 26 => 162 | 35 => 197 | 0 => 0 | 37 => 199 | 3 => 3 | 41 => 202 | 44 => 205 | 49 => 55 | 51 => 174 | 4 => 4 | 54 => 222 | 53 => 221 | 58 => 226 | 5 => 5 | 9 => 9 | 60 => 228 | 64 => 231 | 66 => 233 | 67 => 234 | 17 => 17 | 32 => 194 | 33 => 195 | 82 => 249 | 12 => 12 | 75 => 242 | 76 => 243 | 77 => 244 | 78 => 245 | 79 => 246 | 80 => 247 | n => n, fun | n => n⟩
theorem sl6 : Go.Proofs.LaysGg.n6 Go.Proofs.Tryd.prog slRen where
  mixed := by kernel_rfl
  f6 := Go.Proofs.Tryd.func155.trans (congrArg some (by kernel_rfl))
  f10 := Go.Proofs.Tryd.func203.trans (congrArg some (by kernel_rfl))
  f11 := Go.Proofs.Tryd.func204.trans (congrArg some (by kernel_rfl))
  f12 := Go.Proofs.Tryd.func205.trans (congrArg some (by kernel_rfl))
  f13 := Go.Proofs.Tryd.func206.trans (congrArg some (by kernel_rfl))
  f14 := Go.Proofs.Tryd.func207.trans (congrArg some (by kernel_rfl))
  f24 := Go.Proofs.Tryd.func227.trans (congrArg some (by kernel_rfl))
  f25 := Go.Proofs.Tryd.func228.trans (congrArg some (by kernel_rfl))
  f26 := Go.Proofs.Tryd.func229.trans (congrArg some (by kernel_rfl))
  f27 := Go.Proofs.Tryd.func230.trans (congrArg some (by kernel_rfl))
  f28 := Go.Proofs.Tryd.func231.trans (congrArg some (by kernel_rfl))
  f29 := Go.Proofs.Tryd.func232.trans (congrArg some (by kernel_rfl))
  f30 := Go.Proofs.Tryd.func233.trans (congrArg some (by kernel_rfl))
  f31 := Go.Proofs.Tryd.func234.trans (congrArg some (by kernel_rfl))
  f32 := Go.Proofs.Tryd.func235.trans (congrArg some (by kernel_rfl))
  f33 := Go.Proofs.Tryd.func236.trans (congrArg some (by kernel_rfl))
  f34 := Go.Proofs.Tryd.func237.trans (congrArg some (by kernel_rfl))
  f35 := Go.Proofs.Tryd.func238.trans (congrArg some (by kernel_rfl))
  f36 := Go.Proofs.Tryd.func239.trans (congrArg some (by kernel_rfl))
  f37 := Go.Proofs.Tryd.func240.trans (congrArg some (by kernel_rfl))
  f38 := Go.Proofs.Tryd.func241.trans (congrArg some (by kernel_rfl))
  f39 := Go.Proofs.Tryd.func242.trans (congrArg some (by kernel_rfl))
  t0 := Go.Proofs.Tryd.underlying0
  a0 := Go.Proofs.Tryd.isAgg0
  z0 := Go.Proofs.Tryd.sizeOf0
  v0 := Go.Proofs.Tryd.zeroValue0
  i0 := by kernel_rfl
  t3 := Go.Proofs.Tryd.underlying3
  a3 := Go.Proofs.Tryd.isAgg3
  z3 := Go.Proofs.Tryd.sizeOf3
  v3 := Go.Proofs.Tryd.zeroValue3
  i3 := by kernel_rfl
  t4 := Go.Proofs.Tryd.underlying4
  a4 := Go.Proofs.Tryd.isAgg4
  z4 := Go.Proofs.Tryd.sizeOf4
  v4 := Go.Proofs.Tryd.zeroValue4
  i4 := by kernel_rfl
  t5 := Go.Proofs.Tryd.underlying5
  a5 := Go.Proofs.Tryd.isAgg5
  z5 := Go.Proofs.Tryd.sizeOf5
  v5 := Go.Proofs.Tryd.zeroValue5
  i5 := by kernel_rfl
  t9 := Go.Proofs.Tryd.underlying9
  a9 := Go.Proofs.Tryd.isAgg9
  z9 := Go.Proofs.Tryd.sizeOf9
  v9 := Go.Proofs.Tryd.zeroValue9
  i9 := by kernel_rfl
  t12 := Go.Proofs.Tryd.underlying12
  a12 := Go.Proofs.Tryd.isAgg12
  z12 := Go.Proofs.Tryd.sizeOf12
  v12 := Go.Proofs.Tryd.zeroValue12
  i12 := by kernel_rfl
  t17 := Go.Proofs.Tryd.underlying17
  a17 := Go.Proofs.Tryd.isAgg17
  z17 := Go.Proofs.Tryd.sizeOf17
  v17 := Go.Proofs.Tryd.zeroValue17
  i17 := by kernel_rfl
  t20 := Go.Proofs.Tryd.underlying20
  a20 := Go.Proofs.Tryd.isAgg20
  z20 := Go.Proofs.Tryd.sizeOf20
  v20 := Go.Proofs.Tryd.zeroValue20
  i20 := by kernel_rfl
  t26 := Go.Proofs.Tryd.underlying162
  a26 := Go.Proofs.Tryd.isAgg162
  z26 := Go.Proofs.Tryd.sizeOf162
  v26 := Go.Proofs.Tryd.zeroValue162
  i26 := by kernel_rfl
  t32 := Go.Proofs.Tryd.underlying194
  a32 := Go.Proofs.Tryd.isAgg194
  z32 := Go.Proofs.Tryd.sizeOf194
  v32 := Go.Proofs.Tryd.zeroValue194
  i32 := by kernel_rfl
  t33 := Go.Proofs.Tryd.underlying195
  a33 := Go.Proofs.Tryd.isAgg195
  z33 := Go.Proofs.Tryd.sizeOf195
  v33 := Go.Proofs.Tryd.zeroValue195
  i33 := by kernel_rfl
  t35 := Go.Proofs.Tryd.underlying197
  a35 := Go.Proofs.Tryd.isAgg197
  z35 := Go.Proofs.Tryd.sizeOf197
  v35 := Go.Proofs.Tryd.zeroValue197
  i35 := by kernel_rfl
  t37 := Go.Proofs.Tryd.underlying199
  a37 := Go.Proofs.Tryd.isAgg199
  z37 := Go.Proofs.Tryd.sizeOf199
  v37 := Go.Proofs.Tryd.zeroValue199
  i37 := by kernel_rfl
  t41 := Go.Proofs.Tryd.underlying202
  a41 := Go.Proofs.Tryd.isAgg202
  z41 := Go.Proofs.Tryd.sizeOf202
  v41 := Go.Proofs.Tryd.zeroValue202
  i41 := by kernel_rfl
  t44 := Go.Proofs.Tryd.underlying205
  a44 := Go.Proofs.Tryd.isAgg205
  z44 := Go.Proofs.Tryd.sizeOf205
  v44 := Go.Proofs.Tryd.zeroValue205
  i44 := by kernel_rfl
  t49 := Go.Proofs.Tryd.underlying55
  a49 := Go.Proofs.Tryd.isAgg55
  z49 := Go.Proofs.Tryd.sizeOf55
  v49 := Go.Proofs.Tryd.zeroValue55
  i49 := by kernel_rfl
  t51 := Go.Proofs.Tryd.underlying174
  a51 := Go.Proofs.Tryd.isAgg174
  z51 := Go.Proofs.Tryd.sizeOf174
  v51 := Go.Proofs.Tryd.zeroValue174
  i51 := by kernel_rfl
  t53 := Go.Proofs.Tryd.underlying221
  a53 := Go.Proofs.Tryd.isAgg221
  z53 := Go.Proofs.Tryd.sizeOf221
  v53 := Go.Proofs.Tryd.zeroValue221
  i53 := by kernel_rfl
  t54 := Go.Proofs.Tryd.underlying222
  a54 := Go.Proofs.Tryd.isAgg222
  z54 := Go.Proofs.Tryd.sizeOf222
  v54 := Go.Proofs.Tryd.zeroValue222
  i54 := by kernel_rfl
  t58 := Go.Proofs.Tryd.underlying226
  a58 := Go.Proofs.Tryd.isAgg226
  z58 := Go.Proofs.Tryd.sizeOf226
  v58 := Go.Proofs.Tryd.zeroValue226
  i58 := by kernel_rfl
  t60 := Go.Proofs.Tryd.underlying228
  a60 := Go.Proofs.Tryd.isAgg228
  z60 := Go.Proofs.Tryd.sizeOf228
  v60 := Go.Proofs.Tryd.zeroValue228
  i60 := by kernel_rfl
  t64 := Go.Proofs.Tryd.underlying231
  a64 := Go.Proofs.Tryd.isAgg231
  z64 := Go.Proofs.Tryd.sizeOf231
  v64 := Go.Proofs.Tryd.zeroValue231
  i64 := by kernel_rfl
  t66 := Go.Proofs.Tryd.underlying233
  a66 := Go.Proofs.Tryd.isAgg233
  z66 := Go.Proofs.Tryd.sizeOf233
  v66 := Go.Proofs.Tryd.zeroValue233
  i66 := by kernel_rfl
  t67 := Go.Proofs.Tryd.underlying234
  a67 := Go.Proofs.Tryd.isAgg234
  z67 := Go.Proofs.Tryd.sizeOf234
  v67 := Go.Proofs.Tryd.zeroValue234
  i67 := by kernel_rfl
  t75 := Go.Proofs.Tryd.underlying242
  a75 := Go.Proofs.Tryd.isAgg242
  z75 := Go.Proofs.Tryd.sizeOf242
  v75 := Go.Proofs.Tryd.zeroValue242
  i75 := by kernel_rfl
  t76 := Go.Proofs.Tryd.underlying243
  a76 := Go.Proofs.Tryd.isAgg243
  z76 := Go.Proofs.Tryd.sizeOf243
  v76 := Go.Proofs.Tryd.zeroValue243
  i76 := by kernel_rfl
  t77 := Go.Proofs.Tryd.underlying244
  a77 := Go.Proofs.Tryd.isAgg244
  z77 := Go.Proofs.Tryd.sizeOf244
  v77 := Go.Proofs.Tryd.zeroValue244
  i77 := by kernel_rfl
  t78 := Go.Proofs.Tryd.underlying245
  a78 := Go.Proofs.Tryd.isAgg245
  z78 := Go.Proofs.Tryd.sizeOf245
  v78 := Go.Proofs.Tryd.zeroValue245
  i78 := by kernel_rfl
  t79 := Go.Proofs.Tryd.underlying246
  a79 := Go.Proofs.Tryd.isAgg246
  z79 := Go.Proofs.Tryd.sizeOf246
  v79 := Go.Proofs.Tryd.zeroValue246
  i79 := by kernel_rfl
  t80 := Go.Proofs.Tryd.underlying247
  a80 := Go.Proofs.Tryd.isAgg247
  z80 := Go.Proofs.Tryd.sizeOf247
  v80 := Go.Proofs.Tryd.zeroValue247
  i80 := by kernel_rfl
  t82 := Go.Proofs.Tryd.underlying249
  a82 := Go.Proofs.Tryd.isAgg249
  z82 := Go.Proofs.Tryd.sizeOf249
  v82 := Go.Proofs.Tryd.zeroValue249
  i82 := by kernel_rfl

noncomputable def sI : TypeInfo := (Go.Proofs.Tryd.prog.info? NS.t_Luint32).get (by kernel_rfl)
noncomputable def sE : TypeInfo := (Go.Proofs.Tryd.prog.info? NS.t_uint32).get (by kernel_rfl)
theorem sortT : SortT Go.Proofs.Tryd.prog NS where
  has := ⟨_, Go.Proofs.Tryd.func155, by kernel_rfl, by kernel_rfl⟩
  out := ⟨slRen, sI, sE, 223, 219, sl6, by kernel_rfl, by kernel_rfl, by kernel_rfl, by kernel_rfl, by kernel_rfl, fun _ => by kernel_rfl, by kernel_rfl, by kernel_rfl, by kernel_rfl, by kernel_rfl, by kernel_rfl,
    fun args W => run_callFunc_extern Go.Proofs.Tryd.func223 (by kernel_rfl) (by kernel_rfl) (by kernel_rfl) (e := Extern.ReflectliteSwapper.swap true) (by kernel_rfl) args W⟩
theorem lu : LU Go.Proofs.Tryd.prog NS := ⟨tiB_ok (by kernel_rfl)⟩
theorem tellN : TellN Go.Proofs.Tryd.prog NS := ⟨by decide, by decide, by decide, lu, sortOk baseS fnsS (by decide) lu sortT⟩

theorem own : ownKnob Go.Proofs.Tryd.prog.godebug = none := by kernel_rfl
theorem laidOut : laidOutB Go.Proofs.Tryd.prog = true := by kernel_rfl
theorem gO : Go.Proofs.Tryd.prog.globalNamed "pub-mailsack/pub/kmsg/inner/kbin.ErrNotEnoughData" = some 1 := by kernel_rfl
theorem gT : (Go.Proofs.Tryd.prog.globals[1]?).map (·.type) = some 51 := by kernel_rfl
theorem cS : Go.Proofs.Tryd.prog.cellsOf 254 = 1 := by kernel_rfl
theorem cStr : Go.Proofs.Tryd.prog.cellsOf 9 = 1 := by kernel_rfl
theorem star : "*" ++ "errors.errorString" = "*errors.errorString" := by decide
theorem rowP (u : TypeId) (h : Go.Proofs.Tryd.prog.typeName? 3 u = some "*errors.errorString") : u = 236 :=
  typeName_ptr_named (nm := "errors.errorString") (by rw [star]; kernel_rfl) (by kernel_rfl) (by decide) u (by rw [star]; exact h)
theorem bandT {a b : Bool} (h : a = true) (h' : b = true) : (a && b) = true := by rw [h, h']; rfl
theorem bigEnter : Go.Proofs.Tryd.prog.mayEnter = true := by kernel_rfl
theorem bigLifts : (Proofs.YtfiedlfmogpanaaDoor.Rows.fnUnsafeExpireDelegationTokenResponseRow.lifted == Go.Proofs.Tryd.prog.liftsFinal) = true := by kernel_rfl
theorem bigMake : (Go.Proofs.Tryd.prog.make == some Proofs.YtfiedlfmogpanaaDoor.Rows.fnUnsafeExpireDelegationTokenResponseRow.make) = true := by kernel_rfl
theorem stopsHeardS : Go.Proofs.Tryd.prog.stopsHeard = true := by kernel_rfl
theorem mapsRowedS : mapsRowed Go.Proofs.Tryd.prog = true := by kernel_rfl
theorem plainKeysS : (Proofs.YtfiedlfmogpanaaDoor.Rows.fnUnsafeExpireDelegationTokenResponseRow.plainKeys == Go.Proofs.Tryd.prog.plainKeys) = true := by kernel_rfl
theorem mainS : Go.Proofs.Tryd.prog.mainIs = some (Proofs.YtfiedlfmogpanaaDoor.Rows.fnUnsafeExpireDelegationTokenResponseCard.stood.harness.1, Proofs.YtfiedlfmogpanaaDoor.Rows.fnUnsafeExpireDelegationTokenResponseCard.stood.harness.2.toList) := by kernel_rfl
theorem looksS : false = Go.Proofs.Tryd.prog.looks [] := by kernel_rfl
theorem shaped (os : Os) (args : Array Value) : ((World.doorLaid Go.Proofs.Tryd.prog 400 os).forCall (fun _ _ => 0) ⟨#[], args, []⟩).Shaped Go.Proofs.Tryd.prog := World.shaped_of_RefB (by kernel_rfl) (by kernel_rfl)
theorem door_met (os : Os) (args : Array Value) : laidMetH Go.Proofs.Tryd.prog Proofs.YtfiedlfmogpanaaDoor.Rows.fnUnsafeExpireDelegationTokenResponseRow.laid ((World.doorLaid Go.Proofs.Tryd.prog 400 os).forCall (fun _ _ => 0) ⟨#[], args, []⟩).memory :=
  laidMetH_of_parts3 (fuel := 8) (laidMet_of_run' 8 (by kernel_rfl) (by kernel_rfl)) (by kernel_rfl) (by kernel_rfl)
end Go.Kf
