/- Closed facts of this translation: its numbers, its shared functions' codes, its types; no condition. -/
import Derived.Test.YtccgofjnacenhaaDoorDf
import Derived.Test.YtccgofjnacenhaaDoorDf
import Derived.Shelf.GgSortFunc.Whole
import Derived.Test.YtccgofjnacenhaaDoorRows
import Derived.Test.YtccgofjnacenhaaDoorTie
import Derived.Test.YtccgofjnacenhaaDoorCards
import Derived.LaidMore
import Derived.Stop.Joined
import Derived.Stop.LaidErr
import Derived.SevenTiedAt
import Derived.Deep.DeepHandedRow
import Derived.JoinedCond
set_option linter.unusedSimpArgs false
set_option linter.unusedVariables false
set_option maxRecDepth 100000
namespace Go.Kf
open Go

def NS : Nums where
  zck := 38
  zbm := 37
  zcr := 44
  zbb := 40
  zba := 61
  zbs := 36
  zek := 39
  zad := 60
  zdm := 45
  zbw := 42
  zcg := 43
  zag := 58
  zfu := 26
  zcv := 49
  zgu := 62
  zcp := 59
  zjn := 68
  zdl := 69
  zdk := 57
  zpp := 11
  zcy := 46
  zft := 48
  zlv := 28
  zih := 55
  zjm := 7
  zez := 0
  zaj := 1
  t_ := 0
  zee := 35
  zx := 34
  zj := 24
  zy := 23
  zbc := 99
  za := 22
  zay := 97
  zab := 91
  zgz := 62
  zdd := 68
  zz := 37
  zbr := 111
  zar := 4
  zgo := 54
  zml := 101
  zly := 78
  zf := 3
  zcf := 45
  zcq := 21
  zbd := 2
  zse := 88
  zwn := 20
  zae := 66
  zaa := 63
  ze := 26
  zat := 9
  zgl := 109
  zfx := 89
  zi := 60
  zur := 127
  zam := 85
  zq := 5

def MS : zcl where
  zep := 29
  zfd := 50
  zdy := 54
  zud := 110
  zco := 33
  zkw := 9
  zgd := 21
  zdg := 52
  zhf := 30
  zhe := 31
  zdx := 22
  zif := 20
  zhn := 51
  zjd := 34
  zvo := 32
  zhd := 53
  zej := 35
  zit := 56
  zqy := 4
  zqx := 12
  znx := 23
  zah := 29
  zh := 50
  zas := 31

theorem baseS : Base Go.Proofs.Tryd.prog NS := base_ok (by kernel_rfl) (by kernel_rfl) (by kernel_rfl)

theorem fok_bigEndian_Uint16 : FOk Go.Proofs.Tryd.prog 69 2 (ziy NS) [.var 2] := ⟨Go.Proofs.Tryd.f69, _, [0, 1, 4], Go.Proofs.Tryd.func69, rfl, by kernel_rfl, by kernel_rfl, by decide, by kernel_rfl, by kernel_rfl⟩
theorem fok_bigEndian_Uint32 : FOk Go.Proofs.Tryd.prog 57 2 (zix NS) [.var 2] := ⟨Go.Proofs.Tryd.f57, _, [0, 1, 4], Go.Proofs.Tryd.func57, rfl, by kernel_rfl, by kernel_rfl, by decide, by kernel_rfl, by kernel_rfl⟩
theorem fok_UnsafeString : FOk Go.Proofs.Tryd.prog 59 1 (zmf NS) [.var 1] := ⟨Go.Proofs.Tryd.f59, _, [0, 2], Go.Proofs.Tryd.func59, rfl, by kernel_rfl, by kernel_rfl, by decide, by kernel_rfl, by kernel_rfl⟩
theorem fok_Uvarint : FOk Go.Proofs.Tryd.prog 68 1 (zvx NS) [.var 1, .var 2] := ⟨Go.Proofs.Tryd.f68, _, [0, 2, 3, 4, 5, 8, 18, 22, 35, 39, 52, 56, 69, 73, 84], Go.Proofs.Tryd.func68, rfl, by kernel_rfl, by kernel_rfl, by decide, by kernel_rfl, by kernel_rfl⟩
theorem fok_PReader_Int16 : FOk Go.Proofs.Tryd.prog 61 1 (zri NS) [.var 1] := ⟨Go.Proofs.Tryd.f61, _, [0, 2, 9, 3], Go.Proofs.Tryd.func61, rfl, by kernel_rfl, by kernel_rfl, by decide, by kernel_rfl, by kernel_rfl⟩
theorem fok_PReader_Int32 : FOk Go.Proofs.Tryd.prog 36 1 (zrh NS) [.var 1] := ⟨Go.Proofs.Tryd.f36, _, [0, 2, 9, 3], Go.Proofs.Tryd.func36, rfl, by kernel_rfl, by kernel_rfl, by decide, by kernel_rfl, by kernel_rfl⟩
theorem fok_PReader_Uvarint : FOk Go.Proofs.Tryd.prog 58 1 (zjo NS) [.var 1] := ⟨Go.Proofs.Tryd.f58, _, [0, 2, 3, 4, 14], Go.Proofs.Tryd.func58, rfl, by kernel_rfl, by kernel_rfl, by decide, by kernel_rfl, by kernel_rfl⟩
theorem fok_PReader_Span : FOk Go.Proofs.Tryd.prog 60 2 (zmi NS) [.var 2] := ⟨Go.Proofs.Tryd.f60, _, [0, 1, 4, 16, 5], Go.Proofs.Tryd.func60, rfl, by kernel_rfl, by kernel_rfl, by decide, by kernel_rfl, by kernel_rfl⟩
theorem fok_PReader_String : FOk Go.Proofs.Tryd.prog 45 1 (zkj NS) [.var 1] := ⟨Go.Proofs.Tryd.f45, _, [0, 2, 3], Go.Proofs.Tryd.func45, rfl, by kernel_rfl, by kernel_rfl, by decide, by kernel_rfl, by kernel_rfl⟩
theorem fok_PReader_UnsafeString : FOk Go.Proofs.Tryd.prog 43 1 (zgm NS) [.var 1] := ⟨Go.Proofs.Tryd.f43, _, [0, 2, 3], Go.Proofs.Tryd.func43, rfl, by kernel_rfl, by kernel_rfl, by decide, by kernel_rfl, by kernel_rfl⟩
theorem fok_PReader_CompactString : FOk Go.Proofs.Tryd.prog 44 1 (zgg NS) [.var 1] := ⟨Go.Proofs.Tryd.f44, _, [0, 2, 3], Go.Proofs.Tryd.func44, rfl, by kernel_rfl, by kernel_rfl, by decide, by kernel_rfl, by kernel_rfl⟩
theorem fok_PReader_UnsafeCompactString : FOk Go.Proofs.Tryd.prog 42 1 (zeq NS) [.var 1] := ⟨Go.Proofs.Tryd.f42, _, [0, 2, 3], Go.Proofs.Tryd.func42, rfl, by kernel_rfl, by kernel_rfl, by decide, by kernel_rfl, by kernel_rfl⟩
theorem fok_PReader_ArrayLen : FOk Go.Proofs.Tryd.prog 38 1 (zja NS) [.var 1] := ⟨Go.Proofs.Tryd.f38, _, [0, 2, 3, 13], Go.Proofs.Tryd.func38, rfl, by kernel_rfl, by kernel_rfl, by decide, by kernel_rfl, by kernel_rfl⟩
theorem fok_PReader_CompactArrayLen : FOk Go.Proofs.Tryd.prog 37 1 (zfi NS) [.var 1] := ⟨Go.Proofs.Tryd.f37, _, [0, 2, 3, 15], Go.Proofs.Tryd.func37, rfl, by kernel_rfl, by kernel_rfl, by decide, by kernel_rfl, by kernel_rfl⟩
theorem fok_PReader_Complete : FOk Go.Proofs.Tryd.prog 40 1 (ziz NS) [.var 1] := ⟨Go.Proofs.Tryd.f40, _, [0, 2, 6], Go.Proofs.Tryd.func40, rfl, by kernel_rfl, by kernel_rfl, by decide, by kernel_rfl, by kernel_rfl⟩
theorem fok_PReader_Ok : FOk Go.Proofs.Tryd.prog 39 1 (zpl NS) [.var 1] := ⟨Go.Proofs.Tryd.f39, _, [0, 2], Go.Proofs.Tryd.func39, rfl, by kernel_rfl, by kernel_rfl, by decide, by kernel_rfl, by kernel_rfl⟩
theorem fok_PTags_Set : FOk Go.Proofs.Tryd.prog 62 3 (zrg NS) [] := ⟨Go.Proofs.Tryd.f62, _, [0, 1, 2, 10], Go.Proofs.Tryd.func62, rfl, by kernel_rfl, by kernel_rfl, by decide, by kernel_rfl, by kernel_rfl⟩
theorem fok_internalReadTags : FOk Go.Proofs.Tryd.prog 46 1 (ziv NS) [.cell 1 NS.zdd] := ⟨Go.Proofs.Tryd.f46, _, [0, 2, 3, 4, 10, 5, 6], Go.Proofs.Tryd.func46, rfl, by kernel_rfl, by kernel_rfl, by decide, by kernel_rfl, by kernel_rfl⟩
theorem fok_PTags_Each : FOk Go.Proofs.Tryd.prog 26 2 (zpk NS) [] := ⟨Go.Proofs.Tryd.f26, _, [0, 1, 13, 4, 24, 26, 5, 37, 38, 39, 40, 7], Go.Proofs.Tryd.func26, rfl, by kernel_rfl, by kernel_rfl, by decide, by kernel_rfl, by kernel_rfl⟩
theorem fok_PTags_Each_1 : FOk Go.Proofs.Tryd.prog 49 3 (zmg NS) [.var 3] := ⟨Go.Proofs.Tryd.f49, _, [0, 1, 2, 5], Go.Proofs.Tryd.func49, rfl, by kernel_rfl, by kernel_rfl, by decide, by kernel_rfl, by kernel_rfl⟩
theorem fok_sorted : FOk Go.Proofs.Tryd.prog 28 1 (c_sorted NS) [] := ⟨Go.Proofs.Tryd.f28, _, [0, 5, 6, 7, 2, 3, 25], Go.Proofs.Tryd.func28, rfl, by kernel_rfl, by kernel_rfl, by decide, by kernel_rfl, by kernel_rfl⟩
theorem fok_spec_Same : FOk Go.Proofs.Tryd.prog 55 2 (zxk NS) [.var 2] := ⟨Go.Proofs.Tryd.f55, _, [0, 1, 4, 10, 12, 13, 14, 5, 24], Go.Proofs.Tryd.func55, rfl, by kernel_rfl, by kernel_rfl, by decide, by kernel_rfl, by kernel_rfl⟩
theorem fok_version : FOk Go.Proofs.Tryd.prog 7 2 (zvw NS) [.var 2] := ⟨Go.Proofs.Tryd.f7, _, [0, 1, 4], Go.Proofs.Tryd.func7, rfl, by kernel_rfl, by kernel_rfl, by decide, by kernel_rfl, by kernel_rfl⟩
theorem fok_got : FOk Go.Proofs.Tryd.prog 11 1 (c_got NS) [.cell 2 NS.ze] := ⟨Go.Proofs.Tryd.f11, _, [0, 1, 2, 3, 16, 17, 18, 19, 5, 31, 32, 33, 34, 7], Go.Proofs.Tryd.func11, rfl, by kernel_rfl, by kernel_rfl, by decide, by kernel_rfl, by kernel_rfl⟩

theorem fnsS : Fns Go.Proofs.Tryd.prog NS where
  bigEndian_Uint16 := fun _ => fok_bigEndian_Uint16
  bigEndian_Uint32 := fun _ => fok_bigEndian_Uint32
  bigEndian_Uint64 := fun h => absurd rfl h
  UnsafeString := fun _ => fok_UnsafeString
  Uvarint := fun _ => fok_Uvarint
  PReader_Bool := fun h => absurd rfl h
  PReader_Int8 := fun h => absurd rfl h
  PReader_Int16 := fun _ => ⟨fok_PReader_Int16, by decide⟩
  PReader_Int32 := fun _ => ⟨fok_PReader_Int32, by decide⟩
  PReader_readUint64 := fun h => absurd rfl h
  PReader_Int64 := fun h => absurd rfl h
  PReader_Uuid := fun h => absurd rfl h
  PReader_Uvarint := fun _ => ⟨fok_PReader_Uvarint, by decide⟩
  PReader_Span := fun _ => fok_PReader_Span
  PReader_String := fun _ => ⟨fok_PReader_String, by decide, by decide⟩
  PReader_UnsafeString := fun _ => ⟨fok_PReader_UnsafeString, by decide, by decide, by decide⟩
  PReader_CompactString := fun _ => ⟨fok_PReader_CompactString, by decide, by decide⟩
  PReader_UnsafeCompactString := fun _ => ⟨fok_PReader_UnsafeCompactString, by decide, by decide, by decide⟩
  PReader_NullableString := fun h => absurd rfl h
  PReader_UnsafeNullableString := fun h => absurd rfl h
  PReader_CompactNullableString := fun h => absurd rfl h
  PReader_UnsafeCompactNullableString := fun h => absurd rfl h
  PReader_Bytes := fun h => absurd rfl h
  PReader_CompactBytes := fun h => absurd rfl h
  PReader_NullableBytes := fun h => absurd rfl h
  PReader_CompactNullableBytes := fun h => absurd rfl h
  PReader_ArrayLen := fun _ => ⟨fok_PReader_ArrayLen, by decide⟩
  PReader_CompactArrayLen := fun _ => ⟨fok_PReader_CompactArrayLen, by decide⟩
  PReader_Complete := fun _ => fok_PReader_Complete
  PReader_Ok := fun _ => fok_PReader_Ok
  PTags_Set := fun _ => fok_PTags_Set
  internalReadTags := fun _ => ⟨fok_internalReadTags, by decide, by decide, by decide⟩
  PTags_Each := fun _ => ⟨fok_PTags_Each, by decide, by decide⟩
  PTags_Each_1 := fun _ => fok_PTags_Each_1
  sorted := fun _ => fok_sorted
  boolTree := fun h => absurd rfl h
  textTree := fun h => absurd rfl h
  octetsTree := fun h => absurd rfl h
  spec_Same := fun _ => fok_spec_Same
  spec_SameTree := fun h => absurd rfl h
  version := fun _ => fok_version
  got := fun _ => fok_got

theorem implT : zev Go.Proofs.Tryd.prog NS := ⟨sfB_ok (by kernel_rfl), sfB_ok (by kernel_rfl), zss (by kernel_rfl), zss (by kernel_rfl), zss (by kernel_rfl), zss (by kernel_rfl), zss (by kernel_rfl), zss (by kernel_rfl), zss (by kernel_rfl), zhi (by kernel_rfl), zhi (by kernel_rfl)⟩
theorem specT : zfq Go.Proofs.Tryd.prog NS NS.ze NS.zaa NS.zy NS.zj := ⟨sfB_ok (by kernel_rfl), sfB_ok (by kernel_rfl), zss (by kernel_rfl), zss (by kernel_rfl), zss (by kernel_rfl), zss (by kernel_rfl), zss (by kernel_rfl), zss (by kernel_rfl), zss (by kernel_rfl), zhi (by kernel_rfl), zhi (by kernel_rfl)⟩
theorem spT : SpT Go.Proofs.Tryd.prog NS MS := ⟨sfB_ok (by kernel_rfl), zss (by kernel_rfl), zss (by kernel_rfl), zss (by kernel_rfl), zss (by kernel_rfl), zss (by kernel_rfl), zss (by kernel_rfl), zss (by kernel_rfl), zss (by kernel_rfl), zhi (by kernel_rfl), sfB_ok (by kernel_rfl), zss (by kernel_rfl), zss (by kernel_rfl), specT⟩
theorem treeO : TreeO Go.Proofs.Tryd.prog NS where
  tree := ⟨_, Go.Proofs.Tryd.underlying26, by kernel_rfl⟩
  tag := ⟨_, Go.Proofs.Tryd.underlying63, by kernel_rfl⟩
  cTree := by kernel_rfl
  cTag := by kernel_rfl
  c1 := ⟨by kernel_rfl, by kernel_rfl, by kernel_rfl, by kernel_rfl, by kernel_rfl, by kernel_rfl, by kernel_rfl⟩
theorem sp_zzFits3 : FOk Go.Proofs.Tryd.prog 23 1 (zrc NS MS) [.var 2] := ⟨Go.Proofs.Tryd.f23, _, [0, 1, 2, 6], Go.Proofs.Tryd.func23, rfl, by kernel_rfl, by kernel_rfl, by decide, by kernel_rfl, by kernel_rfl⟩
theorem sp_zzFits2 : FOk Go.Proofs.Tryd.prog 12 1 (zvu NS MS) [.var 1] := ⟨Go.Proofs.Tryd.f12, _, [0, 2, 7, 8, 9, 10, 11, 4, 16], Go.Proofs.Tryd.func12, rfl, by kernel_rfl, by kernel_rfl, by decide, by kernel_rfl, by kernel_rfl⟩
theorem sp_zzFits1 : FOk Go.Proofs.Tryd.prog 4 1 (zvv NS MS) [.var 2] := ⟨Go.Proofs.Tryd.f4, _, [0, 1, 2, 6, 10, 14], Go.Proofs.Tryd.func4, rfl, by kernel_rfl, by kernel_rfl, by decide, by kernel_rfl, by kernel_rfl⟩
theorem sp_spec_Field_has : FOk Go.Proofs.Tryd.prog 29 2 (zhh NS MS) [.var 3] := ⟨Go.Proofs.Tryd.f29, _, [0, 1, 2, 4], Go.Proofs.Tryd.func29, rfl, by kernel_rfl, by kernel_rfl, by decide, by kernel_rfl, by kernel_rfl⟩
theorem sp_spec_Field_null : FOk Go.Proofs.Tryd.prog 50 3 (zgv NS MS) [.var 5] := ⟨Go.Proofs.Tryd.f50, _, [0, 1, 2, 3, 5, 6], Go.Proofs.Tryd.func50, rfl, by kernel_rfl, by kernel_rfl, by decide, by kernel_rfl, by kernel_rfl⟩
theorem sp_spec_whole : FOk Go.Proofs.Tryd.prog 35 1 (zlb NS MS) [.var 1] := ⟨Go.Proofs.Tryd.f35, _, [0, 2], Go.Proofs.Tryd.func35, rfl, by kernel_rfl, by kernel_rfl, by decide, by kernel_rfl, by kernel_rfl⟩
theorem sp_spec_things : FOk Go.Proofs.Tryd.prog 51 1 (zkd NS MS) [.var 1] := ⟨Go.Proofs.Tryd.f51, _, [0, 2], Go.Proofs.Tryd.func51, rfl, by kernel_rfl, by kernel_rfl, by decide, by kernel_rfl, by kernel_rfl⟩
theorem sp_spec_at : FOk Go.Proofs.Tryd.prog 21 2 (zre NS MS) [.cell 3 NS.ze] := ⟨Go.Proofs.Tryd.f21, _, [0, 1, 2, 4, 9], Go.Proofs.Tryd.func21, rfl, by kernel_rfl, by kernel_rfl, by decide, by kernel_rfl, by kernel_rfl⟩
theorem sp_spec_Uvarint : FOk Go.Proofs.Tryd.prog 33 1 (zgx NS MS) [.var 1] := ⟨Go.Proofs.Tryd.f33, _, [0, 2, 3, 5], Go.Proofs.Tryd.func33, rfl, by kernel_rfl, by kernel_rfl, by decide, by kernel_rfl, by kernel_rfl⟩
theorem sp_spec_Fixed : FOk Go.Proofs.Tryd.prog 54 2 (ziu NS MS) [.var 2] := ⟨Go.Proofs.Tryd.f54, _, [0, 1, 4, 5, 6, 10], Go.Proofs.Tryd.func54, rfl, by kernel_rfl, by kernel_rfl, by decide, by kernel_rfl, by kernel_rfl⟩
theorem sp_spec_width : FOk Go.Proofs.Tryd.prog 56 1 (zla NS MS) [.var 1] := ⟨Go.Proofs.Tryd.f56, _, [0, 2, 3, 4, 6, 9], Go.Proofs.Tryd.func56, rfl, by kernel_rfl, by kernel_rfl, by decide, by kernel_rfl, by kernel_rfl⟩
theorem sp_spec_counted : FOk Go.Proofs.Tryd.prog 52 4 (zje NS MS) [.var 4] := ⟨Go.Proofs.Tryd.f52, _, [0, 1, 2, 3, 8, 9, 15, 21], Go.Proofs.Tryd.func52, rfl, by kernel_rfl, by kernel_rfl, by decide, by kernel_rfl, by kernel_rfl⟩
theorem sp_spec_value : FOk Go.Proofs.Tryd.prog 53 6 (zpg NS MS) [.var 7] := ⟨Go.Proofs.Tryd.f53, _, [0, 1, 2, 3, 4, 5, 11, 12, 16, 17, 24, 13, 32, 14, 37, 45, 15, 50, 58], Go.Proofs.Tryd.func53, rfl, by kernel_rfl, by kernel_rfl, by decide, by kernel_rfl, by kernel_rfl⟩
theorem sp_spec_field : FOk Go.Proofs.Tryd.prog 30 4 (zph NS MS) [.var 6] := ⟨Go.Proofs.Tryd.f30, _, [0, 1, 2, 3, 4, 7, 8, 9, 19, 10, 23, 11, 30, 31, 32, 12, 56, 57], Go.Proofs.Tryd.func30, rfl, by kernel_rfl, by kernel_rfl, by decide, by kernel_rfl, by kernel_rfl⟩
theorem sp_spec_known : FOk Go.Proofs.Tryd.prog 31 1 (zlc NS MS) [.var 1] := ⟨Go.Proofs.Tryd.f31, _, [0, 2, 3, 6, 7, 8, 9, 5, 14], Go.Proofs.Tryd.func31, rfl, by kernel_rfl, by kernel_rfl, by decide, by kernel_rfl, by kernel_rfl⟩
theorem sp_spec_unknown : FOk Go.Proofs.Tryd.prog 34 2 (zme NS MS) [.var 2] := ⟨Go.Proofs.Tryd.f34, _, [0, 1, 4, 5, 6, 17, 18, 19, 20, 8, 9, 36, 58, 10, 68], Go.Proofs.Tryd.func34, rfl, by kernel_rfl, by kernel_rfl, by decide, by kernel_rfl, by kernel_rfl⟩
theorem sp_spec_part : FOk Go.Proofs.Tryd.prog 20 4 (zrd NS MS) [.var 5] := ⟨Go.Proofs.Tryd.f20, _, [0, 1, 2, 3, 7, 8, 9, 10, 11, 21, 22, 23, 24, 13, 12, 35, 47, 51, 52, 53, 14, 55, 56, 57, 58, 16, 15, 73, 17, 100, 101, 102, 103, 19, 20], Go.Proofs.Tryd.func20, rfl, by kernel_rfl, by kernel_rfl, by decide, by kernel_rfl, by kernel_rfl⟩
theorem sp_spec_Write : FOk Go.Proofs.Tryd.prog 9 3 (zpi NS MS) [.var 5] := ⟨Go.Proofs.Tryd.f9, _, [0, 1, 2, 3, 5, 6], Go.Proofs.Tryd.func9, rfl, by kernel_rfl, by kernel_rfl, by decide, by kernel_rfl, by kernel_rfl⟩
theorem sp_spec_number : FOk Go.Proofs.Tryd.prog 22 2 (zge NS MS) [.var 2] := ⟨Go.Proofs.Tryd.f22, _, [0, 1, 4, 5, 6, 10, 15, 20, 25], Go.Proofs.Tryd.func22, rfl, by kernel_rfl, by kernel_rfl, by decide, by kernel_rfl, by kernel_rfl⟩
theorem thSZ : SZ Go.Proofs.Tryd.prog NS MS := ⟨sp_zzFits3, sp_zzFits2, sp_zzFits1⟩
theorem thSW : SW Go.Proofs.Tryd.prog NS MS := ⟨sp_spec_Field_has, sp_spec_Field_null, sp_spec_whole, sp_spec_things, sp_spec_at, sp_spec_Uvarint, sp_spec_Fixed, sp_spec_width, sp_spec_counted, sp_spec_value, sp_spec_field, sp_spec_known, sp_spec_unknown, sp_spec_part, sp_spec_Write⟩
theorem sp_df : FOk Go.Proofs.Tryd.prog 10 2 (zxm NS MS) [.var 3] := ⟨Go.Proofs.Tryd.f10, _, [0, 1, 3, 4, 7, 8, 9, 10, 6, 5, 28], Go.Proofs.Tryd.func10, rfl, by kernel_rfl, by kernel_rfl, by decide, by kernel_rfl, by kernel_rfl⟩
theorem fpT : FP Go.Proofs.Tryd.prog NS.ze 0 0 := fpB_ok (by kernel_rfl)
theorem bulkF (H : Type) : BulkF (Proofs.YtccgofjnacenhaaDoor.Rows.uptoBulk (H := H)) Proofs.YtccgofjnacenhaaDoor.Rows.uptoBulkAll := ⟨fun l => by cases l <;> simp [Proofs.YtccgofjnacenhaaDoor.Rows.uptoBulk], fun _ _ => rfl, fun _ => rfl, rfl, rfl, fun _ _ => rfl⟩

def slRen : Go.Shelf.Ren := ⟨fun | 6 => 48 | 10 => 63 | 11 => 64 | 12 => 65 | 13 => 66 | 14 => 67 | 24 => 79 | 25 => 80 | 26 => 81 | 27 => 82 | 28 => 83 | 29 => 84 | 30 => 85 | 31 => 86 | 32 => 87 | 33 => 88 | 34 => 89 | 35 => 90 | 36 => 91 | 37 => 92 | 38 => 93 | 39 => 94 | n => n, fun | 20 => 20 | 26 => 101 | 35 => 119 | 0 => 0 | 37 => 121 | 3 => 3 | 41 => 109 | 44 => 126 | 49 => 60 | 51 => 85 | 4 => 4 | 54 => 137 | 53 => 136 | 58 => 141 | 5 => 5 | 9 => 9 | 60 => 143 | 64 => 147 | 66 => 149 | 67 => 150 | 17 => 17 | 32 => 116 | 33 => 117 | 82 => 165 | 12 => 12 | 75 => 158 | 76 => 159 | 77 => 160 | 78 => 161 | 79 => 162 | 80 => 163 | n => n, fun | n => n⟩
theorem sl6 : Go.Proofs.LaysGg.n6 Go.Proofs.Tryd.prog slRen where
  mixed := by kernel_rfl
  f6 := Go.Proofs.Tryd.func48.trans (congrArg some (by kernel_rfl))
  f10 := Go.Proofs.Tryd.func63.trans (congrArg some (by kernel_rfl))
  f11 := Go.Proofs.Tryd.func64.trans (congrArg some (by kernel_rfl))
  f12 := Go.Proofs.Tryd.func65.trans (congrArg some (by kernel_rfl))
  f13 := Go.Proofs.Tryd.func66.trans (congrArg some (by kernel_rfl))
  f14 := Go.Proofs.Tryd.func67.trans (congrArg some (by kernel_rfl))
  f24 := Go.Proofs.Tryd.func79.trans (congrArg some (by kernel_rfl))
  f25 := Go.Proofs.Tryd.func80.trans (congrArg some (by kernel_rfl))
  f26 := Go.Proofs.Tryd.func81.trans (congrArg some (by kernel_rfl))
  f27 := Go.Proofs.Tryd.func82.trans (congrArg some (by kernel_rfl))
  f28 := Go.Proofs.Tryd.func83.trans (congrArg some (by kernel_rfl))
  f29 := Go.Proofs.Tryd.func84.trans (congrArg some (by kernel_rfl))
  f30 := Go.Proofs.Tryd.func85.trans (congrArg some (by kernel_rfl))
  f31 := Go.Proofs.Tryd.func86.trans (congrArg some (by kernel_rfl))
  f32 := Go.Proofs.Tryd.func87.trans (congrArg some (by kernel_rfl))
  f33 := Go.Proofs.Tryd.func88.trans (congrArg some (by kernel_rfl))
  f34 := Go.Proofs.Tryd.func89.trans (congrArg some (by kernel_rfl))
  f35 := Go.Proofs.Tryd.func90.trans (congrArg some (by kernel_rfl))
  f36 := Go.Proofs.Tryd.func91.trans (congrArg some (by kernel_rfl))
  f37 := Go.Proofs.Tryd.func92.trans (congrArg some (by kernel_rfl))
  f38 := Go.Proofs.Tryd.func93.trans (congrArg some (by kernel_rfl))
  f39 := Go.Proofs.Tryd.func94.trans (congrArg some (by kernel_rfl))
  t0 := Go.Proofs.Tryd.underlying0
  a0 := Go.Proofs.Tryd.isAgg0
  z0 := Go.Proofs.Tryd.sizeOf0
  v0 := Go.Proofs.Tryd.zeroValue0
  i0 := by kernel_rfl
  t3 := Go.Proofs.Tryd.underlying3
  a3 := Go.Proofs.Tryd.isAgg3
  z3 := Go.Proofs.Tryd.sizeOf3
  v3 := Go.Proofs.Tryd.zeroValue3
  i3 := by kernel_rfl
  t4 := Go.Proofs.Tryd.underlying4
  a4 := Go.Proofs.Tryd.isAgg4
  z4 := Go.Proofs.Tryd.sizeOf4
  v4 := Go.Proofs.Tryd.zeroValue4
  i4 := by kernel_rfl
  t5 := Go.Proofs.Tryd.underlying5
  a5 := Go.Proofs.Tryd.isAgg5
  z5 := Go.Proofs.Tryd.sizeOf5
  v5 := Go.Proofs.Tryd.zeroValue5
  i5 := by kernel_rfl
  t9 := Go.Proofs.Tryd.underlying9
  a9 := Go.Proofs.Tryd.isAgg9
  z9 := Go.Proofs.Tryd.sizeOf9
  v9 := Go.Proofs.Tryd.zeroValue9
  i9 := by kernel_rfl
  t12 := Go.Proofs.Tryd.underlying12
  a12 := Go.Proofs.Tryd.isAgg12
  z12 := Go.Proofs.Tryd.sizeOf12
  v12 := Go.Proofs.Tryd.zeroValue12
  i12 := by kernel_rfl
  t17 := Go.Proofs.Tryd.underlying17
  a17 := Go.Proofs.Tryd.isAgg17
  z17 := Go.Proofs.Tryd.sizeOf17
  v17 := Go.Proofs.Tryd.zeroValue17
  i17 := by kernel_rfl
  t20 := Go.Proofs.Tryd.underlying20
  a20 := Go.Proofs.Tryd.isAgg20
  z20 := Go.Proofs.Tryd.sizeOf20
  v20 := Go.Proofs.Tryd.zeroValue20
  i20 := by kernel_rfl
  t26 := Go.Proofs.Tryd.underlying101
  a26 := Go.Proofs.Tryd.isAgg101
  z26 := Go.Proofs.Tryd.sizeOf101
  v26 := Go.Proofs.Tryd.zeroValue101
  i26 := by kernel_rfl
  t32 := Go.Proofs.Tryd.underlying116
  a32 := Go.Proofs.Tryd.isAgg116
  z32 := Go.Proofs.Tryd.sizeOf116
  v32 := Go.Proofs.Tryd.zeroValue116
  i32 := by kernel_rfl
  t33 := Go.Proofs.Tryd.underlying117
  a33 := Go.Proofs.Tryd.isAgg117
  z33 := Go.Proofs.Tryd.sizeOf117
  v33 := Go.Proofs.Tryd.zeroValue117
  i33 := by kernel_rfl
  t35 := Go.Proofs.Tryd.underlying119
  a35 := Go.Proofs.Tryd.isAgg119
  z35 := Go.Proofs.Tryd.sizeOf119
  v35 := Go.Proofs.Tryd.zeroValue119
  i35 := by kernel_rfl
  t37 := Go.Proofs.Tryd.underlying121
  a37 := Go.Proofs.Tryd.isAgg121
  z37 := Go.Proofs.Tryd.sizeOf121
  v37 := Go.Proofs.Tryd.zeroValue121
  i37 := by kernel_rfl
  t41 := Go.Proofs.Tryd.underlying109
  a41 := Go.Proofs.Tryd.isAgg109
  z41 := Go.Proofs.Tryd.sizeOf109
  v41 := Go.Proofs.Tryd.zeroValue109
  i41 := by kernel_rfl
  t44 := Go.Proofs.Tryd.underlying126
  a44 := Go.Proofs.Tryd.isAgg126
  z44 := Go.Proofs.Tryd.sizeOf126
  v44 := Go.Proofs.Tryd.zeroValue126
  i44 := by kernel_rfl
  t49 := Go.Proofs.Tryd.underlying60
  a49 := Go.Proofs.Tryd.isAgg60
  z49 := Go.Proofs.Tryd.sizeOf60
  v49 := Go.Proofs.Tryd.zeroValue60
  i49 := by kernel_rfl
  t51 := Go.Proofs.Tryd.underlying85
  a51 := Go.Proofs.Tryd.isAgg85
  z51 := Go.Proofs.Tryd.sizeOf85
  v51 := Go.Proofs.Tryd.zeroValue85
  i51 := by kernel_rfl
  t53 := Go.Proofs.Tryd.underlying136
  a53 := Go.Proofs.Tryd.isAgg136
  z53 := Go.Proofs.Tryd.sizeOf136
  v53 := Go.Proofs.Tryd.zeroValue136
  i53 := by kernel_rfl
  t54 := Go.Proofs.Tryd.underlying137
  a54 := Go.Proofs.Tryd.isAgg137
  z54 := Go.Proofs.Tryd.sizeOf137
  v54 := Go.Proofs.Tryd.zeroValue137
  i54 := by kernel_rfl
  t58 := Go.Proofs.Tryd.underlying141
  a58 := Go.Proofs.Tryd.isAgg141
  z58 := Go.Proofs.Tryd.sizeOf141
  v58 := Go.Proofs.Tryd.zeroValue141
  i58 := by kernel_rfl
  t60 := Go.Proofs.Tryd.underlying143
  a60 := Go.Proofs.Tryd.isAgg143
  z60 := Go.Proofs.Tryd.sizeOf143
  v60 := Go.Proofs.Tryd.zeroValue143
  i60 := by kernel_rfl
  t64 := Go.Proofs.Tryd.underlying147
  a64 := Go.Proofs.Tryd.isAgg147
  z64 := Go.Proofs.Tryd.sizeOf147
  v64 := Go.Proofs.Tryd.zeroValue147
  i64 := by kernel_rfl
  t66 := Go.Proofs.Tryd.underlying149
  a66 := Go.Proofs.Tryd.isAgg149
  z66 := Go.Proofs.Tryd.sizeOf149
  v66 := Go.Proofs.Tryd.zeroValue149
  i66 := by kernel_rfl
  t67 := Go.Proofs.Tryd.underlying150
  a67 := Go.Proofs.Tryd.isAgg150
  z67 := Go.Proofs.Tryd.sizeOf150
  v67 := Go.Proofs.Tryd.zeroValue150
  i67 := by kernel_rfl
  t75 := Go.Proofs.Tryd.underlying158
  a75 := Go.Proofs.Tryd.isAgg158
  z75 := Go.Proofs.Tryd.sizeOf158
  v75 := Go.Proofs.Tryd.zeroValue158
  i75 := by kernel_rfl
  t76 := Go.Proofs.Tryd.underlying159
  a76 := Go.Proofs.Tryd.isAgg159
  z76 := Go.Proofs.Tryd.sizeOf159
  v76 := Go.Proofs.Tryd.zeroValue159
  i76 := by kernel_rfl
  t77 := Go.Proofs.Tryd.underlying160
  a77 := Go.Proofs.Tryd.isAgg160
  z77 := Go.Proofs.Tryd.sizeOf160
  v77 := Go.Proofs.Tryd.zeroValue160
  i77 := by kernel_rfl
  t78 := Go.Proofs.Tryd.underlying161
  a78 := Go.Proofs.Tryd.isAgg161
  z78 := Go.Proofs.Tryd.sizeOf161
  v78 := Go.Proofs.Tryd.zeroValue161
  i78 := by kernel_rfl
  t79 := Go.Proofs.Tryd.underlying162
  a79 := Go.Proofs.Tryd.isAgg162
  z79 := Go.Proofs.Tryd.sizeOf162
  v79 := Go.Proofs.Tryd.zeroValue162
  i79 := by kernel_rfl
  t80 := Go.Proofs.Tryd.underlying163
  a80 := Go.Proofs.Tryd.isAgg163
  z80 := Go.Proofs.Tryd.sizeOf163
  v80 := Go.Proofs.Tryd.zeroValue163
  i80 := by kernel_rfl
  t82 := Go.Proofs.Tryd.underlying165
  a82 := Go.Proofs.Tryd.isAgg165
  z82 := Go.Proofs.Tryd.sizeOf165
  v82 := Go.Proofs.Tryd.zeroValue165
  i82 := by kernel_rfl

noncomputable def sI : TypeInfo := (Go.Proofs.Tryd.prog.info? NS.zbc).get (by kernel_rfl)
noncomputable def sE : TypeInfo := (Go.Proofs.Tryd.prog.info? NS.zi).get (by kernel_rfl)
theorem sortT : SortT Go.Proofs.Tryd.prog NS where
  has := ⟨_, Go.Proofs.Tryd.func48, by kernel_rfl, by kernel_rfl⟩
  out := ⟨slRen, sI, sE, 75, 71, sl6, by kernel_rfl, by kernel_rfl, by kernel_rfl, by kernel_rfl, by kernel_rfl, fun _ => by kernel_rfl, by kernel_rfl, by kernel_rfl, by kernel_rfl, by kernel_rfl, by kernel_rfl,
    fun args W => run_callFunc_extern Go.Proofs.Tryd.func75 (by kernel_rfl) (by kernel_rfl) (by kernel_rfl) (e := Extern.ReflectliteSwapper.swap true) (by kernel_rfl) args W⟩
theorem lu : LU Go.Proofs.Tryd.prog NS := ⟨zhi (by kernel_rfl)⟩
theorem tellN : TellN Go.Proofs.Tryd.prog NS := ⟨by decide, by decide, by decide, lu, sortOk baseS fnsS (by decide) lu sortT⟩

theorem own : ownKnob Go.Proofs.Tryd.prog.godebug = none := by kernel_rfl
theorem laidOut : laidOutB Go.Proofs.Tryd.prog = true := by kernel_rfl
theorem gO : Go.Proofs.Tryd.prog.globalNamed "pub-mailsack/pub/kmsg/inner/kbin.ErrNotEnoughData" = some 1 := by kernel_rfl
theorem gT : (Go.Proofs.Tryd.prog.globals[1]?).map (·.type) = some 54 := by kernel_rfl
theorem cS : Go.Proofs.Tryd.prog.cellsOf 170 = 1 := by kernel_rfl
theorem cStr : Go.Proofs.Tryd.prog.cellsOf 9 = 1 := by kernel_rfl
theorem star : "*" ++ "errors.errorString" = "*errors.errorString" := by decide
theorem rowP (u : TypeId) (h : Go.Proofs.Tryd.prog.typeName? 3 u = some "*errors.errorString") : u = 152 :=
  typeName_ptr_named (nm := "errors.errorString") (by rw [star]; kernel_rfl) (by kernel_rfl) (by decide) u (by rw [star]; exact h)
theorem bandT {a b : Bool} (h : a = true) (h' : b = true) : (a && b) = true := by rw [h, h']; rfl
theorem bigEnter : Go.Proofs.Tryd.prog.mayEnter = true := by kernel_rfl
theorem bigLifts : (Proofs.YtccgofjnacenhaaDoor.Rows.fnDefaultListPartitionReassignmentsRequestRow.lifted == Go.Proofs.Tryd.prog.liftsFinal) = true := by kernel_rfl
theorem bigMake : (Go.Proofs.Tryd.prog.make == some Proofs.YtccgofjnacenhaaDoor.Rows.fnDefaultListPartitionReassignmentsRequestRow.make) = true := by kernel_rfl
theorem stopsHeardS : Go.Proofs.Tryd.prog.stopsHeard = true := by kernel_rfl
theorem mapsRowedS : mapsRowed Go.Proofs.Tryd.prog = true := by kernel_rfl
theorem plainKeysS : (Proofs.YtccgofjnacenhaaDoor.Rows.fnDefaultListPartitionReassignmentsRequestRow.plainKeys == Go.Proofs.Tryd.prog.plainKeys) = true := by kernel_rfl
theorem mainS : Go.Proofs.Tryd.prog.mainIs = some (Proofs.YtccgofjnacenhaaDoor.Rows.fnDefaultListPartitionReassignmentsRequestCard.stood.harness.1, Proofs.YtccgofjnacenhaaDoor.Rows.fnDefaultListPartitionReassignmentsRequestCard.stood.harness.2.toList) := by kernel_rfl
theorem looksS : false = Go.Proofs.Tryd.prog.looks [] := by kernel_rfl
theorem shaped (os : Os) (args : Array Value) : ((World.doorLaid Go.Proofs.Tryd.prog 400 os).forCall (fun _ _ => 0) ⟨#[], args, []⟩).Shaped Go.Proofs.Tryd.prog := World.shaped_of_RefB (by kernel_rfl) (by kernel_rfl)
theorem door_met (os : Os) (args : Array Value) : laidMetH Go.Proofs.Tryd.prog Proofs.YtccgofjnacenhaaDoor.Rows.fnDefaultListPartitionReassignmentsRequestRow.laid ((World.doorLaid Go.Proofs.Tryd.prog 400 os).forCall (fun _ _ => 0) ⟨#[], args, []⟩).memory :=
  laidMetH_of_parts3 (fuel := 8) (laidMet_of_run' 8 (by kernel_rfl) (by kernel_rfl)) (by kernel_rfl) (by kernel_rfl)
end Go.Kf
