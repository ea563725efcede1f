/- Closed facts of this translation: its numbers, its shared functions' codes, its types; no condition. -/
import Derived.Test.YtapclkhkldikeaaGreatDoorKg
import Derived.Test.YtapclkhkldikeaaGreatDoorKg
import Derived.Test.YtapclkhkldikeaaGreatDoorKg
import Derived.Shelf.GgSortFunc.Whole
import Derived.Test.YtapclkhkldikeaaGreatDoorRows
import Derived.Test.YtapclkhkldikeaaGreatDoorTie
import Derived.Test.YtapclkhkldikeaaGreatDoorCards
import Derived.LaidMore
import Derived.Stop.Joined
import Derived.Stop.LaidErr
import Derived.SevenTiedAt
import Derived.Deep.DeepHandedRow
import Derived.JoinedCond
set_option linter.unusedSimpArgs false
set_option linter.unusedVariables false
set_option maxRecDepth 100000
namespace Go.Kf
open Go

def NS:Nums where
  zda:=52
  zhd:=65
  zba:=51
  zcu:=63
  zaf:=54
  zbm:=74
  zcc:=67
  zdt:=55
  zeg:=53
  zu:=69
  zdr:=64
  zbu:=61
  zcd:=62
  zq:=66
  zhn:=105
  zdp:=109
  zcz:=68
  zdi:=73
  zlx:=75
  zdn:=77
  zek:=76
  zdu:=56
  zhm:=108
  zff:=12
  zlw:=9
  zfr:=1
  zj:=0
  t_:=0
  zp:=26
  zak:=25
  zbo:=150
  za:=24
  zbk:=104
  zbc:=106
  zv:=97
  zcy:=67
  zbt:=127
  zay:=4
  zgc:=54
  zpm:=152
  zov:=117
  ze:=3
  zbf:=45
  zbr:=21
  zcv:=2
  zjd:=101
  zaba:=20
  zab:=65
  zal:=62
  zf:=28
  zac:=9
  zcq:=95
  zfj:=120
  zc:=60
  zyw:=124
  zaj:=75
  zh:=5

def MS:zdd where
  zfx:=32
  zgt:=46
  zcr:=25
  zes:=14
  zdh:=37
  znn:=10
  zib:=34
  zec:=48
  zjh:=33
  zjg:=35
  zkj:=21
  zjy:=47
  zix:=38
  zaab:=36
  zjf:=49
  zfm:=39
  zkw:=50
  zuk:=6
  zuj:=18
  zqp:=30
  zaz:=32
  zn:=50
  zam:=34

def AN:zdk where
  zdj:=99
  zjm:=144
  zbp:=98
  zcs:=143
  zce:=58
  zas:=59
  zjl:=100
  zbn:=60
  zet:=72
  zed:=70
  zbw:=71
  zdg:=101
  zey:=103
  zdm:=106
  zkl:=102
  zji:=104
  zev:=107
  t_PTags:=129

theorem baseS:Base Go.Proofs.Tryz.prog NS:=base_ok (by kernel_rfl) (by kernel_rfl) (by kernel_rfl)

theorem fok_bigEndian_Uint16:FOk Go.Proofs.Tryz.prog 77 2 (zlb NS) [.var 2]:=⟨Go.Proofs.Tryz.f77,_,[0,1,4],Go.Proofs.Tryz.func77,rfl,by kernel_rfl,by kernel_rfl,by decide,by kernel_rfl,by kernel_rfl⟩
theorem fok_bigEndian_Uint32:FOk Go.Proofs.Tryz.prog 76 2 (zla NS) [.var 2]:=⟨Go.Proofs.Tryz.f76,_,[0,1,4],Go.Proofs.Tryz.func76,rfl,by kernel_rfl,by kernel_rfl,by decide,by kernel_rfl,by kernel_rfl⟩
theorem fok_UnsafeString:FOk Go.Proofs.Tryz.prog 73 1 (zpg NS) [.var 1]:=⟨Go.Proofs.Tryz.f73,_,[0,2],Go.Proofs.Tryz.func73,rfl,by kernel_rfl,by kernel_rfl,by decide,by kernel_rfl,by kernel_rfl⟩
theorem fok_Uvarint:FOk Go.Proofs.Tryz.prog 75 1 (zaan NS) [.var 1,.var 2]:=⟨Go.Proofs.Tryz.f75,_,[0,2,3,4,5,8,18,22,35,39,52,56,69,73,84],Go.Proofs.Tryz.func75,rfl,by kernel_rfl,by kernel_rfl,by decide,by kernel_rfl,by kernel_rfl⟩
theorem fok_PReader_Bool:FOk Go.Proofs.Tryz.prog 65 1 (zvp NS) [.var 1]:=⟨Go.Proofs.Tryz.f65,_,[0,2,9,3],Go.Proofs.Tryz.func65,rfl,by kernel_rfl,by kernel_rfl,by decide,by kernel_rfl,by kernel_rfl⟩
theorem fok_PReader_Int8:FOk Go.Proofs.Tryz.prog 55 1 (zvo NS) [.var 1]:=⟨Go.Proofs.Tryz.f55,_,[0,2,9,3],Go.Proofs.Tryz.func55,rfl,by kernel_rfl,by kernel_rfl,by decide,by kernel_rfl,by kernel_rfl⟩
theorem fok_PReader_Int16:FOk Go.Proofs.Tryz.prog 74 1 (zuv NS) [.var 1]:=⟨Go.Proofs.Tryz.f74,_,[0,2,9,3],Go.Proofs.Tryz.func74,rfl,by kernel_rfl,by kernel_rfl,by decide,by kernel_rfl,by kernel_rfl⟩
theorem fok_PReader_Int32:FOk Go.Proofs.Tryz.prog 67 1 (zuu NS) [.var 1]:=⟨Go.Proofs.Tryz.f67,_,[0,2,9,3],Go.Proofs.Tryz.func67,rfl,by kernel_rfl,by kernel_rfl,by decide,by kernel_rfl,by kernel_rfl⟩
theorem fok_PReader_Uvarint:FOk Go.Proofs.Tryz.prog 66 1 (zlz NS) [.var 1]:=⟨Go.Proofs.Tryz.f66,_,[0,2,3,4,14],Go.Proofs.Tryz.func66,rfl,by kernel_rfl,by kernel_rfl,by decide,by kernel_rfl,by kernel_rfl⟩
theorem fok_PReader_Span:FOk Go.Proofs.Tryz.prog 69 2 (zpj NS) [.var 2]:=⟨Go.Proofs.Tryz.f69,_,[0,1,4,16,5],Go.Proofs.Tryz.func69,rfl,by kernel_rfl,by kernel_rfl,by decide,by kernel_rfl,by kernel_rfl⟩
theorem fok_PReader_String:FOk Go.Proofs.Tryz.prog 64 1 (zmx NS) [.var 1]:=⟨Go.Proofs.Tryz.f64,_,[0,2,3],Go.Proofs.Tryz.func64,rfl,by kernel_rfl,by kernel_rfl,by decide,by kernel_rfl,by kernel_rfl⟩
theorem fok_PReader_UnsafeString:FOk Go.Proofs.Tryz.prog 62 1 (zio NS) [.var 1]:=⟨Go.Proofs.Tryz.f62,_,[0,2,3],Go.Proofs.Tryz.func62,rfl,by kernel_rfl,by kernel_rfl,by decide,by kernel_rfl,by kernel_rfl⟩
theorem fok_PReader_CompactString:FOk Go.Proofs.Tryz.prog 63 1 (zig NS) [.var 1]:=⟨Go.Proofs.Tryz.f63,_,[0,2,3],Go.Proofs.Tryz.func63,rfl,by kernel_rfl,by kernel_rfl,by decide,by kernel_rfl,by kernel_rfl⟩
theorem fok_PReader_UnsafeCompactString:FOk Go.Proofs.Tryz.prog 61 1 (zfz NS) [.var 1]:=⟨Go.Proofs.Tryz.f61,_,[0,2,3],Go.Proofs.Tryz.func61,rfl,by kernel_rfl,by kernel_rfl,by decide,by kernel_rfl,by kernel_rfl⟩
theorem fok_PReader_ArrayLen:FOk Go.Proofs.Tryz.prog 52 1 (zld NS) [.var 1]:=⟨Go.Proofs.Tryz.f52,_,[0,2,3,13],Go.Proofs.Tryz.func52,rfl,by kernel_rfl,by kernel_rfl,by decide,by kernel_rfl,by kernel_rfl⟩
theorem fok_PReader_CompactArrayLen:FOk Go.Proofs.Tryz.prog 51 1 (zhe NS) [.var 1]:=⟨Go.Proofs.Tryz.f51,_,[0,2,3,15],Go.Proofs.Tryz.func51,rfl,by kernel_rfl,by kernel_rfl,by decide,by kernel_rfl,by kernel_rfl⟩
theorem fok_PReader_Complete:FOk Go.Proofs.Tryz.prog 54 1 (zlc NS) [.var 1]:=⟨Go.Proofs.Tryz.f54,_,[0,2,6],Go.Proofs.Tryz.func54,rfl,by kernel_rfl,by kernel_rfl,by decide,by kernel_rfl,by kernel_rfl⟩
theorem fok_PReader_Ok:FOk Go.Proofs.Tryz.prog 53 1 (zsm NS) [.var 1]:=⟨Go.Proofs.Tryz.f53,_,[0,2],Go.Proofs.Tryz.func53,rfl,by kernel_rfl,by kernel_rfl,by decide,by kernel_rfl,by kernel_rfl⟩
theorem fok_PTags_Set:FOk Go.Proofs.Tryz.prog 68 3 (zut NS) []:=⟨Go.Proofs.Tryz.f68,_,[0,1,2,10],Go.Proofs.Tryz.func68,rfl,by kernel_rfl,by kernel_rfl,by decide,by kernel_rfl,by kernel_rfl⟩
theorem fok_internalReadTags:FOk Go.Proofs.Tryz.prog 56 1 (zky NS) [.cell 1 NS.zcy]:=⟨Go.Proofs.Tryz.f56,_,[0,2,3,4,10,5,6],Go.Proofs.Tryz.func56,rfl,by kernel_rfl,by kernel_rfl,by decide,by kernel_rfl,by kernel_rfl⟩
theorem fok_PTags_Each:FOk Go.Proofs.Tryz.prog 105 2 (zsl NS) []:=⟨Go.Proofs.Tryz.f105,_,[0,1,13,4,24,26,5,37,38,39,40,7],Go.Proofs.Tryz.func105,rfl,by kernel_rfl,by kernel_rfl,by decide,by kernel_rfl,by kernel_rfl⟩
theorem fok_PTags_Each_1:FOk Go.Proofs.Tryz.prog 109 3 (zph NS) [.var 3]:=⟨Go.Proofs.Tryz.f109,_,[0,1,2,5],Go.Proofs.Tryz.func109,rfl,by kernel_rfl,by kernel_rfl,by decide,by kernel_rfl,by kernel_rfl⟩
theorem fok_spec_Same:FOk Go.Proofs.Tryz.prog 12 2 (zus NS) [.var 2]:=⟨Go.Proofs.Tryz.f12,_,[0,1,4,10,12,13,14,5,24],Go.Proofs.Tryz.func12,rfl,by kernel_rfl,by kernel_rfl,by decide,by kernel_rfl,by kernel_rfl⟩
theorem fok_version:FOk Go.Proofs.Tryz.prog 9 2 (zaal NS) [.var 2]:=⟨Go.Proofs.Tryz.f9,_,[0,1,4],Go.Proofs.Tryz.func9,rfl,by kernel_rfl,by kernel_rfl,by decide,by kernel_rfl,by kernel_rfl⟩

theorem fnsS:Fns Go.Proofs.Tryz.prog NS where
  bigEndian_Uint16:=fun _=>fok_bigEndian_Uint16
  bigEndian_Uint32:=fun _=>fok_bigEndian_Uint32
  bigEndian_Uint64:=fun h=>absurd rfl h
  UnsafeString:=fun _=>fok_UnsafeString
  Uvarint:=fun _=>fok_Uvarint
  PReader_Bool:=fun _=>fok_PReader_Bool
  PReader_Int8:=fun _=>fok_PReader_Int8
  PReader_Uint16:=fun h=>absurd rfl h
  PReader_Int16:=fun _=>⟨fok_PReader_Int16,by decide⟩
  PReader_Int32:=fun _=>⟨fok_PReader_Int32,by decide⟩
  PReader_readUint64:=fun h=>absurd rfl h
  PReader_Int64:=fun h=>absurd rfl h
  PReader_Uuid:=fun h=>absurd rfl h
  PReader_Uvarint:=fun _=>⟨fok_PReader_Uvarint,by decide⟩
  PReader_Span:=fun _=>fok_PReader_Span
  PReader_String:=fun _=>⟨fok_PReader_String,by decide,by decide⟩
  PReader_UnsafeString:=fun _=>⟨fok_PReader_UnsafeString,by decide,by decide,by decide⟩
  PReader_CompactString:=fun _=>⟨fok_PReader_CompactString,by decide,by decide⟩
  PReader_UnsafeCompactString:=fun _=>⟨fok_PReader_UnsafeCompactString,by decide,by decide,by decide⟩
  PReader_NullableString:=fun h=>absurd rfl h
  PReader_UnsafeNullableString:=fun h=>absurd rfl h
  PReader_CompactNullableString:=fun h=>absurd rfl h
  PReader_UnsafeCompactNullableString:=fun h=>absurd rfl h
  PReader_Bytes:=fun h=>absurd rfl h
  PReader_CompactBytes:=fun h=>absurd rfl h
  PReader_NullableBytes:=fun h=>absurd rfl h
  PReader_CompactNullableBytes:=fun h=>absurd rfl h
  PReader_ArrayLen:=fun _=>⟨fok_PReader_ArrayLen,by decide⟩
  PReader_CompactArrayLen:=fun _=>⟨fok_PReader_CompactArrayLen,by decide⟩
  PReader_Complete:=fun _=>fok_PReader_Complete
  PReader_Ok:=fun _=>fok_PReader_Ok
  PTags_Set:=fun _=>fok_PTags_Set
  internalReadTags:=fun _=>⟨fok_internalReadTags,by decide,by decide,by decide⟩
  PTags_Each:=fun _=>⟨fok_PTags_Each,by decide,by decide⟩
  PTags_Each_1:=fun _=>fok_PTags_Each_1
  sorted:=fun h=>absurd rfl h
  boolTree:=fun h=>absurd rfl h
  textTree:=fun h=>absurd rfl h
  octetsTree:=fun h=>absurd rfl h
  spec_Same:=fun _=>fok_spec_Same
  spec_SameTree:=fun h=>absurd rfl h
  version:=fun _=>fok_version
  got:=fun h=>absurd rfl h
theorem specT:zsr Go.Proofs.Tryz.prog NS NS.zf NS.zal NS.zak NS.zp:=⟨sfB_ok (by kernel_rfl),sfB_ok (by kernel_rfl),zuf (by kernel_rfl),zuf (by kernel_rfl),zuf (by kernel_rfl),zuf (by kernel_rfl),zuf (by kernel_rfl),zuf (by kernel_rfl),zuf (by kernel_rfl),zhr (by kernel_rfl),zhr (by kernel_rfl)⟩
theorem spT:SpT Go.Proofs.Tryz.prog NS MS:=⟨sfB_ok (by kernel_rfl),zuf (by kernel_rfl),zuf (by kernel_rfl),zuf (by kernel_rfl),zuf (by kernel_rfl),zuf (by kernel_rfl),zuf (by kernel_rfl),zuf (by kernel_rfl),zuf (by kernel_rfl),zhr (by kernel_rfl),sfB_ok (by kernel_rfl),zuf (by kernel_rfl),zuf (by kernel_rfl),specT⟩
theorem treeO:TreeO Go.Proofs.Tryz.prog NS where
  tree:=⟨_,Go.Proofs.Tryz.underlying28,by kernel_rfl⟩
  tag:=⟨_,Go.Proofs.Tryz.underlying62,by kernel_rfl⟩
  cTree:=by kernel_rfl
  cTag:=by kernel_rfl
  c1:=⟨by kernel_rfl,by kernel_rfl,by kernel_rfl,by kernel_rfl,by kernel_rfl,by kernel_rfl,by kernel_rfl⟩
theorem sp_zzFits3:FOk Go.Proofs.Tryz.prog 30 1 (zup NS MS) [.var 2]:=⟨Go.Proofs.Tryz.f30,_,[0,1,2,6],Go.Proofs.Tryz.func30,rfl,by kernel_rfl,by kernel_rfl,by decide,by kernel_rfl,by kernel_rfl⟩
theorem sp_zzFits2:FOk Go.Proofs.Tryz.prog 18 1 (zaaj NS MS) [.var 1]:=⟨Go.Proofs.Tryz.f18,_,[0,2,7,8,9,10,11,4,16],Go.Proofs.Tryz.func18,rfl,by kernel_rfl,by kernel_rfl,by decide,by kernel_rfl,by kernel_rfl⟩
theorem sp_zzFits1:FOk Go.Proofs.Tryz.prog 6 1 (zaak NS MS) [.var 2]:=⟨Go.Proofs.Tryz.f6,_,[0,1,2,6,10,14],Go.Proofs.Tryz.func6,rfl,by kernel_rfl,by kernel_rfl,by decide,by kernel_rfl,by kernel_rfl⟩
theorem sp_spec_Field_has:FOk Go.Proofs.Tryz.prog 32 2 (zjo NS MS) [.var 3]:=⟨Go.Proofs.Tryz.f32,_,[0,1,2,4],Go.Proofs.Tryz.func32,rfl,by kernel_rfl,by kernel_rfl,by decide,by kernel_rfl,by kernel_rfl⟩
theorem sp_spec_Field_null:FOk Go.Proofs.Tryz.prog 46 3 (ziw NS MS) [.var 5]:=⟨Go.Proofs.Tryz.f46,_,[0,1,2,3,5,6],Go.Proofs.Tryz.func46,rfl,by kernel_rfl,by kernel_rfl,by decide,by kernel_rfl,by kernel_rfl⟩
theorem sp_spec_whole:FOk Go.Proofs.Tryz.prog 39 1 (znt NS MS) [.var 1]:=⟨Go.Proofs.Tryz.f39,_,[0,2],Go.Proofs.Tryz.func39,rfl,by kernel_rfl,by kernel_rfl,by decide,by kernel_rfl,by kernel_rfl⟩
theorem sp_spec_things:FOk Go.Proofs.Tryz.prog 47 1 (zmo NS MS) [.var 1]:=⟨Go.Proofs.Tryz.f47,_,[0,2],Go.Proofs.Tryz.func47,rfl,by kernel_rfl,by kernel_rfl,by decide,by kernel_rfl,by kernel_rfl⟩
theorem sp_spec_at:FOk Go.Proofs.Tryz.prog 34 2 (zqr NS MS) [.cell 3 NS.zf]:=⟨Go.Proofs.Tryz.f34,_,[0,1,2,4,9],Go.Proofs.Tryz.func34,rfl,by kernel_rfl,by kernel_rfl,by decide,by kernel_rfl,by kernel_rfl⟩
theorem sp_spec_Uvarint:FOk Go.Proofs.Tryz.prog 37 1 (ziy NS MS) [.var 1]:=⟨Go.Proofs.Tryz.f37,_,[0,2,3,5],Go.Proofs.Tryz.func37,rfl,by kernel_rfl,by kernel_rfl,by decide,by kernel_rfl,by kernel_rfl⟩
theorem sp_spec_Fixed:FOk Go.Proofs.Tryz.prog 25 2 (zho NS MS) [.var 2]:=⟨Go.Proofs.Tryz.f25,_,[0,1,4,5,6,10],Go.Proofs.Tryz.func25,rfl,by kernel_rfl,by kernel_rfl,by decide,by kernel_rfl,by kernel_rfl⟩
theorem sp_spec_width:FOk Go.Proofs.Tryz.prog 50 1 (zns NS MS) [.var 1]:=⟨Go.Proofs.Tryz.f50,_,[0,2,3,4,6,9],Go.Proofs.Tryz.func50,rfl,by kernel_rfl,by kernel_rfl,by decide,by kernel_rfl,by kernel_rfl⟩
theorem sp_spec_counted:FOk Go.Proofs.Tryz.prog 48 4 (zlk NS MS) [.var 4]:=⟨Go.Proofs.Tryz.f48,_,[0,1,2,3,8,9,15,21],Go.Proofs.Tryz.func48,rfl,by kernel_rfl,by kernel_rfl,by decide,by kernel_rfl,by kernel_rfl⟩
theorem sp_spec_value:FOk Go.Proofs.Tryz.prog 49 6 (zsi NS MS) [.var 7]:=⟨Go.Proofs.Tryz.f49,_,[0,1,2,3,4,5,11,12,16,17,24,13,32,14,37,45,15,50,58],Go.Proofs.Tryz.func49,rfl,by kernel_rfl,by kernel_rfl,by decide,by kernel_rfl,by kernel_rfl⟩
theorem sp_spec_field:FOk Go.Proofs.Tryz.prog 33 4 (zsj NS MS) [.var 6]:=⟨Go.Proofs.Tryz.f33,_,[0,1,2,3,4,7,8,9,19,10,23,11,30,31,32,12,56,57],Go.Proofs.Tryz.func33,rfl,by kernel_rfl,by kernel_rfl,by decide,by kernel_rfl,by kernel_rfl⟩
theorem sp_spec_known:FOk Go.Proofs.Tryz.prog 35 1 (znu NS MS) [.var 1]:=⟨Go.Proofs.Tryz.f35,_,[0,2,3,6,7,8,9,5,14],Go.Proofs.Tryz.func35,rfl,by kernel_rfl,by kernel_rfl,by decide,by kernel_rfl,by kernel_rfl⟩
theorem sp_spec_unknown:FOk Go.Proofs.Tryz.prog 38 2 (zpf NS MS) [.var 2]:=⟨Go.Proofs.Tryz.f38,_,[0,1,4,5,6,17,18,19,20,8,9,36,58,10,68],Go.Proofs.Tryz.func38,rfl,by kernel_rfl,by kernel_rfl,by decide,by kernel_rfl,by kernel_rfl⟩
theorem sp_spec_part:FOk Go.Proofs.Tryz.prog 21 4 (zuq NS MS) [.var 5]:=⟨Go.Proofs.Tryz.f21,_,[0,1,2,3,7,8,9,10,11,21,22,23,24,13,12,35,47,51,52,53,14,55,56,57,58,16,15,73,17,100,101,102,103,19,20],Go.Proofs.Tryz.func21,rfl,by kernel_rfl,by kernel_rfl,by decide,by kernel_rfl,by kernel_rfl⟩
theorem sp_spec_Write:FOk Go.Proofs.Tryz.prog 10 3 (zsk NS MS) [.var 5]:=⟨Go.Proofs.Tryz.f10,_,[0,1,2,3,5,6],Go.Proofs.Tryz.func10,rfl,by kernel_rfl,by kernel_rfl,by decide,by kernel_rfl,by kernel_rfl⟩
theorem sp_Flex:FOk Go.Proofs.Tryz.prog 14 2 (zfs NS MS) [.var 3]:=⟨Go.Proofs.Tryz.f14,_,[0,1,2,4],Go.Proofs.Tryz.func14,rfl,by kernel_rfl,by kernel_rfl,by decide,by kernel_rfl,by kernel_rfl⟩
theorem thSZ:SZ Go.Proofs.Tryz.prog NS MS:=⟨sp_zzFits3,sp_zzFits2,sp_zzFits1⟩
theorem thSW:SW Go.Proofs.Tryz.prog NS MS:=⟨sp_spec_Field_has,sp_spec_Field_null,sp_spec_whole,sp_spec_things,sp_spec_at,sp_spec_Uvarint,sp_spec_Fixed,sp_spec_width,sp_spec_counted,sp_spec_value,sp_spec_field,sp_spec_known,sp_spec_unknown,sp_spec_part,sp_spec_Write⟩
theorem ap_AppendBool:FOk Go.Proofs.Tryz.prog 144 2 (zob NS AN) [.var 2]:=⟨Go.Proofs.Tryz.f144,_,[0,1,4,5],Go.Proofs.Tryz.func144,rfl,by kernel_rfl,by kernel_rfl,by decide,by kernel_rfl,by kernel_rfl⟩
theorem ap_AppendInt8:FOk Go.Proofs.Tryz.prog 100 2 (zoa NS AN) [.var 2]:=⟨Go.Proofs.Tryz.f100,_,[0,1,4],Go.Proofs.Tryz.func100,rfl,by kernel_rfl,by kernel_rfl,by decide,by kernel_rfl,by kernel_rfl⟩
theorem ap_AppendInt16:FOk Go.Proofs.Tryz.prog 58 2 (zgx NS AN) [.var 2]:=⟨Go.Proofs.Tryz.f58,_,[0,1,4],Go.Proofs.Tryz.func58,rfl,by kernel_rfl,by kernel_rfl,by decide,by kernel_rfl,by kernel_rfl⟩
theorem ap_AppendUint16:FOk Go.Proofs.Tryz.prog 70 2 (zfh NS AN) [.var 2]:=⟨Go.Proofs.Tryz.f70,_,[0,1,4],Go.Proofs.Tryz.func70,rfl,by kernel_rfl,by kernel_rfl,by decide,by kernel_rfl,by kernel_rfl⟩
theorem ap_AppendInt32:FOk Go.Proofs.Tryz.prog 59 2 (zdc NS AN) [.var 2]:=⟨Go.Proofs.Tryz.f59,_,[0,1,4],Go.Proofs.Tryz.func59,rfl,by kernel_rfl,by kernel_rfl,by decide,by kernel_rfl,by kernel_rfl⟩
theorem ap_AppendUint32:FOk Go.Proofs.Tryz.prog 71 2 (zch NS AN) [.var 2]:=⟨Go.Proofs.Tryz.f71,_,[0,1,4],Go.Proofs.Tryz.func71,rfl,by kernel_rfl,by kernel_rfl,by decide,by kernel_rfl,by kernel_rfl⟩
theorem ap_AppendUvarint:FOk Go.Proofs.Tryz.prog 101 2 (zny NS AN) [.var 2]:=⟨Go.Proofs.Tryz.f101,_,[0,1,4,6,7,34,56,73,85],Go.Proofs.Tryz.func101,rfl,by kernel_rfl,by kernel_rfl,by decide,by kernel_rfl,by kernel_rfl⟩
theorem ap_AppendString:FOk Go.Proofs.Tryz.prog 72 2 (zja NS AN) [.var 2]:=⟨Go.Proofs.Tryz.f72,_,[0,1,4],Go.Proofs.Tryz.func72,rfl,by kernel_rfl,by kernel_rfl,by decide,by kernel_rfl,by kernel_rfl⟩
theorem ap_AppendCompactString:FOk Go.Proofs.Tryz.prog 143 2 (zfa NS AN) [.var 2]:=⟨Go.Proofs.Tryz.f143,_,[0,1,4],Go.Proofs.Tryz.func143,rfl,by kernel_rfl,by kernel_rfl,by decide,by kernel_rfl,by kernel_rfl⟩
theorem ap_AppendNullableString:FOk Go.Proofs.Tryz.prog 60 2 (zgd NS AN) [.var 2]:=⟨Go.Proofs.Tryz.f60,_,[0,1,4,6],Go.Proofs.Tryz.func60,rfl,by kernel_rfl,by kernel_rfl,by decide,by kernel_rfl,by kernel_rfl⟩
theorem ap_AppendArrayLen:FOk Go.Proofs.Tryz.prog 99 2 (zjp NS AN) [.var 2]:=⟨Go.Proofs.Tryz.f99,_,[0,1,4],Go.Proofs.Tryz.func99,rfl,by kernel_rfl,by kernel_rfl,by decide,by kernel_rfl,by kernel_rfl⟩
theorem ap_AppendCompactArrayLen:FOk Go.Proofs.Tryz.prog 98 2 (zft NS AN) [.var 2]:=⟨Go.Proofs.Tryz.f98,_,[0,1,4],Go.Proofs.Tryz.func98,rfl,by kernel_rfl,by kernel_rfl,by decide,by kernel_rfl,by kernel_rfl⟩
theorem ap_UvarintLen:FOk Go.Proofs.Tryz.prog 104 1 (znv NS AN) [.var 1]:=⟨Go.Proofs.Tryz.f104,_,[0,2],Go.Proofs.Tryz.func104,rfl,by kernel_rfl,by kernel_rfl,by decide,by kernel_rfl,by kernel_rfl⟩
theorem ap_math_bits_Len32:FOk Go.Proofs.Tryz.prog 107 1 (zgw NS AN) [.var 1]:=⟨Go.Proofs.Tryz.f107,_,[0,2,4,8],Go.Proofs.Tryz.func107,rfl,by kernel_rfl,by kernel_rfl,by decide,by kernel_rfl,by kernel_rfl⟩
theorem ap_PTags_Len:FOk Go.Proofs.Tryz.prog 102 1 (zmp NS AN) [.var 1]:=⟨Go.Proofs.Tryz.f102,_,[0,2],Go.Proofs.Tryz.func102,rfl,by kernel_rfl,by kernel_rfl,by decide,by kernel_rfl,by kernel_rfl⟩
theorem ap_PTags_AppendEach:FOk Go.Proofs.Tryz.prog 103 2 (zgg NS AN) [.var 3]:=⟨Go.Proofs.Tryz.f103,_,[0,1,3,4],Go.Proofs.Tryz.func103,rfl,by kernel_rfl,by kernel_rfl,by decide,by kernel_rfl,by kernel_rfl⟩
theorem ap_PTags_AppendEach_1:FOk Go.Proofs.Tryz.prog 106 3 (zeq NS AN) []:=⟨Go.Proofs.Tryz.f106,_,[0,1,2],Go.Proofs.Tryz.func106,rfl,by kernel_rfl,by kernel_rfl,by decide,by kernel_rfl,by kernel_rfl⟩
theorem apFns:ApFns Go.Proofs.Tryz.prog NS AN where
  b:=fun _=>ap_AppendBool
  i8:=fun _=>⟨by decide,ap_AppendInt8⟩
  u16:=ap_AppendUint16
  i16:=fun _=>ap_AppendInt16
  u32:=fun _=>ap_AppendUint32
  i32:=fun _=>ap_AppendInt32
  u64:=fun h=>absurd rfl h
  i64:=fun h=>absurd rfl h
  uu:=fun h=>absurd rfl h
  str:=fun _=>⟨by decide,ap_AppendString⟩
  cstr:=fun _=>ap_AppendCompactString
  nstr:=fun _=>⟨by decide,by decide,ap_AppendNullableString⟩
  cnstr:=fun h=>absurd rfl h
  byt:=fun h=>absurd rfl h
  cbyt:=fun h=>absurd rfl h
  nob:=⟨rfl,rfl⟩
  al:=fun _=>⟨by decide,ap_AppendArrayLen⟩
  cal:=fun _=>ap_AppendCompactArrayLen
  nal:=fun h=>absurd rfl h
  cnal:=fun h=>absurd rfl h
  uv:=⟨ap_math_bits_Len32,ap_UvarintLen,ap_AppendUvarint⟩
  tl:=ap_PTags_Len
  ea:=ap_PTags_AppendEach
  e1:=ap_PTags_AppendEach_1
theorem bulkF (H:Type):BulkF (Proofs.YtapclkhkldikeaaGreatDoor.Rows.uptoBulk (H:=H)) Proofs.YtapclkhkldikeaaGreatDoor.Rows.uptoBulkAll:=⟨fun l=>by cases l<;>simp [Proofs.YtapclkhkldikeaaGreatDoor.Rows.uptoBulk],fun _ _=>rfl,fun _=>rfl,rfl,rfl,fun _ _=>rfl⟩

def slRen:Go.Shelf.Ren:=⟨fun | 6=>108 | 10=>110 | 11=>111 | 12=>112 | 13=>113 | 14=>114 | 24=>107 | 25=>124 | 26=>125 | 27=>126 | 28=>127 | 29=>128 | 30=>129 | 31=>130 | 32=>131 | 33=>132 | 34=>133 | 35=>134 | 36=>135 | 37=>136 | 38=>137 | 39=>138 | n=>n,fun | 20=>20 | 26=>152 | 35=>156 | 0=>0 | 37=>158 | 3=>3 | 41=>95 | 44=>163 | 49=>60 | 51=>75 | 4=>4 | 54=>170 | 53=>169 | 58=>174 | 5=>5 | 9=>9 | 60=>176 | 64=>180 | 66=>182 | 67=>183 | 17=>17 | 32=>153 | 33=>154 | 82=>145 | 12=>12 | 75=>138 | 76=>139 | 77=>140 | 78=>141 | 79=>142 | 80=>143 | n=>n,fun | n=>n⟩
theorem sl6:Go.Proofs.LaysGg.n6 Go.Proofs.Tryz.prog slRen where
  mixed:=by kernel_rfl
  f6:=Go.Proofs.Tryz.func108.trans (congrArg some (by kernel_rfl))
  f10:=Go.Proofs.Tryz.func110.trans (congrArg some (by kernel_rfl))
  f11:=Go.Proofs.Tryz.func111.trans (congrArg some (by kernel_rfl))
  f12:=Go.Proofs.Tryz.func112.trans (congrArg some (by kernel_rfl))
  f13:=Go.Proofs.Tryz.func113.trans (congrArg some (by kernel_rfl))
  f14:=Go.Proofs.Tryz.func114.trans (congrArg some (by kernel_rfl))
  f24:=Go.Proofs.Tryz.func107.trans (congrArg some (by kernel_rfl))
  f25:=Go.Proofs.Tryz.func124.trans (congrArg some (by kernel_rfl))
  f26:=Go.Proofs.Tryz.func125.trans (congrArg some (by kernel_rfl))
  f27:=Go.Proofs.Tryz.func126.trans (congrArg some (by kernel_rfl))
  f28:=Go.Proofs.Tryz.func127.trans (congrArg some (by kernel_rfl))
  f29:=Go.Proofs.Tryz.func128.trans (congrArg some (by kernel_rfl))
  f30:=Go.Proofs.Tryz.func129.trans (congrArg some (by kernel_rfl))
  f31:=Go.Proofs.Tryz.func130.trans (congrArg some (by kernel_rfl))
  f32:=Go.Proofs.Tryz.func131.trans (congrArg some (by kernel_rfl))
  f33:=Go.Proofs.Tryz.func132.trans (congrArg some (by kernel_rfl))
  f34:=Go.Proofs.Tryz.func133.trans (congrArg some (by kernel_rfl))
  f35:=Go.Proofs.Tryz.func134.trans (congrArg some (by kernel_rfl))
  f36:=Go.Proofs.Tryz.func135.trans (congrArg some (by kernel_rfl))
  f37:=Go.Proofs.Tryz.func136.trans (congrArg some (by kernel_rfl))
  f38:=Go.Proofs.Tryz.func137.trans (congrArg some (by kernel_rfl))
  f39:=Go.Proofs.Tryz.func138.trans (congrArg some (by kernel_rfl))
  t0:=Go.Proofs.Tryz.underlying0
  a0:=Go.Proofs.Tryz.isAgg0
  z0:=Go.Proofs.Tryz.sizeOf0
  v0:=Go.Proofs.Tryz.zeroValue0
  i0:=by kernel_rfl
  t3:=Go.Proofs.Tryz.underlying3
  a3:=Go.Proofs.Tryz.isAgg3
  z3:=Go.Proofs.Tryz.sizeOf3
  v3:=Go.Proofs.Tryz.zeroValue3
  i3:=by kernel_rfl
  t4:=Go.Proofs.Tryz.underlying4
  a4:=Go.Proofs.Tryz.isAgg4
  z4:=Go.Proofs.Tryz.sizeOf4
  v4:=Go.Proofs.Tryz.zeroValue4
  i4:=by kernel_rfl
  t5:=Go.Proofs.Tryz.underlying5
  a5:=Go.Proofs.Tryz.isAgg5
  z5:=Go.Proofs.Tryz.sizeOf5
  v5:=Go.Proofs.Tryz.zeroValue5
  i5:=by kernel_rfl
  t9:=Go.Proofs.Tryz.underlying9
  a9:=Go.Proofs.Tryz.isAgg9
  z9:=Go.Proofs.Tryz.sizeOf9
  v9:=Go.Proofs.Tryz.zeroValue9
  i9:=by kernel_rfl
  t12:=Go.Proofs.Tryz.underlying12
  a12:=Go.Proofs.Tryz.isAgg12
  z12:=Go.Proofs.Tryz.sizeOf12
  v12:=Go.Proofs.Tryz.zeroValue12
  i12:=by kernel_rfl
  t17:=Go.Proofs.Tryz.underlying17
  a17:=Go.Proofs.Tryz.isAgg17
  z17:=Go.Proofs.Tryz.sizeOf17
  v17:=Go.Proofs.Tryz.zeroValue17
  i17:=by kernel_rfl
  t20:=Go.Proofs.Tryz.underlying20
  a20:=Go.Proofs.Tryz.isAgg20
  z20:=Go.Proofs.Tryz.sizeOf20
  v20:=Go.Proofs.Tryz.zeroValue20
  i20:=by kernel_rfl
  t26:=Go.Proofs.Tryz.underlying152
  a26:=Go.Proofs.Tryz.isAgg152
  z26:=Go.Proofs.Tryz.sizeOf152
  v26:=Go.Proofs.Tryz.zeroValue152
  i26:=by kernel_rfl
  t32:=Go.Proofs.Tryz.underlying153
  a32:=Go.Proofs.Tryz.isAgg153
  z32:=Go.Proofs.Tryz.sizeOf153
  v32:=Go.Proofs.Tryz.zeroValue153
  i32:=by kernel_rfl
  t33:=Go.Proofs.Tryz.underlying154
  a33:=Go.Proofs.Tryz.isAgg154
  z33:=Go.Proofs.Tryz.sizeOf154
  v33:=Go.Proofs.Tryz.zeroValue154
  i33:=by kernel_rfl
  t35:=Go.Proofs.Tryz.underlying156
  a35:=Go.Proofs.Tryz.isAgg156
  z35:=Go.Proofs.Tryz.sizeOf156
  v35:=Go.Proofs.Tryz.zeroValue156
  i35:=by kernel_rfl
  t37:=Go.Proofs.Tryz.underlying158
  a37:=Go.Proofs.Tryz.isAgg158
  z37:=Go.Proofs.Tryz.sizeOf158
  v37:=Go.Proofs.Tryz.zeroValue158
  i37:=by kernel_rfl
  t41:=Go.Proofs.Tryz.underlying95
  a41:=Go.Proofs.Tryz.isAgg95
  z41:=Go.Proofs.Tryz.sizeOf95
  v41:=Go.Proofs.Tryz.zeroValue95
  i41:=by kernel_rfl
  t44:=Go.Proofs.Tryz.underlying163
  a44:=Go.Proofs.Tryz.isAgg163
  z44:=Go.Proofs.Tryz.sizeOf163
  v44:=Go.Proofs.Tryz.zeroValue163
  i44:=by kernel_rfl
  t49:=Go.Proofs.Tryz.underlying60
  a49:=Go.Proofs.Tryz.isAgg60
  z49:=Go.Proofs.Tryz.sizeOf60
  v49:=Go.Proofs.Tryz.zeroValue60
  i49:=by kernel_rfl
  t51:=Go.Proofs.Tryz.underlying75
  a51:=Go.Proofs.Tryz.isAgg75
  z51:=Go.Proofs.Tryz.sizeOf75
  v51:=Go.Proofs.Tryz.zeroValue75
  i51:=by kernel_rfl
  t53:=Go.Proofs.Tryz.underlying169
  a53:=Go.Proofs.Tryz.isAgg169
  z53:=Go.Proofs.Tryz.sizeOf169
  v53:=Go.Proofs.Tryz.zeroValue169
  i53:=by kernel_rfl
  t54:=Go.Proofs.Tryz.underlying170
  a54:=Go.Proofs.Tryz.isAgg170
  z54:=Go.Proofs.Tryz.sizeOf170
  v54:=Go.Proofs.Tryz.zeroValue170
  i54:=by kernel_rfl
  t58:=Go.Proofs.Tryz.underlying174
  a58:=Go.Proofs.Tryz.isAgg174
  z58:=Go.Proofs.Tryz.sizeOf174
  v58:=Go.Proofs.Tryz.zeroValue174
  i58:=by kernel_rfl
  t60:=Go.Proofs.Tryz.underlying176
  a60:=Go.Proofs.Tryz.isAgg176
  z60:=Go.Proofs.Tryz.sizeOf176
  v60:=Go.Proofs.Tryz.zeroValue176
  i60:=by kernel_rfl
  t64:=Go.Proofs.Tryz.underlying180
  a64:=Go.Proofs.Tryz.isAgg180
  z64:=Go.Proofs.Tryz.sizeOf180
  v64:=Go.Proofs.Tryz.zeroValue180
  i64:=by kernel_rfl
  t66:=Go.Proofs.Tryz.underlying182
  a66:=Go.Proofs.Tryz.isAgg182
  z66:=Go.Proofs.Tryz.sizeOf182
  v66:=Go.Proofs.Tryz.zeroValue182
  i66:=by kernel_rfl
  t67:=Go.Proofs.Tryz.underlying183
  a67:=Go.Proofs.Tryz.isAgg183
  z67:=Go.Proofs.Tryz.sizeOf183
  v67:=Go.Proofs.Tryz.zeroValue183
  i67:=by kernel_rfl
  t75:=Go.Proofs.Tryz.underlying138
  a75:=Go.Proofs.Tryz.isAgg138
  z75:=Go.Proofs.Tryz.sizeOf138
  v75:=Go.Proofs.Tryz.zeroValue138
  i75:=by kernel_rfl
  t76:=Go.Proofs.Tryz.underlying139
  a76:=Go.Proofs.Tryz.isAgg139
  z76:=Go.Proofs.Tryz.sizeOf139
  v76:=Go.Proofs.Tryz.zeroValue139
  i76:=by kernel_rfl
  t77:=Go.Proofs.Tryz.underlying140
  a77:=Go.Proofs.Tryz.isAgg140
  z77:=Go.Proofs.Tryz.sizeOf140
  v77:=Go.Proofs.Tryz.zeroValue140
  i77:=by kernel_rfl
  t78:=Go.Proofs.Tryz.underlying141
  a78:=Go.Proofs.Tryz.isAgg141
  z78:=Go.Proofs.Tryz.sizeOf141
  v78:=Go.Proofs.Tryz.zeroValue141
  i78:=by kernel_rfl
  t79:=Go.Proofs.Tryz.underlying142
  a79:=Go.Proofs.Tryz.isAgg142
  z79:=Go.Proofs.Tryz.sizeOf142
  v79:=Go.Proofs.Tryz.zeroValue142
  i79:=by kernel_rfl
  t80:=Go.Proofs.Tryz.underlying143
  a80:=Go.Proofs.Tryz.isAgg143
  z80:=Go.Proofs.Tryz.sizeOf143
  v80:=Go.Proofs.Tryz.zeroValue143
  i80:=by kernel_rfl
  t82:=Go.Proofs.Tryz.underlying145
  a82:=Go.Proofs.Tryz.isAgg145
  z82:=Go.Proofs.Tryz.sizeOf145
  v82:=Go.Proofs.Tryz.zeroValue145
  i82:=by kernel_rfl

noncomputable def sI:TypeInfo:=(Go.Proofs.Tryz.prog.info? NS.zbo).get (by kernel_rfl)
noncomputable def sE:TypeInfo:=(Go.Proofs.Tryz.prog.info? NS.zc).get (by kernel_rfl)
theorem sortT:SortT Go.Proofs.Tryz.prog NS where
  has:=⟨_,Go.Proofs.Tryz.func108,by kernel_rfl,by kernel_rfl⟩
  out:=⟨slRen,sI,sE,120,116,sl6,by kernel_rfl,by kernel_rfl,by kernel_rfl,by kernel_rfl,by kernel_rfl,fun _=>by kernel_rfl,by kernel_rfl,by kernel_rfl,by kernel_rfl,by kernel_rfl,by kernel_rfl,
    fun args W=>run_callFunc_extern Go.Proofs.Tryz.func120 (by kernel_rfl) (by kernel_rfl) (by kernel_rfl) (e:=Extern.ReflectliteSwapper.swap true) (by kernel_rfl) args W⟩
theorem lu:LU Go.Proofs.Tryz.prog NS:=⟨zhr (by kernel_rfl)⟩
theorem eachN:EachN Go.Proofs.Tryz.prog NS:=⟨by decide,by decide,lu,sortOk baseS fnsS (by decide) lu sortT⟩
theorem apC:ApC Go.Proofs.Tryz.prog NS AN:=apC_of baseS apFns eachN

def QRS:zra where
  f_NRF:=41
  f_FCI:=42
  f_FCI1:=57
  f_apply:=146
  f_framed:=24
  f_AR:=43
  f_Frame:=13
  f_Flex:=14
  f_fits4:=5
  t_Id:=23
  t_RF:=108
  t_PRF:=81
  t_LOpt:=105
  t_Opt:=84
  t_fo:=111
  t_fn:=109
  t_Req:=80
theorem fr_nrf:FOk Go.Proofs.Tryz.prog 41 1 (c_NRF NS QRS) [.var 1]:=⟨Go.Proofs.Tryz.f41,_,[0,2,3,7,8,9,10,5],Go.Proofs.Tryz.func41,rfl,by kernel_rfl,by kernel_rfl,by decide,by kernel_rfl,by kernel_rfl⟩
theorem fr_fci:FOk Go.Proofs.Tryz.prog 42 1 (c_FCI NS QRS) [.var 2]:=⟨Go.Proofs.Tryz.f42,_,[0,1,2],Go.Proofs.Tryz.func42,rfl,by kernel_rfl,by kernel_rfl,by decide,by kernel_rfl,by kernel_rfl⟩
theorem fr_fci1:FOk Go.Proofs.Tryz.prog 57 2 (c_FCI1 NS QRS) []:=⟨Go.Proofs.Tryz.f57,_,[0,1],Go.Proofs.Tryz.func57,rfl,by kernel_rfl,by kernel_rfl,by decide,by kernel_rfl,by kernel_rfl⟩
theorem fr_app:FOk Go.Proofs.Tryz.prog 146 2 (c_apply NS QRS) []:=⟨Go.Proofs.Tryz.f146,_,[0,1,2],Go.Proofs.Tryz.func146,rfl,by kernel_rfl,by kernel_rfl,by decide,by kernel_rfl,by kernel_rfl⟩
theorem fr_framed:FOk Go.Proofs.Tryz.prog 24 3 (c_framed NS QRS) [.var 4]:=⟨Go.Proofs.Tryz.f24,_,[0,1,2,3,6,7,10],Go.Proofs.Tryz.func24,rfl,by kernel_rfl,by kernel_rfl,by decide,by kernel_rfl,by kernel_rfl⟩
theorem fr_ar:FOk Go.Proofs.Tryz.prog 43 4 (c_AR NS AN QRS) [.var 4]:=⟨Go.Proofs.Tryz.f43,_,[0,1,2,3,8,9,10,33,42,11,48],Go.Proofs.Tryz.func43,rfl,by kernel_rfl,by kernel_rfl,by decide,by kernel_rfl,by kernel_rfl⟩
theorem fr_frame:FOk Go.Proofs.Tryz.prog 13 7 (zacl NS MS) [.var 7]:=⟨Go.Proofs.Tryz.f13,_,[0,1,2,3,4,5,6,14,15,26,37],Go.Proofs.Tryz.func13,rfl,by kernel_rfl,by kernel_rfl,by decide,by kernel_rfl,by kernel_rfl⟩
theorem fr_fits4:FOk Go.Proofs.Tryz.prog 5 1 (zacj NS QRS) [.var 2]:=⟨Go.Proofs.Tryz.f5,_,[0,1,2,6],Go.Proofs.Tryz.func5,rfl,by kernel_rfl,by kernel_rfl,by decide,by kernel_rfl,by kernel_rfl⟩
theorem fr_iapply (v x:Value) (w:World):(invoke (.fn (.method applyM) #[]) #[.iface QRS.t_fo v,x]).run Go.Proofs.Tryz.prog w=.ok (.enter QRS.f_apply #[v,x]) w:=by kernel_rfl
theorem frT:FrT Go.Proofs.Tryz.prog NS AN QRS:=⟨sfB_ok (by kernel_rfl),zuf (by kernel_rfl),zuf (by kernel_rfl),sfB_ok (by kernel_rfl),zuf (by kernel_rfl),foB_ok (by kernel_rfl),zuf (by kernel_rfl),errB_ok (by kernel_rfl),zhr (by kernel_rfl),fnB_ok (by kernel_rfl),zhr (by kernel_rfl),fr_nrf,fr_fci,fr_fci1,fr_app,fr_framed,fr_ar,fr_iapply⟩
theorem frS:FrS Go.Proofs.Tryz.prog NS MS AN QRS:=⟨frT,fr_frame,fr_fits4,rfl,sp_Flex,ap_AppendUint32,ap_AppendInt32,by decide,by decide,by decide⟩
theorem idT:∃ fs,Go.Proofs.Tryz.prog.underlying QRS.t_Id=some (.struct fs)∧fs.toList.map (fun f=>(f.offset,f.type))=[(0,NS.zay),(1,NS.zac)]:=⟨_,Go.Proofs.Tryz.underlying23,by kernel_rfl⟩

theorem own:ownKnob Go.Proofs.Tryz.prog.godebug=none:=by kernel_rfl
theorem laidOut:laidOutB Go.Proofs.Tryz.prog=true:=by kernel_rfl
theorem gO:Go.Proofs.Tryz.prog.globalNamed "pub-mailsack/pub/kmsg/inner/kbin.ErrNotEnoughData" = some 0:=by kernel_rfl
theorem gT:(Go.Proofs.Tryz.prog.globals[0]?).map (·.type)=some 54:=by kernel_rfl
theorem cS:Go.Proofs.Tryz.prog.cellsOf 189=1:=by kernel_rfl
theorem cStr:Go.Proofs.Tryz.prog.cellsOf 9=1:=by kernel_rfl
theorem star : "*" ++ "errors.errorString" = "*errors.errorString" := by decide
theorem rowP (u:TypeId) (h:Go.Proofs.Tryz.prog.typeName? 3 u=some "*errors.errorString"):u=131:=
  typeName_ptr_named (nm := "errors.errorString") (by rw[star]; kernel_rfl) (by kernel_rfl) (by decide) u (by rw[star]; exact h)
theorem bandT {a b:Bool} (h:a=true) (h':b=true):(a && b)=true:=by rw[h,h']; rfl
theorem bigEnter:Go.Proofs.Tryz.prog.mayEnter=true:=by kernel_rfl
theorem bigLifts:(Proofs.YtapclkhkldikeaaGreatDoor.Rows.fnFrameListConfigResourcesRequestRow.lifted == Go.Proofs.Tryz.prog.liftsFinal)=true:=by kernel_rfl
theorem bigMake:(Go.Proofs.Tryz.prog.make == some Proofs.YtapclkhkldikeaaGreatDoor.Rows.fnFrameListConfigResourcesRequestRow.make)=true:=by kernel_rfl
theorem stopsHeardS:Go.Proofs.Tryz.prog.stopsHeard=true:=by kernel_rfl
theorem mapsRowedS:mapsRowed Go.Proofs.Tryz.prog=true:=by kernel_rfl
theorem plainKeysS:(Proofs.YtapclkhkldikeaaGreatDoor.Rows.fnFrameListConfigResourcesRequestRow.plainKeys == Go.Proofs.Tryz.prog.plainKeys)=true:=by kernel_rfl
theorem mainS:Go.Proofs.Tryz.prog.mainIs=some (Proofs.YtapclkhkldikeaaGreatDoor.Rows.fnFrameListConfigResourcesRequestCard.stood.harness.1,Proofs.YtapclkhkldikeaaGreatDoor.Rows.fnFrameListConfigResourcesRequestCard.stood.harness.2.toList):=by kernel_rfl
theorem looksS:false=Go.Proofs.Tryz.prog.looks []:=by kernel_rfl
theorem shaped (os:Os) (args:Array Value):((World.doorLaid Go.Proofs.Tryz.prog 400 os).forCall (fun _ _=>0) ⟨#[],args,[]⟩).Shaped Go.Proofs.Tryz.prog:=World.shaped_of_RefB (by kernel_rfl) (by kernel_rfl)
theorem door_met (os:Os) (args:Array Value):laidMetH Go.Proofs.Tryz.prog Proofs.YtapclkhkldikeaaGreatDoor.Rows.fnFrameListConfigResourcesRequestRow.laid ((World.doorLaid Go.Proofs.Tryz.prog 400 os).forCall (fun _ _=>0) ⟨#[],args,[]⟩).memory:=
  laidMetH_of_parts3 (fuel:=8) (laidMet_of_run' 8 (by kernel_rfl) (by kernel_rfl)) (by kernel_rfl) (by kernel_rfl)
end Go.Kf
