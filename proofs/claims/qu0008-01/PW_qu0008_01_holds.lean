import PyProof.Rows.All
import Wide.All
import OpenK.AllK
import Wide.FinOn
import PySem.Challenge.RW_qu0008_01
set_option Elab.async false

/-! QTopD -/
section
open PySem PySem.W PyProof.Rows PySem.Calls
set_option maxRecDepth 100000
set_option maxHeartbeats 0
namespace Mine
noncomputable section
noncomputable abbrev Pp : Program := PySem.Challenge.rw_qu0008_01.row.toRowW.prog
noncomputable def nth : List Stmt → Nat → Stmt
  | [], _ => .Pass default
  | s :: _, 0 => s
  | _ :: r, n + 1 => nth r n
noncomputable def stm (i : Nat) : Stmt := nth PySem.Challenge.pw_qu0008_01.main.body i
noncomputable def fArgs : Stmt → Arguments
  | .FunctionDef _ a .. => a
  | _ => ⟨[], [], none, [], [], none, []⟩
noncomputable def fBody : Stmt → List Stmt
  | .FunctionDef _ _ b .. => b
  | _ => []
noncomputable def fScope : Stmt → Scope
  | .FunctionDef _ _ _ _ _ _ s .. => s
  | _ => ⟨.module, [], false, false, []⟩
noncomputable def tq : List Value := [(PySem.Value.str (PySem.Str.ofString "=00") 334), (PySem.Value.str (PySem.Str.ofString "=01") 338), (PySem.Value.str (PySem.Str.ofString "=02") 342), (PySem.Value.str (PySem.Str.ofString "=03") 346), (PySem.Value.str (PySem.Str.ofString "=04") 350), (PySem.Value.str (PySem.Str.ofString "=05") 354), (PySem.Value.str (PySem.Str.ofString "=06") 358), (PySem.Value.str (PySem.Str.ofString "=07") 362), (PySem.Value.str (PySem.Str.ofString "=08") 366), (PySem.Value.str (PySem.Str.ofString "=09") 370), (PySem.Value.str (PySem.Str.ofString "=0A") 374), (PySem.Value.str (PySem.Str.ofString "=0B") 378), (PySem.Value.str (PySem.Str.ofString "=0C") 382), (PySem.Value.str (PySem.Str.ofString "=0D") 386), (PySem.Value.str (PySem.Str.ofString "=0E") 390), (PySem.Value.str (PySem.Str.ofString "=0F") 394), (PySem.Value.str (PySem.Str.ofString "=10") 398), (PySem.Value.str (PySem.Str.ofString "=11") 402), (PySem.Value.str (PySem.Str.ofString "=12") 406), (PySem.Value.str (PySem.Str.ofString "=13") 410), (PySem.Value.str (PySem.Str.ofString "=14") 414), (PySem.Value.str (PySem.Str.ofString "=15") 418), (PySem.Value.str (PySem.Str.ofString "=16") 422), (PySem.Value.str (PySem.Str.ofString "=17") 426), (PySem.Value.str (PySem.Str.ofString "=18") 430), (PySem.Value.str (PySem.Str.ofString "=19") 434), (PySem.Value.str (PySem.Str.ofString "=1A") 438), (PySem.Value.str (PySem.Str.ofString "=1B") 442), (PySem.Value.str (PySem.Str.ofString "=1C") 446), (PySem.Value.str (PySem.Str.ofString "=1D") 450), (PySem.Value.str (PySem.Str.ofString "=1E") 454), (PySem.Value.str (PySem.Str.ofString "=1F") 458), (PySem.Value.str (PySem.Str.ofString "=20") 462), (PySem.Value.str (PySem.Str.ofString "=21") 466), (PySem.Value.str (PySem.Str.ofString "=22") 470), (PySem.Value.str (PySem.Str.ofString "=23") 474), (PySem.Value.str (PySem.Str.ofString "=24") 478), (PySem.Value.str (PySem.Str.ofString "=25") 482), (PySem.Value.str (PySem.Str.ofString "=26") 486), (PySem.Value.str (PySem.Str.ofString "=27") 490), (PySem.Value.str (PySem.Str.ofString "=28") 494), (PySem.Value.str (PySem.Str.ofString "=29") 498), (PySem.Value.str (PySem.Str.ofString "=2A") 502), (PySem.Value.str (PySem.Str.ofString "=2B") 506), (PySem.Value.str (PySem.Str.ofString "=2C") 510), (PySem.Value.str (PySem.Str.ofString "=2D") 514), (PySem.Value.str (PySem.Str.ofString "=2E") 518), (PySem.Value.str (PySem.Str.ofString "=2F") 522), (PySem.Value.str (PySem.Str.ofString "=30") 526), (PySem.Value.str (PySem.Str.ofString "=31") 530), (PySem.Value.str (PySem.Str.ofString "=32") 534), (PySem.Value.str (PySem.Str.ofString "=33") 538), (PySem.Value.str (PySem.Str.ofString "=34") 542), (PySem.Value.str (PySem.Str.ofString "=35") 546), (PySem.Value.str (PySem.Str.ofString "=36") 550), (PySem.Value.str (PySem.Str.ofString "=37") 554), (PySem.Value.str (PySem.Str.ofString "=38") 558), (PySem.Value.str (PySem.Str.ofString "=39") 562), (PySem.Value.str (PySem.Str.ofString "=3A") 566), (PySem.Value.str (PySem.Str.ofString "=3B") 570), (PySem.Value.str (PySem.Str.ofString "=3C") 574), (PySem.Value.str (PySem.Str.ofString "=3D") 578), (PySem.Value.str (PySem.Str.ofString "=3E") 582), (PySem.Value.str (PySem.Str.ofString "=3F") 586), (PySem.Value.str (PySem.Str.ofString "=40") 590), (PySem.Value.str (PySem.Str.ofString "=41") 594), (PySem.Value.str (PySem.Str.ofString "=42") 598), (PySem.Value.str (PySem.Str.ofString "=43") 602), (PySem.Value.str (PySem.Str.ofString "=44") 606), (PySem.Value.str (PySem.Str.ofString "=45") 610), (PySem.Value.str (PySem.Str.ofString "=46") 614), (PySem.Value.str (PySem.Str.ofString "=47") 618), (PySem.Value.str (PySem.Str.ofString "=48") 622), (PySem.Value.str (PySem.Str.ofString "=49") 626), (PySem.Value.str (PySem.Str.ofString "=4A") 630), (PySem.Value.str (PySem.Str.ofString "=4B") 634), (PySem.Value.str (PySem.Str.ofString "=4C") 638), (PySem.Value.str (PySem.Str.ofString "=4D") 642), (PySem.Value.str (PySem.Str.ofString "=4E") 646), (PySem.Value.str (PySem.Str.ofString "=4F") 650), (PySem.Value.str (PySem.Str.ofString "=50") 654), (PySem.Value.str (PySem.Str.ofString "=51") 658), (PySem.Value.str (PySem.Str.ofString "=52") 662), (PySem.Value.str (PySem.Str.ofString "=53") 666), (PySem.Value.str (PySem.Str.ofString "=54") 670), (PySem.Value.str (PySem.Str.ofString "=55") 674), (PySem.Value.str (PySem.Str.ofString "=56") 678), (PySem.Value.str (PySem.Str.ofString "=57") 682), (PySem.Value.str (PySem.Str.ofString "=58") 686), (PySem.Value.str (PySem.Str.ofString "=59") 690), (PySem.Value.str (PySem.Str.ofString "=5A") 694), (PySem.Value.str (PySem.Str.ofString "=5B") 698), (PySem.Value.str (PySem.Str.ofString "=5C") 702), (PySem.Value.str (PySem.Str.ofString "=5D") 706), (PySem.Value.str (PySem.Str.ofString "=5E") 710), (PySem.Value.str (PySem.Str.ofString "=5F") 714), (PySem.Value.str (PySem.Str.ofString "=60") 718), (PySem.Value.str (PySem.Str.ofString "=61") 722), (PySem.Value.str (PySem.Str.ofString "=62") 726), (PySem.Value.str (PySem.Str.ofString "=63") 730), (PySem.Value.str (PySem.Str.ofString "=64") 734), (PySem.Value.str (PySem.Str.ofString "=65") 738), (PySem.Value.str (PySem.Str.ofString "=66") 742), (PySem.Value.str (PySem.Str.ofString "=67") 746), (PySem.Value.str (PySem.Str.ofString "=68") 750), (PySem.Value.str (PySem.Str.ofString "=69") 754), (PySem.Value.str (PySem.Str.ofString "=6A") 758), (PySem.Value.str (PySem.Str.ofString "=6B") 762), (PySem.Value.str (PySem.Str.ofString "=6C") 766), (PySem.Value.str (PySem.Str.ofString "=6D") 770), (PySem.Value.str (PySem.Str.ofString "=6E") 774), (PySem.Value.str (PySem.Str.ofString "=6F") 778), (PySem.Value.str (PySem.Str.ofString "=70") 782), (PySem.Value.str (PySem.Str.ofString "=71") 786), (PySem.Value.str (PySem.Str.ofString "=72") 790), (PySem.Value.str (PySem.Str.ofString "=73") 794), (PySem.Value.str (PySem.Str.ofString "=74") 798), (PySem.Value.str (PySem.Str.ofString "=75") 802), (PySem.Value.str (PySem.Str.ofString "=76") 806), (PySem.Value.str (PySem.Str.ofString "=77") 810), (PySem.Value.str (PySem.Str.ofString "=78") 814), (PySem.Value.str (PySem.Str.ofString "=79") 818), (PySem.Value.str (PySem.Str.ofString "=7A") 822), (PySem.Value.str (PySem.Str.ofString "=7B") 826), (PySem.Value.str (PySem.Str.ofString "=7C") 830), (PySem.Value.str (PySem.Str.ofString "=7D") 834), (PySem.Value.str (PySem.Str.ofString "=7E") 838), (PySem.Value.str (PySem.Str.ofString "=7F") 842), (PySem.Value.str (PySem.Str.ofString "=80") 846), (PySem.Value.str (PySem.Str.ofString "=81") 850), (PySem.Value.str (PySem.Str.ofString "=82") 854), (PySem.Value.str (PySem.Str.ofString "=83") 858), (PySem.Value.str (PySem.Str.ofString "=84") 862), (PySem.Value.str (PySem.Str.ofString "=85") 866), (PySem.Value.str (PySem.Str.ofString "=86") 870), (PySem.Value.str (PySem.Str.ofString "=87") 874), (PySem.Value.str (PySem.Str.ofString "=88") 878), (PySem.Value.str (PySem.Str.ofString "=89") 882), (PySem.Value.str (PySem.Str.ofString "=8A") 886), (PySem.Value.str (PySem.Str.ofString "=8B") 890), (PySem.Value.str (PySem.Str.ofString "=8C") 894), (PySem.Value.str (PySem.Str.ofString "=8D") 898), (PySem.Value.str (PySem.Str.ofString "=8E") 902), (PySem.Value.str (PySem.Str.ofString "=8F") 906), (PySem.Value.str (PySem.Str.ofString "=90") 910), (PySem.Value.str (PySem.Str.ofString "=91") 914), (PySem.Value.str (PySem.Str.ofString "=92") 918), (PySem.Value.str (PySem.Str.ofString "=93") 922), (PySem.Value.str (PySem.Str.ofString "=94") 926), (PySem.Value.str (PySem.Str.ofString "=95") 930), (PySem.Value.str (PySem.Str.ofString "=96") 934), (PySem.Value.str (PySem.Str.ofString "=97") 938), (PySem.Value.str (PySem.Str.ofString "=98") 942), (PySem.Value.str (PySem.Str.ofString "=99") 946), (PySem.Value.str (PySem.Str.ofString "=9A") 950), (PySem.Value.str (PySem.Str.ofString "=9B") 954), (PySem.Value.str (PySem.Str.ofString "=9C") 958), (PySem.Value.str (PySem.Str.ofString "=9D") 962), (PySem.Value.str (PySem.Str.ofString "=9E") 966), (PySem.Value.str (PySem.Str.ofString "=9F") 970), (PySem.Value.str (PySem.Str.ofString "=A0") 974), (PySem.Value.str (PySem.Str.ofString "=A1") 978), (PySem.Value.str (PySem.Str.ofString "=A2") 982), (PySem.Value.str (PySem.Str.ofString "=A3") 986), (PySem.Value.str (PySem.Str.ofString "=A4") 990), (PySem.Value.str (PySem.Str.ofString "=A5") 994), (PySem.Value.str (PySem.Str.ofString "=A6") 998), (PySem.Value.str (PySem.Str.ofString "=A7") 1002), (PySem.Value.str (PySem.Str.ofString "=A8") 1006), (PySem.Value.str (PySem.Str.ofString "=A9") 1010), (PySem.Value.str (PySem.Str.ofString "=AA") 1014), (PySem.Value.str (PySem.Str.ofString "=AB") 1018), (PySem.Value.str (PySem.Str.ofString "=AC") 1022), (PySem.Value.str (PySem.Str.ofString "=AD") 1026), (PySem.Value.str (PySem.Str.ofString "=AE") 1030), (PySem.Value.str (PySem.Str.ofString "=AF") 1034), (PySem.Value.str (PySem.Str.ofString "=B0") 1038), (PySem.Value.str (PySem.Str.ofString "=B1") 1042), (PySem.Value.str (PySem.Str.ofString "=B2") 1046), (PySem.Value.str (PySem.Str.ofString "=B3") 1050), (PySem.Value.str (PySem.Str.ofString "=B4") 1054), (PySem.Value.str (PySem.Str.ofString "=B5") 1058), (PySem.Value.str (PySem.Str.ofString "=B6") 1062), (PySem.Value.str (PySem.Str.ofString "=B7") 1066), (PySem.Value.str (PySem.Str.ofString "=B8") 1070), (PySem.Value.str (PySem.Str.ofString "=B9") 1074), (PySem.Value.str (PySem.Str.ofString "=BA") 1078), (PySem.Value.str (PySem.Str.ofString "=BB") 1082), (PySem.Value.str (PySem.Str.ofString "=BC") 1086), (PySem.Value.str (PySem.Str.ofString "=BD") 1090), (PySem.Value.str (PySem.Str.ofString "=BE") 1094), (PySem.Value.str (PySem.Str.ofString "=BF") 1098), (PySem.Value.str (PySem.Str.ofString "=C0") 1102), (PySem.Value.str (PySem.Str.ofString "=C1") 1106), (PySem.Value.str (PySem.Str.ofString "=C2") 1110), (PySem.Value.str (PySem.Str.ofString "=C3") 1114), (PySem.Value.str (PySem.Str.ofString "=C4") 1118), (PySem.Value.str (PySem.Str.ofString "=C5") 1122), (PySem.Value.str (PySem.Str.ofString "=C6") 1126), (PySem.Value.str (PySem.Str.ofString "=C7") 1130), (PySem.Value.str (PySem.Str.ofString "=C8") 1134), (PySem.Value.str (PySem.Str.ofString "=C9") 1138), (PySem.Value.str (PySem.Str.ofString "=CA") 1142), (PySem.Value.str (PySem.Str.ofString "=CB") 1146), (PySem.Value.str (PySem.Str.ofString "=CC") 1150), (PySem.Value.str (PySem.Str.ofString "=CD") 1154), (PySem.Value.str (PySem.Str.ofString "=CE") 1158), (PySem.Value.str (PySem.Str.ofString "=CF") 1162), (PySem.Value.str (PySem.Str.ofString "=D0") 1166), (PySem.Value.str (PySem.Str.ofString "=D1") 1170), (PySem.Value.str (PySem.Str.ofString "=D2") 1174), (PySem.Value.str (PySem.Str.ofString "=D3") 1178), (PySem.Value.str (PySem.Str.ofString "=D4") 1182), (PySem.Value.str (PySem.Str.ofString "=D5") 1186), (PySem.Value.str (PySem.Str.ofString "=D6") 1190), (PySem.Value.str (PySem.Str.ofString "=D7") 1194), (PySem.Value.str (PySem.Str.ofString "=D8") 1198), (PySem.Value.str (PySem.Str.ofString "=D9") 1202), (PySem.Value.str (PySem.Str.ofString "=DA") 1206), (PySem.Value.str (PySem.Str.ofString "=DB") 1210), (PySem.Value.str (PySem.Str.ofString "=DC") 1214), (PySem.Value.str (PySem.Str.ofString "=DD") 1218), (PySem.Value.str (PySem.Str.ofString "=DE") 1222), (PySem.Value.str (PySem.Str.ofString "=DF") 1226), (PySem.Value.str (PySem.Str.ofString "=E0") 1230), (PySem.Value.str (PySem.Str.ofString "=E1") 1234), (PySem.Value.str (PySem.Str.ofString "=E2") 1238), (PySem.Value.str (PySem.Str.ofString "=E3") 1242), (PySem.Value.str (PySem.Str.ofString "=E4") 1246), (PySem.Value.str (PySem.Str.ofString "=E5") 1250), (PySem.Value.str (PySem.Str.ofString "=E6") 1254), (PySem.Value.str (PySem.Str.ofString "=E7") 1258), (PySem.Value.str (PySem.Str.ofString "=E8") 1262), (PySem.Value.str (PySem.Str.ofString "=E9") 1266), (PySem.Value.str (PySem.Str.ofString "=EA") 1270), (PySem.Value.str (PySem.Str.ofString "=EB") 1274), (PySem.Value.str (PySem.Str.ofString "=EC") 1278), (PySem.Value.str (PySem.Str.ofString "=ED") 1282), (PySem.Value.str (PySem.Str.ofString "=EE") 1286), (PySem.Value.str (PySem.Str.ofString "=EF") 1290), (PySem.Value.str (PySem.Str.ofString "=F0") 1294), (PySem.Value.str (PySem.Str.ofString "=F1") 1298), (PySem.Value.str (PySem.Str.ofString "=F2") 1302), (PySem.Value.str (PySem.Str.ofString "=F3") 1306), (PySem.Value.str (PySem.Str.ofString "=F4") 1310), (PySem.Value.str (PySem.Str.ofString "=F5") 1314), (PySem.Value.str (PySem.Str.ofString "=F6") 1318), (PySem.Value.str (PySem.Str.ofString "=F7") 1322), (PySem.Value.str (PySem.Str.ofString "=F8") 1326), (PySem.Value.str (PySem.Str.ofString "=F9") 1330), (PySem.Value.str (PySem.Str.ofString "=FA") 1334), (PySem.Value.str (PySem.Str.ofString "=FB") 1338), (PySem.Value.str (PySem.Str.ofString "=FC") 1342), (PySem.Value.str (PySem.Str.ofString "=FD") 1346), (PySem.Value.str (PySem.Str.ofString "=FE") 1350), (PySem.Value.str (PySem.Str.ofString "=FF") 1354)]
noncomputable def up : List Value → List (Nat × Value) → List Value
  | l, [] => l
  | l, (i, v) :: r => up (l.set i v) r
noncomputable abbrev ann : Option Value := some (.ref 6)
noncomputable def env : Env := { scope := Pp.main.scope, locals := mainNs, globals := mainNs, cells := [], code := (PySem.Value.ref 30), frame := some 31 }
noncomputable abbrev qpos : Pos := ⟨0, 0, 0, 0⟩
noncomputable abbrev bE : List Stmt := behindTheImports Pp
noncomputable abbrev cE : Code := .body bE env
noncomputable abbrev B : List Frame := [topFrame qpos]
noncomputable def thrOf (o : Option (SharedT × Thread)) : Thread := match o with
  | some (_, t) => t
  | none => ⟨.unsupported "", .builtin "" ⟨[], []⟩, default, []⟩
noncomputable abbrev goW (w : World) (n : Nat) (s : SharedT) (t : Thread) := PySem.W.Fast.tw10295753902157049106 PySem.W.Fast.tw14364793385576792824 Pp w 28 ann 1 n s t
noncomputable def ob0 (P : Params) : Obj := (PySem.Obj.mk (PySem.Value.type "dict") none (PySem.Data.dict #[(PySem.DictEntry.mk (PySem.PyData.keyHash P (PySem.Str.ofString "__name__")) (PySem.Value.str (PySem.Str.ofString "__name__") 1) (PySem.Value.str (PySem.Str.ofString "builtins") 160)), (PySem.DictEntry.mk (PySem.PyData.keyHash P (PySem.Str.ofString "__doc__")) (PySem.Value.str (PySem.Str.ofString "__doc__") 2) (PySem.Value.builtin "builtins.__doc__:str#op\u0061que")), (PySem.DictEntry.mk (PySem.PyData.keyHash P (PySem.Str.ofString "__package__")) (PySem.Value.str (PySem.Str.ofString "__package__") 3) (PySem.Value.builtin "builtins.__package__:str#op\u0061que")), (PySem.DictEntry.mk (PySem.PyData.keyHash P (PySem.Str.ofString "__loader__")) (PySem.Value.str (PySem.Str.ofString "__loader__") 4) (PySem.Value.builtin "builtins.__loader__:shared#op\u0061que")), (PySem.DictEntry.mk (PySem.PyData.keyHash P (PySem.Str.ofString "__spec__")) (PySem.Value.str (PySem.Str.ofString "__spec__") 5) (PySem.Value.builtin "builtins.__spec__#op\u0061que")), (PySem.DictEntry.mk (PySem.PyData.keyHash P (PySem.Str.ofString "__build_class__")) (PySem.Value.str (PySem.Str.ofString "__build_class__") 6) (PySem.Value.builtin "__build_class__")), (PySem.DictEntry.mk (PySem.PyData.keyHash P (PySem.Str.mk #[95, 95, 105, 109, 112, 111, 114, 116, 95, 95])) (PySem.Value.str (PySem.Str.mk #[95, 95, 105, 109, 112, 111, 114, 116, 95, 95]) 7) (PySem.Value.builtin "__import__")), (PySem.DictEntry.mk (PySem.PyData.keyHash P (PySem.Str.ofString "abs")) (PySem.Value.str (PySem.Str.ofString "abs") 8) (PySem.Value.builtin "abs")), (PySem.DictEntry.mk (PySem.PyData.keyHash P (PySem.Str.ofString "all")) (PySem.Value.str (PySem.Str.ofString "all") 9) (PySem.Value.builtin "all")), (PySem.DictEntry.mk (PySem.PyData.keyHash P (PySem.Str.ofString "any")) (PySem.Value.str (PySem.Str.ofString "any") 10) (PySem.Value.builtin "any")), (PySem.DictEntry.mk (PySem.PyData.keyHash P (PySem.Str.ofString "ascii")) (PySem.Value.str (PySem.Str.ofString "ascii") 11) (PySem.Value.builtin "ascii")), (PySem.DictEntry.mk (PySem.PyData.keyHash P (PySem.Str.ofString "bin")) (PySem.Value.str (PySem.Str.ofString "bin") 12) (PySem.Value.builtin "bin")), (PySem.DictEntry.mk (PySem.PyData.keyHash P (PySem.Str.ofString "breakpoint")) (PySem.Value.str (PySem.Str.ofString "breakpoint") 13) (PySem.Value.builtin "breakpoint")), (PySem.DictEntry.mk (PySem.PyData.keyHash P (PySem.Str.ofString "callable")) (PySem.Value.str (PySem.Str.ofString "callable") 14) (PySem.Value.builtin "callable")), (PySem.DictEntry.mk (PySem.PyData.keyHash P (PySem.Str.ofString "chr")) (PySem.Value.str (PySem.Str.ofString "chr") 15) (PySem.Value.builtin "chr")), (PySem.DictEntry.mk (PySem.PyData.keyHash P (PySem.Str.ofString "compile")) (PySem.Value.str (PySem.Str.ofString "compile") 16) (PySem.Value.builtin "compile")), (PySem.DictEntry.mk (PySem.PyData.keyHash P (PySem.Str.ofString "delattr")) (PySem.Value.str (PySem.Str.ofString "delattr") 17) (PySem.Value.builtin "delattr")), (PySem.DictEntry.mk (PySem.PyData.keyHash P (PySem.Str.ofString "dir")) (PySem.Value.str (PySem.Str.ofString "dir") 18) (PySem.Value.builtin "dir")), (PySem.DictEntry.mk (PySem.PyData.keyHash P (PySem.Str.ofString "divmod")) (PySem.Value.str (PySem.Str.ofString "divmod") 19) (PySem.Value.builtin "divmod")), (PySem.DictEntry.mk (PySem.PyData.keyHash P (PySem.Str.ofString "eval")) (PySem.Value.str (PySem.Str.ofString "eval") 20) (PySem.Value.builtin "eval")), (PySem.DictEntry.mk (PySem.PyData.keyHash P (PySem.Str.ofString "exec")) (PySem.Value.str (PySem.Str.ofString "exec") 21) (PySem.Value.builtin "exec")), (PySem.DictEntry.mk (PySem.PyData.keyHash P (PySem.Str.ofString "format")) (PySem.Value.str (PySem.Str.ofString "format") 22) (PySem.Value.builtin "format")), (PySem.DictEntry.mk (PySem.PyData.keyHash P (PySem.Str.ofString "getattr")) (PySem.Value.str (PySem.Str.ofString "getattr") 23) (PySem.Value.builtin "getattr")), (PySem.DictEntry.mk (PySem.PyData.keyHash P (PySem.Str.ofString "globals")) (PySem.Value.str (PySem.Str.ofString "globals") 24) (PySem.Value.builtin "globals")), (PySem.DictEntry.mk (PySem.PyData.keyHash P (PySem.Str.ofString "hasattr")) (PySem.Value.str (PySem.Str.ofString "hasattr") 25) (PySem.Value.builtin "hasattr")), (PySem.DictEntry.mk (PySem.PyData.keyHash P (PySem.Str.ofString "hash")) (PySem.Value.str (PySem.Str.ofString "hash") 26) (PySem.Value.builtin "hash")), (PySem.DictEntry.mk (PySem.PyData.keyHash P (PySem.Str.ofString "hex")) (PySem.Value.str (PySem.Str.ofString "hex") 27) (PySem.Value.builtin "hex")), (PySem.DictEntry.mk (PySem.PyData.keyHash P (PySem.Str.ofString "id")) (PySem.Value.str (PySem.Str.ofString "id") 28) (PySem.Value.builtin "id")), (PySem.DictEntry.mk (PySem.PyData.keyHash P (PySem.Str.ofString "input")) (PySem.Value.str (PySem.Str.ofString "input") 29) (PySem.Value.builtin "input")), (PySem.DictEntry.mk (PySem.PyData.keyHash P (PySem.Str.ofString "isinstance")) (PySem.Value.str (PySem.Str.ofString "isinstance") 30) (PySem.Value.builtin "isinstance")), (PySem.DictEntry.mk (PySem.PyData.keyHash P (PySem.Str.ofString "issubclass")) (PySem.Value.str (PySem.Str.ofString "issubclass") 31) (PySem.Value.builtin "issubclass")), (PySem.DictEntry.mk (PySem.PyData.keyHash P (PySem.Str.ofString "iter")) (PySem.Value.str (PySem.Str.ofString "iter") 32) (PySem.Value.builtin "iter")), (PySem.DictEntry.mk (PySem.PyData.keyHash P (PySem.Str.ofString "aiter")) (PySem.Value.str (PySem.Str.ofString "aiter") 33) (PySem.Value.builtin "aiter")), (PySem.DictEntry.mk (PySem.PyData.keyHash P (PySem.Str.ofString "len")) (PySem.Value.str (PySem.Str.ofString "len") 34) (PySem.Value.builtin "len")), (PySem.DictEntry.mk (PySem.PyData.keyHash P (PySem.Str.ofString "locals")) (PySem.Value.str (PySem.Str.ofString "locals") 35) (PySem.Value.builtin "locals")), (PySem.DictEntry.mk (PySem.PyData.keyHash P (PySem.Str.ofString "max")) (PySem.Value.str (PySem.Str.ofString "max") 36) (PySem.Value.builtin "max")), (PySem.DictEntry.mk (PySem.PyData.keyHash P (PySem.Str.ofString "min")) (PySem.Value.str (PySem.Str.ofString "min") 37) (PySem.Value.builtin "min")), (PySem.DictEntry.mk (PySem.PyData.keyHash P (PySem.Str.ofString "next")) (PySem.Value.str (PySem.Str.ofString "next") 38) (PySem.Value.builtin "next")), (PySem.DictEntry.mk (PySem.PyData.keyHash P (PySem.Str.ofString "anext")) (PySem.Value.str (PySem.Str.ofString "anext") 39) (PySem.Value.builtin "anext")), (PySem.DictEntry.mk (PySem.PyData.keyHash P (PySem.Str.ofString "oct")) (PySem.Value.str (PySem.Str.ofString "oct") 40) (PySem.Value.builtin "oct")), (PySem.DictEntry.mk (PySem.PyData.keyHash P (PySem.Str.ofString "ord")) (PySem.Value.str (PySem.Str.ofString "ord") 41) (PySem.Value.builtin "ord")), (PySem.DictEntry.mk (PySem.PyData.keyHash P (PySem.Str.ofString "pow")) (PySem.Value.str (PySem.Str.ofString "pow") 42) (PySem.Value.builtin "pow")), (PySem.DictEntry.mk (PySem.PyData.keyHash P (PySem.Str.ofString "print")) (PySem.Value.str (PySem.Str.ofString "print") 43) (PySem.Value.builtin "print")), (PySem.DictEntry.mk (PySem.PyData.keyHash P (PySem.Str.ofString "repr")) (PySem.Value.str (PySem.Str.ofString "repr") 44) (PySem.Value.builtin "repr")), (PySem.DictEntry.mk (PySem.PyData.keyHash P (PySem.Str.ofString "round")) (PySem.Value.str (PySem.Str.ofString "round") 45) (PySem.Value.builtin "round")), (PySem.DictEntry.mk (PySem.PyData.keyHash P (PySem.Str.ofString "setattr")) (PySem.Value.str (PySem.Str.ofString "setattr") 46) (PySem.Value.builtin "setattr")), (PySem.DictEntry.mk (PySem.PyData.keyHash P (PySem.Str.ofString "sorted")) (PySem.Value.str (PySem.Str.ofString "sorted") 47) (PySem.Value.builtin "sorted")), (PySem.DictEntry.mk (PySem.PyData.keyHash P (PySem.Str.ofString "sum")) (PySem.Value.str (PySem.Str.ofString "sum") 48) (PySem.Value.builtin "sum")), (PySem.DictEntry.mk (PySem.PyData.keyHash P (PySem.Str.ofString "vars")) (PySem.Value.str (PySem.Str.ofString "vars") 49) (PySem.Value.builtin "vars")), (PySem.DictEntry.mk (PySem.PyData.keyHash P (PySem.Str.ofString "None")) (PySem.Value.str (PySem.Str.ofString "None") 50) PySem.Value.none), (PySem.DictEntry.mk (PySem.PyData.keyHash P (PySem.Str.ofString "Ellipsis")) (PySem.Value.str (PySem.Str.ofString "Ellipsis") 51) PySem.Value.ellipsis), (PySem.DictEntry.mk (PySem.PyData.keyHash P (PySem.Str.ofString "NotImplemented")) (PySem.Value.str (PySem.Str.ofString "NotImplemented") 52) PySem.Value.notImplemented), (PySem.DictEntry.mk (PySem.PyData.keyHash P (PySem.Str.ofString "False")) (PySem.Value.str (PySem.Str.ofString "False") 53) (PySem.Value.bool Bool.false)), (PySem.DictEntry.mk (PySem.PyData.keyHash P (PySem.Str.ofString "True")) (PySem.Value.str (PySem.Str.ofString "True") 54) (PySem.Value.bool Bool.true)), (PySem.DictEntry.mk (PySem.PyData.keyHash P (PySem.Str.ofString "bool")) (PySem.Value.str (PySem.Str.ofString "bool") 55) (PySem.Value.type "bool")), (PySem.DictEntry.mk (PySem.PyData.keyHash P (PySem.Str.ofString "memoryview")) (PySem.Value.str (PySem.Str.ofString "memoryview") 56) (PySem.Value.type "memoryview")), (PySem.DictEntry.mk (PySem.PyData.keyHash P (PySem.Str.ofString "bytearray")) (PySem.Value.str (PySem.Str.ofString "bytearray") 57) (PySem.Value.type "bytearray")), (PySem.DictEntry.mk (PySem.PyData.keyHash P (PySem.Str.ofString "bytes")) (PySem.Value.str (PySem.Str.ofString "bytes") 58) (PySem.Value.type "bytes")), (PySem.DictEntry.mk (PySem.PyData.keyHash P (PySem.Str.ofString "classmethod")) (PySem.Value.str (PySem.Str.ofString "classmethod") 59) (PySem.Value.type "classmethod")), (PySem.DictEntry.mk (PySem.PyData.keyHash P (PySem.Str.ofString "complex")) (PySem.Value.str (PySem.Str.ofString "complex") 60) (PySem.Value.type "complex")), (PySem.DictEntry.mk (PySem.PyData.keyHash P (PySem.Str.ofString "dict")) (PySem.Value.str (PySem.Str.ofString "dict") 61) (PySem.Value.type "dict")), (PySem.DictEntry.mk (PySem.PyData.keyHash P (PySem.Str.ofString "enumerate")) (PySem.Value.str (PySem.Str.ofString "enumerate") 62) (PySem.Value.type "enumerate")), (PySem.DictEntry.mk (PySem.PyData.keyHash P (PySem.Str.ofString "filter")) (PySem.Value.str (PySem.Str.ofString "filter") 63) (PySem.Value.type "filter")), (PySem.DictEntry.mk (PySem.PyData.keyHash P (PySem.Str.ofString "float")) (PySem.Value.str (PySem.Str.ofString "float") 64) (PySem.Value.type "float")), (PySem.DictEntry.mk (PySem.PyData.keyHash P (PySem.Str.ofString "frozenset")) (PySem.Value.str (PySem.Str.ofString "frozenset") 65) (PySem.Value.type "frozenset")), (PySem.DictEntry.mk (PySem.PyData.keyHash P (PySem.Str.ofString "property")) (PySem.Value.str (PySem.Str.ofString "property") 66) (PySem.Value.type "property")), (PySem.DictEntry.mk (PySem.PyData.keyHash P (PySem.Str.ofString "int")) (PySem.Value.str (PySem.Str.ofString "int") 67) (PySem.Value.type "int")), (PySem.DictEntry.mk (PySem.PyData.keyHash P (PySem.Str.ofString "list")) (PySem.Value.str (PySem.Str.ofString "list") 68) (PySem.Value.type "list")), (PySem.DictEntry.mk (PySem.PyData.keyHash P (PySem.Str.ofString "map")) (PySem.Value.str (PySem.Str.ofString "map") 69) (PySem.Value.type "map")), (PySem.DictEntry.mk (PySem.PyData.keyHash P (PySem.Str.ofString "object")) (PySem.Value.str (PySem.Str.ofString "object") 70) (PySem.Value.type "object")), (PySem.DictEntry.mk (PySem.PyData.keyHash P (PySem.Str.ofString "range")) (PySem.Value.str (PySem.Str.ofString "range") 71) (PySem.Value.type "range")), (PySem.DictEntry.mk (PySem.PyData.keyHash P (PySem.Str.ofString "reversed")) (PySem.Value.str (PySem.Str.ofString "reversed") 72) (PySem.Value.type "reversed")), (PySem.DictEntry.mk (PySem.PyData.keyHash P (PySem.Str.ofString "set")) (PySem.Value.str (PySem.Str.ofString "set") 73) (PySem.Value.type "set")), (PySem.DictEntry.mk (PySem.PyData.keyHash P (PySem.Str.ofString "slice")) (PySem.Value.str (PySem.Str.ofString "slice") 74) (PySem.Value.type "slice")), (PySem.DictEntry.mk (PySem.PyData.keyHash P (PySem.Str.ofString "staticmethod")) (PySem.Value.str (PySem.Str.ofString "staticmethod") 75) (PySem.Value.type "staticmethod")), (PySem.DictEntry.mk (PySem.PyData.keyHash P (PySem.Str.ofString "str")) (PySem.Value.str (PySem.Str.ofString "str") 76) (PySem.Value.type "str")), (PySem.DictEntry.mk (PySem.PyData.keyHash P (PySem.Str.ofString "super")) (PySem.Value.str (PySem.Str.ofString "super") 77) (PySem.Value.type "super")), (PySem.DictEntry.mk (PySem.PyData.keyHash P (PySem.Str.ofString "tuple")) (PySem.Value.str (PySem.Str.ofString "tuple") 78) (PySem.Value.type "tuple")), (PySem.DictEntry.mk (PySem.PyData.keyHash P (PySem.Str.ofString "type")) (PySem.Value.str (PySem.Str.ofString "type") 79) (PySem.Value.type "type")), (PySem.DictEntry.mk (PySem.PyData.keyHash P (PySem.Str.ofString "zip")) (PySem.Value.str (PySem.Str.ofString "zip") 80) (PySem.Value.type "zip")), (PySem.DictEntry.mk (PySem.PyData.keyHash P (PySem.Str.ofString "__debug__")) (PySem.Value.str (PySem.Str.ofString "__debug__") 81) (PySem.Value.bool Bool.true)), (PySem.DictEntry.mk (PySem.PyData.keyHash P (PySem.Str.ofString "BaseException")) (PySem.Value.str (PySem.Str.ofString "BaseException") 82) (PySem.Value.type "BaseException")), (PySem.DictEntry.mk (PySem.PyData.keyHash P (PySem.Str.ofString "BaseExceptionGroup")) (PySem.Value.str (PySem.Str.ofString "BaseExceptionGroup") 83) (PySem.Value.type "BaseExceptionGroup")), (PySem.DictEntry.mk (PySem.PyData.keyHash P (PySem.Str.ofString "Exception")) (PySem.Value.str (PySem.Str.ofString "Exception") 84) (PySem.Value.type "Exception")), (PySem.DictEntry.mk (PySem.PyData.keyHash P (PySem.Str.ofString "GeneratorExit")) (PySem.Value.str (PySem.Str.ofString "GeneratorExit") 85) (PySem.Value.type "GeneratorExit")), (PySem.DictEntry.mk (PySem.PyData.keyHash P (PySem.Str.ofString "KeyboardInterrupt")) (PySem.Value.str (PySem.Str.ofString "KeyboardInterrupt") 86) (PySem.Value.type "KeyboardInterrupt")), (PySem.DictEntry.mk (PySem.PyData.keyHash P (PySem.Str.ofString "SystemExit")) (PySem.Value.str (PySem.Str.ofString "SystemExit") 87) (PySem.Value.type "SystemExit")), (PySem.DictEntry.mk (PySem.PyData.keyHash P (PySem.Str.ofString "ArithmeticError")) (PySem.Value.str (PySem.Str.ofString "ArithmeticError") 88) (PySem.Value.type "ArithmeticError")), (PySem.DictEntry.mk (PySem.PyData.keyHash P (PySem.Str.ofString "AssertionError")) (PySem.Value.str (PySem.Str.ofString "AssertionError") 89) (PySem.Value.type "AssertionError")), (PySem.DictEntry.mk (PySem.PyData.keyHash P (PySem.Str.ofString "AttributeError")) (PySem.Value.str (PySem.Str.ofString "AttributeError") 90) (PySem.Value.type "AttributeError")), (PySem.DictEntry.mk (PySem.PyData.keyHash P (PySem.Str.ofString "BufferError")) (PySem.Value.str (PySem.Str.ofString "BufferError") 91) (PySem.Value.type "BufferError")), (PySem.DictEntry.mk (PySem.PyData.keyHash P (PySem.Str.ofString "EOFError")) (PySem.Value.str (PySem.Str.ofString "EOFError") 92) (PySem.Value.type "EOFError")), (PySem.DictEntry.mk (PySem.PyData.keyHash P (PySem.Str.ofString "ImportError")) (PySem.Value.str (PySem.Str.ofString "ImportError") 93) (PySem.Value.type "ImportError")), (PySem.DictEntry.mk (PySem.PyData.keyHash P (PySem.Str.ofString "LookupError")) (PySem.Value.str (PySem.Str.ofString "LookupError") 94) (PySem.Value.type "LookupError")), (PySem.DictEntry.mk (PySem.PyData.keyHash P (PySem.Str.ofString "MemoryError")) (PySem.Value.str (PySem.Str.ofString "MemoryError") 95) (PySem.Value.type "MemoryError")), (PySem.DictEntry.mk (PySem.PyData.keyHash P (PySem.Str.ofString "NameError")) (PySem.Value.str (PySem.Str.ofString "NameError") 96) (PySem.Value.type "NameError")), (PySem.DictEntry.mk (PySem.PyData.keyHash P (PySem.Str.ofString "OSError")) (PySem.Value.str (PySem.Str.ofString "OSError") 97) (PySem.Value.type "OSError")), (PySem.DictEntry.mk (PySem.PyData.keyHash P (PySem.Str.ofString "ReferenceError")) (PySem.Value.str (PySem.Str.ofString "ReferenceError") 98) (PySem.Value.type "ReferenceError")), (PySem.DictEntry.mk (PySem.PyData.keyHash P (PySem.Str.ofString "RuntimeError")) (PySem.Value.str (PySem.Str.ofString "RuntimeError") 99) (PySem.Value.type "RuntimeError")), (PySem.DictEntry.mk (PySem.PyData.keyHash P (PySem.Str.ofString "StopAsyncIteration")) (PySem.Value.str (PySem.Str.ofString "StopAsyncIteration") 100) (PySem.Value.type "StopAsyncIteration")), (PySem.DictEntry.mk (PySem.PyData.keyHash P (PySem.Str.ofString "StopIteration")) (PySem.Value.str (PySem.Str.ofString "StopIteration") 101) (PySem.Value.type "StopIteration")), (PySem.DictEntry.mk (PySem.PyData.keyHash P (PySem.Str.ofString "SyntaxError")) (PySem.Value.str (PySem.Str.ofString "SyntaxError") 102) (PySem.Value.type "SyntaxError")), (PySem.DictEntry.mk (PySem.PyData.keyHash P (PySem.Str.ofString "SystemError")) (PySem.Value.str (PySem.Str.ofString "SystemError") 103) (PySem.Value.type "SystemError")), (PySem.DictEntry.mk (PySem.PyData.keyHash P (PySem.Str.ofString "TypeError")) (PySem.Value.str (PySem.Str.ofString "TypeError") 104) (PySem.Value.type "TypeError")), (PySem.DictEntry.mk (PySem.PyData.keyHash P (PySem.Str.ofString "ValueError")) (PySem.Value.str (PySem.Str.ofString "ValueError") 105) (PySem.Value.type "ValueError")), (PySem.DictEntry.mk (PySem.PyData.keyHash P (PySem.Str.ofString "Warning")) (PySem.Value.str (PySem.Str.ofString "Warning") 106) (PySem.Value.type "Warning")), (PySem.DictEntry.mk (PySem.PyData.keyHash P (PySem.Str.ofString "FloatingPointError")) (PySem.Value.str (PySem.Str.ofString "FloatingPointError") 107) (PySem.Value.type "FloatingPointError")), (PySem.DictEntry.mk (PySem.PyData.keyHash P (PySem.Str.ofString "OverflowError")) (PySem.Value.str (PySem.Str.ofString "OverflowError") 108) (PySem.Value.type "OverflowError")), (PySem.DictEntry.mk (PySem.PyData.keyHash P (PySem.Str.ofString "ZeroDivisionError")) (PySem.Value.str (PySem.Str.ofString "ZeroDivisionError") 109) (PySem.Value.type "ZeroDivisionError")), (PySem.DictEntry.mk (PySem.PyData.keyHash P (PySem.Str.ofString "BytesWarning")) (PySem.Value.str (PySem.Str.ofString "BytesWarning") 110) (PySem.Value.type "BytesWarning")), (PySem.DictEntry.mk (PySem.PyData.keyHash P (PySem.Str.ofString "DeprecationWarning")) (PySem.Value.str (PySem.Str.ofString "DeprecationWarning") 111) (PySem.Value.type "DeprecationWarning")), (PySem.DictEntry.mk (PySem.PyData.keyHash P (PySem.Str.ofString "EncodingWarning")) (PySem.Value.str (PySem.Str.ofString "EncodingWarning") 112) (PySem.Value.type "EncodingWarning")), (PySem.DictEntry.mk (PySem.PyData.keyHash P (PySem.Str.ofString "FutureWarning")) (PySem.Value.str (PySem.Str.ofString "FutureWarning") 113) (PySem.Value.type "FutureWarning")), (PySem.DictEntry.mk (PySem.PyData.keyHash P (PySem.Str.ofString "ImportWarning")) (PySem.Value.str (PySem.Str.ofString "ImportWarning") 114) (PySem.Value.type "ImportWarning")), (PySem.DictEntry.mk (PySem.PyData.keyHash P (PySem.Str.ofString "PendingDeprecationWarning")) (PySem.Value.str (PySem.Str.ofString "PendingDeprecationWarning") 115) (PySem.Value.type "PendingDeprecationWarning")), (PySem.DictEntry.mk (PySem.PyData.keyHash P (PySem.Str.ofString "ResourceWarning")) (PySem.Value.str (PySem.Str.ofString "ResourceWarning") 116) (PySem.Value.type "ResourceWarning")), (PySem.DictEntry.mk (PySem.PyData.keyHash P (PySem.Str.ofString "RuntimeWarning")) (PySem.Value.str (PySem.Str.ofString "RuntimeWarning") 117) (PySem.Value.type "RuntimeWarning")), (PySem.DictEntry.mk (PySem.PyData.keyHash P (PySem.Str.ofString "SyntaxWarning")) (PySem.Value.str (PySem.Str.ofString "SyntaxWarning") 118) (PySem.Value.type "SyntaxWarning")), (PySem.DictEntry.mk (PySem.PyData.keyHash P (PySem.Str.ofString "UnicodeWarning")) (PySem.Value.str (PySem.Str.ofString "UnicodeWarning") 119) (PySem.Value.type "UnicodeWarning")), (PySem.DictEntry.mk (PySem.PyData.keyHash P (PySem.Str.ofString "UserWarning")) (PySem.Value.str (PySem.Str.ofString "UserWarning") 120) (PySem.Value.type "UserWarning")), (PySem.DictEntry.mk (PySem.PyData.keyHash P (PySem.Str.ofString "BlockingIOError")) (PySem.Value.str (PySem.Str.ofString "BlockingIOError") 121) (PySem.Value.type "BlockingIOError")), (PySem.DictEntry.mk (PySem.PyData.keyHash P (PySem.Str.ofString "ChildProcessError")) (PySem.Value.str (PySem.Str.ofString "ChildProcessError") 122) (PySem.Value.type "ChildProcessError")), (PySem.DictEntry.mk (PySem.PyData.keyHash P (PySem.Str.ofString "ConnectionError")) (PySem.Value.str (PySem.Str.ofString "ConnectionError") 123) (PySem.Value.type "ConnectionError")), (PySem.DictEntry.mk (PySem.PyData.keyHash P (PySem.Str.ofString "FileExistsError")) (PySem.Value.str (PySem.Str.ofString "FileExistsError") 124) (PySem.Value.type "FileExistsError")), (PySem.DictEntry.mk (PySem.PyData.keyHash P (PySem.Str.ofString "FileNotFoundError")) (PySem.Value.str (PySem.Str.ofString "FileNotFoundError") 125) (PySem.Value.type "FileNotFoundError")), (PySem.DictEntry.mk (PySem.PyData.keyHash P (PySem.Str.ofString "InterruptedError")) (PySem.Value.str (PySem.Str.ofString "InterruptedError") 126) (PySem.Value.type "InterruptedError")), (PySem.DictEntry.mk (PySem.PyData.keyHash P (PySem.Str.ofString "IsADirectoryError")) (PySem.Value.str (PySem.Str.ofString "IsADirectoryError") 127) (PySem.Value.type "IsADirectoryError")), (PySem.DictEntry.mk (PySem.PyData.keyHash P (PySem.Str.ofString "NotADirectoryError")) (PySem.Value.str (PySem.Str.ofString "NotADirectoryError") 128) (PySem.Value.type "NotADirectoryError")), (PySem.DictEntry.mk (PySem.PyData.keyHash P (PySem.Str.ofString "PermissionError")) (PySem.Value.str (PySem.Str.ofString "PermissionError") 129) (PySem.Value.type "PermissionError")), (PySem.DictEntry.mk (PySem.PyData.keyHash P (PySem.Str.ofString "ProcessLookupError")) (PySem.Value.str (PySem.Str.ofString "ProcessLookupError") 130) (PySem.Value.type "ProcessLookupError")), (PySem.DictEntry.mk (PySem.PyData.keyHash P (PySem.Str.ofString "TimeoutError")) (PySem.Value.str (PySem.Str.ofString "TimeoutError") 131) (PySem.Value.type "TimeoutError")), (PySem.DictEntry.mk (PySem.PyData.keyHash P (PySem.Str.ofString "IndentationError")) (PySem.Value.str (PySem.Str.ofString "IndentationError") 132) (PySem.Value.type "IndentationError")), (PySem.DictEntry.mk (PySem.PyData.keyHash P (PySem.Str.ofString "_IncompleteInputError")) (PySem.Value.str (PySem.Str.ofString "_IncompleteInputError") 133) (PySem.Value.type "_IncompleteInputError")), (PySem.DictEntry.mk (PySem.PyData.keyHash P (PySem.Str.ofString "IndexError")) (PySem.Value.str (PySem.Str.ofString "IndexError") 134) (PySem.Value.type "IndexError")), (PySem.DictEntry.mk (PySem.PyData.keyHash P (PySem.Str.ofString "KeyError")) (PySem.Value.str (PySem.Str.ofString "KeyError") 135) (PySem.Value.type "KeyError")), (PySem.DictEntry.mk (PySem.PyData.keyHash P (PySem.Str.ofString "ModuleNotFoundError")) (PySem.Value.str (PySem.Str.ofString "ModuleNotFoundError") 136) (PySem.Value.type "ModuleNotFoundError")), (PySem.DictEntry.mk (PySem.PyData.keyHash P (PySem.Str.ofString "NotImplementedError")) (PySem.Value.str (PySem.Str.ofString "NotImplementedError") 137) (PySem.Value.type "NotImplementedError")), (PySem.DictEntry.mk (PySem.PyData.keyHash P (PySem.Str.ofString "PythonFinalizationError")) (PySem.Value.str (PySem.Str.ofString "PythonFinalizationError") 138) (PySem.Value.type "PythonFinalizationError")), (PySem.DictEntry.mk (PySem.PyData.keyHash P (PySem.Str.ofString "RecursionError")) (PySem.Value.str (PySem.Str.ofString "RecursionError") 139) (PySem.Value.type "RecursionError")), (PySem.DictEntry.mk (PySem.PyData.keyHash P (PySem.Str.ofString "UnboundLocalError")) (PySem.Value.str (PySem.Str.ofString "UnboundLocalError") 140) (PySem.Value.type "UnboundLocalError")), (PySem.DictEntry.mk (PySem.PyData.keyHash P (PySem.Str.ofString "UnicodeError")) (PySem.Value.str (PySem.Str.ofString "UnicodeError") 141) (PySem.Value.type "UnicodeError")), (PySem.DictEntry.mk (PySem.PyData.keyHash P (PySem.Str.ofString "BrokenPipeError")) (PySem.Value.str (PySem.Str.ofString "BrokenPipeError") 142) (PySem.Value.type "BrokenPipeError")), (PySem.DictEntry.mk (PySem.PyData.keyHash P (PySem.Str.ofString "ConnectionAbortedError")) (PySem.Value.str (PySem.Str.ofString "ConnectionAbortedError") 143) (PySem.Value.type "ConnectionAbortedError")), (PySem.DictEntry.mk (PySem.PyData.keyHash P (PySem.Str.ofString "ConnectionRefusedError")) (PySem.Value.str (PySem.Str.ofString "ConnectionRefusedError") 144) (PySem.Value.type "ConnectionRefusedError")), (PySem.DictEntry.mk (PySem.PyData.keyHash P (PySem.Str.ofString "ConnectionResetError")) (PySem.Value.str (PySem.Str.ofString "ConnectionResetError") 145) (PySem.Value.type "ConnectionResetError")), (PySem.DictEntry.mk (PySem.PyData.keyHash P (PySem.Str.ofString "TabError")) (PySem.Value.str (PySem.Str.ofString "TabError") 146) (PySem.Value.type "TabError")), (PySem.DictEntry.mk (PySem.PyData.keyHash P (PySem.Str.ofString "UnicodeDecodeError")) (PySem.Value.str (PySem.Str.ofString "UnicodeDecodeError") 147) (PySem.Value.type "UnicodeDecodeError")), (PySem.DictEntry.mk (PySem.PyData.keyHash P (PySem.Str.ofString "UnicodeEncodeError")) (PySem.Value.str (PySem.Str.ofString "UnicodeEncodeError") 148) (PySem.Value.type "UnicodeEncodeError")), (PySem.DictEntry.mk (PySem.PyData.keyHash P (PySem.Str.ofString "UnicodeTranslateError")) (PySem.Value.str (PySem.Str.ofString "UnicodeTranslateError") 149) (PySem.Value.type "UnicodeTranslateError")), (PySem.DictEntry.mk (PySem.PyData.keyHash P (PySem.Str.ofString "ExceptionGroup")) (PySem.Value.str (PySem.Str.ofString "ExceptionGroup") 150) (PySem.Value.type "ExceptionGroup")), (PySem.DictEntry.mk (PySem.PyData.keyHash P (PySem.Str.ofString "EnvironmentError")) (PySem.Value.str (PySem.Str.ofString "EnvironmentError") 151) (PySem.Value.type "OSError")), (PySem.DictEntry.mk (PySem.PyData.keyHash P (PySem.Str.ofString "IOError")) (PySem.Value.str (PySem.Str.ofString "IOError") 152) (PySem.Value.type "OSError")), (PySem.DictEntry.mk (PySem.PyData.keyHash P (PySem.Str.ofString "open")) (PySem.Value.str (PySem.Str.ofString "open") 153) (PySem.Value.builtin "open")), (PySem.DictEntry.mk (PySem.PyData.keyHash P (PySem.Str.ofString "quit")) (PySem.Value.str (PySem.Str.ofString "quit") 154) (PySem.Value.builtin "builtins.quit#op\u0061que")), (PySem.DictEntry.mk (PySem.PyData.keyHash P (PySem.Str.ofString "exit")) (PySem.Value.str (PySem.Str.ofString "exit") 155) (PySem.Value.builtin "builtins.exit#op\u0061que")), (PySem.DictEntry.mk (PySem.PyData.keyHash P (PySem.Str.ofString "copyright")) (PySem.Value.str (PySem.Str.ofString "copyright") 156) (PySem.Value.builtin "builtins.copyright#op\u0061que")), (PySem.DictEntry.mk (PySem.PyData.keyHash P (PySem.Str.ofString "credits")) (PySem.Value.str (PySem.Str.ofString "credits") 157) (PySem.Value.builtin "builtins.credits#op\u0061que")), (PySem.DictEntry.mk (PySem.PyData.keyHash P (PySem.Str.ofString "license")) (PySem.Value.str (PySem.Str.ofString "license") 158) (PySem.Value.builtin "builtins.license#op\u0061que")), (PySem.DictEntry.mk (PySem.PyData.keyHash P (PySem.Str.ofString "help")) (PySem.Value.str (PySem.Str.ofString "help") 159) (PySem.Value.builtin "builtins.help#op\u0061que"))] 159) #[])
noncomputable def ob1 (P : Params) : Obj := (PySem.Obj.mk (PySem.Value.type "dict") none (PySem.Data.dict #[(PySem.DictEntry.mk (PySem.PyData.keyHash P (PySem.Str.ofString "builtins")) (PySem.Value.str (PySem.Str.ofString "builtins") 162) (PySem.Value.ref 4)), (PySem.DictEntry.mk (PySem.PyData.keyHash P (PySem.Str.ofString "__main__")) (PySem.Value.str (PySem.Str.ofString "__main__") 163) (PySem.Value.ref 5)), (PySem.DictEntry.mk (PySem.PyData.keyHash P (PySem.Str.ofString "_sre")) (PySem.Value.str (PySem.Str.ofString "_sre") 244) (PySem.Value.ref 12))] 3) #[])
noncomputable def ob2 (P : Params) : Obj := (PySem.Obj.mk PySem.Value.none none (PySem.Data.dict #[(PySem.DictEntry.mk (PySem.PyData.keyHash P (PySem.Str.mk #[105, 109, 112, 111, 114, 116, 46, 108, 111, 97, 100, 101, 100, 46, 95, 115, 114, 101])) (PySem.Value.str (PySem.Str.mk #[105, 109, 112, 111, 114, 116, 46, 108, 111, 97, 100, 101, 100, 46, 95, 115, 114, 101]) 183) (PySem.Value.bool Bool.true)), (PySem.DictEntry.mk (PySem.PyData.keyHash P (PySem.Str.mk #[99, 108, 97, 115, 115, 46, 95, 102, 114, 111, 122, 101, 110, 95, 105, 109, 112, 111, 114, 116, 108, 105, 98, 46, 66, 117, 105, 108, 116, 105, 110, 73, 109, 112, 111, 114, 116, 101, 114])) (PySem.Value.str (PySem.Str.mk #[99, 108, 97, 115, 115, 46, 95, 102, 114, 111, 122, 101, 110, 95, 105, 109, 112, 111, 114, 116, 108, 105, 98, 46, 66, 117, 105, 108, 116, 105, 110, 73, 109, 112, 111, 114, 116, 101, 114]) 185) (PySem.Value.ref 14)), (PySem.DictEntry.mk (PySem.PyData.keyHash P (PySem.Str.mk #[119, 97, 116, 99, 104, 101, 100, 46, 105, 109, 112, 111, 114, 116])) (PySem.Value.str (PySem.Str.mk #[119, 97, 116, 99, 104, 101, 100, 46, 105, 109, 112, 111, 114, 116]) 206) (PySem.Value.ref 18)), (PySem.DictEntry.mk (PySem.PyData.keyHash P (PySem.Str.mk #[99, 108, 97, 115, 115, 46, 95, 102, 114, 111, 122, 101, 110, 95, 105, 109, 112, 111, 114, 116, 108, 105, 98, 46, 77, 111, 100, 117, 108, 101, 83, 112, 101, 99])) (PySem.Value.str (PySem.Str.mk #[99, 108, 97, 115, 115, 46, 95, 102, 114, 111, 122, 101, 110, 95, 105, 109, 112, 111, 114, 116, 108, 105, 98, 46, 77, 111, 100, 117, 108, 101, 83, 112, 101, 99]) 216) (PySem.Value.ref 22)), (PySem.DictEntry.mk (PySem.PyData.keyHash P (PySem.Str.ofString "sys.modules.booked-epoch")) (PySem.Value.str (PySem.Str.ofString "sys.modules.booked-epoch") 245) (PySem.Value.int (3 : Int) 0)), (PySem.DictEntry.mk (PySem.PyData.keyHash P (PySem.Str.mk #[105, 109, 112, 111, 114, 116, 46, 108, 97, 116, 101, 114, 45, 108, 97, 105, 100, 46, 95, 115, 114, 101])) (PySem.Value.str (PySem.Str.mk #[105, 109, 112, 111, 114, 116, 46, 108, 97, 116, 101, 114, 45, 108, 97, 105, 100, 46, 95, 115, 114, 101]) 270) (PySem.Value.bool Bool.true)), (PySem.DictEntry.mk (PySem.PyData.keyHash P (PySem.Str.ofString "watched.library")) (PySem.Value.str (PySem.Str.ofString "watched.library") 272) (PySem.Value.ref 27)), (PySem.DictEntry.mk (PySem.PyData.keyHash P (PySem.Str.ofString "watched.library-objects")) (PySem.Value.str (PySem.Str.ofString "watched.library-objects") 0) (PySem.Value.str (PySem.Str.ofString "\x0c") 0)), (PySem.DictEntry.mk (PySem.PyData.keyHash P (PySem.Str.ofString "watched.library-deep._sre")) (PySem.Value.str (PySem.Str.ofString "watched.library-deep._sre") 273) (PySem.Value.str (PySem.Str.ofString "\x04\x00\x00\x0b\x04\x00\x00\x0b\x04\x00\x00\x03\x04\x00\x00\x0b\x08\x04dict\x02") 0))] 9) #[])
noncomputable def ob3 (P : Params) : Obj := (PySem.Obj.mk (PySem.Value.type "dict") none (PySem.Data.dict #[(PySem.DictEntry.mk (PySem.PyData.keyHash P (PySem.Str.ofString "__name__")) (PySem.Value.str (PySem.Str.ofString "__name__") 165) (PySem.Value.str (PySem.Str.ofString "__main__") 164)), (PySem.DictEntry.mk (PySem.PyData.keyHash P (PySem.Str.ofString "__doc__")) (PySem.Value.str (PySem.Str.ofString "__doc__") 166) PySem.Value.none), (PySem.DictEntry.mk (PySem.PyData.keyHash P (PySem.Str.ofString "__package__")) (PySem.Value.str (PySem.Str.ofString "__package__") 167) PySem.Value.none), (PySem.DictEntry.mk (PySem.PyData.keyHash P (PySem.Str.ofString "__loader__")) (PySem.Value.str (PySem.Str.ofString "__loader__") 168) (PySem.Value.builtin "__main__.__loader__#op\u0061que")), (PySem.DictEntry.mk (PySem.PyData.keyHash P (PySem.Str.ofString "__spec__")) (PySem.Value.str (PySem.Str.ofString "__spec__") 169) PySem.Value.none), (PySem.DictEntry.mk (PySem.PyData.keyHash P (PySem.Str.ofString "__annotations__")) (PySem.Value.str (PySem.Str.ofString "__annotations__") 170) (PySem.Value.ref 6)), (PySem.DictEntry.mk (PySem.PyData.keyHash P (PySem.Str.ofString "__builtins__")) (PySem.Value.str (PySem.Str.ofString "__builtins__") 171) (PySem.Value.ref 4)), (PySem.DictEntry.mk (PySem.PyData.keyHash P (PySem.Str.ofString "__file__")) (PySem.Value.str (PySem.Str.ofString "__file__") 173) (PySem.Value.str (PySem.Str.ofString "/claim/cut.py") 172)), (PySem.DictEntry.mk (PySem.PyData.keyHash P (PySem.Str.ofString "__cached__")) (PySem.Value.str (PySem.Str.ofString "__cached__") 174) PySem.Value.none), (PySem.DictEntry.mk (PySem.PyData.keyHash P (PySem.Str.ofString "_sre")) (PySem.Value.str (PySem.Str.ofString "_sre") 275) (PySem.Value.ref 12))] 10) #[])
noncomputable def ob4 (P : Params) : Obj := (PySem.Obj.mk (PySem.Value.type "module") (some 0) PySem.Data.plain #[])
noncomputable def ob5 (P : Params) : Obj := (PySem.Obj.mk (PySem.Value.type "module") (some 3) PySem.Data.plain #[])
noncomputable def ob6 (P : Params) : Obj := (PySem.Obj.mk (PySem.Value.type "dict") none (PySem.Data.dict #[] 0) #[])
noncomputable def ob7 (P : Params) : Obj := (PySem.Obj.mk (PySem.Value.type "tuple") none (PySem.Data.seq #[] 0) #[])
noncomputable def ob8 (P : Params) : Obj := (PySem.Obj.mk PySem.Value.none none (PySem.Data.fields #[]) #[])
noncomputable def ob9 (P : Params) : Obj := (PySem.Obj.mk (PySem.Value.type "code") none (PySem.Data.fields #[(PySem.Value.str (PySem.Str.ofString "<module>") 176), (PySem.Value.str (PySem.Str.ofString "<module>") 177), (PySem.Value.str (PySem.Str.ofString "/claim/cut.py") 178), (PySem.Value.int (1 : Int) 0), (PySem.Value.int (0 : Int) 0), (PySem.Value.int (0 : Int) 0), (PySem.Value.int (0 : Int) 0), (PySem.Value.int (0 : Int) 0), (PySem.Value.ref 7), (PySem.Value.bool Bool.false), (PySem.Value.int (175 : Int) 0), (PySem.Value.ref 8), PySem.Value.none, PySem.Value.none, PySem.Value.none, PySem.Value.none, (PySem.Value.int (179 : Int) 0), (PySem.Value.int (1 : Int) 0), (PySem.Value.str (PySem.Str.ofString "/claim/cut.py") 180)]) #[])
noncomputable def ob10 (P : Params) : Obj := (PySem.Obj.mk (PySem.Value.type "frame") none PySem.Data.plain #[(some (PySem.Value.ref 9)), (some (PySem.Value.ref 3)), (some (PySem.Value.ref 3)), none, (some (PySem.Value.str (PySem.Str.ofString "__main__") 164)), none, (some (PySem.Value.ref 0))])
noncomputable def ob11 (P : Params) : Obj := (PySem.Obj.mk (PySem.Value.type "dict") none (PySem.Data.dict #[(PySem.DictEntry.mk (PySem.PyData.keyHash P (PySem.Str.ofString "__name__")) (PySem.Value.str (PySem.Str.ofString "__name__") 247) (PySem.Value.str (PySem.Str.ofString "_sre") 246)), (PySem.DictEntry.mk (PySem.PyData.keyHash P (PySem.Str.ofString "__doc__")) (PySem.Value.str (PySem.Str.ofString "__doc__") 248) PySem.Value.none), (PySem.DictEntry.mk (PySem.PyData.keyHash P (PySem.Str.ofString "__package__")) (PySem.Value.str (PySem.Str.ofString "__package__") 250) (PySem.Value.str (PySem.Str.ofString "") 249)), (PySem.DictEntry.mk (PySem.PyData.keyHash P (PySem.Str.ofString "__loader__")) (PySem.Value.str (PySem.Str.ofString "__loader__") 251) (PySem.Value.ref 14)), (PySem.DictEntry.mk (PySem.PyData.keyHash P (PySem.Str.ofString "__spec__")) (PySem.Value.str (PySem.Str.ofString "__spec__") 252) (PySem.Value.ref 26)), (PySem.DictEntry.mk (PySem.PyData.keyHash P (PySem.Str.ofString "compile")) (PySem.Value.str (PySem.Str.ofString "compile") 253) (PySem.Value.builtin "_sre.compile")), (PySem.DictEntry.mk (PySem.PyData.keyHash P (PySem.Str.ofString "template")) (PySem.Value.str (PySem.Str.ofString "template") 254) (PySem.Value.builtin "_sre.template")), (PySem.DictEntry.mk (PySem.PyData.keyHash P (PySem.Str.ofString "getcodesize")) (PySem.Value.str (PySem.Str.ofString "getcodesize") 255) (PySem.Value.builtin "_sre.getcodesize")), (PySem.DictEntry.mk (PySem.PyData.keyHash P (PySem.Str.ofString "ascii_iscased")) (PySem.Value.str (PySem.Str.ofString "ascii_iscased") 256) (PySem.Value.builtin "_sre.ascii_iscased")), (PySem.DictEntry.mk (PySem.PyData.keyHash P (PySem.Str.ofString "unicode_iscased")) (PySem.Value.str (PySem.Str.ofString "unicode_iscased") 257) (PySem.Value.builtin "_sre.unicode_iscased")), (PySem.DictEntry.mk (PySem.PyData.keyHash P (PySem.Str.ofString "ascii_tolower")) (PySem.Value.str (PySem.Str.ofString "ascii_tolower") 258) (PySem.Value.builtin "_sre.ascii_tolower")), (PySem.DictEntry.mk (PySem.PyData.keyHash P (PySem.Str.ofString "unicode_tolower")) (PySem.Value.str (PySem.Str.ofString "unicode_tolower") 259) (PySem.Value.builtin "_sre.unicode_tolower")), (PySem.DictEntry.mk (PySem.PyData.keyHash P (PySem.Str.ofString "MAGIC")) (PySem.Value.str (PySem.Str.ofString "MAGIC") 261) (PySem.Value.int (20230612 : Int) 260)), (PySem.DictEntry.mk (PySem.PyData.keyHash P (PySem.Str.ofString "CODESIZE")) (PySem.Value.str (PySem.Str.ofString "CODESIZE") 263) (PySem.Value.int (4 : Int) 262)), (PySem.DictEntry.mk (PySem.PyData.keyHash P (PySem.Str.ofString "MAXREPEAT")) (PySem.Value.str (PySem.Str.ofString "MAXREPEAT") 265) (PySem.Value.int (4294967295 : Int) 264)), (PySem.DictEntry.mk (PySem.PyData.keyHash P (PySem.Str.ofString "MAXGROUPS")) (PySem.Value.str (PySem.Str.ofString "MAXGROUPS") 267) (PySem.Value.int (1073741823 : Int) 266)), (PySem.DictEntry.mk (PySem.PyData.keyHash P (PySem.Str.ofString "copyright")) (PySem.Value.str (PySem.Str.ofString "copyright") 269) (PySem.Value.str (PySem.Str.ofString " SRE 2.2.2 Copyright (c) 1997-2002 by Secret Labs AB ") 268))] 17) #[])
noncomputable def ob12 (P : Params) : Obj := (PySem.Obj.mk (PySem.Value.type "module") (some 11) PySem.Data.plain #[])
noncomputable def ob13 (P : Params) : Obj := (PySem.Obj.mk (PySem.Value.type "dict") none (PySem.Data.dict #[(PySem.DictEntry.mk (PySem.PyData.keyHash P (PySem.Str.ofString "__module__")) (PySem.Value.str (PySem.Str.ofString "__module__") 189) (PySem.Value.str (PySem.Str.mk #[95, 102, 114, 111, 122, 101, 110, 95, 105, 109, 112, 111, 114, 116, 108, 105, 98]) 186)), (PySem.DictEntry.mk (PySem.PyData.keyHash P (PySem.Str.ofString "__firstlineno__")) (PySem.Value.str (PySem.Str.ofString "__firstlineno__") 190) (PySem.Value.int (971 : Int) 187)), (PySem.DictEntry.mk (PySem.PyData.keyHash P (PySem.Str.ofString "__doc__")) (PySem.Value.str (PySem.Str.ofString "__doc__") 191) (PySem.Value.builtin "_frozen_importlib.BuiltinImporter.__doc__:str#op\u0061que")), (PySem.DictEntry.mk (PySem.PyData.keyHash P (PySem.Str.ofString "_ORIGIN")) (PySem.Value.str (PySem.Str.ofString "_ORIGIN") 192) (PySem.Value.str (PySem.Str.ofString "built-in") 188)), (PySem.DictEntry.mk (PySem.PyData.keyHash P (PySem.Str.ofString "find_spec")) (PySem.Value.str (PySem.Str.ofString "find_spec") 193) (PySem.Value.builtin "_frozen_importlib.BuiltinImporter.find_spec#op\u0061que")), (PySem.DictEntry.mk (PySem.PyData.keyHash P (PySem.Str.ofString "create_module")) (PySem.Value.str (PySem.Str.ofString "create_module") 194) (PySem.Value.builtin "_frozen_importlib.BuiltinImporter.create_module#op\u0061que")), (PySem.DictEntry.mk (PySem.PyData.keyHash P (PySem.Str.ofString "exec_module")) (PySem.Value.str (PySem.Str.ofString "exec_module") 195) (PySem.Value.builtin "_frozen_importlib.BuiltinImporter.exec_module#op\u0061que")), (PySem.DictEntry.mk (PySem.PyData.keyHash P (PySem.Str.ofString "get_code")) (PySem.Value.str (PySem.Str.ofString "get_code") 196) (PySem.Value.builtin "_frozen_importlib.BuiltinImporter.get_code#op\u0061que")), (PySem.DictEntry.mk (PySem.PyData.keyHash P (PySem.Str.ofString "get_source")) (PySem.Value.str (PySem.Str.ofString "get_source") 197) (PySem.Value.builtin "_frozen_importlib.BuiltinImporter.get_source#op\u0061que")), (PySem.DictEntry.mk (PySem.PyData.keyHash P (PySem.Str.ofString "is_package")) (PySem.Value.str (PySem.Str.ofString "is_package") 198) (PySem.Value.builtin "_frozen_importlib.BuiltinImporter.is_package#op\u0061que")), (PySem.DictEntry.mk (PySem.PyData.keyHash P (PySem.Str.ofString "load_module")) (PySem.Value.str (PySem.Str.ofString "load_module") 199) (PySem.Value.builtin "_frozen_importlib.BuiltinImporter.load_module#op\u0061que")), (PySem.DictEntry.mk (PySem.PyData.keyHash P (PySem.Str.ofString "__static_attributes__")) (PySem.Value.str (PySem.Str.ofString "__static_attributes__") 200) (PySem.Value.ref 15)), (PySem.DictEntry.mk (PySem.PyData.keyHash P (PySem.Str.ofString "__dict__")) (PySem.Value.str (PySem.Str.ofString "__dict__") 202) (PySem.Value.ref 16)), (PySem.DictEntry.mk (PySem.PyData.keyHash P (PySem.Str.ofString "__weakref__")) (PySem.Value.str (PySem.Str.ofString "__weakref__") 204) (PySem.Value.ref 17))] 14) #[])
noncomputable def ob14 (P : Params) : Obj := (PySem.Obj.mk (PySem.Value.type "type") none (PySem.Data.cls (PySem.ClassData.mk (PySem.Str.ofString "BuiltinImporter") [(PySem.Value.type "object")] [(PySem.Value.ref 14), (PySem.Value.type "object")] 13 (PySem.Str.ofString "BuiltinImporter") Bool.true [] [] Bool.false none Bool.false)) #[])
noncomputable def ob15 (P : Params) : Obj := (PySem.Obj.mk (PySem.Value.type "getset_descriptor") none (PySem.Data.fields #[(PySem.Value.str (PySem.Str.ofString "__dict__") 201), (PySem.Value.ref 14), (PySem.Value.builtin "function.__dict__"), (PySem.Value.builtin "function.__dict__#set")]) #[])
noncomputable def ob16 (P : Params) : Obj := (PySem.Obj.mk (PySem.Value.type "getset_descriptor") none (PySem.Data.fields #[(PySem.Value.str (PySem.Str.ofString "__weakref__") 203), (PySem.Value.ref 14), (PySem.Value.builtin "ExceptionGroup.__weakref__"), PySem.Value.none]) #[])
noncomputable def ob17 (P : Params) : Obj := (PySem.Obj.mk PySem.Value.none none (PySem.Data.seq #[(PySem.Value.int (13 : Int) 0), (PySem.Value.str (PySem.Str.mk #[6, 189, 10, 95, 95, 109, 111, 100, 117, 108, 101, 95, 95, 6, 186, 17, 95, 102, 114, 111, 122, 101, 110, 95, 105, 109, 112, 111, 114, 116, 108, 105, 98, 6, 190, 15, 95, 95, 102, 105, 114, 115, 116, 108, 105, 110, 101, 110, 111, 95, 95, 4, 187, 0, 971, 6, 191, 7, 95, 95, 100, 111, 99, 95, 95, 9, 52, 95, 102, 114, 111, 122, 101, 110, 95, 105, 109, 112, 111, 114, 116, 108, 105, 98, 46, 66, 117, 105, 108, 116, 105, 110, 73, 109, 112, 111, 114, 116, 101, 114, 46, 95, 95, 100, 111, 99, 95, 95, 58, 115, 116, 114, 35, 111, 112, 97, 113, 117, 101, 6, 192, 7, 95, 79, 82, 73, 71, 73, 78, 6, 188, 8, 98, 117, 105, 108, 116, 45, 105, 110, 6, 193, 9, 102, 105, 110, 100, 95, 115, 112, 101, 99, 9, 50, 95, 102, 114, 111, 122, 101, 110, 95, 105, 109, 112, 111, 114, 116, 108, 105, 98, 46, 66, 117, 105, 108, 116, 105, 110, 73, 109, 112, 111, 114, 116, 101, 114, 46, 102, 105, 110, 100, 95, 115, 112, 101, 99, 35, 111, 112, 97, 113, 117, 101, 6, 194, 13, 99, 114, 101, 97, 116, 101, 95, 109, 111, 100, 117, 108, 101, 9, 54, 95, 102, 114, 111, 122, 101, 110, 95, 105, 109, 112, 111, 114, 116, 108, 105, 98, 46, 66, 117, 105, 108, 116, 105, 110, 73, 109, 112, 111, 114, 116, 101, 114, 46, 99, 114, 101, 97, 116, 101, 95, 109, 111, 100, 117, 108, 101, 35, 111, 112, 97, 113, 117, 101, 6, 195, 11, 101, 120, 101, 99, 95, 109, 111, 100, 117, 108, 101, 9, 52, 95, 102, 114, 111, 122, 101, 110, 95, 105, 109, 112, 111, 114, 116, 108, 105, 98, 46, 66, 117, 105, 108, 116, 105, 110, 73, 109, 112, 111, 114, 116, 101, 114, 46, 101, 120, 101, 99, 95, 109, 111, 100, 117, 108, 101, 35, 111, 112, 97, 113, 117, 101, 6, 196, 8, 103, 101, 116, 95, 99, 111, 100, 101, 9, 49, 95, 102, 114, 111, 122, 101, 110, 95, 105, 109, 112, 111, 114, 116, 108, 105, 98, 46, 66, 117, 105, 108, 116, 105, 110, 73, 109, 112, 111, 114, 116, 101, 114, 46, 103, 101, 116, 95, 99, 111, 100, 101, 35, 111, 112, 97, 113, 117, 101, 6, 197, 10, 103, 101, 116, 95, 115, 111, 117, 114, 99, 101, 9, 51, 95, 102, 114, 111, 122, 101, 110, 95, 105, 109, 112, 111, 114, 116, 108, 105, 98, 46, 66, 117, 105, 108, 116, 105, 110, 73, 109, 112, 111, 114, 116, 101, 114, 46, 103, 101, 116, 95, 115, 111, 117, 114, 99, 101, 35, 111, 112, 97, 113, 117, 101, 6, 198, 10, 105, 115, 95, 112, 97, 99, 107, 97, 103, 101, 9, 51, 95, 102, 114, 111, 122, 101, 110, 95, 105, 109, 112, 111, 114, 116, 108, 105, 98, 46, 66, 117, 105, 108, 116, 105, 110, 73, 109, 112, 111, 114, 116, 101, 114, 46, 105, 115, 95, 112, 97, 99, 107, 97, 103, 101, 35, 111, 112, 97, 113, 117, 101, 6, 199, 11, 108, 111, 97, 100, 95, 109, 111, 100, 117, 108, 101, 9, 52, 95, 102, 114, 111, 122, 101, 110, 95, 105, 109, 112, 111, 114, 116, 108, 105, 98, 46, 66, 117, 105, 108, 116, 105, 110, 73, 109, 112, 111, 114, 116, 101, 114, 46, 108, 111, 97, 100, 95, 109, 111, 100, 117, 108, 101, 35, 111, 112, 97, 113, 117, 101, 6, 200, 21, 95, 95, 115, 116, 97, 116, 105, 99, 95, 97, 116, 116, 114, 105, 98, 117, 116, 101, 115, 95, 95, 4, 0, 0, 15, 6, 202, 8, 95, 95, 100, 105, 99, 116, 95, 95, 4, 0, 0, 16, 6, 204, 11, 95, 95, 119, 101, 97, 107, 114, 101, 102, 95, 95, 4, 0, 0, 17]) 0), (PySem.Value.bool Bool.true), (PySem.Value.bool Bool.true), (PySem.Value.str (PySem.Str.ofString "") 205), (PySem.Value.int (21 : Int) 0), (PySem.Value.str (PySem.Str.mk #[6, 227, 10, 95, 95, 109, 111, 100, 117, 108, 101, 95, 95, 6, 217, 17, 95, 102, 114, 111, 122, 101, 110, 95, 105, 109, 112, 111, 114, 116, 108, 105, 98, 6, 228, 15, 95, 95, 102, 105, 114, 115, 116, 108, 105, 110, 101, 110, 111, 95, 95, 4, 218, 0, 562, 6, 229, 7, 95, 95, 100, 111, 99, 95, 95, 9, 47, 95, 102, 114, 111, 122, 101, 110, 95, 105, 109, 112, 111, 114, 116, 108, 105, 98, 46, 77, 111, 100, 117, 108, 101, 83, 112, 101, 99, 46, 95, 95, 100, 111, 99, 95, 95, 58, 115, 116, 114, 35, 111, 112, 97, 113, 117, 101, 6, 230, 8, 95, 95, 105, 110, 105, 116, 95, 95, 9, 44, 95, 102, 114, 111, 122, 101, 110, 95, 105, 109, 112, 111, 114, 116, 108, 105, 98, 46, 77, 111, 100, 117, 108, 101, 83, 112, 101, 99, 46, 95, 95, 105, 110, 105, 116, 95, 95, 35, 111, 112, 97, 113, 117, 101, 6, 231, 8, 95, 95, 114, 101, 112, 114, 95, 95, 9, 44, 95, 102, 114, 111, 122, 101, 110, 95, 105, 109, 112, 111, 114, 116, 108, 105, 98, 46, 77, 111, 100, 117, 108, 101, 83, 112, 101, 99, 46, 95, 95, 114, 101, 112, 114, 95, 95, 35, 111, 112, 97, 113, 117, 101, 6, 232, 6, 95, 95, 101, 113, 95, 95, 9, 42, 95, 102, 114, 111, 122, 101, 110, 95, 105, 109, 112, 111, 114, 116, 108, 105, 98, 46, 77, 111, 100, 117, 108, 101, 83, 112, 101, 99, 46, 95, 95, 101, 113, 95, 95, 35, 111, 112, 97, 113, 117, 101, 6, 233, 6, 99, 97, 99, 104, 101, 100, 9, 42, 95, 102, 114, 111, 122, 101, 110, 95, 105, 109, 112, 111, 114, 116, 108, 105, 98, 46, 77, 111, 100, 117, 108, 101, 83, 112, 101, 99, 46, 99, 97, 99, 104, 101, 100, 35, 111, 112, 97, 113, 117, 101, 6, 234, 6, 112, 97, 114, 101, 110, 116, 9, 42, 95, 102, 114, 111, 122, 101, 110, 95, 105, 109, 112, 111, 114, 116, 108, 105, 98, 46, 77, 111, 100, 117, 108, 101, 83, 112, 101, 99, 46, 112, 97, 114, 101, 110, 116, 35, 111, 112, 97, 113, 117, 101, 6, 235, 12, 104, 97, 115, 95, 108, 111, 99, 97, 116, 105, 111, 110, 9, 48, 95, 102, 114, 111, 122, 101, 110, 95, 105, 109, 112, 111, 114, 116, 108, 105, 98, 46, 77, 111, 100, 117, 108, 101, 83, 112, 101, 99, 46, 104, 97, 115, 95, 108, 111, 99, 97, 116, 105, 111, 110, 35, 111, 112, 97, 113, 117, 101, 6, 236, 21, 95, 95, 115, 116, 97, 116, 105, 99, 95, 97, 116, 116, 114, 105, 98, 117, 116, 101, 115, 95, 95, 4, 0, 0, 23, 6, 238, 8, 95, 95, 100, 105, 99, 116, 95, 95, 4, 0, 0, 24, 6, 240, 11, 95, 95, 119, 101, 97, 107, 114, 101, 102, 95, 95, 4, 0, 0, 25, 6, 241, 8, 95, 95, 104, 97, 115, 104, 95, 95, 0]) 0), (PySem.Value.bool Bool.true), (PySem.Value.bool Bool.true), (PySem.Value.str (PySem.Str.ofString "") 242)] 1) #[])
noncomputable def ob18 (P : Params) : Obj := (PySem.Obj.mk (PySem.Value.type "list") none (PySem.Data.seq #[] 0) #[])
noncomputable def ob19 (P : Params) : Obj := (PySem.Obj.mk (PySem.Value.type "dict") none (PySem.Data.dict #[(PySem.DictEntry.mk (PySem.PyData.keyHash P (PySem.Str.ofString "name")) (PySem.Value.str (PySem.Str.ofString "name") 208) (PySem.Value.str (PySem.Str.ofString "_sre") 207)), (PySem.DictEntry.mk (PySem.PyData.keyHash P (PySem.Str.ofString "loader")) (PySem.Value.str (PySem.Str.ofString "loader") 209) (PySem.Value.ref 14)), (PySem.DictEntry.mk (PySem.PyData.keyHash P (PySem.Str.ofString "origin")) (PySem.Value.str (PySem.Str.ofString "origin") 210) (PySem.Value.str (PySem.Str.ofString "built-in") 184)), (PySem.DictEntry.mk (PySem.PyData.keyHash P (PySem.Str.ofString "loader_state")) (PySem.Value.str (PySem.Str.ofString "loader_state") 211) PySem.Value.none), (PySem.DictEntry.mk (PySem.PyData.keyHash P (PySem.Str.ofString "submodule_search_locations")) (PySem.Value.str (PySem.Str.ofString "submodule_search_locations") 212) PySem.Value.none), (PySem.DictEntry.mk (PySem.PyData.keyHash P (PySem.Str.ofString "_uninitialized_submodules")) (PySem.Value.str (PySem.Str.ofString "_uninitialized_submodules") 213) (PySem.Value.ref 19)), (PySem.DictEntry.mk (PySem.PyData.keyHash P (PySem.Str.ofString "_set_fileattr")) (PySem.Value.str (PySem.Str.ofString "_set_fileattr") 214) (PySem.Value.bool Bool.false)), (PySem.DictEntry.mk (PySem.PyData.keyHash P (PySem.Str.ofString "_cached")) (PySem.Value.str (PySem.Str.ofString "_cached") 215) PySem.Value.none), (PySem.DictEntry.mk (PySem.PyData.keyHash P (PySem.Str.ofString "_initializing")) (PySem.Value.str (PySem.Str.ofString "_initializing") 243) (PySem.Value.bool Bool.false))] 9) #[])
noncomputable def ob20 (P : Params) : Obj := (PySem.Obj.mk (PySem.Value.type "dict") none (PySem.Data.dict #[(PySem.DictEntry.mk (PySem.PyData.keyHash P (PySem.Str.ofString "__module__")) (PySem.Value.str (PySem.Str.ofString "__module__") 227) (PySem.Value.str (PySem.Str.mk #[95, 102, 114, 111, 122, 101, 110, 95, 105, 109, 112, 111, 114, 116, 108, 105, 98]) 217)), (PySem.DictEntry.mk (PySem.PyData.keyHash P (PySem.Str.ofString "__firstlineno__")) (PySem.Value.str (PySem.Str.ofString "__firstlineno__") 228) (PySem.Value.int (562 : Int) 218)), (PySem.DictEntry.mk (PySem.PyData.keyHash P (PySem.Str.ofString "__doc__")) (PySem.Value.str (PySem.Str.ofString "__doc__") 229) (PySem.Value.builtin "_frozen_importlib.ModuleSpec.__doc__:str#op\u0061que")), (PySem.DictEntry.mk (PySem.PyData.keyHash P (PySem.Str.ofString "__init__")) (PySem.Value.str (PySem.Str.ofString "__init__") 230) (PySem.Value.builtin "_frozen_importlib.ModuleSpec.__init__#op\u0061que")), (PySem.DictEntry.mk (PySem.PyData.keyHash P (PySem.Str.ofString "__repr__")) (PySem.Value.str (PySem.Str.ofString "__repr__") 231) (PySem.Value.builtin "_frozen_importlib.ModuleSpec.__repr__#op\u0061que")), (PySem.DictEntry.mk (PySem.PyData.keyHash P (PySem.Str.ofString "__eq__")) (PySem.Value.str (PySem.Str.ofString "__eq__") 232) (PySem.Value.builtin "_frozen_importlib.ModuleSpec.__eq__#op\u0061que")), (PySem.DictEntry.mk (PySem.PyData.keyHash P (PySem.Str.ofString "cached")) (PySem.Value.str (PySem.Str.ofString "cached") 233) (PySem.Value.builtin "_frozen_importlib.ModuleSpec.cached#op\u0061que")), (PySem.DictEntry.mk (PySem.PyData.keyHash P (PySem.Str.ofString "parent")) (PySem.Value.str (PySem.Str.ofString "parent") 234) (PySem.Value.builtin "_frozen_importlib.ModuleSpec.parent#op\u0061que")), (PySem.DictEntry.mk (PySem.PyData.keyHash P (PySem.Str.ofString "has_location")) (PySem.Value.str (PySem.Str.ofString "has_location") 235) (PySem.Value.builtin "_frozen_importlib.ModuleSpec.has_location#op\u0061que")), (PySem.DictEntry.mk (PySem.PyData.keyHash P (PySem.Str.ofString "__static_attributes__")) (PySem.Value.str (PySem.Str.ofString "__static_attributes__") 236) (PySem.Value.ref 23)), (PySem.DictEntry.mk (PySem.PyData.keyHash P (PySem.Str.ofString "__dict__")) (PySem.Value.str (PySem.Str.ofString "__dict__") 238) (PySem.Value.ref 24)), (PySem.DictEntry.mk (PySem.PyData.keyHash P (PySem.Str.ofString "__weakref__")) (PySem.Value.str (PySem.Str.ofString "__weakref__") 240) (PySem.Value.ref 25)), (PySem.DictEntry.mk (PySem.PyData.keyHash P (PySem.Str.ofString "__hash__")) (PySem.Value.str (PySem.Str.ofString "__hash__") 241) PySem.Value.none)] 13) #[])
noncomputable def ob21 (P : Params) : Obj := (PySem.Obj.mk (PySem.Value.type "type") none (PySem.Data.cls (PySem.ClassData.mk (PySem.Str.ofString "ModuleSpec") [(PySem.Value.type "object")] [(PySem.Value.ref 22), (PySem.Value.type "object")] 21 (PySem.Str.ofString "ModuleSpec") Bool.true [] [] Bool.false none Bool.false)) #[])
noncomputable def ob22 (P : Params) : Obj := (PySem.Obj.mk (PySem.Value.type "tuple") none (PySem.Data.seq #[(PySem.Value.str (PySem.Str.ofString "_cached") 219), (PySem.Value.str (PySem.Str.ofString "_set_fileattr") 220), (PySem.Value.str (PySem.Str.ofString "_uninitialized_submodules") 221), (PySem.Value.str (PySem.Str.ofString "loader") 222), (PySem.Value.str (PySem.Str.ofString "loader_state") 223), (PySem.Value.str (PySem.Str.ofString "name") 224), (PySem.Value.str (PySem.Str.ofString "origin") 225), (PySem.Value.str (PySem.Str.ofString "submodule_search_locations") 226)] 0) #[])
noncomputable def ob23 (P : Params) : Obj := (PySem.Obj.mk (PySem.Value.type "getset_descriptor") none (PySem.Data.fields #[(PySem.Value.str (PySem.Str.ofString "__dict__") 237), (PySem.Value.ref 22), (PySem.Value.builtin "function.__dict__"), (PySem.Value.builtin "function.__dict__#set")]) #[])
noncomputable def ob24 (P : Params) : Obj := (PySem.Obj.mk (PySem.Value.type "getset_descriptor") none (PySem.Data.fields #[(PySem.Value.str (PySem.Str.ofString "__weakref__") 239), (PySem.Value.ref 22), (PySem.Value.builtin "ExceptionGroup.__weakref__"), PySem.Value.none]) #[])
noncomputable def ob25 (P : Params) : Obj := (PySem.Obj.mk (PySem.Value.ref 22) (some 20) PySem.Data.plain #[])
noncomputable def ob26 (P : Params) : Obj := (PySem.Obj.mk PySem.Value.none none (PySem.Data.seq #[(PySem.Value.int (11 : Int) 0), (PySem.Value.str (PySem.Str.mk #[6, 247, 8, 95, 95, 110, 97, 109, 101, 95, 95, 6, 246, 4, 95, 115, 114, 101, 6, 248, 7, 95, 95, 100, 111, 99, 95, 95, 0, 6, 250, 11, 95, 95, 112, 97, 99, 107, 97, 103, 101, 95, 95, 6, 249, 0, 6, 251, 10, 95, 95, 108, 111, 97, 100, 101, 114, 95, 95, 4, 0, 0, 14, 6, 252, 8, 95, 95, 115, 112, 101, 99, 95, 95, 4, 0, 0, 26, 6, 253, 7, 99, 111, 109, 112, 105, 108, 101, 9, 12, 95, 115, 114, 101, 46, 99, 111, 109, 112, 105, 108, 101, 6, 254, 8, 116, 101, 109, 112, 108, 97, 116, 101, 9, 13, 95, 115, 114, 101, 46, 116, 101, 109, 112, 108, 97, 116, 101, 6, 255, 11, 103, 101, 116, 99, 111, 100, 101, 115, 105, 122, 101, 9, 16, 95, 115, 114, 101, 46, 103, 101, 116, 99, 111, 100, 101, 115, 105, 122, 101, 6, 256, 13, 97, 115, 99, 105, 105, 95, 105, 115, 99, 97, 115, 101, 100, 9, 18, 95, 115, 114, 101, 46, 97, 115, 99, 105, 105, 95, 105, 115, 99, 97, 115, 101, 100, 6, 257, 15, 117, 110, 105, 99, 111, 100, 101, 95, 105, 115, 99, 97, 115, 101, 100, 9, 20, 95, 115, 114, 101, 46, 117, 110, 105, 99, 111, 100, 101, 95, 105, 115, 99, 97, 115, 101, 100, 6, 258, 13, 97, 115, 99, 105, 105, 95, 116, 111, 108, 111, 119, 101, 114, 9, 18, 95, 115, 114, 101, 46, 97, 115, 99, 105, 105, 95, 116, 111, 108, 111, 119, 101, 114, 6, 259, 15, 117, 110, 105, 99, 111, 100, 101, 95, 116, 111, 108, 111, 119, 101, 114, 9, 20, 95, 115, 114, 101, 46, 117, 110, 105, 99, 111, 100, 101, 95, 116, 111, 108, 111, 119, 101, 114, 6, 261, 5, 77, 65, 71, 73, 67, 4, 260, 0, 20230612, 6, 263, 8, 67, 79, 68, 69, 83, 73, 90, 69, 4, 262, 0, 4, 6, 265, 9, 77, 65, 88, 82, 69, 80, 69, 65, 84, 4, 264, 0, 4294967295, 6, 267, 9, 77, 65, 88, 71, 82, 79, 85, 80, 83, 4, 266, 0, 1073741823, 6, 269, 9, 99, 111, 112, 121, 114, 105, 103, 104, 116, 6, 268, 53, 32, 83, 82, 69, 32, 50, 46, 50, 46, 50, 32, 67, 111, 112, 121, 114, 105, 103, 104, 116, 32, 40, 99, 41, 32, 49, 57, 57, 55, 45, 50, 48, 48, 50, 32, 98, 121, 32, 83, 101, 99, 114, 101, 116, 32, 76, 97, 98, 115, 32, 65, 66, 32]) 0), (PySem.Value.bool Bool.true), (PySem.Value.bool Bool.false), (PySem.Value.str (PySem.Str.ofString "_sre") 271)] 0) #[])
noncomputable def trE (P : Params) : BT := (.node (ob0 P) (.node (ob1 P) (.node (ob3 P) (.node (ob7 P) (.node (ob7 P) .nil .nil) (.node (ob22 P) .nil .nil)) (.node (ob11 P) (.node (ob18 P) .nil .nil) (.node (ob26 P) .nil .nil))) (.node (ob5 P) (.node (ob9 P) (.node (ob16 P) .nil .nil) (.node (ob24 P) .nil .nil)) (.node (ob13 P) (.node (ob20 P) .nil .nil) .nil))) (.node (ob2 P) (.node (ob4 P) (.node (ob8 P) (.node (ob15 P) .nil .nil) (.node (ob23 P) .nil .nil)) (.node (ob12 P) (.node (ob19 P) .nil .nil) .nil)) (.node (ob6 P) (.node (ob10 P) (.node (ob17 P) .nil .nil) (.node (ob25 P) .nil .nil)) (.node (ob14 P) (.node (ob21 P) .nil .nil) .nil))))
noncomputable abbrev stE (w : World) (os : OsState) : SharedT := ⟨trE w.params, 28, (PySem.Life.mk [] [] [] 0 [] [] Bool.false #[] [] 0 Bool.false Bool.false Bool.false (0 : Int) [(2000 : Int), (10 : Int), (10 : Int)] Bool.false 0 Bool.true [] [] 0 Bool.false), ⟨[]⟩, (PySem.Drawn.mk 0 0 0 0), 276, os⟩
noncomputable def ob27 (P : Params) : Obj := (PySem.Obj.mk (PySem.Value.type "dict") none (PySem.Data.dict #[(PySem.DictEntry.mk (PySem.PyData.keyHash P (PySem.Str.ofString "__name__")) (PySem.Value.str (PySem.Str.ofString "__name__") 247) (PySem.Value.str (PySem.Str.ofString "_sre") 246)), (PySem.DictEntry.mk (PySem.PyData.keyHash P (PySem.Str.ofString "__doc__")) (PySem.Value.str (PySem.Str.ofString "__doc__") 248) PySem.Value.none), (PySem.DictEntry.mk (PySem.PyData.keyHash P (PySem.Str.ofString "__package__")) (PySem.Value.str (PySem.Str.ofString "__package__") 250) (PySem.Value.str (PySem.Str.ofString "") 249)), (PySem.DictEntry.mk (PySem.PyData.keyHash P (PySem.Str.ofString "__loader__")) (PySem.Value.str (PySem.Str.ofString "__loader__") 251) (PySem.Value.builtin "off-the-table:_sre.__loader__:shared#op\u0061que")), (PySem.DictEntry.mk (PySem.PyData.keyHash P (PySem.Str.ofString "__spec__")) (PySem.Value.str (PySem.Str.ofString "__spec__") 252) (PySem.Value.builtin "off-the-table:_sre.__spec__:shared#op\u0061que")), (PySem.DictEntry.mk (PySem.PyData.keyHash P (PySem.Str.ofString "compile")) (PySem.Value.str (PySem.Str.ofString "compile") 253) (PySem.Value.builtin "_sre.compile")), (PySem.DictEntry.mk (PySem.PyData.keyHash P (PySem.Str.ofString "template")) (PySem.Value.str (PySem.Str.ofString "template") 254) (PySem.Value.builtin "off-the-table:_sre.template:shared#op\u0061que")), (PySem.DictEntry.mk (PySem.PyData.keyHash P (PySem.Str.ofString "getcodesize")) (PySem.Value.str (PySem.Str.ofString "getcodesize") 255) (PySem.Value.builtin "off-the-table:_sre.getcodesize:shared#op\u0061que")), (PySem.DictEntry.mk (PySem.PyData.keyHash P (PySem.Str.ofString "ascii_iscased")) (PySem.Value.str (PySem.Str.ofString "ascii_iscased") 256) (PySem.Value.builtin "off-the-table:_sre.ascii_iscased:shared#op\u0061que")), (PySem.DictEntry.mk (PySem.PyData.keyHash P (PySem.Str.ofString "unicode_iscased")) (PySem.Value.str (PySem.Str.ofString "unicode_iscased") 257) (PySem.Value.builtin "off-the-table:_sre.unicode_iscased:shared#op\u0061que")), (PySem.DictEntry.mk (PySem.PyData.keyHash P (PySem.Str.ofString "ascii_tolower")) (PySem.Value.str (PySem.Str.ofString "ascii_tolower") 258) (PySem.Value.builtin "off-the-table:_sre.ascii_tolower:shared#op\u0061que")), (PySem.DictEntry.mk (PySem.PyData.keyHash P (PySem.Str.ofString "unicode_tolower")) (PySem.Value.str (PySem.Str.ofString "unicode_tolower") 259) (PySem.Value.builtin "off-the-table:_sre.unicode_tolower:shared#op\u0061que")), (PySem.DictEntry.mk (PySem.PyData.keyHash P (PySem.Str.ofString "MAGIC")) (PySem.Value.str (PySem.Str.ofString "MAGIC") 261) (PySem.Value.int (20230612 : Int) 260)), (PySem.DictEntry.mk (PySem.PyData.keyHash P (PySem.Str.ofString "CODESIZE")) (PySem.Value.str (PySem.Str.ofString "CODESIZE") 263) (PySem.Value.int (4 : Int) 262)), (PySem.DictEntry.mk (PySem.PyData.keyHash P (PySem.Str.ofString "MAXREPEAT")) (PySem.Value.str (PySem.Str.ofString "MAXREPEAT") 265) (PySem.Value.int (4294967295 : Int) 264)), (PySem.DictEntry.mk (PySem.PyData.keyHash P (PySem.Str.ofString "MAXGROUPS")) (PySem.Value.str (PySem.Str.ofString "MAXGROUPS") 267) (PySem.Value.int (1073741823 : Int) 266)), (PySem.DictEntry.mk (PySem.PyData.keyHash P (PySem.Str.ofString "copyright")) (PySem.Value.str (PySem.Str.ofString "copyright") 269) (PySem.Value.str (PySem.Str.ofString " SRE 2.2.2 Copyright (c) 1997-2002 by Secret Labs AB ") 268))] 17) #[])
noncomputable def trZ (P : Params) : BT := (.node (ob0 P) (.node (ob1 P) (.node (ob3 P) (.node (ob7 P) (.node (ob7 P) .nil .nil) (.node (ob22 P) .nil .nil)) (.node (ob27 P) (.node (ob18 P) .nil .nil) (.node (ob26 P) .nil .nil))) (.node (ob5 P) (.node (ob9 P) (.node (ob16 P) .nil .nil) (.node (ob24 P) .nil .nil)) (.node (ob13 P) (.node (ob20 P) .nil .nil) .nil))) (.node (ob2 P) (.node (ob4 P) (.node (ob8 P) (.node (ob15 P) .nil .nil) (.node (ob23 P) .nil .nil)) (.node (ob12 P) (.node (ob19 P) .nil .nil) .nil)) (.node (ob6 P) (.node (ob10 P) (.node (ob17 P) .nil .nil) (.node (ob25 P) .nil .nil)) (.node (ob14 P) (.node (ob21 P) .nil .nil) .nil))))
noncomputable abbrev stZ (w : World) (os : OsState) : SharedT := ⟨trZ w.params, 28, (PySem.Life.mk [] [] [] 0 [] [] Bool.false #[] [] 0 Bool.false Bool.false Bool.false (0 : Int) [(2000 : Int), (10 : Int), (10 : Int)] Bool.false 0 Bool.true [] [] 0 Bool.false), ⟨[]⟩, (PySem.Drawn.mk 0 0 0 0), 276, os⟩
noncomputable def ob28 (P : Params) : Obj := (PySem.Obj.mk (PySem.Value.type "code") none (PySem.Data.fields #[(PySem.Value.str (PySem.Str.ofString "<module>") 277), (PySem.Value.str (PySem.Str.ofString "<module>") 278), (PySem.Value.str (PySem.Str.ofString "/claim/cut.py") 279), (PySem.Value.int (1 : Int) 0), (PySem.Value.int (0 : Int) 0), (PySem.Value.int (0 : Int) 0), (PySem.Value.int (0 : Int) 0), (PySem.Value.int (0 : Int) 0), (PySem.Value.ref 28), (PySem.Value.bool Bool.false), (PySem.Value.int (276 : Int) 0), (PySem.Value.ref 29), PySem.Value.none, PySem.Value.none, PySem.Value.none, PySem.Value.none, (PySem.Value.int (280 : Int) 0), (PySem.Value.int (1 : Int) 0), (PySem.Value.str (PySem.Str.ofString "/claim/cut.py") 281)]) #[])
noncomputable def ob29 (P : Params) : Obj := (PySem.Obj.mk (PySem.Value.type "frame") none PySem.Data.plain #[(some (PySem.Value.ref 30)), (some (PySem.Value.ref 3)), (some (PySem.Value.ref 3)), none, (some (PySem.Value.str (PySem.Str.ofString "__main__") 164)), none, (some (PySem.Value.ref 0))])
noncomputable def trB (P : Params) : BT := (.node (ob0 P) (.node (ob1 P) (.node (ob3 P) (.node (ob7 P) (.node (ob7 P) (.node (ob29 P) .nil .nil) .nil) (.node (ob22 P) .nil .nil)) (.node (ob27 P) (.node (ob18 P) .nil .nil) (.node (ob26 P) .nil .nil))) (.node (ob5 P) (.node (ob9 P) (.node (ob16 P) .nil .nil) (.node (ob24 P) .nil .nil)) (.node (ob13 P) (.node (ob20 P) .nil .nil) (.node (ob8 P) .nil .nil)))) (.node (ob2 P) (.node (ob4 P) (.node (ob8 P) (.node (ob15 P) .nil .nil) (.node (ob23 P) .nil .nil)) (.node (ob12 P) (.node (ob19 P) .nil .nil) (.node (ob7 P) .nil .nil))) (.node (ob6 P) (.node (ob10 P) (.node (ob17 P) .nil .nil) (.node (ob25 P) .nil .nil)) (.node (ob14 P) (.node (ob21 P) .nil .nil) (.node (ob28 P) .nil .nil)))))
noncomputable abbrev stB (w : World) (os : OsState) : SharedT := ⟨trB w.params, 32, (PySem.Life.mk [] [] [] 0 [] [] Bool.false #[] [] 0 Bool.false Bool.false Bool.false (0 : Int) [(2000 : Int), (10 : Int), (10 : Int)] Bool.false 0 Bool.true [] [] 0 Bool.false), ⟨[]⟩, (PySem.Drawn.mk 0 0 0 0), 282, os⟩
noncomputable abbrev sts0 : List Stmt := [stm 1, stm 2, stm 3, stm 4]
noncomputable abbrev th0 : Thread := piecesOf sts0 env cE ⟨0, 0, 0, 0⟩ B
noncomputable def ob30 (P : Params) : Obj := (PySem.Obj.mk (PySem.Value.type "dict") none (PySem.Data.dict #[(PySem.DictEntry.mk (PySem.PyData.keyHash P (PySem.Str.ofString "__name__")) (PySem.Value.str (PySem.Str.ofString "__name__") 165) (PySem.Value.str (PySem.Str.ofString "cpy313.http.cookiejar") 282)), (PySem.DictEntry.mk (PySem.PyData.keyHash P (PySem.Str.ofString "__doc__")) (PySem.Value.str (PySem.Str.ofString "__doc__") 166) PySem.Value.none), (PySem.DictEntry.mk (PySem.PyData.keyHash P (PySem.Str.ofString "__package__")) (PySem.Value.str (PySem.Str.ofString "__package__") 167) PySem.Value.none), (PySem.DictEntry.mk (PySem.PyData.keyHash P (PySem.Str.ofString "__loader__")) (PySem.Value.str (PySem.Str.ofString "__loader__") 168) (PySem.Value.builtin "__main__.__loader__#op\u0061que")), (PySem.DictEntry.mk (PySem.PyData.keyHash P (PySem.Str.ofString "__spec__")) (PySem.Value.str (PySem.Str.ofString "__spec__") 169) PySem.Value.none), (PySem.DictEntry.mk (PySem.PyData.keyHash P (PySem.Str.ofString "__annotations__")) (PySem.Value.str (PySem.Str.ofString "__annotations__") 170) (PySem.Value.ref 6)), (PySem.DictEntry.mk (PySem.PyData.keyHash P (PySem.Str.ofString "__builtins__")) (PySem.Value.str (PySem.Str.ofString "__builtins__") 171) (PySem.Value.ref 4)), (PySem.DictEntry.mk (PySem.PyData.keyHash P (PySem.Str.ofString "__file__")) (PySem.Value.str (PySem.Str.ofString "__file__") 173) (PySem.Value.str (PySem.Str.ofString "/claim/cut.py") 172)), (PySem.DictEntry.mk (PySem.PyData.keyHash P (PySem.Str.ofString "__cached__")) (PySem.Value.str (PySem.Str.ofString "__cached__") 174) PySem.Value.none), (PySem.DictEntry.mk (PySem.PyData.keyHash P (PySem.Str.ofString "_sre")) (PySem.Value.str (PySem.Str.ofString "_sre") 275) (PySem.Value.ref 12)), (PySem.DictEntry.mk (PySem.PyData.keyHash P (PySem.Str.ofString "strip_quotes")) (PySem.Value.str (PySem.Str.ofString "strip_quotes") 290) (PySem.Value.ref 38)), (PySem.DictEntry.mk (PySem.PyData.keyHash P (PySem.Str.ofString "_twin_re_1")) (PySem.Value.str (PySem.Str.ofString "_twin_re_1") 325) (PySem.Value.ref 43)), (PySem.DictEntry.mk (PySem.PyData.keyHash P (PySem.Str.ofString "NL")) (PySem.Value.str (PySem.Str.ofString "NL") 327) (PySem.Value.str (PySem.Str.ofString "\n") 326))] 13) #[])
noncomputable def ob31 (P : Params) : Obj := (PySem.Obj.mk PySem.Value.none none (PySem.Data.fields #[(PySem.Value.int (3 : Int) 0), (PySem.Value.int (0 : Int) 0), (PySem.Value.ref 37)]) #[])
noncomputable def ob32 (P : Params) : Obj := (PySem.Obj.mk (PySem.Value.type "tuple") none (PySem.Data.seq #[(PySem.Value.str (PySem.Str.ofString "text") 287)] 0) #[])
noncomputable def ob33 (P : Params) : Obj := (PySem.Obj.mk PySem.Value.none none (PySem.Data.func (PySem.FuncData.mk (PySem.Str.ofString "strip_quotes") (PySem.Str.ofString "strip_quotes") (fArgs (stm 2)) (PySem.FuncBody.stmts (fBody (stm 2))) (fScope (stm 2)) 0 [] PySem.Value.none PySem.Value.none PySem.Value.none PySem.Value.none none PySem.Value.none PySem.Value.none 0)) #[])
noncomputable def ob34 (P : Params) : Obj := (PySem.Obj.mk (PySem.Value.type "code") none (PySem.Data.fields #[(PySem.Value.str (PySem.Str.ofString "strip_quotes") 284), (PySem.Value.str (PySem.Str.ofString "strip_quotes") 285), (PySem.Value.str (PySem.Str.ofString "/claim/cut.py") 286), (PySem.Value.int (3 : Int) 0), (PySem.Value.int (1 : Int) 0), (PySem.Value.int (0 : Int) 0), (PySem.Value.int (0 : Int) 0), (PySem.Value.int (3 : Int) 0), (PySem.Value.ref 32), (PySem.Value.bool Bool.true), (PySem.Value.int (276 : Int) 0), (PySem.Value.ref 33), PySem.Value.none, (PySem.Value.ref 34), (PySem.Value.ref 35), (PySem.Value.ref 36), (PySem.Value.int (288 : Int) 0), (PySem.Value.int (3 : Int) 0), (PySem.Value.str (PySem.Str.ofString "/claim/cut.py") 289)]) #[])
noncomputable def ob35 (P : Params) : Obj := (PySem.Obj.mk (PySem.Value.type "function") none (PySem.Data.func (PySem.FuncData.mk (PySem.Str.ofString "strip_quotes") (PySem.Str.ofString "strip_quotes") (fArgs (stm 2)) (PySem.FuncBody.stmts (fBody (stm 2))) (fScope (stm 2)) 3 [] PySem.Value.none PySem.Value.none PySem.Value.none (PySem.Value.str (PySem.Str.ofString "cpy313.http.cookiejar") 282) none (PySem.Value.ref 37) PySem.Value.none 0)) #[])
noncomputable def ob36 (P : Params) : Obj := (PySem.Obj.mk (PySem.Value.type "list") none (PySem.Data.seq #[(PySem.Value.int (14 : Int) 294), (PySem.Value.int (8 : Int) 295), (PySem.Value.int (1 : Int) 296), (PySem.Value.int (3 : Int) 297), (PySem.Value.int (3 : Int) 298), (PySem.Value.int (1 : Int) 299), (PySem.Value.int (1 : Int) 300), (PySem.Value.int (61 : Int) 301), (PySem.Value.int (0 : Int) 302), (PySem.Value.int (16 : Int) 303), (PySem.Value.int (61 : Int) 304), (PySem.Value.int (24 : Int) 305), (PySem.Value.int (16 : Int) 306), (PySem.Value.int (2 : Int) 307), (PySem.Value.int (2 : Int) 308), (PySem.Value.int (13 : Int) 309), (PySem.Value.int (11 : Int) 310), (PySem.Value.int (9 : Int) 311), (PySem.Value.int (0 : Int) 312), (PySem.Value.int (67043328 : Int) 313), (PySem.Value.int (126 : Int) 314), (PySem.Value.int (126 : Int) 315), (PySem.Value.int (0 : Int) 316), (PySem.Value.int (0 : Int) 317), (PySem.Value.int (0 : Int) 318), (PySem.Value.int (0 : Int) 319), (PySem.Value.int (0 : Int) 320), (PySem.Value.int (1 : Int) 321), (PySem.Value.int (1 : Int) 322)] 0) #[])
noncomputable def ob37 (P : Params) : Obj := (PySem.Obj.mk (PySem.Value.type "tuple") none (PySem.Data.seq #[PySem.Value.none] 0) #[])
noncomputable def ob38 (P : Params) : Obj := (PySem.Obj.mk (PySem.Value.type "tuple") none (PySem.Data.seq #[(PySem.Value.int (14 : Int) 0), (PySem.Value.int (8 : Int) 0), (PySem.Value.int (1 : Int) 0), (PySem.Value.int (3 : Int) 0), (PySem.Value.int (3 : Int) 0), (PySem.Value.int (1 : Int) 0), (PySem.Value.int (1 : Int) 0), (PySem.Value.int (61 : Int) 0), (PySem.Value.int (0 : Int) 0), (PySem.Value.int (16 : Int) 0), (PySem.Value.int (61 : Int) 0), (PySem.Value.int (24 : Int) 0), (PySem.Value.int (16 : Int) 0), (PySem.Value.int (2 : Int) 0), (PySem.Value.int (2 : Int) 0), (PySem.Value.int (13 : Int) 0), (PySem.Value.int (11 : Int) 0), (PySem.Value.int (9 : Int) 0), (PySem.Value.int (0 : Int) 0), (PySem.Value.int (67043328 : Int) 0), (PySem.Value.int (126 : Int) 0), (PySem.Value.int (126 : Int) 0), (PySem.Value.int (0 : Int) 0), (PySem.Value.int (0 : Int) 0), (PySem.Value.int (0 : Int) 0), (PySem.Value.int (0 : Int) 0), (PySem.Value.int (0 : Int) 0), (PySem.Value.int (1 : Int) 0), (PySem.Value.int (1 : Int) 0)] 0) #[])
noncomputable def ob39 (P : Params) : Obj := (PySem.Obj.mk (PySem.Value.type "re.Pattern") none (PySem.Data.fields #[(PySem.Value.str (PySem.Str.ofString "=[a-fA-F0-9]{2}") 292), (PySem.Value.int (256 : Int) 324), (PySem.Value.int (0 : Int) 0), PySem.Value.none, PySem.Value.none, (PySem.Value.ref 42), (PySem.Value.int (0 : Int) 0)]) #[])
noncomputable def tr0 (P : Params) : BT := (.node (ob0 P) (.node (ob1 P) (.node (ob30 P) (.node (ob7 P) (.node (ob7 P) (.node (ob29 P) .nil .nil) .nil) (.node (ob22 P) (.node (ob36 P) .nil .nil) .nil)) (.node (ob27 P) (.node (ob18 P) (.node (ob7 P) .nil .nil) .nil) (.node (ob26 P) (.node (ob39 P) .nil .nil) .nil))) (.node (ob5 P) (.node (ob9 P) (.node (ob16 P) (.node (ob8 P) .nil .nil) .nil) (.node (ob24 P) (.node (ob37 P) .nil .nil) .nil)) (.node (ob13 P) (.node (ob20 P) (.node (ob34 P) .nil .nil) .nil) (.node (ob31 P) .nil .nil)))) (.node (ob2 P) (.node (ob4 P) (.node (ob8 P) (.node (ob15 P) (.node (ob7 P) .nil .nil) .nil) (.node (ob23 P) (.node (ob6 P) .nil .nil) .nil)) (.node (ob12 P) (.node (ob19 P) (.node (ob33 P) .nil .nil) .nil) (.node (ob7 P) .nil .nil))) (.node (ob6 P) (.node (ob10 P) (.node (ob17 P) (.node (ob32 P) .nil .nil) .nil) (.node (ob25 P) (.node (ob38 P) .nil .nil) .nil)) (.node (ob14 P) (.node (ob21 P) (.node (ob35 P) .nil .nil) .nil) (.node (ob28 P) .nil .nil)))))
noncomputable abbrev st0 (w : World) (os : OsState) : SharedT := ⟨tr0 w.params, 44, (PySem.Life.mk [] [] [] 0 [] [] Bool.false #[] [] 0 Bool.false Bool.false Bool.false (0 : Int) [(2000 : Int), (10 : Int), (10 : Int)] Bool.false 0 Bool.true [] [] 0 Bool.false), ⟨[]⟩, (PySem.Drawn.mk 0 0 0 0), 328, os⟩
noncomputable abbrev sts1 : List Stmt := [stm 5]
noncomputable abbrev th1 : Thread := piecesOf sts1 env cE ⟨10, 0, 10, 2⟩ B
noncomputable def thr1 (w : World) (os : OsState) : Thread := thrOf (goW ((w.withFollow "special-get-raises" false).withFollow "comprehension-iter-twice" false) 88 (st0 w os) th1)
noncomputable def ob40 (P : Params) : Obj := (PySem.Obj.mk (PySem.Value.type "range") none (PySem.Data.fields #[(PySem.Value.int (0 : Int) 329), (PySem.Value.int (256 : Int) 328), (PySem.Value.int (1 : Int) 330)]) #[])
noncomputable def ob41 (P : Params) : Obj := (PySem.Obj.mk (PySem.Value.type "range_iterator") none (PySem.Data.fields #[(PySem.Value.int (1 : Int) 0), (PySem.Value.int (255 : Int) 0), (PySem.Value.int (1 : Int) 0)]) #[])
noncomputable def ob42 (P : Params) : Obj := (PySem.Obj.mk (PySem.Value.type "list") none (PySem.Data.seq #[(PySem.Value.str (PySem.Str.ofString "=00") 334)] 1) #[])
noncomputable def ob43 (P : Params) : Obj := (PySem.Obj.mk (PySem.Value.type "dict") none (PySem.Data.dict #[(PySem.DictEntry.mk (PySem.PyData.keyHash P (PySem.Str.ofString "c")) (PySem.Value.str (PySem.Str.ofString "c") 332) (PySem.Value.int (0 : Int) 331))] 1) #[])
noncomputable def tr1c0 (P : Params) : BT := (.node (ob0 P) (.node (ob1 P) (.node (ob30 P) (.node (ob7 P) (.node (ob7 P) (.node (ob29 P) .nil .nil) (.node (ob43 P) .nil .nil)) (.node (ob22 P) (.node (ob36 P) .nil .nil) .nil)) (.node (ob27 P) (.node (ob18 P) (.node (ob7 P) .nil .nil) .nil) (.node (ob26 P) (.node (ob39 P) .nil .nil) .nil))) (.node (ob5 P) (.node (ob9 P) (.node (ob16 P) (.node (ob8 P) .nil .nil) .nil) (.node (ob24 P) (.node (ob37 P) .nil .nil) .nil)) (.node (ob13 P) (.node (ob20 P) (.node (ob34 P) .nil .nil) .nil) (.node (ob31 P) (.node (ob41 P) .nil .nil) .nil)))) (.node (ob2 P) (.node (ob4 P) (.node (ob8 P) (.node (ob15 P) (.node (ob7 P) .nil .nil) .nil) (.node (ob23 P) (.node (ob6 P) .nil .nil) .nil)) (.node (ob12 P) (.node (ob19 P) (.node (ob33 P) .nil .nil) .nil) (.node (ob7 P) (.node (ob40 P) .nil .nil) .nil))) (.node (ob6 P) (.node (ob10 P) (.node (ob17 P) (.node (ob32 P) .nil .nil) .nil) (.node (ob25 P) (.node (ob38 P) .nil .nil) .nil)) (.node (ob14 P) (.node (ob21 P) (.node (ob35 P) .nil .nil) .nil) (.node (ob28 P) (.node (ob42 P) .nil .nil) .nil)))))
noncomputable abbrev st1c0 (w : World) (os : OsState) : SharedT := ⟨tr1c0 w.params, 48, (PySem.Life.mk [] [] [] 0 [] [] Bool.false #[] [] 0 Bool.false Bool.false Bool.false (0 : Int) [(2000 : Int), (10 : Int), (10 : Int)] Bool.false 0 Bool.true [] [] 0 Bool.false), ⟨[]⟩, (PySem.Drawn.mk 0 0 0 0), 335, os⟩
noncomputable abbrev F1c0 (n : Nat) (w : World) : Prop := ∀ os, segGoT treeTable Pp w 28 ann 1 n (st0 w os) th1 = some (st1c0 w os, thr1 w os)
noncomputable def ob44 (P : Params) : Obj := (PySem.Obj.mk (PySem.Value.type "range_iterator") none (PySem.Data.fields #[(PySem.Value.int (31 : Int) 0), (PySem.Value.int (225 : Int) 0), (PySem.Value.int (1 : Int) 0)]) #[])
noncomputable def ob45 (P : Params) : Obj := (PySem.Obj.mk (PySem.Value.type "list") none (PySem.Data.seq ((tq.take 31)).toArray 31) #[])
noncomputable def ob46 (P : Params) : Obj := (PySem.Obj.mk (PySem.Value.type "dict") none (PySem.Data.dict #[(PySem.DictEntry.mk (PySem.PyData.keyHash P (PySem.Str.ofString "c")) (PySem.Value.str (PySem.Str.ofString "c") 332) (PySem.Value.int (30 : Int) 451))] 1) #[])
noncomputable def tr1c1 (P : Params) : BT := (.node (ob0 P) (.node (ob1 P) (.node (ob30 P) (.node (ob7 P) (.node (ob7 P) (.node (ob29 P) .nil .nil) (.node (ob46 P) .nil .nil)) (.node (ob22 P) (.node (ob36 P) .nil .nil) .nil)) (.node (ob27 P) (.node (ob18 P) (.node (ob7 P) .nil .nil) .nil) (.node (ob26 P) (.node (ob39 P) .nil .nil) .nil))) (.node (ob5 P) (.node (ob9 P) (.node (ob16 P) (.node (ob8 P) .nil .nil) .nil) (.node (ob24 P) (.node (ob37 P) .nil .nil) .nil)) (.node (ob13 P) (.node (ob20 P) (.node (ob34 P) .nil .nil) .nil) (.node (ob31 P) (.node (ob44 P) .nil .nil) .nil)))) (.node (ob2 P) (.node (ob4 P) (.node (ob8 P) (.node (ob15 P) (.node (ob7 P) .nil .nil) .nil) (.node (ob23 P) (.node (ob6 P) .nil .nil) .nil)) (.node (ob12 P) (.node (ob19 P) (.node (ob33 P) .nil .nil) .nil) (.node (ob7 P) (.node (ob40 P) .nil .nil) .nil))) (.node (ob6 P) (.node (ob10 P) (.node (ob17 P) (.node (ob32 P) .nil .nil) .nil) (.node (ob25 P) (.node (ob38 P) .nil .nil) .nil)) (.node (ob14 P) (.node (ob21 P) (.node (ob35 P) .nil .nil) .nil) (.node (ob28 P) (.node (ob45 P) .nil .nil) .nil)))))
noncomputable abbrev st1c1 (w : World) (os : OsState) : SharedT := ⟨tr1c1 w.params, 48, (PySem.Life.mk [] [] [] 0 [] [] Bool.false #[] [] 0 Bool.false Bool.false Bool.false (0 : Int) [(2000 : Int), (10 : Int), (10 : Int)] Bool.false 0 Bool.true [] [] 0 Bool.false), ⟨[]⟩, (PySem.Drawn.mk 0 0 0 0), 455, os⟩
noncomputable def ob47 (P : Params) : Obj := (PySem.Obj.mk (PySem.Value.type "range_iterator") none (PySem.Data.fields #[(PySem.Value.int (61 : Int) 0), (PySem.Value.int (195 : Int) 0), (PySem.Value.int (1 : Int) 0)]) #[])
noncomputable def ob48 (P : Params) : Obj := (PySem.Obj.mk (PySem.Value.type "list") none (PySem.Data.seq ((tq.take 61)).toArray 61) #[])
noncomputable def ob49 (P : Params) : Obj := (PySem.Obj.mk (PySem.Value.type "dict") none (PySem.Data.dict #[(PySem.DictEntry.mk (PySem.PyData.keyHash P (PySem.Str.ofString "c")) (PySem.Value.str (PySem.Str.ofString "c") 332) (PySem.Value.int (60 : Int) 571))] 1) #[])
noncomputable def tr1c2 (P : Params) : BT := (.node (ob0 P) (.node (ob1 P) (.node (ob30 P) (.node (ob7 P) (.node (ob7 P) (.node (ob29 P) .nil .nil) (.node (ob49 P) .nil .nil)) (.node (ob22 P) (.node (ob36 P) .nil .nil) .nil)) (.node (ob27 P) (.node (ob18 P) (.node (ob7 P) .nil .nil) .nil) (.node (ob26 P) (.node (ob39 P) .nil .nil) .nil))) (.node (ob5 P) (.node (ob9 P) (.node (ob16 P) (.node (ob8 P) .nil .nil) .nil) (.node (ob24 P) (.node (ob37 P) .nil .nil) .nil)) (.node (ob13 P) (.node (ob20 P) (.node (ob34 P) .nil .nil) .nil) (.node (ob31 P) (.node (ob47 P) .nil .nil) .nil)))) (.node (ob2 P) (.node (ob4 P) (.node (ob8 P) (.node (ob15 P) (.node (ob7 P) .nil .nil) .nil) (.node (ob23 P) (.node (ob6 P) .nil .nil) .nil)) (.node (ob12 P) (.node (ob19 P) (.node (ob33 P) .nil .nil) .nil) (.node (ob7 P) (.node (ob40 P) .nil .nil) .nil))) (.node (ob6 P) (.node (ob10 P) (.node (ob17 P) (.node (ob32 P) .nil .nil) .nil) (.node (ob25 P) (.node (ob38 P) .nil .nil) .nil)) (.node (ob14 P) (.node (ob21 P) (.node (ob35 P) .nil .nil) .nil) (.node (ob28 P) (.node (ob48 P) .nil .nil) .nil)))))
noncomputable abbrev st1c2 (w : World) (os : OsState) : SharedT := ⟨tr1c2 w.params, 48, (PySem.Life.mk [] [] [] 0 [] [] Bool.false #[] [] 0 Bool.false Bool.false Bool.false (0 : Int) [(2000 : Int), (10 : Int), (10 : Int)] Bool.false 0 Bool.true [] [] 0 Bool.false), ⟨[]⟩, (PySem.Drawn.mk 0 0 0 0), 575, os⟩
noncomputable def ob50 (P : Params) : Obj := (PySem.Obj.mk (PySem.Value.type "range_iterator") none (PySem.Data.fields #[(PySem.Value.int (91 : Int) 0), (PySem.Value.int (165 : Int) 0), (PySem.Value.int (1 : Int) 0)]) #[])
noncomputable def ob51 (P : Params) : Obj := (PySem.Obj.mk (PySem.Value.type "list") none (PySem.Data.seq ((tq.take 91)).toArray 91) #[])
noncomputable def ob52 (P : Params) : Obj := (PySem.Obj.mk (PySem.Value.type "dict") none (PySem.Data.dict #[(PySem.DictEntry.mk (PySem.PyData.keyHash P (PySem.Str.ofString "c")) (PySem.Value.str (PySem.Str.ofString "c") 332) (PySem.Value.int (90 : Int) 691))] 1) #[])
noncomputable def tr1c3 (P : Params) : BT := (.node (ob0 P) (.node (ob1 P) (.node (ob30 P) (.node (ob7 P) (.node (ob7 P) (.node (ob29 P) .nil .nil) (.node (ob52 P) .nil .nil)) (.node (ob22 P) (.node (ob36 P) .nil .nil) .nil)) (.node (ob27 P) (.node (ob18 P) (.node (ob7 P) .nil .nil) .nil) (.node (ob26 P) (.node (ob39 P) .nil .nil) .nil))) (.node (ob5 P) (.node (ob9 P) (.node (ob16 P) (.node (ob8 P) .nil .nil) .nil) (.node (ob24 P) (.node (ob37 P) .nil .nil) .nil)) (.node (ob13 P) (.node (ob20 P) (.node (ob34 P) .nil .nil) .nil) (.node (ob31 P) (.node (ob50 P) .nil .nil) .nil)))) (.node (ob2 P) (.node (ob4 P) (.node (ob8 P) (.node (ob15 P) (.node (ob7 P) .nil .nil) .nil) (.node (ob23 P) (.node (ob6 P) .nil .nil) .nil)) (.node (ob12 P) (.node (ob19 P) (.node (ob33 P) .nil .nil) .nil) (.node (ob7 P) (.node (ob40 P) .nil .nil) .nil))) (.node (ob6 P) (.node (ob10 P) (.node (ob17 P) (.node (ob32 P) .nil .nil) .nil) (.node (ob25 P) (.node (ob38 P) .nil .nil) .nil)) (.node (ob14 P) (.node (ob21 P) (.node (ob35 P) .nil .nil) .nil) (.node (ob28 P) (.node (ob51 P) .nil .nil) .nil)))))
noncomputable abbrev st1c3 (w : World) (os : OsState) : SharedT := ⟨tr1c3 w.params, 48, (PySem.Life.mk [] [] [] 0 [] [] Bool.false #[] [] 0 Bool.false Bool.false Bool.false (0 : Int) [(2000 : Int), (10 : Int), (10 : Int)] Bool.false 0 Bool.true [] [] 0 Bool.false), ⟨[]⟩, (PySem.Drawn.mk 0 0 0 0), 695, os⟩
noncomputable def ob53 (P : Params) : Obj := (PySem.Obj.mk (PySem.Value.type "range_iterator") none (PySem.Data.fields #[(PySem.Value.int (121 : Int) 0), (PySem.Value.int (135 : Int) 0), (PySem.Value.int (1 : Int) 0)]) #[])
noncomputable def ob54 (P : Params) : Obj := (PySem.Obj.mk (PySem.Value.type "list") none (PySem.Data.seq ((tq.take 121)).toArray 121) #[])
noncomputable def ob55 (P : Params) : Obj := (PySem.Obj.mk (PySem.Value.type "dict") none (PySem.Data.dict #[(PySem.DictEntry.mk (PySem.PyData.keyHash P (PySem.Str.ofString "c")) (PySem.Value.str (PySem.Str.ofString "c") 332) (PySem.Value.int (120 : Int) 811))] 1) #[])
noncomputable def tr1c4 (P : Params) : BT := (.node (ob0 P) (.node (ob1 P) (.node (ob30 P) (.node (ob7 P) (.node (ob7 P) (.node (ob29 P) .nil .nil) (.node (ob55 P) .nil .nil)) (.node (ob22 P) (.node (ob36 P) .nil .nil) .nil)) (.node (ob27 P) (.node (ob18 P) (.node (ob7 P) .nil .nil) .nil) (.node (ob26 P) (.node (ob39 P) .nil .nil) .nil))) (.node (ob5 P) (.node (ob9 P) (.node (ob16 P) (.node (ob8 P) .nil .nil) .nil) (.node (ob24 P) (.node (ob37 P) .nil .nil) .nil)) (.node (ob13 P) (.node (ob20 P) (.node (ob34 P) .nil .nil) .nil) (.node (ob31 P) (.node (ob53 P) .nil .nil) .nil)))) (.node (ob2 P) (.node (ob4 P) (.node (ob8 P) (.node (ob15 P) (.node (ob7 P) .nil .nil) .nil) (.node (ob23 P) (.node (ob6 P) .nil .nil) .nil)) (.node (ob12 P) (.node (ob19 P) (.node (ob33 P) .nil .nil) .nil) (.node (ob7 P) (.node (ob40 P) .nil .nil) .nil))) (.node (ob6 P) (.node (ob10 P) (.node (ob17 P) (.node (ob32 P) .nil .nil) .nil) (.node (ob25 P) (.node (ob38 P) .nil .nil) .nil)) (.node (ob14 P) (.node (ob21 P) (.node (ob35 P) .nil .nil) .nil) (.node (ob28 P) (.node (ob54 P) .nil .nil) .nil)))))
noncomputable abbrev st1c4 (w : World) (os : OsState) : SharedT := ⟨tr1c4 w.params, 48, (PySem.Life.mk [] [] [] 0 [] [] Bool.false #[] [] 0 Bool.false Bool.false Bool.false (0 : Int) [(2000 : Int), (10 : Int), (10 : Int)] Bool.false 0 Bool.true [] [] 0 Bool.false), ⟨[]⟩, (PySem.Drawn.mk 0 0 0 0), 815, os⟩
noncomputable def ob56 (P : Params) : Obj := (PySem.Obj.mk (PySem.Value.type "range_iterator") none (PySem.Data.fields #[(PySem.Value.int (151 : Int) 0), (PySem.Value.int (105 : Int) 0), (PySem.Value.int (1 : Int) 0)]) #[])
noncomputable def ob57 (P : Params) : Obj := (PySem.Obj.mk (PySem.Value.type "list") none (PySem.Data.seq ((tq.take 151)).toArray 151) #[])
noncomputable def ob58 (P : Params) : Obj := (PySem.Obj.mk (PySem.Value.type "dict") none (PySem.Data.dict #[(PySem.DictEntry.mk (PySem.PyData.keyHash P (PySem.Str.ofString "c")) (PySem.Value.str (PySem.Str.ofString "c") 332) (PySem.Value.int (150 : Int) 931))] 1) #[])
noncomputable def tr1c5 (P : Params) : BT := (.node (ob0 P) (.node (ob1 P) (.node (ob30 P) (.node (ob7 P) (.node (ob7 P) (.node (ob29 P) .nil .nil) (.node (ob58 P) .nil .nil)) (.node (ob22 P) (.node (ob36 P) .nil .nil) .nil)) (.node (ob27 P) (.node (ob18 P) (.node (ob7 P) .nil .nil) .nil) (.node (ob26 P) (.node (ob39 P) .nil .nil) .nil))) (.node (ob5 P) (.node (ob9 P) (.node (ob16 P) (.node (ob8 P) .nil .nil) .nil) (.node (ob24 P) (.node (ob37 P) .nil .nil) .nil)) (.node (ob13 P) (.node (ob20 P) (.node (ob34 P) .nil .nil) .nil) (.node (ob31 P) (.node (ob56 P) .nil .nil) .nil)))) (.node (ob2 P) (.node (ob4 P) (.node (ob8 P) (.node (ob15 P) (.node (ob7 P) .nil .nil) .nil) (.node (ob23 P) (.node (ob6 P) .nil .nil) .nil)) (.node (ob12 P) (.node (ob19 P) (.node (ob33 P) .nil .nil) .nil) (.node (ob7 P) (.node (ob40 P) .nil .nil) .nil))) (.node (ob6 P) (.node (ob10 P) (.node (ob17 P) (.node (ob32 P) .nil .nil) .nil) (.node (ob25 P) (.node (ob38 P) .nil .nil) .nil)) (.node (ob14 P) (.node (ob21 P) (.node (ob35 P) .nil .nil) .nil) (.node (ob28 P) (.node (ob57 P) .nil .nil) .nil)))))
noncomputable abbrev st1c5 (w : World) (os : OsState) : SharedT := ⟨tr1c5 w.params, 48, (PySem.Life.mk [] [] [] 0 [] [] Bool.false #[] [] 0 Bool.false Bool.false Bool.false (0 : Int) [(2000 : Int), (10 : Int), (10 : Int)] Bool.false 0 Bool.true [] [] 0 Bool.false), ⟨[]⟩, (PySem.Drawn.mk 0 0 0 0), 935, os⟩
noncomputable def ob59 (P : Params) : Obj := (PySem.Obj.mk (PySem.Value.type "range_iterator") none (PySem.Data.fields #[(PySem.Value.int (181 : Int) 0), (PySem.Value.int (75 : Int) 0), (PySem.Value.int (1 : Int) 0)]) #[])
noncomputable def ob60 (P : Params) : Obj := (PySem.Obj.mk (PySem.Value.type "list") none (PySem.Data.seq ((tq.take 181)).toArray 181) #[])
noncomputable def ob61 (P : Params) : Obj := (PySem.Obj.mk (PySem.Value.type "dict") none (PySem.Data.dict #[(PySem.DictEntry.mk (PySem.PyData.keyHash P (PySem.Str.ofString "c")) (PySem.Value.str (PySem.Str.ofString "c") 332) (PySem.Value.int (180 : Int) 1051))] 1) #[])
noncomputable def tr1c6 (P : Params) : BT := (.node (ob0 P) (.node (ob1 P) (.node (ob30 P) (.node (ob7 P) (.node (ob7 P) (.node (ob29 P) .nil .nil) (.node (ob61 P) .nil .nil)) (.node (ob22 P) (.node (ob36 P) .nil .nil) .nil)) (.node (ob27 P) (.node (ob18 P) (.node (ob7 P) .nil .nil) .nil) (.node (ob26 P) (.node (ob39 P) .nil .nil) .nil))) (.node (ob5 P) (.node (ob9 P) (.node (ob16 P) (.node (ob8 P) .nil .nil) .nil) (.node (ob24 P) (.node (ob37 P) .nil .nil) .nil)) (.node (ob13 P) (.node (ob20 P) (.node (ob34 P) .nil .nil) .nil) (.node (ob31 P) (.node (ob59 P) .nil .nil) .nil)))) (.node (ob2 P) (.node (ob4 P) (.node (ob8 P) (.node (ob15 P) (.node (ob7 P) .nil .nil) .nil) (.node (ob23 P) (.node (ob6 P) .nil .nil) .nil)) (.node (ob12 P) (.node (ob19 P) (.node (ob33 P) .nil .nil) .nil) (.node (ob7 P) (.node (ob40 P) .nil .nil) .nil))) (.node (ob6 P) (.node (ob10 P) (.node (ob17 P) (.node (ob32 P) .nil .nil) .nil) (.node (ob25 P) (.node (ob38 P) .nil .nil) .nil)) (.node (ob14 P) (.node (ob21 P) (.node (ob35 P) .nil .nil) .nil) (.node (ob28 P) (.node (ob60 P) .nil .nil) .nil)))))
noncomputable abbrev st1c6 (w : World) (os : OsState) : SharedT := ⟨tr1c6 w.params, 48, (PySem.Life.mk [] [] [] 0 [] [] Bool.false #[] [] 0 Bool.false Bool.false Bool.false (0 : Int) [(2000 : Int), (10 : Int), (10 : Int)] Bool.false 0 Bool.true [] [] 0 Bool.false), ⟨[]⟩, (PySem.Drawn.mk 0 0 0 0), 1055, os⟩
noncomputable def ob62 (P : Params) : Obj := (PySem.Obj.mk (PySem.Value.type "range_iterator") none (PySem.Data.fields #[(PySem.Value.int (211 : Int) 0), (PySem.Value.int (45 : Int) 0), (PySem.Value.int (1 : Int) 0)]) #[])
noncomputable def ob63 (P : Params) : Obj := (PySem.Obj.mk (PySem.Value.type "list") none (PySem.Data.seq ((tq.take 211)).toArray 211) #[])
noncomputable def ob64 (P : Params) : Obj := (PySem.Obj.mk (PySem.Value.type "dict") none (PySem.Data.dict #[(PySem.DictEntry.mk (PySem.PyData.keyHash P (PySem.Str.ofString "c")) (PySem.Value.str (PySem.Str.ofString "c") 332) (PySem.Value.int (210 : Int) 1171))] 1) #[])
noncomputable def tr1c7 (P : Params) : BT := (.node (ob0 P) (.node (ob1 P) (.node (ob30 P) (.node (ob7 P) (.node (ob7 P) (.node (ob29 P) .nil .nil) (.node (ob64 P) .nil .nil)) (.node (ob22 P) (.node (ob36 P) .nil .nil) .nil)) (.node (ob27 P) (.node (ob18 P) (.node (ob7 P) .nil .nil) .nil) (.node (ob26 P) (.node (ob39 P) .nil .nil) .nil))) (.node (ob5 P) (.node (ob9 P) (.node (ob16 P) (.node (ob8 P) .nil .nil) .nil) (.node (ob24 P) (.node (ob37 P) .nil .nil) .nil)) (.node (ob13 P) (.node (ob20 P) (.node (ob34 P) .nil .nil) .nil) (.node (ob31 P) (.node (ob62 P) .nil .nil) .nil)))) (.node (ob2 P) (.node (ob4 P) (.node (ob8 P) (.node (ob15 P) (.node (ob7 P) .nil .nil) .nil) (.node (ob23 P) (.node (ob6 P) .nil .nil) .nil)) (.node (ob12 P) (.node (ob19 P) (.node (ob33 P) .nil .nil) .nil) (.node (ob7 P) (.node (ob40 P) .nil .nil) .nil))) (.node (ob6 P) (.node (ob10 P) (.node (ob17 P) (.node (ob32 P) .nil .nil) .nil) (.node (ob25 P) (.node (ob38 P) .nil .nil) .nil)) (.node (ob14 P) (.node (ob21 P) (.node (ob35 P) .nil .nil) .nil) (.node (ob28 P) (.node (ob63 P) .nil .nil) .nil)))))
noncomputable abbrev st1c7 (w : World) (os : OsState) : SharedT := ⟨tr1c7 w.params, 48, (PySem.Life.mk [] [] [] 0 [] [] Bool.false #[] [] 0 Bool.false Bool.false Bool.false (0 : Int) [(2000 : Int), (10 : Int), (10 : Int)] Bool.false 0 Bool.true [] [] 0 Bool.false), ⟨[]⟩, (PySem.Drawn.mk 0 0 0 0), 1175, os⟩
noncomputable def ob65 (P : Params) : Obj := (PySem.Obj.mk (PySem.Value.type "range_iterator") none (PySem.Data.fields #[(PySem.Value.int (241 : Int) 0), (PySem.Value.int (15 : Int) 0), (PySem.Value.int (1 : Int) 0)]) #[])
noncomputable def ob66 (P : Params) : Obj := (PySem.Obj.mk (PySem.Value.type "list") none (PySem.Data.seq ((tq.take 241)).toArray 241) #[])
noncomputable def ob67 (P : Params) : Obj := (PySem.Obj.mk (PySem.Value.type "dict") none (PySem.Data.dict #[(PySem.DictEntry.mk (PySem.PyData.keyHash P (PySem.Str.ofString "c")) (PySem.Value.str (PySem.Str.ofString "c") 332) (PySem.Value.int (240 : Int) 1291))] 1) #[])
noncomputable def tr1c8 (P : Params) : BT := (.node (ob0 P) (.node (ob1 P) (.node (ob30 P) (.node (ob7 P) (.node (ob7 P) (.node (ob29 P) .nil .nil) (.node (ob67 P) .nil .nil)) (.node (ob22 P) (.node (ob36 P) .nil .nil) .nil)) (.node (ob27 P) (.node (ob18 P) (.node (ob7 P) .nil .nil) .nil) (.node (ob26 P) (.node (ob39 P) .nil .nil) .nil))) (.node (ob5 P) (.node (ob9 P) (.node (ob16 P) (.node (ob8 P) .nil .nil) .nil) (.node (ob24 P) (.node (ob37 P) .nil .nil) .nil)) (.node (ob13 P) (.node (ob20 P) (.node (ob34 P) .nil .nil) .nil) (.node (ob31 P) (.node (ob65 P) .nil .nil) .nil)))) (.node (ob2 P) (.node (ob4 P) (.node (ob8 P) (.node (ob15 P) (.node (ob7 P) .nil .nil) .nil) (.node (ob23 P) (.node (ob6 P) .nil .nil) .nil)) (.node (ob12 P) (.node (ob19 P) (.node (ob33 P) .nil .nil) .nil) (.node (ob7 P) (.node (ob40 P) .nil .nil) .nil))) (.node (ob6 P) (.node (ob10 P) (.node (ob17 P) (.node (ob32 P) .nil .nil) .nil) (.node (ob25 P) (.node (ob38 P) .nil .nil) .nil)) (.node (ob14 P) (.node (ob21 P) (.node (ob35 P) .nil .nil) .nil) (.node (ob28 P) (.node (ob66 P) .nil .nil) .nil)))))
noncomputable abbrev st1c8 (w : World) (os : OsState) : SharedT := ⟨tr1c8 w.params, 48, (PySem.Life.mk [] [] [] 0 [] [] Bool.false #[] [] 0 Bool.false Bool.false Bool.false (0 : Int) [(2000 : Int), (10 : Int), (10 : Int)] Bool.false 0 Bool.true [] [] 0 Bool.false), ⟨[]⟩, (PySem.Drawn.mk 0 0 0 0), 1295, os⟩
noncomputable def ob68 (P : Params) : Obj := (PySem.Obj.mk (PySem.Value.type "dict") none (PySem.Data.dict #[(PySem.DictEntry.mk (PySem.PyData.keyHash P (PySem.Str.ofString "__name__")) (PySem.Value.str (PySem.Str.ofString "__name__") 165) (PySem.Value.str (PySem.Str.ofString "cpy313.http.cookiejar") 282)), (PySem.DictEntry.mk (PySem.PyData.keyHash P (PySem.Str.ofString "__doc__")) (PySem.Value.str (PySem.Str.ofString "__doc__") 166) PySem.Value.none), (PySem.DictEntry.mk (PySem.PyData.keyHash P (PySem.Str.ofString "__package__")) (PySem.Value.str (PySem.Str.ofString "__package__") 167) PySem.Value.none), (PySem.DictEntry.mk (PySem.PyData.keyHash P (PySem.Str.ofString "__loader__")) (PySem.Value.str (PySem.Str.ofString "__loader__") 168) (PySem.Value.builtin "__main__.__loader__#op\u0061que")), (PySem.DictEntry.mk (PySem.PyData.keyHash P (PySem.Str.ofString "__spec__")) (PySem.Value.str (PySem.Str.ofString "__spec__") 169) PySem.Value.none), (PySem.DictEntry.mk (PySem.PyData.keyHash P (PySem.Str.ofString "__annotations__")) (PySem.Value.str (PySem.Str.ofString "__annotations__") 170) (PySem.Value.ref 6)), (PySem.DictEntry.mk (PySem.PyData.keyHash P (PySem.Str.ofString "__builtins__")) (PySem.Value.str (PySem.Str.ofString "__builtins__") 171) (PySem.Value.ref 4)), (PySem.DictEntry.mk (PySem.PyData.keyHash P (PySem.Str.ofString "__file__")) (PySem.Value.str (PySem.Str.ofString "__file__") 173) (PySem.Value.str (PySem.Str.ofString "/claim/cut.py") 172)), (PySem.DictEntry.mk (PySem.PyData.keyHash P (PySem.Str.ofString "__cached__")) (PySem.Value.str (PySem.Str.ofString "__cached__") 174) PySem.Value.none), (PySem.DictEntry.mk (PySem.PyData.keyHash P (PySem.Str.ofString "_sre")) (PySem.Value.str (PySem.Str.ofString "_sre") 275) (PySem.Value.ref 12)), (PySem.DictEntry.mk (PySem.PyData.keyHash P (PySem.Str.ofString "strip_quotes")) (PySem.Value.str (PySem.Str.ofString "strip_quotes") 290) (PySem.Value.ref 38)), (PySem.DictEntry.mk (PySem.PyData.keyHash P (PySem.Str.ofString "_twin_re_1")) (PySem.Value.str (PySem.Str.ofString "_twin_re_1") 325) (PySem.Value.ref 43)), (PySem.DictEntry.mk (PySem.PyData.keyHash P (PySem.Str.ofString "NL")) (PySem.Value.str (PySem.Str.ofString "NL") 327) (PySem.Value.str (PySem.Str.ofString "\n") 326)), (PySem.DictEntry.mk (PySem.PyData.keyHash P (PySem.Str.ofString "_QUOPRI_MAP")) (PySem.Value.str (PySem.Str.ofString "_QUOPRI_MAP") 1355) (PySem.Value.ref 46))] 14) #[])
noncomputable def ob69 (P : Params) : Obj := (PySem.Obj.mk (PySem.Value.type "range_iterator") none (PySem.Data.fields #[(PySem.Value.int (256 : Int) 0), (PySem.Value.int (0 : Int) 0), (PySem.Value.int (1 : Int) 0)]) #[])
noncomputable def ob70 (P : Params) : Obj := (PySem.Obj.mk (PySem.Value.type "list") none (PySem.Data.seq (tq).toArray 256) #[])
noncomputable def ob71 (P : Params) : Obj := (PySem.Obj.mk (PySem.Value.type "dict") none (PySem.Data.dict #[] 2) #[])
noncomputable def ob72 (P : Params) : Obj := (PySem.Obj.mk (PySem.Value.type "StopIteration") none (PySem.Data.fields #[(PySem.Value.ref 48), PySem.Value.none, PySem.Value.none, PySem.Value.none, (PySem.Value.bool Bool.false), PySem.Value.none]) #[])
noncomputable def tr1 (P : Params) : BT := (.node (ob0 P) (.node (ob1 P) (.node (ob68 P) (.node (ob7 P) (.node (ob7 P) (.node (ob29 P) .nil .nil) (.node (ob71 P) .nil .nil)) (.node (ob22 P) (.node (ob36 P) .nil .nil) .nil)) (.node (ob27 P) (.node (ob18 P) (.node (ob7 P) .nil .nil) .nil) (.node (ob26 P) (.node (ob39 P) .nil .nil) .nil))) (.node (ob5 P) (.node (ob9 P) (.node (ob16 P) (.node (ob8 P) .nil .nil) (.node (ob72 P) .nil .nil)) (.node (ob24 P) (.node (ob37 P) .nil .nil) .nil)) (.node (ob13 P) (.node (ob20 P) (.node (ob34 P) .nil .nil) .nil) (.node (ob31 P) (.node (ob69 P) .nil .nil) .nil)))) (.node (ob2 P) (.node (ob4 P) (.node (ob8 P) (.node (ob15 P) (.node (ob7 P) .nil .nil) (.node (ob7 P) .nil .nil)) (.node (ob23 P) (.node (ob6 P) .nil .nil) .nil)) (.node (ob12 P) (.node (ob19 P) (.node (ob33 P) .nil .nil) .nil) (.node (ob7 P) (.node (ob40 P) .nil .nil) .nil))) (.node (ob6 P) (.node (ob10 P) (.node (ob17 P) (.node (ob32 P) .nil .nil) .nil) (.node (ob25 P) (.node (ob38 P) .nil .nil) .nil)) (.node (ob14 P) (.node (ob21 P) (.node (ob35 P) .nil .nil) .nil) (.node (ob28 P) (.node (ob70 P) .nil .nil) .nil)))))
noncomputable abbrev st1 (w : World) (os : OsState) : SharedT := ⟨tr1 w.params, 50, (PySem.Life.mk [] [] [] 0 [] [] Bool.false #[] [] 0 Bool.false Bool.false Bool.false (0 : Int) [(2000 : Int), (10 : Int), (10 : Int)] Bool.false 0 Bool.true [] [] 0 Bool.false), ⟨[]⟩, (PySem.Drawn.mk 0 0 0 0), 1356, os⟩
noncomputable abbrev R1 (w : World) : Prop := ∀ os, segRun treeTable Pp w 28 ann 1 9552 (st0 w os).abs th1 = some (.next, (st1 w os).abs, cE, ⟨11, 0, 11, 11⟩)
noncomputable abbrev sts2 : List Stmt := [stm 6, stm 7, stm 8, stm 9, stm 10, stm 11, stm 12, stm 13]
noncomputable abbrev th2 : Thread := piecesOf sts2 env cE ⟨11, 0, 11, 11⟩ B
noncomputable def ob73 (P : Params) : Obj := (PySem.Obj.mk (PySem.Value.type "dict") none (PySem.Data.dict #[(PySem.DictEntry.mk (PySem.PyData.keyHash P (PySem.Str.ofString "__name__")) (PySem.Value.str (PySem.Str.ofString "__name__") 165) (PySem.Value.str (PySem.Str.ofString "cpy313.email.quoprimime") 1371)), (PySem.DictEntry.mk (PySem.PyData.keyHash P (PySem.Str.ofString "__doc__")) (PySem.Value.str (PySem.Str.ofString "__doc__") 166) PySem.Value.none), (PySem.DictEntry.mk (PySem.PyData.keyHash P (PySem.Str.ofString "__package__")) (PySem.Value.str (PySem.Str.ofString "__package__") 167) PySem.Value.none), (PySem.DictEntry.mk (PySem.PyData.keyHash P (PySem.Str.ofString "__loader__")) (PySem.Value.str (PySem.Str.ofString "__loader__") 168) (PySem.Value.builtin "__main__.__loader__#op\u0061que")), (PySem.DictEntry.mk (PySem.PyData.keyHash P (PySem.Str.ofString "__spec__")) (PySem.Value.str (PySem.Str.ofString "__spec__") 169) PySem.Value.none), (PySem.DictEntry.mk (PySem.PyData.keyHash P (PySem.Str.ofString "__annotations__")) (PySem.Value.str (PySem.Str.ofString "__annotations__") 170) (PySem.Value.ref 6)), (PySem.DictEntry.mk (PySem.PyData.keyHash P (PySem.Str.ofString "__builtins__")) (PySem.Value.str (PySem.Str.ofString "__builtins__") 171) (PySem.Value.ref 4)), (PySem.DictEntry.mk (PySem.PyData.keyHash P (PySem.Str.ofString "__file__")) (PySem.Value.str (PySem.Str.ofString "__file__") 173) (PySem.Value.str (PySem.Str.ofString "/claim/cut.py") 172)), (PySem.DictEntry.mk (PySem.PyData.keyHash P (PySem.Str.ofString "__cached__")) (PySem.Value.str (PySem.Str.ofString "__cached__") 174) PySem.Value.none), (PySem.DictEntry.mk (PySem.PyData.keyHash P (PySem.Str.ofString "_sre")) (PySem.Value.str (PySem.Str.ofString "_sre") 275) (PySem.Value.ref 12)), (PySem.DictEntry.mk (PySem.PyData.keyHash P (PySem.Str.ofString "strip_quotes")) (PySem.Value.str (PySem.Str.ofString "strip_quotes") 290) (PySem.Value.ref 38)), (PySem.DictEntry.mk (PySem.PyData.keyHash P (PySem.Str.ofString "_twin_re_1")) (PySem.Value.str (PySem.Str.ofString "_twin_re_1") 325) (PySem.Value.ref 43)), (PySem.DictEntry.mk (PySem.PyData.keyHash P (PySem.Str.ofString "NL")) (PySem.Value.str (PySem.Str.ofString "NL") 327) (PySem.Value.str (PySem.Str.ofString "\n") 326)), (PySem.DictEntry.mk (PySem.PyData.keyHash P (PySem.Str.ofString "_QUOPRI_MAP")) (PySem.Value.str (PySem.Str.ofString "_QUOPRI_MAP") 1355) (PySem.Value.ref 46)), (PySem.DictEntry.mk (PySem.PyData.keyHash P (PySem.Str.ofString "_QUOPRI_HEADER_MAP")) (PySem.Value.str (PySem.Str.ofString "_QUOPRI_HEADER_MAP") 1356) (PySem.Value.ref 51)), (PySem.DictEntry.mk (PySem.PyData.keyHash P (PySem.Str.ofString "_QUOPRI_BODY_MAP")) (PySem.Value.str (PySem.Str.ofString "_QUOPRI_BODY_MAP") 1357) (PySem.Value.ref 53)), (PySem.DictEntry.mk (PySem.PyData.keyHash P (PySem.Str.ofString "ascii_lowercase")) (PySem.Value.str (PySem.Str.ofString "ascii_lowercase") 1359) (PySem.Value.str (PySem.Str.ofString "abcdefghijklmnopqrstuvwxyz") 1358)), (PySem.DictEntry.mk (PySem.PyData.keyHash P (PySem.Str.ofString "ascii_uppercase")) (PySem.Value.str (PySem.Str.ofString "ascii_uppercase") 1361) (PySem.Value.str (PySem.Str.ofString "ABCDEFGHIJKLMNOPQRSTUVWXYZ") 1360)), (PySem.DictEntry.mk (PySem.PyData.keyHash P (PySem.Str.ofString "ascii_letters")) (PySem.Value.str (PySem.Str.ofString "ascii_letters") 1363) (PySem.Value.str (PySem.Str.ofString "abcdefghijklmnopqrstuvwxyzABCDEFGHIJKLMNOPQRSTUVWXYZ") 1362)), (PySem.DictEntry.mk (PySem.PyData.keyHash P (PySem.Str.ofString "digits")) (PySem.Value.str (PySem.Str.ofString "digits") 1365) (PySem.Value.str (PySem.Str.ofString "0123456789") 1364)), (PySem.DictEntry.mk (PySem.PyData.keyHash P (PySem.Str.ofString "hexdigits")) (PySem.Value.str (PySem.Str.ofString "hexdigits") 1370) (PySem.Value.str (PySem.Str.ofString "0123456789abcdefABCDEF") 1369))] 21) #[])
noncomputable def ob74 (P : Params) : Obj := (PySem.Obj.mk (PySem.Value.type "slice") none (PySem.Data.fields #[PySem.Value.none, PySem.Value.none, PySem.Value.none]) #[])
noncomputable def ob75 (P : Params) : Obj := (PySem.Obj.mk (PySem.Value.type "list") none (PySem.Data.seq (tq).toArray 0) #[])
noncomputable def tr2 (P : Params) : BT := (.node (ob0 P) (.node (ob1 P) (.node (ob73 P) (.node (ob7 P) (.node (ob7 P) (.node (ob29 P) .nil .nil) (.node (ob71 P) .nil .nil)) (.node (ob22 P) (.node (ob36 P) .nil .nil) .nil)) (.node (ob27 P) (.node (ob18 P) (.node (ob7 P) .nil .nil) (.node (ob75 P) .nil .nil)) (.node (ob26 P) (.node (ob39 P) .nil .nil) .nil))) (.node (ob5 P) (.node (ob9 P) (.node (ob16 P) (.node (ob8 P) .nil .nil) (.node (ob72 P) .nil .nil)) (.node (ob24 P) (.node (ob37 P) .nil .nil) .nil)) (.node (ob13 P) (.node (ob20 P) (.node (ob34 P) .nil .nil) (.node (ob75 P) .nil .nil)) (.node (ob31 P) (.node (ob69 P) .nil .nil) .nil)))) (.node (ob2 P) (.node (ob4 P) (.node (ob8 P) (.node (ob15 P) (.node (ob7 P) .nil .nil) (.node (ob7 P) .nil .nil)) (.node (ob23 P) (.node (ob6 P) .nil .nil) .nil)) (.node (ob12 P) (.node (ob19 P) (.node (ob33 P) .nil .nil) (.node (ob74 P) .nil .nil)) (.node (ob7 P) (.node (ob40 P) .nil .nil) .nil))) (.node (ob6 P) (.node (ob10 P) (.node (ob17 P) (.node (ob32 P) .nil .nil) (.node (ob74 P) .nil .nil)) (.node (ob25 P) (.node (ob38 P) .nil .nil) .nil)) (.node (ob14 P) (.node (ob21 P) (.node (ob35 P) .nil .nil) .nil) (.node (ob28 P) (.node (ob70 P) .nil .nil) .nil)))))
noncomputable abbrev st2 (w : World) (os : OsState) : SharedT := ⟨tr2 w.params, 54, (PySem.Life.mk [] [] [] 0 [] [] Bool.false #[] [] 0 Bool.false Bool.false Bool.false (0 : Int) [(2000 : Int), (10 : Int), (10 : Int)] Bool.false 0 Bool.true [] [] 0 Bool.false), ⟨[]⟩, (PySem.Drawn.mk 0 0 0 0), 1373, os⟩
noncomputable abbrev sts3 : List Stmt := [stm 14]
noncomputable abbrev th3 : Thread := piecesOf sts3 env cE ⟨19, 0, 19, 8⟩ B
noncomputable def thr3 (w : World) (os : OsState) : Thread := thrOf (goW (w.withFollow "special-get-raises" false) 88 (st2 w os) th3)
noncomputable def ob76 (P : Params) : Obj := (PySem.Obj.mk (PySem.Value.type "dict") none (PySem.Data.dict #[(PySem.DictEntry.mk (PySem.PyData.keyHash P (PySem.Str.ofString "__name__")) (PySem.Value.str (PySem.Str.ofString "__name__") 165) (PySem.Value.str (PySem.Str.ofString "cpy313.email.quoprimime") 1371)), (PySem.DictEntry.mk (PySem.PyData.keyHash P (PySem.Str.ofString "__doc__")) (PySem.Value.str (PySem.Str.ofString "__doc__") 166) PySem.Value.none), (PySem.DictEntry.mk (PySem.PyData.keyHash P (PySem.Str.ofString "__package__")) (PySem.Value.str (PySem.Str.ofString "__package__") 167) PySem.Value.none), (PySem.DictEntry.mk (PySem.PyData.keyHash P (PySem.Str.ofString "__loader__")) (PySem.Value.str (PySem.Str.ofString "__loader__") 168) (PySem.Value.builtin "__main__.__loader__#op\u0061que")), (PySem.DictEntry.mk (PySem.PyData.keyHash P (PySem.Str.ofString "__spec__")) (PySem.Value.str (PySem.Str.ofString "__spec__") 169) PySem.Value.none), (PySem.DictEntry.mk (PySem.PyData.keyHash P (PySem.Str.ofString "__annotations__")) (PySem.Value.str (PySem.Str.ofString "__annotations__") 170) (PySem.Value.ref 6)), (PySem.DictEntry.mk (PySem.PyData.keyHash P (PySem.Str.ofString "__builtins__")) (PySem.Value.str (PySem.Str.ofString "__builtins__") 171) (PySem.Value.ref 4)), (PySem.DictEntry.mk (PySem.PyData.keyHash P (PySem.Str.ofString "__file__")) (PySem.Value.str (PySem.Str.ofString "__file__") 173) (PySem.Value.str (PySem.Str.ofString "/claim/cut.py") 172)), (PySem.DictEntry.mk (PySem.PyData.keyHash P (PySem.Str.ofString "__cached__")) (PySem.Value.str (PySem.Str.ofString "__cached__") 174) PySem.Value.none), (PySem.DictEntry.mk (PySem.PyData.keyHash P (PySem.Str.ofString "_sre")) (PySem.Value.str (PySem.Str.ofString "_sre") 275) (PySem.Value.ref 12)), (PySem.DictEntry.mk (PySem.PyData.keyHash P (PySem.Str.ofString "strip_quotes")) (PySem.Value.str (PySem.Str.ofString "strip_quotes") 290) (PySem.Value.ref 38)), (PySem.DictEntry.mk (PySem.PyData.keyHash P (PySem.Str.ofString "_twin_re_1")) (PySem.Value.str (PySem.Str.ofString "_twin_re_1") 325) (PySem.Value.ref 43)), (PySem.DictEntry.mk (PySem.PyData.keyHash P (PySem.Str.ofString "NL")) (PySem.Value.str (PySem.Str.ofString "NL") 327) (PySem.Value.str (PySem.Str.ofString "\n") 326)), (PySem.DictEntry.mk (PySem.PyData.keyHash P (PySem.Str.ofString "_QUOPRI_MAP")) (PySem.Value.str (PySem.Str.ofString "_QUOPRI_MAP") 1355) (PySem.Value.ref 46)), (PySem.DictEntry.mk (PySem.PyData.keyHash P (PySem.Str.ofString "_QUOPRI_HEADER_MAP")) (PySem.Value.str (PySem.Str.ofString "_QUOPRI_HEADER_MAP") 1356) (PySem.Value.ref 51)), (PySem.DictEntry.mk (PySem.PyData.keyHash P (PySem.Str.ofString "_QUOPRI_BODY_MAP")) (PySem.Value.str (PySem.Str.ofString "_QUOPRI_BODY_MAP") 1357) (PySem.Value.ref 53)), (PySem.DictEntry.mk (PySem.PyData.keyHash P (PySem.Str.ofString "ascii_lowercase")) (PySem.Value.str (PySem.Str.ofString "ascii_lowercase") 1359) (PySem.Value.str (PySem.Str.ofString "abcdefghijklmnopqrstuvwxyz") 1358)), (PySem.DictEntry.mk (PySem.PyData.keyHash P (PySem.Str.ofString "ascii_uppercase")) (PySem.Value.str (PySem.Str.ofString "ascii_uppercase") 1361) (PySem.Value.str (PySem.Str.ofString "ABCDEFGHIJKLMNOPQRSTUVWXYZ") 1360)), (PySem.DictEntry.mk (PySem.PyData.keyHash P (PySem.Str.ofString "ascii_letters")) (PySem.Value.str (PySem.Str.ofString "ascii_letters") 1363) (PySem.Value.str (PySem.Str.ofString "abcdefghijklmnopqrstuvwxyzABCDEFGHIJKLMNOPQRSTUVWXYZ") 1362)), (PySem.DictEntry.mk (PySem.PyData.keyHash P (PySem.Str.ofString "digits")) (PySem.Value.str (PySem.Str.ofString "digits") 1365) (PySem.Value.str (PySem.Str.ofString "0123456789") 1364)), (PySem.DictEntry.mk (PySem.PyData.keyHash P (PySem.Str.ofString "hexdigits")) (PySem.Value.str (PySem.Str.ofString "hexdigits") 1370) (PySem.Value.str (PySem.Str.ofString "0123456789abcdefABCDEF") 1369)), (PySem.DictEntry.mk (PySem.PyData.keyHash P (PySem.Str.ofString "c")) (PySem.Value.str (PySem.Str.ofString "c") 1381) (PySem.Value.int (45 : Int) 1380))] 22) #[])
noncomputable def ob77 (P : Params) : Obj := (PySem.Obj.mk (PySem.Value.type "list") none (PySem.Data.seq (up tq [(45, (PySem.Value.str (PySem.Str.ofString "-") 1382))]).toArray 0) #[])
noncomputable def ob78 (P : Params) : Obj := (PySem.Obj.mk (PySem.Value.type "bytes_iterator") none (PySem.Data.fields #[(PySem.Value.bytes #[(45 : UInt8), (33 : UInt8), (42 : UInt8), (43 : UInt8), (47 : UInt8), (97 : UInt8), (98 : UInt8), (99 : UInt8), (100 : UInt8), (101 : UInt8), (102 : UInt8), (103 : UInt8), (104 : UInt8), (105 : UInt8), (106 : UInt8), (107 : UInt8), (108 : UInt8), (109 : UInt8), (110 : UInt8), (111 : UInt8), (112 : UInt8), (113 : UInt8), (114 : UInt8), (115 : UInt8), (116 : UInt8), (117 : UInt8), (118 : UInt8), (119 : UInt8), (120 : UInt8), (121 : UInt8), (122 : UInt8), (65 : UInt8), (66 : UInt8), (67 : UInt8), (68 : UInt8), (69 : UInt8), (70 : UInt8), (71 : UInt8), (72 : UInt8), (73 : UInt8), (74 : UInt8), (75 : UInt8), (76 : UInt8), (77 : UInt8), (78 : UInt8), (79 : UInt8), (80 : UInt8), (81 : UInt8), (82 : UInt8), (83 : UInt8), (84 : UInt8), (85 : UInt8), (86 : UInt8), (87 : UInt8), (88 : UInt8), (89 : UInt8), (90 : UInt8), (48 : UInt8), (49 : UInt8), (50 : UInt8), (51 : UInt8), (52 : UInt8), (53 : UInt8), (54 : UInt8), (55 : UInt8), (56 : UInt8), (57 : UInt8)] 1379), (PySem.Value.int (1 : Int) 0)]) #[])
noncomputable def tr3c0 (P : Params) : BT := (.node (ob0 P) (.node (ob1 P) (.node (ob76 P) (.node (ob7 P) (.node (ob7 P) (.node (ob29 P) .nil .nil) (.node (ob71 P) .nil .nil)) (.node (ob22 P) (.node (ob36 P) .nil .nil) .nil)) (.node (ob27 P) (.node (ob18 P) (.node (ob7 P) .nil .nil) (.node (ob77 P) .nil .nil)) (.node (ob26 P) (.node (ob39 P) .nil .nil) .nil))) (.node (ob5 P) (.node (ob9 P) (.node (ob16 P) (.node (ob8 P) .nil .nil) (.node (ob72 P) .nil .nil)) (.node (ob24 P) (.node (ob37 P) .nil .nil) .nil)) (.node (ob13 P) (.node (ob20 P) (.node (ob34 P) .nil .nil) (.node (ob75 P) .nil .nil)) (.node (ob31 P) (.node (ob69 P) .nil .nil) .nil)))) (.node (ob2 P) (.node (ob4 P) (.node (ob8 P) (.node (ob15 P) (.node (ob7 P) .nil .nil) (.node (ob7 P) .nil .nil)) (.node (ob23 P) (.node (ob6 P) .nil .nil) .nil)) (.node (ob12 P) (.node (ob19 P) (.node (ob33 P) .nil .nil) (.node (ob74 P) .nil .nil)) (.node (ob7 P) (.node (ob40 P) .nil .nil) .nil))) (.node (ob6 P) (.node (ob10 P) (.node (ob17 P) (.node (ob32 P) .nil .nil) (.node (ob74 P) .nil .nil)) (.node (ob25 P) (.node (ob38 P) .nil .nil) .nil)) (.node (ob14 P) (.node (ob21 P) (.node (ob35 P) .nil .nil) (.node (ob78 P) .nil .nil)) (.node (ob28 P) (.node (ob70 P) .nil .nil) .nil)))))
noncomputable abbrev st3c0 (w : World) (os : OsState) : SharedT := ⟨tr3c0 w.params, 55, (PySem.Life.mk [] [] [] 0 [] [] Bool.false #[] [] 0 Bool.false Bool.false Bool.false (0 : Int) [(2000 : Int), (10 : Int), (10 : Int)] Bool.false 0 Bool.true [] [] 0 Bool.false), ⟨[]⟩, (PySem.Drawn.mk 0 0 0 0), 1383, os⟩
noncomputable def ob79 (P : Params) : Obj := (PySem.Obj.mk (PySem.Value.type "dict") none (PySem.Data.dict #[(PySem.DictEntry.mk (PySem.PyData.keyHash P (PySem.Str.ofString "__name__")) (PySem.Value.str (PySem.Str.ofString "__name__") 165) (PySem.Value.str (PySem.Str.ofString "cpy313.email.quoprimime") 1371)), (PySem.DictEntry.mk (PySem.PyData.keyHash P (PySem.Str.ofString "__doc__")) (PySem.Value.str (PySem.Str.ofString "__doc__") 166) PySem.Value.none), (PySem.DictEntry.mk (PySem.PyData.keyHash P (PySem.Str.ofString "__package__")) (PySem.Value.str (PySem.Str.ofString "__package__") 167) PySem.Value.none), (PySem.DictEntry.mk (PySem.PyData.keyHash P (PySem.Str.ofString "__loader__")) (PySem.Value.str (PySem.Str.ofString "__loader__") 168) (PySem.Value.builtin "__main__.__loader__#op\u0061que")), (PySem.DictEntry.mk (PySem.PyData.keyHash P (PySem.Str.ofString "__spec__")) (PySem.Value.str (PySem.Str.ofString "__spec__") 169) PySem.Value.none), (PySem.DictEntry.mk (PySem.PyData.keyHash P (PySem.Str.ofString "__annotations__")) (PySem.Value.str (PySem.Str.ofString "__annotations__") 170) (PySem.Value.ref 6)), (PySem.DictEntry.mk (PySem.PyData.keyHash P (PySem.Str.ofString "__builtins__")) (PySem.Value.str (PySem.Str.ofString "__builtins__") 171) (PySem.Value.ref 4)), (PySem.DictEntry.mk (PySem.PyData.keyHash P (PySem.Str.ofString "__file__")) (PySem.Value.str (PySem.Str.ofString "__file__") 173) (PySem.Value.str (PySem.Str.ofString "/claim/cut.py") 172)), (PySem.DictEntry.mk (PySem.PyData.keyHash P (PySem.Str.ofString "__cached__")) (PySem.Value.str (PySem.Str.ofString "__cached__") 174) PySem.Value.none), (PySem.DictEntry.mk (PySem.PyData.keyHash P (PySem.Str.ofString "_sre")) (PySem.Value.str (PySem.Str.ofString "_sre") 275) (PySem.Value.ref 12)), (PySem.DictEntry.mk (PySem.PyData.keyHash P (PySem.Str.ofString "strip_quotes")) (PySem.Value.str (PySem.Str.ofString "strip_quotes") 290) (PySem.Value.ref 38)), (PySem.DictEntry.mk (PySem.PyData.keyHash P (PySem.Str.ofString "_twin_re_1")) (PySem.Value.str (PySem.Str.ofString "_twin_re_1") 325) (PySem.Value.ref 43)), (PySem.DictEntry.mk (PySem.PyData.keyHash P (PySem.Str.ofString "NL")) (PySem.Value.str (PySem.Str.ofString "NL") 327) (PySem.Value.str (PySem.Str.ofString "\n") 326)), (PySem.DictEntry.mk (PySem.PyData.keyHash P (PySem.Str.ofString "_QUOPRI_MAP")) (PySem.Value.str (PySem.Str.ofString "_QUOPRI_MAP") 1355) (PySem.Value.ref 46)), (PySem.DictEntry.mk (PySem.PyData.keyHash P (PySem.Str.ofString "_QUOPRI_HEADER_MAP")) (PySem.Value.str (PySem.Str.ofString "_QUOPRI_HEADER_MAP") 1356) (PySem.Value.ref 51)), (PySem.DictEntry.mk (PySem.PyData.keyHash P (PySem.Str.ofString "_QUOPRI_BODY_MAP")) (PySem.Value.str (PySem.Str.ofString "_QUOPRI_BODY_MAP") 1357) (PySem.Value.ref 53)), (PySem.DictEntry.mk (PySem.PyData.keyHash P (PySem.Str.ofString "ascii_lowercase")) (PySem.Value.str (PySem.Str.ofString "ascii_lowercase") 1359) (PySem.Value.str (PySem.Str.ofString "abcdefghijklmnopqrstuvwxyz") 1358)), (PySem.DictEntry.mk (PySem.PyData.keyHash P (PySem.Str.ofString "ascii_uppercase")) (PySem.Value.str (PySem.Str.ofString "ascii_uppercase") 1361) (PySem.Value.str (PySem.Str.ofString "ABCDEFGHIJKLMNOPQRSTUVWXYZ") 1360)), (PySem.DictEntry.mk (PySem.PyData.keyHash P (PySem.Str.ofString "ascii_letters")) (PySem.Value.str (PySem.Str.ofString "ascii_letters") 1363) (PySem.Value.str (PySem.Str.ofString "abcdefghijklmnopqrstuvwxyzABCDEFGHIJKLMNOPQRSTUVWXYZ") 1362)), (PySem.DictEntry.mk (PySem.PyData.keyHash P (PySem.Str.ofString "digits")) (PySem.Value.str (PySem.Str.ofString "digits") 1365) (PySem.Value.str (PySem.Str.ofString "0123456789") 1364)), (PySem.DictEntry.mk (PySem.PyData.keyHash P (PySem.Str.ofString "hexdigits")) (PySem.Value.str (PySem.Str.ofString "hexdigits") 1370) (PySem.Value.str (PySem.Str.ofString "0123456789abcdefABCDEF") 1369)), (PySem.DictEntry.mk (PySem.PyData.keyHash P (PySem.Str.ofString "c")) (PySem.Value.str (PySem.Str.ofString "c") 1381) (PySem.Value.int (119 : Int) 1461))] 22) #[])
noncomputable def ob80 (P : Params) : Obj := (PySem.Obj.mk (PySem.Value.type "list") none (PySem.Data.seq (up tq [(33, (PySem.Value.str (PySem.Str.ofString "!") 1385)), (42, (PySem.Value.str (PySem.Str.ofString "*") 1388)), (43, (PySem.Value.str (PySem.Str.ofString "+") 1391)), (45, (PySem.Value.str (PySem.Str.ofString "-") 1382)), (47, (PySem.Value.str (PySem.Str.ofString "/") 1394)), (97, (PySem.Value.str (PySem.Str.ofString "a") 1397)), (98, (PySem.Value.str (PySem.Str.ofString "b") 1400)), (99, (PySem.Value.str (PySem.Str.ofString "c") 1403)), (100, (PySem.Value.str (PySem.Str.ofString "d") 1406)), (101, (PySem.Value.str (PySem.Str.ofString "e") 1409)), (102, (PySem.Value.str (PySem.Str.ofString "f") 1412)), (103, (PySem.Value.str (PySem.Str.ofString "g") 1415)), (104, (PySem.Value.str (PySem.Str.ofString "h") 1418)), (105, (PySem.Value.str (PySem.Str.ofString "i") 1421)), (106, (PySem.Value.str (PySem.Str.ofString "j") 1424)), (107, (PySem.Value.str (PySem.Str.ofString "k") 1427)), (108, (PySem.Value.str (PySem.Str.ofString "l") 1430)), (109, (PySem.Value.str (PySem.Str.ofString "m") 1433)), (110, (PySem.Value.str (PySem.Str.ofString "n") 1436)), (111, (PySem.Value.str (PySem.Str.ofString "o") 1439)), (112, (PySem.Value.str (PySem.Str.ofString "p") 1442)), (113, (PySem.Value.str (PySem.Str.ofString "q") 1445)), (114, (PySem.Value.str (PySem.Str.ofString "r") 1448)), (115, (PySem.Value.str (PySem.Str.ofString "s") 1451)), (116, (PySem.Value.str (PySem.Str.ofString "t") 1454)), (117, (PySem.Value.str (PySem.Str.ofString "u") 1457)), (118, (PySem.Value.str (PySem.Str.ofString "v") 1460)), (119, (PySem.Value.str (PySem.Str.ofString "w") 1463))]).toArray 0) #[])
noncomputable def ob81 (P : Params) : Obj := (PySem.Obj.mk (PySem.Value.type "bytes_iterator") none (PySem.Data.fields #[(PySem.Value.bytes #[(45 : UInt8), (33 : UInt8), (42 : UInt8), (43 : UInt8), (47 : UInt8), (97 : UInt8), (98 : UInt8), (99 : UInt8), (100 : UInt8), (101 : UInt8), (102 : UInt8), (103 : UInt8), (104 : UInt8), (105 : UInt8), (106 : UInt8), (107 : UInt8), (108 : UInt8), (109 : UInt8), (110 : UInt8), (111 : UInt8), (112 : UInt8), (113 : UInt8), (114 : UInt8), (115 : UInt8), (116 : UInt8), (117 : UInt8), (118 : UInt8), (119 : UInt8), (120 : UInt8), (121 : UInt8), (122 : UInt8), (65 : UInt8), (66 : UInt8), (67 : UInt8), (68 : UInt8), (69 : UInt8), (70 : UInt8), (71 : UInt8), (72 : UInt8), (73 : UInt8), (74 : UInt8), (75 : UInt8), (76 : UInt8), (77 : UInt8), (78 : UInt8), (79 : UInt8), (80 : UInt8), (81 : UInt8), (82 : UInt8), (83 : UInt8), (84 : UInt8), (85 : UInt8), (86 : UInt8), (87 : UInt8), (88 : UInt8), (89 : UInt8), (90 : UInt8), (48 : UInt8), (49 : UInt8), (50 : UInt8), (51 : UInt8), (52 : UInt8), (53 : UInt8), (54 : UInt8), (55 : UInt8), (56 : UInt8), (57 : UInt8)] 1379), (PySem.Value.int (28 : Int) 0)]) #[])
noncomputable def tr3c1 (P : Params) : BT := (.node (ob0 P) (.node (ob1 P) (.node (ob79 P) (.node (ob7 P) (.node (ob7 P) (.node (ob29 P) .nil .nil) (.node (ob71 P) .nil .nil)) (.node (ob22 P) (.node (ob36 P) .nil .nil) .nil)) (.node (ob27 P) (.node (ob18 P) (.node (ob7 P) .nil .nil) (.node (ob80 P) .nil .nil)) (.node (ob26 P) (.node (ob39 P) .nil .nil) .nil))) (.node (ob5 P) (.node (ob9 P) (.node (ob16 P) (.node (ob8 P) .nil .nil) (.node (ob72 P) .nil .nil)) (.node (ob24 P) (.node (ob37 P) .nil .nil) .nil)) (.node (ob13 P) (.node (ob20 P) (.node (ob34 P) .nil .nil) (.node (ob75 P) .nil .nil)) (.node (ob31 P) (.node (ob69 P) .nil .nil) .nil)))) (.node (ob2 P) (.node (ob4 P) (.node (ob8 P) (.node (ob15 P) (.node (ob7 P) .nil .nil) (.node (ob7 P) .nil .nil)) (.node (ob23 P) (.node (ob6 P) .nil .nil) .nil)) (.node (ob12 P) (.node (ob19 P) (.node (ob33 P) .nil .nil) (.node (ob74 P) .nil .nil)) (.node (ob7 P) (.node (ob40 P) .nil .nil) .nil))) (.node (ob6 P) (.node (ob10 P) (.node (ob17 P) (.node (ob32 P) .nil .nil) (.node (ob74 P) .nil .nil)) (.node (ob25 P) (.node (ob38 P) .nil .nil) .nil)) (.node (ob14 P) (.node (ob21 P) (.node (ob35 P) .nil .nil) (.node (ob81 P) .nil .nil)) (.node (ob28 P) (.node (ob70 P) .nil .nil) .nil)))))
noncomputable abbrev st3c1 (w : World) (os : OsState) : SharedT := ⟨tr3c1 w.params, 55, (PySem.Life.mk [] [] [] 0 [] [] Bool.false #[] [] 0 Bool.false Bool.false Bool.false (0 : Int) [(2000 : Int), (10 : Int), (10 : Int)] Bool.false 0 Bool.true [] [] 0 Bool.false), ⟨[]⟩, (PySem.Drawn.mk 0 0 0 0), 1464, os⟩
noncomputable def ob82 (P : Params) : Obj := (PySem.Obj.mk (PySem.Value.type "dict") none (PySem.Data.dict #[(PySem.DictEntry.mk (PySem.PyData.keyHash P (PySem.Str.ofString "__name__")) (PySem.Value.str (PySem.Str.ofString "__name__") 165) (PySem.Value.str (PySem.Str.ofString "cpy313.email.quoprimime") 1371)), (PySem.DictEntry.mk (PySem.PyData.keyHash P (PySem.Str.ofString "__doc__")) (PySem.Value.str (PySem.Str.ofString "__doc__") 166) PySem.Value.none), (PySem.DictEntry.mk (PySem.PyData.keyHash P (PySem.Str.ofString "__package__")) (PySem.Value.str (PySem.Str.ofString "__package__") 167) PySem.Value.none), (PySem.DictEntry.mk (PySem.PyData.keyHash P (PySem.Str.ofString "__loader__")) (PySem.Value.str (PySem.Str.ofString "__loader__") 168) (PySem.Value.builtin "__main__.__loader__#op\u0061que")), (PySem.DictEntry.mk (PySem.PyData.keyHash P (PySem.Str.ofString "__spec__")) (PySem.Value.str (PySem.Str.ofString "__spec__") 169) PySem.Value.none), (PySem.DictEntry.mk (PySem.PyData.keyHash P (PySem.Str.ofString "__annotations__")) (PySem.Value.str (PySem.Str.ofString "__annotations__") 170) (PySem.Value.ref 6)), (PySem.DictEntry.mk (PySem.PyData.keyHash P (PySem.Str.ofString "__builtins__")) (PySem.Value.str (PySem.Str.ofString "__builtins__") 171) (PySem.Value.ref 4)), (PySem.DictEntry.mk (PySem.PyData.keyHash P (PySem.Str.ofString "__file__")) (PySem.Value.str (PySem.Str.ofString "__file__") 173) (PySem.Value.str (PySem.Str.ofString "/claim/cut.py") 172)), (PySem.DictEntry.mk (PySem.PyData.keyHash P (PySem.Str.ofString "__cached__")) (PySem.Value.str (PySem.Str.ofString "__cached__") 174) PySem.Value.none), (PySem.DictEntry.mk (PySem.PyData.keyHash P (PySem.Str.ofString "_sre")) (PySem.Value.str (PySem.Str.ofString "_sre") 275) (PySem.Value.ref 12)), (PySem.DictEntry.mk (PySem.PyData.keyHash P (PySem.Str.ofString "strip_quotes")) (PySem.Value.str (PySem.Str.ofString "strip_quotes") 290) (PySem.Value.ref 38)), (PySem.DictEntry.mk (PySem.PyData.keyHash P (PySem.Str.ofString "_twin_re_1")) (PySem.Value.str (PySem.Str.ofString "_twin_re_1") 325) (PySem.Value.ref 43)), (PySem.DictEntry.mk (PySem.PyData.keyHash P (PySem.Str.ofString "NL")) (PySem.Value.str (PySem.Str.ofString "NL") 327) (PySem.Value.str (PySem.Str.ofString "\n") 326)), (PySem.DictEntry.mk (PySem.PyData.keyHash P (PySem.Str.ofString "_QUOPRI_MAP")) (PySem.Value.str (PySem.Str.ofString "_QUOPRI_MAP") 1355) (PySem.Value.ref 46)), (PySem.DictEntry.mk (PySem.PyData.keyHash P (PySem.Str.ofString "_QUOPRI_HEADER_MAP")) (PySem.Value.str (PySem.Str.ofString "_QUOPRI_HEADER_MAP") 1356) (PySem.Value.ref 51)), (PySem.DictEntry.mk (PySem.PyData.keyHash P (PySem.Str.ofString "_QUOPRI_BODY_MAP")) (PySem.Value.str (PySem.Str.ofString "_QUOPRI_BODY_MAP") 1357) (PySem.Value.ref 53)), (PySem.DictEntry.mk (PySem.PyData.keyHash P (PySem.Str.ofString "ascii_lowercase")) (PySem.Value.str (PySem.Str.ofString "ascii_lowercase") 1359) (PySem.Value.str (PySem.Str.ofString "abcdefghijklmnopqrstuvwxyz") 1358)), (PySem.DictEntry.mk (PySem.PyData.keyHash P (PySem.Str.ofString "ascii_uppercase")) (PySem.Value.str (PySem.Str.ofString "ascii_uppercase") 1361) (PySem.Value.str (PySem.Str.ofString "ABCDEFGHIJKLMNOPQRSTUVWXYZ") 1360)), (PySem.DictEntry.mk (PySem.PyData.keyHash P (PySem.Str.ofString "ascii_letters")) (PySem.Value.str (PySem.Str.ofString "ascii_letters") 1363) (PySem.Value.str (PySem.Str.ofString "abcdefghijklmnopqrstuvwxyzABCDEFGHIJKLMNOPQRSTUVWXYZ") 1362)), (PySem.DictEntry.mk (PySem.PyData.keyHash P (PySem.Str.ofString "digits")) (PySem.Value.str (PySem.Str.ofString "digits") 1365) (PySem.Value.str (PySem.Str.ofString "0123456789") 1364)), (PySem.DictEntry.mk (PySem.PyData.keyHash P (PySem.Str.ofString "hexdigits")) (PySem.Value.str (PySem.Str.ofString "hexdigits") 1370) (PySem.Value.str (PySem.Str.ofString "0123456789abcdefABCDEF") 1369)), (PySem.DictEntry.mk (PySem.PyData.keyHash P (PySem.Str.ofString "c")) (PySem.Value.str (PySem.Str.ofString "c") 1381) (PySem.Value.int (88 : Int) 1542))] 22) #[])
noncomputable def ob83 (P : Params) : Obj := (PySem.Obj.mk (PySem.Value.type "list") none (PySem.Data.seq (up tq [(33, (PySem.Value.str (PySem.Str.ofString "!") 1385)), (42, (PySem.Value.str (PySem.Str.ofString "*") 1388)), (43, (PySem.Value.str (PySem.Str.ofString "+") 1391)), (45, (PySem.Value.str (PySem.Str.ofString "-") 1382)), (47, (PySem.Value.str (PySem.Str.ofString "/") 1394)), (65, (PySem.Value.str (PySem.Str.ofString "A") 1475)), (66, (PySem.Value.str (PySem.Str.ofString "B") 1478)), (67, (PySem.Value.str (PySem.Str.ofString "C") 1481)), (68, (PySem.Value.str (PySem.Str.ofString "D") 1484)), (69, (PySem.Value.str (PySem.Str.ofString "E") 1487)), (70, (PySem.Value.str (PySem.Str.ofString "F") 1490)), (71, (PySem.Value.str (PySem.Str.ofString "G") 1493)), (72, (PySem.Value.str (PySem.Str.ofString "H") 1496)), (73, (PySem.Value.str (PySem.Str.ofString "I") 1499)), (74, (PySem.Value.str (PySem.Str.ofString "J") 1502)), (75, (PySem.Value.str (PySem.Str.ofString "K") 1505)), (76, (PySem.Value.str (PySem.Str.ofString "L") 1508)), (77, (PySem.Value.str (PySem.Str.ofString "M") 1511)), (78, (PySem.Value.str (PySem.Str.ofString "N") 1514)), (79, (PySem.Value.str (PySem.Str.ofString "O") 1517)), (80, (PySem.Value.str (PySem.Str.ofString "P") 1520)), (81, (PySem.Value.str (PySem.Str.ofString "Q") 1523)), (82, (PySem.Value.str (PySem.Str.ofString "R") 1526)), (83, (PySem.Value.str (PySem.Str.ofString "S") 1529)), (84, (PySem.Value.str (PySem.Str.ofString "T") 1532)), (85, (PySem.Value.str (PySem.Str.ofString "U") 1535)), (86, (PySem.Value.str (PySem.Str.ofString "V") 1538)), (87, (PySem.Value.str (PySem.Str.ofString "W") 1541)), (88, (PySem.Value.str (PySem.Str.ofString "X") 1544)), (97, (PySem.Value.str (PySem.Str.ofString "a") 1397)), (98, (PySem.Value.str (PySem.Str.ofString "b") 1400)), (99, (PySem.Value.str (PySem.Str.ofString "c") 1403)), (100, (PySem.Value.str (PySem.Str.ofString "d") 1406)), (101, (PySem.Value.str (PySem.Str.ofString "e") 1409)), (102, (PySem.Value.str (PySem.Str.ofString "f") 1412)), (103, (PySem.Value.str (PySem.Str.ofString "g") 1415)), (104, (PySem.Value.str (PySem.Str.ofString "h") 1418)), (105, (PySem.Value.str (PySem.Str.ofString "i") 1421)), (106, (PySem.Value.str (PySem.Str.ofString "j") 1424)), (107, (PySem.Value.str (PySem.Str.ofString "k") 1427)), (108, (PySem.Value.str (PySem.Str.ofString "l") 1430)), (109, (PySem.Value.str (PySem.Str.ofString "m") 1433)), (110, (PySem.Value.str (PySem.Str.ofString "n") 1436)), (111, (PySem.Value.str (PySem.Str.ofString "o") 1439)), (112, (PySem.Value.str (PySem.Str.ofString "p") 1442)), (113, (PySem.Value.str (PySem.Str.ofString "q") 1445)), (114, (PySem.Value.str (PySem.Str.ofString "r") 1448)), (115, (PySem.Value.str (PySem.Str.ofString "s") 1451)), (116, (PySem.Value.str (PySem.Str.ofString "t") 1454)), (117, (PySem.Value.str (PySem.Str.ofString "u") 1457)), (118, (PySem.Value.str (PySem.Str.ofString "v") 1460)), (119, (PySem.Value.str (PySem.Str.ofString "w") 1463)), (120, (PySem.Value.str (PySem.Str.ofString "x") 1466)), (121, (PySem.Value.str (PySem.Str.ofString "y") 1469)), (122, (PySem.Value.str (PySem.Str.ofString "z") 1472))]).toArray 0) #[])
noncomputable def ob84 (P : Params) : Obj := (PySem.Obj.mk (PySem.Value.type "bytes_iterator") none (PySem.Data.fields #[(PySem.Value.bytes #[(45 : UInt8), (33 : UInt8), (42 : UInt8), (43 : UInt8), (47 : UInt8), (97 : UInt8), (98 : UInt8), (99 : UInt8), (100 : UInt8), (101 : UInt8), (102 : UInt8), (103 : UInt8), (104 : UInt8), (105 : UInt8), (106 : UInt8), (107 : UInt8), (108 : UInt8), (109 : UInt8), (110 : UInt8), (111 : UInt8), (112 : UInt8), (113 : UInt8), (114 : UInt8), (115 : UInt8), (116 : UInt8), (117 : UInt8), (118 : UInt8), (119 : UInt8), (120 : UInt8), (121 : UInt8), (122 : UInt8), (65 : UInt8), (66 : UInt8), (67 : UInt8), (68 : UInt8), (69 : UInt8), (70 : UInt8), (71 : UInt8), (72 : UInt8), (73 : UInt8), (74 : UInt8), (75 : UInt8), (76 : UInt8), (77 : UInt8), (78 : UInt8), (79 : UInt8), (80 : UInt8), (81 : UInt8), (82 : UInt8), (83 : UInt8), (84 : UInt8), (85 : UInt8), (86 : UInt8), (87 : UInt8), (88 : UInt8), (89 : UInt8), (90 : UInt8), (48 : UInt8), (49 : UInt8), (50 : UInt8), (51 : UInt8), (52 : UInt8), (53 : UInt8), (54 : UInt8), (55 : UInt8), (56 : UInt8), (57 : UInt8)] 1379), (PySem.Value.int (55 : Int) 0)]) #[])
noncomputable def tr3c2 (P : Params) : BT := (.node (ob0 P) (.node (ob1 P) (.node (ob82 P) (.node (ob7 P) (.node (ob7 P) (.node (ob29 P) .nil .nil) (.node (ob71 P) .nil .nil)) (.node (ob22 P) (.node (ob36 P) .nil .nil) .nil)) (.node (ob27 P) (.node (ob18 P) (.node (ob7 P) .nil .nil) (.node (ob83 P) .nil .nil)) (.node (ob26 P) (.node (ob39 P) .nil .nil) .nil))) (.node (ob5 P) (.node (ob9 P) (.node (ob16 P) (.node (ob8 P) .nil .nil) (.node (ob72 P) .nil .nil)) (.node (ob24 P) (.node (ob37 P) .nil .nil) .nil)) (.node (ob13 P) (.node (ob20 P) (.node (ob34 P) .nil .nil) (.node (ob75 P) .nil .nil)) (.node (ob31 P) (.node (ob69 P) .nil .nil) .nil)))) (.node (ob2 P) (.node (ob4 P) (.node (ob8 P) (.node (ob15 P) (.node (ob7 P) .nil .nil) (.node (ob7 P) .nil .nil)) (.node (ob23 P) (.node (ob6 P) .nil .nil) .nil)) (.node (ob12 P) (.node (ob19 P) (.node (ob33 P) .nil .nil) (.node (ob74 P) .nil .nil)) (.node (ob7 P) (.node (ob40 P) .nil .nil) .nil))) (.node (ob6 P) (.node (ob10 P) (.node (ob17 P) (.node (ob32 P) .nil .nil) (.node (ob74 P) .nil .nil)) (.node (ob25 P) (.node (ob38 P) .nil .nil) .nil)) (.node (ob14 P) (.node (ob21 P) (.node (ob35 P) .nil .nil) (.node (ob84 P) .nil .nil)) (.node (ob28 P) (.node (ob70 P) .nil .nil) .nil)))))
noncomputable abbrev st3c2 (w : World) (os : OsState) : SharedT := ⟨tr3c2 w.params, 55, (PySem.Life.mk [] [] [] 0 [] [] Bool.false #[] [] 0 Bool.false Bool.false Bool.false (0 : Int) [(2000 : Int), (10 : Int), (10 : Int)] Bool.false 0 Bool.true [] [] 0 Bool.false), ⟨[]⟩, (PySem.Drawn.mk 0 0 0 0), 1545, os⟩
noncomputable def ob85 (P : Params) : Obj := (PySem.Obj.mk (PySem.Value.type "dict") none (PySem.Data.dict #[(PySem.DictEntry.mk (PySem.PyData.keyHash P (PySem.Str.ofString "__name__")) (PySem.Value.str (PySem.Str.ofString "__name__") 165) (PySem.Value.str (PySem.Str.ofString "cpy313.email.quoprimime") 1371)), (PySem.DictEntry.mk (PySem.PyData.keyHash P (PySem.Str.ofString "__doc__")) (PySem.Value.str (PySem.Str.ofString "__doc__") 166) PySem.Value.none), (PySem.DictEntry.mk (PySem.PyData.keyHash P (PySem.Str.ofString "__package__")) (PySem.Value.str (PySem.Str.ofString "__package__") 167) PySem.Value.none), (PySem.DictEntry.mk (PySem.PyData.keyHash P (PySem.Str.ofString "__loader__")) (PySem.Value.str (PySem.Str.ofString "__loader__") 168) (PySem.Value.builtin "__main__.__loader__#op\u0061que")), (PySem.DictEntry.mk (PySem.PyData.keyHash P (PySem.Str.ofString "__spec__")) (PySem.Value.str (PySem.Str.ofString "__spec__") 169) PySem.Value.none), (PySem.DictEntry.mk (PySem.PyData.keyHash P (PySem.Str.ofString "__annotations__")) (PySem.Value.str (PySem.Str.ofString "__annotations__") 170) (PySem.Value.ref 6)), (PySem.DictEntry.mk (PySem.PyData.keyHash P (PySem.Str.ofString "__builtins__")) (PySem.Value.str (PySem.Str.ofString "__builtins__") 171) (PySem.Value.ref 4)), (PySem.DictEntry.mk (PySem.PyData.keyHash P (PySem.Str.ofString "__file__")) (PySem.Value.str (PySem.Str.ofString "__file__") 173) (PySem.Value.str (PySem.Str.ofString "/claim/cut.py") 172)), (PySem.DictEntry.mk (PySem.PyData.keyHash P (PySem.Str.ofString "__cached__")) (PySem.Value.str (PySem.Str.ofString "__cached__") 174) PySem.Value.none), (PySem.DictEntry.mk (PySem.PyData.keyHash P (PySem.Str.ofString "_sre")) (PySem.Value.str (PySem.Str.ofString "_sre") 275) (PySem.Value.ref 12)), (PySem.DictEntry.mk (PySem.PyData.keyHash P (PySem.Str.ofString "strip_quotes")) (PySem.Value.str (PySem.Str.ofString "strip_quotes") 290) (PySem.Value.ref 38)), (PySem.DictEntry.mk (PySem.PyData.keyHash P (PySem.Str.ofString "_twin_re_1")) (PySem.Value.str (PySem.Str.ofString "_twin_re_1") 325) (PySem.Value.ref 43)), (PySem.DictEntry.mk (PySem.PyData.keyHash P (PySem.Str.ofString "NL")) (PySem.Value.str (PySem.Str.ofString "NL") 327) (PySem.Value.str (PySem.Str.ofString "\n") 326)), (PySem.DictEntry.mk (PySem.PyData.keyHash P (PySem.Str.ofString "_QUOPRI_MAP")) (PySem.Value.str (PySem.Str.ofString "_QUOPRI_MAP") 1355) (PySem.Value.ref 46)), (PySem.DictEntry.mk (PySem.PyData.keyHash P (PySem.Str.ofString "_QUOPRI_HEADER_MAP")) (PySem.Value.str (PySem.Str.ofString "_QUOPRI_HEADER_MAP") 1356) (PySem.Value.ref 51)), (PySem.DictEntry.mk (PySem.PyData.keyHash P (PySem.Str.ofString "_QUOPRI_BODY_MAP")) (PySem.Value.str (PySem.Str.ofString "_QUOPRI_BODY_MAP") 1357) (PySem.Value.ref 53)), (PySem.DictEntry.mk (PySem.PyData.keyHash P (PySem.Str.ofString "ascii_lowercase")) (PySem.Value.str (PySem.Str.ofString "ascii_lowercase") 1359) (PySem.Value.str (PySem.Str.ofString "abcdefghijklmnopqrstuvwxyz") 1358)), (PySem.DictEntry.mk (PySem.PyData.keyHash P (PySem.Str.ofString "ascii_uppercase")) (PySem.Value.str (PySem.Str.ofString "ascii_uppercase") 1361) (PySem.Value.str (PySem.Str.ofString "ABCDEFGHIJKLMNOPQRSTUVWXYZ") 1360)), (PySem.DictEntry.mk (PySem.PyData.keyHash P (PySem.Str.ofString "ascii_letters")) (PySem.Value.str (PySem.Str.ofString "ascii_letters") 1363) (PySem.Value.str (PySem.Str.ofString "abcdefghijklmnopqrstuvwxyzABCDEFGHIJKLMNOPQRSTUVWXYZ") 1362)), (PySem.DictEntry.mk (PySem.PyData.keyHash P (PySem.Str.ofString "digits")) (PySem.Value.str (PySem.Str.ofString "digits") 1365) (PySem.Value.str (PySem.Str.ofString "0123456789") 1364)), (PySem.DictEntry.mk (PySem.PyData.keyHash P (PySem.Str.ofString "hexdigits")) (PySem.Value.str (PySem.Str.ofString "hexdigits") 1370) (PySem.Value.str (PySem.Str.ofString "0123456789abcdefABCDEF") 1369)), (PySem.DictEntry.mk (PySem.PyData.keyHash P (PySem.Str.ofString "c")) (PySem.Value.str (PySem.Str.ofString "c") 1381) (PySem.Value.int (57 : Int) 1578))] 22) #[])
noncomputable def ob86 (P : Params) : Obj := (PySem.Obj.mk (PySem.Value.type "list") none (PySem.Data.seq (up tq [(33, (PySem.Value.str (PySem.Str.ofString "!") 1385)), (42, (PySem.Value.str (PySem.Str.ofString "*") 1388)), (43, (PySem.Value.str (PySem.Str.ofString "+") 1391)), (45, (PySem.Value.str (PySem.Str.ofString "-") 1382)), (47, (PySem.Value.str (PySem.Str.ofString "/") 1394)), (48, (PySem.Value.str (PySem.Str.ofString "0") 1553)), (49, (PySem.Value.str (PySem.Str.ofString "1") 1556)), (50, (PySem.Value.str (PySem.Str.ofString "2") 1559)), (51, (PySem.Value.str (PySem.Str.ofString "3") 1562)), (52, (PySem.Value.str (PySem.Str.ofString "4") 1565)), (53, (PySem.Value.str (PySem.Str.ofString "5") 1568)), (54, (PySem.Value.str (PySem.Str.ofString "6") 1571)), (55, (PySem.Value.str (PySem.Str.ofString "7") 1574)), (56, (PySem.Value.str (PySem.Str.ofString "8") 1577)), (57, (PySem.Value.str (PySem.Str.ofString "9") 1580)), (65, (PySem.Value.str (PySem.Str.ofString "A") 1475)), (66, (PySem.Value.str (PySem.Str.ofString "B") 1478)), (67, (PySem.Value.str (PySem.Str.ofString "C") 1481)), (68, (PySem.Value.str (PySem.Str.ofString "D") 1484)), (69, (PySem.Value.str (PySem.Str.ofString "E") 1487)), (70, (PySem.Value.str (PySem.Str.ofString "F") 1490)), (71, (PySem.Value.str (PySem.Str.ofString "G") 1493)), (72, (PySem.Value.str (PySem.Str.ofString "H") 1496)), (73, (PySem.Value.str (PySem.Str.ofString "I") 1499)), (74, (PySem.Value.str (PySem.Str.ofString "J") 1502)), (75, (PySem.Value.str (PySem.Str.ofString "K") 1505)), (76, (PySem.Value.str (PySem.Str.ofString "L") 1508)), (77, (PySem.Value.str (PySem.Str.ofString "M") 1511)), (78, (PySem.Value.str (PySem.Str.ofString "N") 1514)), (79, (PySem.Value.str (PySem.Str.ofString "O") 1517)), (80, (PySem.Value.str (PySem.Str.ofString "P") 1520)), (81, (PySem.Value.str (PySem.Str.ofString "Q") 1523)), (82, (PySem.Value.str (PySem.Str.ofString "R") 1526)), (83, (PySem.Value.str (PySem.Str.ofString "S") 1529)), (84, (PySem.Value.str (PySem.Str.ofString "T") 1532)), (85, (PySem.Value.str (PySem.Str.ofString "U") 1535)), (86, (PySem.Value.str (PySem.Str.ofString "V") 1538)), (87, (PySem.Value.str (PySem.Str.ofString "W") 1541)), (88, (PySem.Value.str (PySem.Str.ofString "X") 1544)), (89, (PySem.Value.str (PySem.Str.ofString "Y") 1547)), (90, (PySem.Value.str (PySem.Str.ofString "Z") 1550)), (97, (PySem.Value.str (PySem.Str.ofString "a") 1397)), (98, (PySem.Value.str (PySem.Str.ofString "b") 1400)), (99, (PySem.Value.str (PySem.Str.ofString "c") 1403)), (100, (PySem.Value.str (PySem.Str.ofString "d") 1406)), (101, (PySem.Value.str (PySem.Str.ofString "e") 1409)), (102, (PySem.Value.str (PySem.Str.ofString "f") 1412)), (103, (PySem.Value.str (PySem.Str.ofString "g") 1415)), (104, (PySem.Value.str (PySem.Str.ofString "h") 1418)), (105, (PySem.Value.str (PySem.Str.ofString "i") 1421)), (106, (PySem.Value.str (PySem.Str.ofString "j") 1424)), (107, (PySem.Value.str (PySem.Str.ofString "k") 1427)), (108, (PySem.Value.str (PySem.Str.ofString "l") 1430)), (109, (PySem.Value.str (PySem.Str.ofString "m") 1433)), (110, (PySem.Value.str (PySem.Str.ofString "n") 1436)), (111, (PySem.Value.str (PySem.Str.ofString "o") 1439)), (112, (PySem.Value.str (PySem.Str.ofString "p") 1442)), (113, (PySem.Value.str (PySem.Str.ofString "q") 1445)), (114, (PySem.Value.str (PySem.Str.ofString "r") 1448)), (115, (PySem.Value.str (PySem.Str.ofString "s") 1451)), (116, (PySem.Value.str (PySem.Str.ofString "t") 1454)), (117, (PySem.Value.str (PySem.Str.ofString "u") 1457)), (118, (PySem.Value.str (PySem.Str.ofString "v") 1460)), (119, (PySem.Value.str (PySem.Str.ofString "w") 1463)), (120, (PySem.Value.str (PySem.Str.ofString "x") 1466)), (121, (PySem.Value.str (PySem.Str.ofString "y") 1469)), (122, (PySem.Value.str (PySem.Str.ofString "z") 1472))]).toArray 0) #[])
noncomputable def ob87 (P : Params) : Obj := (PySem.Obj.mk (PySem.Value.type "bytes_iterator") none (PySem.Data.fields #[PySem.Value.none, (PySem.Value.int (67 : Int) 0)]) #[])
noncomputable def ob88 (P : Params) : Obj := (PySem.Obj.mk (PySem.Value.type "StopIteration") none (PySem.Data.fields #[(PySem.Value.ref 55), PySem.Value.none, PySem.Value.none, PySem.Value.none, (PySem.Value.bool Bool.false), PySem.Value.none]) #[])
noncomputable def tr3 (P : Params) : BT := (.node (ob0 P) (.node (ob1 P) (.node (ob85 P) (.node (ob7 P) (.node (ob7 P) (.node (ob29 P) .nil .nil) (.node (ob71 P) .nil .nil)) (.node (ob22 P) (.node (ob36 P) .nil .nil) (.node (ob7 P) .nil .nil))) (.node (ob27 P) (.node (ob18 P) (.node (ob7 P) .nil .nil) (.node (ob86 P) .nil .nil)) (.node (ob26 P) (.node (ob39 P) .nil .nil) .nil))) (.node (ob5 P) (.node (ob9 P) (.node (ob16 P) (.node (ob8 P) .nil .nil) (.node (ob72 P) .nil .nil)) (.node (ob24 P) (.node (ob37 P) .nil .nil) .nil)) (.node (ob13 P) (.node (ob20 P) (.node (ob34 P) .nil .nil) (.node (ob75 P) .nil .nil)) (.node (ob31 P) (.node (ob69 P) .nil .nil) .nil)))) (.node (ob2 P) (.node (ob4 P) (.node (ob8 P) (.node (ob15 P) (.node (ob7 P) .nil .nil) (.node (ob7 P) .nil .nil)) (.node (ob23 P) (.node (ob6 P) .nil .nil) (.node (ob88 P) .nil .nil))) (.node (ob12 P) (.node (ob19 P) (.node (ob33 P) .nil .nil) (.node (ob74 P) .nil .nil)) (.node (ob7 P) (.node (ob40 P) .nil .nil) .nil))) (.node (ob6 P) (.node (ob10 P) (.node (ob17 P) (.node (ob32 P) .nil .nil) (.node (ob74 P) .nil .nil)) (.node (ob25 P) (.node (ob38 P) .nil .nil) .nil)) (.node (ob14 P) (.node (ob21 P) (.node (ob35 P) .nil .nil) (.node (ob87 P) .nil .nil)) (.node (ob28 P) (.node (ob70 P) .nil .nil) .nil)))))
noncomputable abbrev st3 (w : World) (os : OsState) : SharedT := ⟨tr3 w.params, 57, (PySem.Life.mk [] [] [] 0 [] [] Bool.false #[] [] 0 Bool.false Bool.false Bool.false (0 : Int) [(2000 : Int), (10 : Int), (10 : Int)] Bool.false 0 Bool.true [] [] 0 Bool.false), ⟨[]⟩, (PySem.Drawn.mk 0 0 0 0), 1581, os⟩
noncomputable abbrev sts4 : List Stmt := [stm 15]
noncomputable abbrev th4 : Thread := piecesOf sts4 env cE ⟨20, 9, 20, 74⟩ B
noncomputable def ob89 (P : Params) : Obj := (PySem.Obj.mk (PySem.Value.type "list") none (PySem.Data.seq (up tq [(32, (PySem.Value.str (PySem.Str.ofString "_") 1581)), (33, (PySem.Value.str (PySem.Str.ofString "!") 1385)), (42, (PySem.Value.str (PySem.Str.ofString "*") 1388)), (43, (PySem.Value.str (PySem.Str.ofString "+") 1391)), (45, (PySem.Value.str (PySem.Str.ofString "-") 1382)), (47, (PySem.Value.str (PySem.Str.ofString "/") 1394)), (48, (PySem.Value.str (PySem.Str.ofString "0") 1553)), (49, (PySem.Value.str (PySem.Str.ofString "1") 1556)), (50, (PySem.Value.str (PySem.Str.ofString "2") 1559)), (51, (PySem.Value.str (PySem.Str.ofString "3") 1562)), (52, (PySem.Value.str (PySem.Str.ofString "4") 1565)), (53, (PySem.Value.str (PySem.Str.ofString "5") 1568)), (54, (PySem.Value.str (PySem.Str.ofString "6") 1571)), (55, (PySem.Value.str (PySem.Str.ofString "7") 1574)), (56, (PySem.Value.str (PySem.Str.ofString "8") 1577)), (57, (PySem.Value.str (PySem.Str.ofString "9") 1580)), (65, (PySem.Value.str (PySem.Str.ofString "A") 1475)), (66, (PySem.Value.str (PySem.Str.ofString "B") 1478)), (67, (PySem.Value.str (PySem.Str.ofString "C") 1481)), (68, (PySem.Value.str (PySem.Str.ofString "D") 1484)), (69, (PySem.Value.str (PySem.Str.ofString "E") 1487)), (70, (PySem.Value.str (PySem.Str.ofString "F") 1490)), (71, (PySem.Value.str (PySem.Str.ofString "G") 1493)), (72, (PySem.Value.str (PySem.Str.ofString "H") 1496)), (73, (PySem.Value.str (PySem.Str.ofString "I") 1499)), (74, (PySem.Value.str (PySem.Str.ofString "J") 1502)), (75, (PySem.Value.str (PySem.Str.ofString "K") 1505)), (76, (PySem.Value.str (PySem.Str.ofString "L") 1508)), (77, (PySem.Value.str (PySem.Str.ofString "M") 1511)), (78, (PySem.Value.str (PySem.Str.ofString "N") 1514)), (79, (PySem.Value.str (PySem.Str.ofString "O") 1517)), (80, (PySem.Value.str (PySem.Str.ofString "P") 1520)), (81, (PySem.Value.str (PySem.Str.ofString "Q") 1523)), (82, (PySem.Value.str (PySem.Str.ofString "R") 1526)), (83, (PySem.Value.str (PySem.Str.ofString "S") 1529)), (84, (PySem.Value.str (PySem.Str.ofString "T") 1532)), (85, (PySem.Value.str (PySem.Str.ofString "U") 1535)), (86, (PySem.Value.str (PySem.Str.ofString "V") 1538)), (87, (PySem.Value.str (PySem.Str.ofString "W") 1541)), (88, (PySem.Value.str (PySem.Str.ofString "X") 1544)), (89, (PySem.Value.str (PySem.Str.ofString "Y") 1547)), (90, (PySem.Value.str (PySem.Str.ofString "Z") 1550)), (97, (PySem.Value.str (PySem.Str.ofString "a") 1397)), (98, (PySem.Value.str (PySem.Str.ofString "b") 1400)), (99, (PySem.Value.str (PySem.Str.ofString "c") 1403)), (100, (PySem.Value.str (PySem.Str.ofString "d") 1406)), (101, (PySem.Value.str (PySem.Str.ofString "e") 1409)), (102, (PySem.Value.str (PySem.Str.ofString "f") 1412)), (103, (PySem.Value.str (PySem.Str.ofString "g") 1415)), (104, (PySem.Value.str (PySem.Str.ofString "h") 1418)), (105, (PySem.Value.str (PySem.Str.ofString "i") 1421)), (106, (PySem.Value.str (PySem.Str.ofString "j") 1424)), (107, (PySem.Value.str (PySem.Str.ofString "k") 1427)), (108, (PySem.Value.str (PySem.Str.ofString "l") 1430)), (109, (PySem.Value.str (PySem.Str.ofString "m") 1433)), (110, (PySem.Value.str (PySem.Str.ofString "n") 1436)), (111, (PySem.Value.str (PySem.Str.ofString "o") 1439)), (112, (PySem.Value.str (PySem.Str.ofString "p") 1442)), (113, (PySem.Value.str (PySem.Str.ofString "q") 1445)), (114, (PySem.Value.str (PySem.Str.ofString "r") 1448)), (115, (PySem.Value.str (PySem.Str.ofString "s") 1451)), (116, (PySem.Value.str (PySem.Str.ofString "t") 1454)), (117, (PySem.Value.str (PySem.Str.ofString "u") 1457)), (118, (PySem.Value.str (PySem.Str.ofString "v") 1460)), (119, (PySem.Value.str (PySem.Str.ofString "w") 1463)), (120, (PySem.Value.str (PySem.Str.ofString "x") 1466)), (121, (PySem.Value.str (PySem.Str.ofString "y") 1469)), (122, (PySem.Value.str (PySem.Str.ofString "z") 1472))]).toArray 0) #[])
noncomputable def tr4 (P : Params) : BT := (.node (ob0 P) (.node (ob1 P) (.node (ob85 P) (.node (ob7 P) (.node (ob7 P) (.node (ob29 P) .nil .nil) (.node (ob71 P) .nil .nil)) (.node (ob22 P) (.node (ob36 P) .nil .nil) (.node (ob7 P) .nil .nil))) (.node (ob27 P) (.node (ob18 P) (.node (ob7 P) .nil .nil) (.node (ob89 P) .nil .nil)) (.node (ob26 P) (.node (ob39 P) .nil .nil) .nil))) (.node (ob5 P) (.node (ob9 P) (.node (ob16 P) (.node (ob8 P) .nil .nil) (.node (ob72 P) .nil .nil)) (.node (ob24 P) (.node (ob37 P) .nil .nil) .nil)) (.node (ob13 P) (.node (ob20 P) (.node (ob34 P) .nil .nil) (.node (ob75 P) .nil .nil)) (.node (ob31 P) (.node (ob69 P) .nil .nil) .nil)))) (.node (ob2 P) (.node (ob4 P) (.node (ob8 P) (.node (ob15 P) (.node (ob7 P) .nil .nil) (.node (ob7 P) .nil .nil)) (.node (ob23 P) (.node (ob6 P) .nil .nil) (.node (ob88 P) .nil .nil))) (.node (ob12 P) (.node (ob19 P) (.node (ob33 P) .nil .nil) (.node (ob74 P) .nil .nil)) (.node (ob7 P) (.node (ob40 P) .nil .nil) .nil))) (.node (ob6 P) (.node (ob10 P) (.node (ob17 P) (.node (ob32 P) .nil .nil) (.node (ob74 P) .nil .nil)) (.node (ob25 P) (.node (ob38 P) .nil .nil) .nil)) (.node (ob14 P) (.node (ob21 P) (.node (ob35 P) .nil .nil) (.node (ob87 P) .nil .nil)) (.node (ob28 P) (.node (ob70 P) .nil .nil) .nil)))))
noncomputable abbrev st4 (w : World) (os : OsState) : SharedT := ⟨tr4 w.params, 57, (PySem.Life.mk [] [] [] 0 [] [] Bool.false #[] [] 0 Bool.false Bool.false Bool.false (0 : Int) [(2000 : Int), (10 : Int), (10 : Int)] Bool.false 0 Bool.true [] [] 0 Bool.false), ⟨[]⟩, (PySem.Drawn.mk 0 0 0 0), 1584, os⟩
noncomputable abbrev sts5 : List Stmt := [stm 16]
noncomputable abbrev th5 : Thread := piecesOf sts5 env cE ⟨22, 0, 22, 28⟩ B
noncomputable def thr5 (w : World) (os : OsState) : Thread := thrOf (goW (w.withFollow "special-get-raises" false) 54 (st4 w os) th5)
noncomputable def ob90 (P : Params) : Obj := (PySem.Obj.mk (PySem.Value.type "dict") none (PySem.Data.dict #[(PySem.DictEntry.mk (PySem.PyData.keyHash P (PySem.Str.ofString "__name__")) (PySem.Value.str (PySem.Str.ofString "__name__") 165) (PySem.Value.str (PySem.Str.ofString "cpy313.email.quoprimime") 1371)), (PySem.DictEntry.mk (PySem.PyData.keyHash P (PySem.Str.ofString "__doc__")) (PySem.Value.str (PySem.Str.ofString "__doc__") 166) PySem.Value.none), (PySem.DictEntry.mk (PySem.PyData.keyHash P (PySem.Str.ofString "__package__")) (PySem.Value.str (PySem.Str.ofString "__package__") 167) PySem.Value.none), (PySem.DictEntry.mk (PySem.PyData.keyHash P (PySem.Str.ofString "__loader__")) (PySem.Value.str (PySem.Str.ofString "__loader__") 168) (PySem.Value.builtin "__main__.__loader__#op\u0061que")), (PySem.DictEntry.mk (PySem.PyData.keyHash P (PySem.Str.ofString "__spec__")) (PySem.Value.str (PySem.Str.ofString "__spec__") 169) PySem.Value.none), (PySem.DictEntry.mk (PySem.PyData.keyHash P (PySem.Str.ofString "__annotations__")) (PySem.Value.str (PySem.Str.ofString "__annotations__") 170) (PySem.Value.ref 6)), (PySem.DictEntry.mk (PySem.PyData.keyHash P (PySem.Str.ofString "__builtins__")) (PySem.Value.str (PySem.Str.ofString "__builtins__") 171) (PySem.Value.ref 4)), (PySem.DictEntry.mk (PySem.PyData.keyHash P (PySem.Str.ofString "__file__")) (PySem.Value.str (PySem.Str.ofString "__file__") 173) (PySem.Value.str (PySem.Str.ofString "/claim/cut.py") 172)), (PySem.DictEntry.mk (PySem.PyData.keyHash P (PySem.Str.ofString "__cached__")) (PySem.Value.str (PySem.Str.ofString "__cached__") 174) PySem.Value.none), (PySem.DictEntry.mk (PySem.PyData.keyHash P (PySem.Str.ofString "_sre")) (PySem.Value.str (PySem.Str.ofString "_sre") 275) (PySem.Value.ref 12)), (PySem.DictEntry.mk (PySem.PyData.keyHash P (PySem.Str.ofString "strip_quotes")) (PySem.Value.str (PySem.Str.ofString "strip_quotes") 290) (PySem.Value.ref 38)), (PySem.DictEntry.mk (PySem.PyData.keyHash P (PySem.Str.ofString "_twin_re_1")) (PySem.Value.str (PySem.Str.ofString "_twin_re_1") 325) (PySem.Value.ref 43)), (PySem.DictEntry.mk (PySem.PyData.keyHash P (PySem.Str.ofString "NL")) (PySem.Value.str (PySem.Str.ofString "NL") 327) (PySem.Value.str (PySem.Str.ofString "\n") 326)), (PySem.DictEntry.mk (PySem.PyData.keyHash P (PySem.Str.ofString "_QUOPRI_MAP")) (PySem.Value.str (PySem.Str.ofString "_QUOPRI_MAP") 1355) (PySem.Value.ref 46)), (PySem.DictEntry.mk (PySem.PyData.keyHash P (PySem.Str.ofString "_QUOPRI_HEADER_MAP")) (PySem.Value.str (PySem.Str.ofString "_QUOPRI_HEADER_MAP") 1356) (PySem.Value.ref 51)), (PySem.DictEntry.mk (PySem.PyData.keyHash P (PySem.Str.ofString "_QUOPRI_BODY_MAP")) (PySem.Value.str (PySem.Str.ofString "_QUOPRI_BODY_MAP") 1357) (PySem.Value.ref 53)), (PySem.DictEntry.mk (PySem.PyData.keyHash P (PySem.Str.ofString "ascii_lowercase")) (PySem.Value.str (PySem.Str.ofString "ascii_lowercase") 1359) (PySem.Value.str (PySem.Str.ofString "abcdefghijklmnopqrstuvwxyz") 1358)), (PySem.DictEntry.mk (PySem.PyData.keyHash P (PySem.Str.ofString "ascii_uppercase")) (PySem.Value.str (PySem.Str.ofString "ascii_uppercase") 1361) (PySem.Value.str (PySem.Str.ofString "ABCDEFGHIJKLMNOPQRSTUVWXYZ") 1360)), (PySem.DictEntry.mk (PySem.PyData.keyHash P (PySem.Str.ofString "ascii_letters")) (PySem.Value.str (PySem.Str.ofString "ascii_letters") 1363) (PySem.Value.str (PySem.Str.ofString "abcdefghijklmnopqrstuvwxyzABCDEFGHIJKLMNOPQRSTUVWXYZ") 1362)), (PySem.DictEntry.mk (PySem.PyData.keyHash P (PySem.Str.ofString "digits")) (PySem.Value.str (PySem.Str.ofString "digits") 1365) (PySem.Value.str (PySem.Str.ofString "0123456789") 1364)), (PySem.DictEntry.mk (PySem.PyData.keyHash P (PySem.Str.ofString "hexdigits")) (PySem.Value.str (PySem.Str.ofString "hexdigits") 1370) (PySem.Value.str (PySem.Str.ofString "0123456789abcdefABCDEF") 1369)), (PySem.DictEntry.mk (PySem.PyData.keyHash P (PySem.Str.ofString "c")) (PySem.Value.str (PySem.Str.ofString "c") 1381) (PySem.Value.int (32 : Int) 1585))] 22) #[])
noncomputable def ob91 (P : Params) : Obj := (PySem.Obj.mk (PySem.Value.type "list") none (PySem.Data.seq (up tq [(32, (PySem.Value.str (PySem.Str.ofString " ") 1587))]).toArray 0) #[])
noncomputable def ob92 (P : Params) : Obj := (PySem.Obj.mk (PySem.Value.type "bytes_iterator") none (PySem.Data.fields #[(PySem.Value.bytes #[(32 : UInt8), (33 : UInt8), (34 : UInt8), (35 : UInt8), (36 : UInt8), (37 : UInt8), (38 : UInt8), (39 : UInt8), (40 : UInt8), (41 : UInt8), (42 : UInt8), (43 : UInt8), (44 : UInt8), (45 : UInt8), (46 : UInt8), (47 : UInt8), (48 : UInt8), (49 : UInt8), (50 : UInt8), (51 : UInt8), (52 : UInt8), (53 : UInt8), (54 : UInt8), (55 : UInt8), (56 : UInt8), (57 : UInt8), (58 : UInt8), (59 : UInt8), (60 : UInt8), (62 : UInt8), (63 : UInt8), (64 : UInt8), (65 : UInt8), (66 : UInt8), (67 : UInt8), (68 : UInt8), (69 : UInt8), (70 : UInt8), (71 : UInt8), (72 : UInt8), (73 : UInt8), (74 : UInt8), (75 : UInt8), (76 : UInt8), (77 : UInt8), (78 : UInt8), (79 : UInt8), (80 : UInt8), (81 : UInt8), (82 : UInt8), (83 : UInt8), (84 : UInt8), (85 : UInt8), (86 : UInt8), (87 : UInt8), (88 : UInt8), (89 : UInt8), (90 : UInt8), (91 : UInt8), (92 : UInt8), (93 : UInt8), (94 : UInt8), (95 : UInt8), (96 : UInt8), (97 : UInt8), (98 : UInt8), (99 : UInt8), (100 : UInt8), (101 : UInt8), (102 : UInt8), (103 : UInt8), (104 : UInt8), (105 : UInt8), (106 : UInt8), (107 : UInt8), (108 : UInt8), (109 : UInt8), (110 : UInt8), (111 : UInt8), (112 : UInt8), (113 : UInt8), (114 : UInt8), (115 : UInt8), (116 : UInt8), (117 : UInt8), (118 : UInt8), (119 : UInt8), (120 : UInt8), (121 : UInt8), (122 : UInt8), (123 : UInt8), (124 : UInt8), (125 : UInt8), (126 : UInt8), (9 : UInt8)] 1584), (PySem.Value.int (1 : Int) 0)]) #[])
noncomputable def tr5c0 (P : Params) : BT := (.node (ob0 P) (.node (ob1 P) (.node (ob90 P) (.node (ob7 P) (.node (ob7 P) (.node (ob29 P) .nil .nil) (.node (ob71 P) .nil .nil)) (.node (ob22 P) (.node (ob36 P) .nil .nil) (.node (ob7 P) .nil .nil))) (.node (ob27 P) (.node (ob18 P) (.node (ob7 P) .nil .nil) (.node (ob89 P) .nil .nil)) (.node (ob26 P) (.node (ob39 P) .nil .nil) .nil))) (.node (ob5 P) (.node (ob9 P) (.node (ob16 P) (.node (ob8 P) .nil .nil) (.node (ob72 P) .nil .nil)) (.node (ob24 P) (.node (ob37 P) .nil .nil) (.node (ob92 P) .nil .nil))) (.node (ob13 P) (.node (ob20 P) (.node (ob34 P) .nil .nil) (.node (ob91 P) .nil .nil)) (.node (ob31 P) (.node (ob69 P) .nil .nil) .nil)))) (.node (ob2 P) (.node (ob4 P) (.node (ob8 P) (.node (ob15 P) (.node (ob7 P) .nil .nil) (.node (ob7 P) .nil .nil)) (.node (ob23 P) (.node (ob6 P) .nil .nil) (.node (ob88 P) .nil .nil))) (.node (ob12 P) (.node (ob19 P) (.node (ob33 P) .nil .nil) (.node (ob74 P) .nil .nil)) (.node (ob7 P) (.node (ob40 P) .nil .nil) .nil))) (.node (ob6 P) (.node (ob10 P) (.node (ob17 P) (.node (ob32 P) .nil .nil) (.node (ob74 P) .nil .nil)) (.node (ob25 P) (.node (ob38 P) .nil .nil) .nil)) (.node (ob14 P) (.node (ob21 P) (.node (ob35 P) .nil .nil) (.node (ob87 P) .nil .nil)) (.node (ob28 P) (.node (ob70 P) .nil .nil) .nil)))))
noncomputable abbrev st5c0 (w : World) (os : OsState) : SharedT := ⟨tr5c0 w.params, 58, (PySem.Life.mk [] [] [] 0 [] [] Bool.false #[] [] 0 Bool.false Bool.false Bool.false (0 : Int) [(2000 : Int), (10 : Int), (10 : Int)] Bool.false 0 Bool.true [] [] 0 Bool.false), ⟨[]⟩, (PySem.Drawn.mk 0 0 0 0), 1588, os⟩
noncomputable def ob93 (P : Params) : Obj := (PySem.Obj.mk (PySem.Value.type "dict") none (PySem.Data.dict #[(PySem.DictEntry.mk (PySem.PyData.keyHash P (PySem.Str.ofString "__name__")) (PySem.Value.str (PySem.Str.ofString "__name__") 165) (PySem.Value.str (PySem.Str.ofString "cpy313.email.quoprimime") 1371)), (PySem.DictEntry.mk (PySem.PyData.keyHash P (PySem.Str.ofString "__doc__")) (PySem.Value.str (PySem.Str.ofString "__doc__") 166) PySem.Value.none), (PySem.DictEntry.mk (PySem.PyData.keyHash P (PySem.Str.ofString "__package__")) (PySem.Value.str (PySem.Str.ofString "__package__") 167) PySem.Value.none), (PySem.DictEntry.mk (PySem.PyData.keyHash P (PySem.Str.ofString "__loader__")) (PySem.Value.str (PySem.Str.ofString "__loader__") 168) (PySem.Value.builtin "__main__.__loader__#op\u0061que")), (PySem.DictEntry.mk (PySem.PyData.keyHash P (PySem.Str.ofString "__spec__")) (PySem.Value.str (PySem.Str.ofString "__spec__") 169) PySem.Value.none), (PySem.DictEntry.mk (PySem.PyData.keyHash P (PySem.Str.ofString "__annotations__")) (PySem.Value.str (PySem.Str.ofString "__annotations__") 170) (PySem.Value.ref 6)), (PySem.DictEntry.mk (PySem.PyData.keyHash P (PySem.Str.ofString "__builtins__")) (PySem.Value.str (PySem.Str.ofString "__builtins__") 171) (PySem.Value.ref 4)), (PySem.DictEntry.mk (PySem.PyData.keyHash P (PySem.Str.ofString "__file__")) (PySem.Value.str (PySem.Str.ofString "__file__") 173) (PySem.Value.str (PySem.Str.ofString "/claim/cut.py") 172)), (PySem.DictEntry.mk (PySem.PyData.keyHash P (PySem.Str.ofString "__cached__")) (PySem.Value.str (PySem.Str.ofString "__cached__") 174) PySem.Value.none), (PySem.DictEntry.mk (PySem.PyData.keyHash P (PySem.Str.ofString "_sre")) (PySem.Value.str (PySem.Str.ofString "_sre") 275) (PySem.Value.ref 12)), (PySem.DictEntry.mk (PySem.PyData.keyHash P (PySem.Str.ofString "strip_quotes")) (PySem.Value.str (PySem.Str.ofString "strip_quotes") 290) (PySem.Value.ref 38)), (PySem.DictEntry.mk (PySem.PyData.keyHash P (PySem.Str.ofString "_twin_re_1")) (PySem.Value.str (PySem.Str.ofString "_twin_re_1") 325) (PySem.Value.ref 43)), (PySem.DictEntry.mk (PySem.PyData.keyHash P (PySem.Str.ofString "NL")) (PySem.Value.str (PySem.Str.ofString "NL") 327) (PySem.Value.str (PySem.Str.ofString "\n") 326)), (PySem.DictEntry.mk (PySem.PyData.keyHash P (PySem.Str.ofString "_QUOPRI_MAP")) (PySem.Value.str (PySem.Str.ofString "_QUOPRI_MAP") 1355) (PySem.Value.ref 46)), (PySem.DictEntry.mk (PySem.PyData.keyHash P (PySem.Str.ofString "_QUOPRI_HEADER_MAP")) (PySem.Value.str (PySem.Str.ofString "_QUOPRI_HEADER_MAP") 1356) (PySem.Value.ref 51)), (PySem.DictEntry.mk (PySem.PyData.keyHash P (PySem.Str.ofString "_QUOPRI_BODY_MAP")) (PySem.Value.str (PySem.Str.ofString "_QUOPRI_BODY_MAP") 1357) (PySem.Value.ref 53)), (PySem.DictEntry.mk (PySem.PyData.keyHash P (PySem.Str.ofString "ascii_lowercase")) (PySem.Value.str (PySem.Str.ofString "ascii_lowercase") 1359) (PySem.Value.str (PySem.Str.ofString "abcdefghijklmnopqrstuvwxyz") 1358)), (PySem.DictEntry.mk (PySem.PyData.keyHash P (PySem.Str.ofString "ascii_uppercase")) (PySem.Value.str (PySem.Str.ofString "ascii_uppercase") 1361) (PySem.Value.str (PySem.Str.ofString "ABCDEFGHIJKLMNOPQRSTUVWXYZ") 1360)), (PySem.DictEntry.mk (PySem.PyData.keyHash P (PySem.Str.ofString "ascii_letters")) (PySem.Value.str (PySem.Str.ofString "ascii_letters") 1363) (PySem.Value.str (PySem.Str.ofString "abcdefghijklmnopqrstuvwxyzABCDEFGHIJKLMNOPQRSTUVWXYZ") 1362)), (PySem.DictEntry.mk (PySem.PyData.keyHash P (PySem.Str.ofString "digits")) (PySem.Value.str (PySem.Str.ofString "digits") 1365) (PySem.Value.str (PySem.Str.ofString "0123456789") 1364)), (PySem.DictEntry.mk (PySem.PyData.keyHash P (PySem.Str.ofString "hexdigits")) (PySem.Value.str (PySem.Str.ofString "hexdigits") 1370) (PySem.Value.str (PySem.Str.ofString "0123456789abcdefABCDEF") 1369)), (PySem.DictEntry.mk (PySem.PyData.keyHash P (PySem.Str.ofString "c")) (PySem.Value.str (PySem.Str.ofString "c") 1381) (PySem.Value.int (59 : Int) 1666))] 22) #[])
noncomputable def ob94 (P : Params) : Obj := (PySem.Obj.mk (PySem.Value.type "list") none (PySem.Data.seq (up tq [(32, (PySem.Value.str (PySem.Str.ofString " ") 1587)), (33, (PySem.Value.str (PySem.Str.ofString "!") 1590)), (34, (PySem.Value.str (PySem.Str.ofString "\"") 1593)), (35, (PySem.Value.str (PySem.Str.ofString "#") 1596)), (36, (PySem.Value.str (PySem.Str.ofString "$") 1599)), (37, (PySem.Value.str (PySem.Str.ofString "%") 1602)), (38, (PySem.Value.str (PySem.Str.ofString "&") 1605)), (39, (PySem.Value.str (PySem.Str.ofString "'") 1608)), (40, (PySem.Value.str (PySem.Str.ofString "(") 1611)), (41, (PySem.Value.str (PySem.Str.ofString ")") 1614)), (42, (PySem.Value.str (PySem.Str.ofString "*") 1617)), (43, (PySem.Value.str (PySem.Str.ofString "+") 1620)), (44, (PySem.Value.str (PySem.Str.ofString ",") 1623)), (45, (PySem.Value.str (PySem.Str.ofString "-") 1626)), (46, (PySem.Value.str (PySem.Str.ofString ".") 1629)), (47, (PySem.Value.str (PySem.Str.ofString "/") 1632)), (48, (PySem.Value.str (PySem.Str.ofString "0") 1635)), (49, (PySem.Value.str (PySem.Str.ofString "1") 1638)), (50, (PySem.Value.str (PySem.Str.ofString "2") 1641)), (51, (PySem.Value.str (PySem.Str.ofString "3") 1644)), (52, (PySem.Value.str (PySem.Str.ofString "4") 1647)), (53, (PySem.Value.str (PySem.Str.ofString "5") 1650)), (54, (PySem.Value.str (PySem.Str.ofString "6") 1653)), (55, (PySem.Value.str (PySem.Str.ofString "7") 1656)), (56, (PySem.Value.str (PySem.Str.ofString "8") 1659)), (57, (PySem.Value.str (PySem.Str.ofString "9") 1662)), (58, (PySem.Value.str (PySem.Str.ofString ":") 1665)), (59, (PySem.Value.str (PySem.Str.ofString ";") 1668))]).toArray 0) #[])
noncomputable def ob95 (P : Params) : Obj := (PySem.Obj.mk (PySem.Value.type "bytes_iterator") none (PySem.Data.fields #[(PySem.Value.bytes #[(32 : UInt8), (33 : UInt8), (34 : UInt8), (35 : UInt8), (36 : UInt8), (37 : UInt8), (38 : UInt8), (39 : UInt8), (40 : UInt8), (41 : UInt8), (42 : UInt8), (43 : UInt8), (44 : UInt8), (45 : UInt8), (46 : UInt8), (47 : UInt8), (48 : UInt8), (49 : UInt8), (50 : UInt8), (51 : UInt8), (52 : UInt8), (53 : UInt8), (54 : UInt8), (55 : UInt8), (56 : UInt8), (57 : UInt8), (58 : UInt8), (59 : UInt8), (60 : UInt8), (62 : UInt8), (63 : UInt8), (64 : UInt8), (65 : UInt8), (66 : UInt8), (67 : UInt8), (68 : UInt8), (69 : UInt8), (70 : UInt8), (71 : UInt8), (72 : UInt8), (73 : UInt8), (74 : UInt8), (75 : UInt8), (76 : UInt8), (77 : UInt8), (78 : UInt8), (79 : UInt8), (80 : UInt8), (81 : UInt8), (82 : UInt8), (83 : UInt8), (84 : UInt8), (85 : UInt8), (86 : UInt8), (87 : UInt8), (88 : UInt8), (89 : UInt8), (90 : UInt8), (91 : UInt8), (92 : UInt8), (93 : UInt8), (94 : UInt8), (95 : UInt8), (96 : UInt8), (97 : UInt8), (98 : UInt8), (99 : UInt8), (100 : UInt8), (101 : UInt8), (102 : UInt8), (103 : UInt8), (104 : UInt8), (105 : UInt8), (106 : UInt8), (107 : UInt8), (108 : UInt8), (109 : UInt8), (110 : UInt8), (111 : UInt8), (112 : UInt8), (113 : UInt8), (114 : UInt8), (115 : UInt8), (116 : UInt8), (117 : UInt8), (118 : UInt8), (119 : UInt8), (120 : UInt8), (121 : UInt8), (122 : UInt8), (123 : UInt8), (124 : UInt8), (125 : UInt8), (126 : UInt8), (9 : UInt8)] 1584), (PySem.Value.int (28 : Int) 0)]) #[])
noncomputable def tr5c1 (P : Params) : BT := (.node (ob0 P) (.node (ob1 P) (.node (ob93 P) (.node (ob7 P) (.node (ob7 P) (.node (ob29 P) .nil .nil) (.node (ob71 P) .nil .nil)) (.node (ob22 P) (.node (ob36 P) .nil .nil) (.node (ob7 P) .nil .nil))) (.node (ob27 P) (.node (ob18 P) (.node (ob7 P) .nil .nil) (.node (ob89 P) .nil .nil)) (.node (ob26 P) (.node (ob39 P) .nil .nil) .nil))) (.node (ob5 P) (.node (ob9 P) (.node (ob16 P) (.node (ob8 P) .nil .nil) (.node (ob72 P) .nil .nil)) (.node (ob24 P) (.node (ob37 P) .nil .nil) (.node (ob95 P) .nil .nil))) (.node (ob13 P) (.node (ob20 P) (.node (ob34 P) .nil .nil) (.node (ob94 P) .nil .nil)) (.node (ob31 P) (.node (ob69 P) .nil .nil) .nil)))) (.node (ob2 P) (.node (ob4 P) (.node (ob8 P) (.node (ob15 P) (.node (ob7 P) .nil .nil) (.node (ob7 P) .nil .nil)) (.node (ob23 P) (.node (ob6 P) .nil .nil) (.node (ob88 P) .nil .nil))) (.node (ob12 P) (.node (ob19 P) (.node (ob33 P) .nil .nil) (.node (ob74 P) .nil .nil)) (.node (ob7 P) (.node (ob40 P) .nil .nil) .nil))) (.node (ob6 P) (.node (ob10 P) (.node (ob17 P) (.node (ob32 P) .nil .nil) (.node (ob74 P) .nil .nil)) (.node (ob25 P) (.node (ob38 P) .nil .nil) .nil)) (.node (ob14 P) (.node (ob21 P) (.node (ob35 P) .nil .nil) (.node (ob87 P) .nil .nil)) (.node (ob28 P) (.node (ob70 P) .nil .nil) .nil)))))
noncomputable abbrev st5c1 (w : World) (os : OsState) : SharedT := ⟨tr5c1 w.params, 58, (PySem.Life.mk [] [] [] 0 [] [] Bool.false #[] [] 0 Bool.false Bool.false Bool.false (0 : Int) [(2000 : Int), (10 : Int), (10 : Int)] Bool.false 0 Bool.true [] [] 0 Bool.false), ⟨[]⟩, (PySem.Drawn.mk 0 0 0 0), 1669, os⟩
noncomputable def ob96 (P : Params) : Obj := (PySem.Obj.mk (PySem.Value.type "dict") none (PySem.Data.dict #[(PySem.DictEntry.mk (PySem.PyData.keyHash P (PySem.Str.ofString "__name__")) (PySem.Value.str (PySem.Str.ofString "__name__") 165) (PySem.Value.str (PySem.Str.ofString "cpy313.email.quoprimime") 1371)), (PySem.DictEntry.mk (PySem.PyData.keyHash P (PySem.Str.ofString "__doc__")) (PySem.Value.str (PySem.Str.ofString "__doc__") 166) PySem.Value.none), (PySem.DictEntry.mk (PySem.PyData.keyHash P (PySem.Str.ofString "__package__")) (PySem.Value.str (PySem.Str.ofString "__package__") 167) PySem.Value.none), (PySem.DictEntry.mk (PySem.PyData.keyHash P (PySem.Str.ofString "__loader__")) (PySem.Value.str (PySem.Str.ofString "__loader__") 168) (PySem.Value.builtin "__main__.__loader__#op\u0061que")), (PySem.DictEntry.mk (PySem.PyData.keyHash P (PySem.Str.ofString "__spec__")) (PySem.Value.str (PySem.Str.ofString "__spec__") 169) PySem.Value.none), (PySem.DictEntry.mk (PySem.PyData.keyHash P (PySem.Str.ofString "__annotations__")) (PySem.Value.str (PySem.Str.ofString "__annotations__") 170) (PySem.Value.ref 6)), (PySem.DictEntry.mk (PySem.PyData.keyHash P (PySem.Str.ofString "__builtins__")) (PySem.Value.str (PySem.Str.ofString "__builtins__") 171) (PySem.Value.ref 4)), (PySem.DictEntry.mk (PySem.PyData.keyHash P (PySem.Str.ofString "__file__")) (PySem.Value.str (PySem.Str.ofString "__file__") 173) (PySem.Value.str (PySem.Str.ofString "/claim/cut.py") 172)), (PySem.DictEntry.mk (PySem.PyData.keyHash P (PySem.Str.ofString "__cached__")) (PySem.Value.str (PySem.Str.ofString "__cached__") 174) PySem.Value.none), (PySem.DictEntry.mk (PySem.PyData.keyHash P (PySem.Str.ofString "_sre")) (PySem.Value.str (PySem.Str.ofString "_sre") 275) (PySem.Value.ref 12)), (PySem.DictEntry.mk (PySem.PyData.keyHash P (PySem.Str.ofString "strip_quotes")) (PySem.Value.str (PySem.Str.ofString "strip_quotes") 290) (PySem.Value.ref 38)), (PySem.DictEntry.mk (PySem.PyData.keyHash P (PySem.Str.ofString "_twin_re_1")) (PySem.Value.str (PySem.Str.ofString "_twin_re_1") 325) (PySem.Value.ref 43)), (PySem.DictEntry.mk (PySem.PyData.keyHash P (PySem.Str.ofString "NL")) (PySem.Value.str (PySem.Str.ofString "NL") 327) (PySem.Value.str (PySem.Str.ofString "\n") 326)), (PySem.DictEntry.mk (PySem.PyData.keyHash P (PySem.Str.ofString "_QUOPRI_MAP")) (PySem.Value.str (PySem.Str.ofString "_QUOPRI_MAP") 1355) (PySem.Value.ref 46)), (PySem.DictEntry.mk (PySem.PyData.keyHash P (PySem.Str.ofString "_QUOPRI_HEADER_MAP")) (PySem.Value.str (PySem.Str.ofString "_QUOPRI_HEADER_MAP") 1356) (PySem.Value.ref 51)), (PySem.DictEntry.mk (PySem.PyData.keyHash P (PySem.Str.ofString "_QUOPRI_BODY_MAP")) (PySem.Value.str (PySem.Str.ofString "_QUOPRI_BODY_MAP") 1357) (PySem.Value.ref 53)), (PySem.DictEntry.mk (PySem.PyData.keyHash P (PySem.Str.ofString "ascii_lowercase")) (PySem.Value.str (PySem.Str.ofString "ascii_lowercase") 1359) (PySem.Value.str (PySem.Str.ofString "abcdefghijklmnopqrstuvwxyz") 1358)), (PySem.DictEntry.mk (PySem.PyData.keyHash P (PySem.Str.ofString "ascii_uppercase")) (PySem.Value.str (PySem.Str.ofString "ascii_uppercase") 1361) (PySem.Value.str (PySem.Str.ofString "ABCDEFGHIJKLMNOPQRSTUVWXYZ") 1360)), (PySem.DictEntry.mk (PySem.PyData.keyHash P (PySem.Str.ofString "ascii_letters")) (PySem.Value.str (PySem.Str.ofString "ascii_letters") 1363) (PySem.Value.str (PySem.Str.ofString "abcdefghijklmnopqrstuvwxyzABCDEFGHIJKLMNOPQRSTUVWXYZ") 1362)), (PySem.DictEntry.mk (PySem.PyData.keyHash P (PySem.Str.ofString "digits")) (PySem.Value.str (PySem.Str.ofString "digits") 1365) (PySem.Value.str (PySem.Str.ofString "0123456789") 1364)), (PySem.DictEntry.mk (PySem.PyData.keyHash P (PySem.Str.ofString "hexdigits")) (PySem.Value.str (PySem.Str.ofString "hexdigits") 1370) (PySem.Value.str (PySem.Str.ofString "0123456789abcdefABCDEF") 1369)), (PySem.DictEntry.mk (PySem.PyData.keyHash P (PySem.Str.ofString "c")) (PySem.Value.str (PySem.Str.ofString "c") 1381) (PySem.Value.int (87 : Int) 1747))] 22) #[])
noncomputable def ob97 (P : Params) : Obj := (PySem.Obj.mk (PySem.Value.type "list") none (PySem.Data.seq (up tq [(32, (PySem.Value.str (PySem.Str.ofString " ") 1587)), (33, (PySem.Value.str (PySem.Str.ofString "!") 1590)), (34, (PySem.Value.str (PySem.Str.ofString "\"") 1593)), (35, (PySem.Value.str (PySem.Str.ofString "#") 1596)), (36, (PySem.Value.str (PySem.Str.ofString "$") 1599)), (37, (PySem.Value.str (PySem.Str.ofString "%") 1602)), (38, (PySem.Value.str (PySem.Str.ofString "&") 1605)), (39, (PySem.Value.str (PySem.Str.ofString "'") 1608)), (40, (PySem.Value.str (PySem.Str.ofString "(") 1611)), (41, (PySem.Value.str (PySem.Str.ofString ")") 1614)), (42, (PySem.Value.str (PySem.Str.ofString "*") 1617)), (43, (PySem.Value.str (PySem.Str.ofString "+") 1620)), (44, (PySem.Value.str (PySem.Str.ofString ",") 1623)), (45, (PySem.Value.str (PySem.Str.ofString "-") 1626)), (46, (PySem.Value.str (PySem.Str.ofString ".") 1629)), (47, (PySem.Value.str (PySem.Str.ofString "/") 1632)), (48, (PySem.Value.str (PySem.Str.ofString "0") 1635)), (49, (PySem.Value.str (PySem.Str.ofString "1") 1638)), (50, (PySem.Value.str (PySem.Str.ofString "2") 1641)), (51, (PySem.Value.str (PySem.Str.ofString "3") 1644)), (52, (PySem.Value.str (PySem.Str.ofString "4") 1647)), (53, (PySem.Value.str (PySem.Str.ofString "5") 1650)), (54, (PySem.Value.str (PySem.Str.ofString "6") 1653)), (55, (PySem.Value.str (PySem.Str.ofString "7") 1656)), (56, (PySem.Value.str (PySem.Str.ofString "8") 1659)), (57, (PySem.Value.str (PySem.Str.ofString "9") 1662)), (58, (PySem.Value.str (PySem.Str.ofString ":") 1665)), (59, (PySem.Value.str (PySem.Str.ofString ";") 1668)), (60, (PySem.Value.str (PySem.Str.ofString "<") 1671)), (62, (PySem.Value.str (PySem.Str.ofString ">") 1674)), (63, (PySem.Value.str (PySem.Str.ofString "?") 1677)), (64, (PySem.Value.str (PySem.Str.ofString "@") 1680)), (65, (PySem.Value.str (PySem.Str.ofString "A") 1683)), (66, (PySem.Value.str (PySem.Str.ofString "B") 1686)), (67, (PySem.Value.str (PySem.Str.ofString "C") 1689)), (68, (PySem.Value.str (PySem.Str.ofString "D") 1692)), (69, (PySem.Value.str (PySem.Str.ofString "E") 1695)), (70, (PySem.Value.str (PySem.Str.ofString "F") 1698)), (71, (PySem.Value.str (PySem.Str.ofString "G") 1701)), (72, (PySem.Value.str (PySem.Str.ofString "H") 1704)), (73, (PySem.Value.str (PySem.Str.ofString "I") 1707)), (74, (PySem.Value.str (PySem.Str.ofString "J") 1710)), (75, (PySem.Value.str (PySem.Str.ofString "K") 1713)), (76, (PySem.Value.str (PySem.Str.ofString "L") 1716)), (77, (PySem.Value.str (PySem.Str.ofString "M") 1719)), (78, (PySem.Value.str (PySem.Str.ofString "N") 1722)), (79, (PySem.Value.str (PySem.Str.ofString "O") 1725)), (80, (PySem.Value.str (PySem.Str.ofString "P") 1728)), (81, (PySem.Value.str (PySem.Str.ofString "Q") 1731)), (82, (PySem.Value.str (PySem.Str.ofString "R") 1734)), (83, (PySem.Value.str (PySem.Str.ofString "S") 1737)), (84, (PySem.Value.str (PySem.Str.ofString "T") 1740)), (85, (PySem.Value.str (PySem.Str.ofString "U") 1743)), (86, (PySem.Value.str (PySem.Str.ofString "V") 1746)), (87, (PySem.Value.str (PySem.Str.ofString "W") 1749))]).toArray 0) #[])
noncomputable def ob98 (P : Params) : Obj := (PySem.Obj.mk (PySem.Value.type "bytes_iterator") none (PySem.Data.fields #[(PySem.Value.bytes #[(32 : UInt8), (33 : UInt8), (34 : UInt8), (35 : UInt8), (36 : UInt8), (37 : UInt8), (38 : UInt8), (39 : UInt8), (40 : UInt8), (41 : UInt8), (42 : UInt8), (43 : UInt8), (44 : UInt8), (45 : UInt8), (46 : UInt8), (47 : UInt8), (48 : UInt8), (49 : UInt8), (50 : UInt8), (51 : UInt8), (52 : UInt8), (53 : UInt8), (54 : UInt8), (55 : UInt8), (56 : UInt8), (57 : UInt8), (58 : UInt8), (59 : UInt8), (60 : UInt8), (62 : UInt8), (63 : UInt8), (64 : UInt8), (65 : UInt8), (66 : UInt8), (67 : UInt8), (68 : UInt8), (69 : UInt8), (70 : UInt8), (71 : UInt8), (72 : UInt8), (73 : UInt8), (74 : UInt8), (75 : UInt8), (76 : UInt8), (77 : UInt8), (78 : UInt8), (79 : UInt8), (80 : UInt8), (81 : UInt8), (82 : UInt8), (83 : UInt8), (84 : UInt8), (85 : UInt8), (86 : UInt8), (87 : UInt8), (88 : UInt8), (89 : UInt8), (90 : UInt8), (91 : UInt8), (92 : UInt8), (93 : UInt8), (94 : UInt8), (95 : UInt8), (96 : UInt8), (97 : UInt8), (98 : UInt8), (99 : UInt8), (100 : UInt8), (101 : UInt8), (102 : UInt8), (103 : UInt8), (104 : UInt8), (105 : UInt8), (106 : UInt8), (107 : UInt8), (108 : UInt8), (109 : UInt8), (110 : UInt8), (111 : UInt8), (112 : UInt8), (113 : UInt8), (114 : UInt8), (115 : UInt8), (116 : UInt8), (117 : UInt8), (118 : UInt8), (119 : UInt8), (120 : UInt8), (121 : UInt8), (122 : UInt8), (123 : UInt8), (124 : UInt8), (125 : UInt8), (126 : UInt8), (9 : UInt8)] 1584), (PySem.Value.int (55 : Int) 0)]) #[])
noncomputable def tr5c2 (P : Params) : BT := (.node (ob0 P) (.node (ob1 P) (.node (ob96 P) (.node (ob7 P) (.node (ob7 P) (.node (ob29 P) .nil .nil) (.node (ob71 P) .nil .nil)) (.node (ob22 P) (.node (ob36 P) .nil .nil) (.node (ob7 P) .nil .nil))) (.node (ob27 P) (.node (ob18 P) (.node (ob7 P) .nil .nil) (.node (ob89 P) .nil .nil)) (.node (ob26 P) (.node (ob39 P) .nil .nil) .nil))) (.node (ob5 P) (.node (ob9 P) (.node (ob16 P) (.node (ob8 P) .nil .nil) (.node (ob72 P) .nil .nil)) (.node (ob24 P) (.node (ob37 P) .nil .nil) (.node (ob98 P) .nil .nil))) (.node (ob13 P) (.node (ob20 P) (.node (ob34 P) .nil .nil) (.node (ob97 P) .nil .nil)) (.node (ob31 P) (.node (ob69 P) .nil .nil) .nil)))) (.node (ob2 P) (.node (ob4 P) (.node (ob8 P) (.node (ob15 P) (.node (ob7 P) .nil .nil) (.node (ob7 P) .nil .nil)) (.node (ob23 P) (.node (ob6 P) .nil .nil) (.node (ob88 P) .nil .nil))) (.node (ob12 P) (.node (ob19 P) (.node (ob33 P) .nil .nil) (.node (ob74 P) .nil .nil)) (.node (ob7 P) (.node (ob40 P) .nil .nil) .nil))) (.node (ob6 P) (.node (ob10 P) (.node (ob17 P) (.node (ob32 P) .nil .nil) (.node (ob74 P) .nil .nil)) (.node (ob25 P) (.node (ob38 P) .nil .nil) .nil)) (.node (ob14 P) (.node (ob21 P) (.node (ob35 P) .nil .nil) (.node (ob87 P) .nil .nil)) (.node (ob28 P) (.node (ob70 P) .nil .nil) .nil)))))
noncomputable abbrev st5c2 (w : World) (os : OsState) : SharedT := ⟨tr5c2 w.params, 58, (PySem.Life.mk [] [] [] 0 [] [] Bool.false #[] [] 0 Bool.false Bool.false Bool.false (0 : Int) [(2000 : Int), (10 : Int), (10 : Int)] Bool.false 0 Bool.true [] [] 0 Bool.false), ⟨[]⟩, (PySem.Drawn.mk 0 0 0 0), 1750, os⟩
noncomputable def ob99 (P : Params) : Obj := (PySem.Obj.mk (PySem.Value.type "dict") none (PySem.Data.dict #[(PySem.DictEntry.mk (PySem.PyData.keyHash P (PySem.Str.ofString "__name__")) (PySem.Value.str (PySem.Str.ofString "__name__") 165) (PySem.Value.str (PySem.Str.ofString "cpy313.email.quoprimime") 1371)), (PySem.DictEntry.mk (PySem.PyData.keyHash P (PySem.Str.ofString "__doc__")) (PySem.Value.str (PySem.Str.ofString "__doc__") 166) PySem.Value.none), (PySem.DictEntry.mk (PySem.PyData.keyHash P (PySem.Str.ofString "__package__")) (PySem.Value.str (PySem.Str.ofString "__package__") 167) PySem.Value.none), (PySem.DictEntry.mk (PySem.PyData.keyHash P (PySem.Str.ofString "__loader__")) (PySem.Value.str (PySem.Str.ofString "__loader__") 168) (PySem.Value.builtin "__main__.__loader__#op\u0061que")), (PySem.DictEntry.mk (PySem.PyData.keyHash P (PySem.Str.ofString "__spec__")) (PySem.Value.str (PySem.Str.ofString "__spec__") 169) PySem.Value.none), (PySem.DictEntry.mk (PySem.PyData.keyHash P (PySem.Str.ofString "__annotations__")) (PySem.Value.str (PySem.Str.ofString "__annotations__") 170) (PySem.Value.ref 6)), (PySem.DictEntry.mk (PySem.PyData.keyHash P (PySem.Str.ofString "__builtins__")) (PySem.Value.str (PySem.Str.ofString "__builtins__") 171) (PySem.Value.ref 4)), (PySem.DictEntry.mk (PySem.PyData.keyHash P (PySem.Str.ofString "__file__")) (PySem.Value.str (PySem.Str.ofString "__file__") 173) (PySem.Value.str (PySem.Str.ofString "/claim/cut.py") 172)), (PySem.DictEntry.mk (PySem.PyData.keyHash P (PySem.Str.ofString "__cached__")) (PySem.Value.str (PySem.Str.ofString "__cached__") 174) PySem.Value.none), (PySem.DictEntry.mk (PySem.PyData.keyHash P (PySem.Str.ofString "_sre")) (PySem.Value.str (PySem.Str.ofString "_sre") 275) (PySem.Value.ref 12)), (PySem.DictEntry.mk (PySem.PyData.keyHash P (PySem.Str.ofString "strip_quotes")) (PySem.Value.str (PySem.Str.ofString "strip_quotes") 290) (PySem.Value.ref 38)), (PySem.DictEntry.mk (PySem.PyData.keyHash P (PySem.Str.ofString "_twin_re_1")) (PySem.Value.str (PySem.Str.ofString "_twin_re_1") 325) (PySem.Value.ref 43)), (PySem.DictEntry.mk (PySem.PyData.keyHash P (PySem.Str.ofString "NL")) (PySem.Value.str (PySem.Str.ofString "NL") 327) (PySem.Value.str (PySem.Str.ofString "\n") 326)), (PySem.DictEntry.mk (PySem.PyData.keyHash P (PySem.Str.ofString "_QUOPRI_MAP")) (PySem.Value.str (PySem.Str.ofString "_QUOPRI_MAP") 1355) (PySem.Value.ref 46)), (PySem.DictEntry.mk (PySem.PyData.keyHash P (PySem.Str.ofString "_QUOPRI_HEADER_MAP")) (PySem.Value.str (PySem.Str.ofString "_QUOPRI_HEADER_MAP") 1356) (PySem.Value.ref 51)), (PySem.DictEntry.mk (PySem.PyData.keyHash P (PySem.Str.ofString "_QUOPRI_BODY_MAP")) (PySem.Value.str (PySem.Str.ofString "_QUOPRI_BODY_MAP") 1357) (PySem.Value.ref 53)), (PySem.DictEntry.mk (PySem.PyData.keyHash P (PySem.Str.ofString "ascii_lowercase")) (PySem.Value.str (PySem.Str.ofString "ascii_lowercase") 1359) (PySem.Value.str (PySem.Str.ofString "abcdefghijklmnopqrstuvwxyz") 1358)), (PySem.DictEntry.mk (PySem.PyData.keyHash P (PySem.Str.ofString "ascii_uppercase")) (PySem.Value.str (PySem.Str.ofString "ascii_uppercase") 1361) (PySem.Value.str (PySem.Str.ofString "ABCDEFGHIJKLMNOPQRSTUVWXYZ") 1360)), (PySem.DictEntry.mk (PySem.PyData.keyHash P (PySem.Str.ofString "ascii_letters")) (PySem.Value.str (PySem.Str.ofString "ascii_letters") 1363) (PySem.Value.str (PySem.Str.ofString "abcdefghijklmnopqrstuvwxyzABCDEFGHIJKLMNOPQRSTUVWXYZ") 1362)), (PySem.DictEntry.mk (PySem.PyData.keyHash P (PySem.Str.ofString "digits")) (PySem.Value.str (PySem.Str.ofString "digits") 1365) (PySem.Value.str (PySem.Str.ofString "0123456789") 1364)), (PySem.DictEntry.mk (PySem.PyData.keyHash P (PySem.Str.ofString "hexdigits")) (PySem.Value.str (PySem.Str.ofString "hexdigits") 1370) (PySem.Value.str (PySem.Str.ofString "0123456789abcdefABCDEF") 1369)), (PySem.DictEntry.mk (PySem.PyData.keyHash P (PySem.Str.ofString "c")) (PySem.Value.str (PySem.Str.ofString "c") 1381) (PySem.Value.int (114 : Int) 1828))] 22) #[])
noncomputable def ob100 (P : Params) : Obj := (PySem.Obj.mk (PySem.Value.type "list") none (PySem.Data.seq (up tq [(32, (PySem.Value.str (PySem.Str.ofString " ") 1587)), (33, (PySem.Value.str (PySem.Str.ofString "!") 1590)), (34, (PySem.Value.str (PySem.Str.ofString "\"") 1593)), (35, (PySem.Value.str (PySem.Str.ofString "#") 1596)), (36, (PySem.Value.str (PySem.Str.ofString "$") 1599)), (37, (PySem.Value.str (PySem.Str.ofString "%") 1602)), (38, (PySem.Value.str (PySem.Str.ofString "&") 1605)), (39, (PySem.Value.str (PySem.Str.ofString "'") 1608)), (40, (PySem.Value.str (PySem.Str.ofString "(") 1611)), (41, (PySem.Value.str (PySem.Str.ofString ")") 1614)), (42, (PySem.Value.str (PySem.Str.ofString "*") 1617)), (43, (PySem.Value.str (PySem.Str.ofString "+") 1620)), (44, (PySem.Value.str (PySem.Str.ofString ",") 1623)), (45, (PySem.Value.str (PySem.Str.ofString "-") 1626)), (46, (PySem.Value.str (PySem.Str.ofString ".") 1629)), (47, (PySem.Value.str (PySem.Str.ofString "/") 1632)), (48, (PySem.Value.str (PySem.Str.ofString "0") 1635)), (49, (PySem.Value.str (PySem.Str.ofString "1") 1638)), (50, (PySem.Value.str (PySem.Str.ofString "2") 1641)), (51, (PySem.Value.str (PySem.Str.ofString "3") 1644)), (52, (PySem.Value.str (PySem.Str.ofString "4") 1647)), (53, (PySem.Value.str (PySem.Str.ofString "5") 1650)), (54, (PySem.Value.str (PySem.Str.ofString "6") 1653)), (55, (PySem.Value.str (PySem.Str.ofString "7") 1656)), (56, (PySem.Value.str (PySem.Str.ofString "8") 1659)), (57, (PySem.Value.str (PySem.Str.ofString "9") 1662)), (58, (PySem.Value.str (PySem.Str.ofString ":") 1665)), (59, (PySem.Value.str (PySem.Str.ofString ";") 1668)), (60, (PySem.Value.str (PySem.Str.ofString "<") 1671)), (62, (PySem.Value.str (PySem.Str.ofString ">") 1674)), (63, (PySem.Value.str (PySem.Str.ofString "?") 1677)), (64, (PySem.Value.str (PySem.Str.ofString "@") 1680)), (65, (PySem.Value.str (PySem.Str.ofString "A") 1683)), (66, (PySem.Value.str (PySem.Str.ofString "B") 1686)), (67, (PySem.Value.str (PySem.Str.ofString "C") 1689)), (68, (PySem.Value.str (PySem.Str.ofString "D") 1692)), (69, (PySem.Value.str (PySem.Str.ofString "E") 1695)), (70, (PySem.Value.str (PySem.Str.ofString "F") 1698)), (71, (PySem.Value.str (PySem.Str.ofString "G") 1701)), (72, (PySem.Value.str (PySem.Str.ofString "H") 1704)), (73, (PySem.Value.str (PySem.Str.ofString "I") 1707)), (74, (PySem.Value.str (PySem.Str.ofString "J") 1710)), (75, (PySem.Value.str (PySem.Str.ofString "K") 1713)), (76, (PySem.Value.str (PySem.Str.ofString "L") 1716)), (77, (PySem.Value.str (PySem.Str.ofString "M") 1719)), (78, (PySem.Value.str (PySem.Str.ofString "N") 1722)), (79, (PySem.Value.str (PySem.Str.ofString "O") 1725)), (80, (PySem.Value.str (PySem.Str.ofString "P") 1728)), (81, (PySem.Value.str (PySem.Str.ofString "Q") 1731)), (82, (PySem.Value.str (PySem.Str.ofString "R") 1734)), (83, (PySem.Value.str (PySem.Str.ofString "S") 1737)), (84, (PySem.Value.str (PySem.Str.ofString "T") 1740)), (85, (PySem.Value.str (PySem.Str.ofString "U") 1743)), (86, (PySem.Value.str (PySem.Str.ofString "V") 1746)), (87, (PySem.Value.str (PySem.Str.ofString "W") 1749)), (88, (PySem.Value.str (PySem.Str.ofString "X") 1752)), (89, (PySem.Value.str (PySem.Str.ofString "Y") 1755)), (90, (PySem.Value.str (PySem.Str.ofString "Z") 1758)), (91, (PySem.Value.str (PySem.Str.ofString "[") 1761)), (92, (PySem.Value.str (PySem.Str.ofString "\\") 1764)), (93, (PySem.Value.str (PySem.Str.ofString "]") 1767)), (94, (PySem.Value.str (PySem.Str.ofString "^") 1770)), (95, (PySem.Value.str (PySem.Str.ofString "_") 1773)), (96, (PySem.Value.str (PySem.Str.ofString "`") 1776)), (97, (PySem.Value.str (PySem.Str.ofString "a") 1779)), (98, (PySem.Value.str (PySem.Str.ofString "b") 1782)), (99, (PySem.Value.str (PySem.Str.ofString "c") 1785)), (100, (PySem.Value.str (PySem.Str.ofString "d") 1788)), (101, (PySem.Value.str (PySem.Str.ofString "e") 1791)), (102, (PySem.Value.str (PySem.Str.ofString "f") 1794)), (103, (PySem.Value.str (PySem.Str.ofString "g") 1797)), (104, (PySem.Value.str (PySem.Str.ofString "h") 1800)), (105, (PySem.Value.str (PySem.Str.ofString "i") 1803)), (106, (PySem.Value.str (PySem.Str.ofString "j") 1806)), (107, (PySem.Value.str (PySem.Str.ofString "k") 1809)), (108, (PySem.Value.str (PySem.Str.ofString "l") 1812)), (109, (PySem.Value.str (PySem.Str.ofString "m") 1815)), (110, (PySem.Value.str (PySem.Str.ofString "n") 1818)), (111, (PySem.Value.str (PySem.Str.ofString "o") 1821)), (112, (PySem.Value.str (PySem.Str.ofString "p") 1824)), (113, (PySem.Value.str (PySem.Str.ofString "q") 1827)), (114, (PySem.Value.str (PySem.Str.ofString "r") 1830))]).toArray 0) #[])
noncomputable def ob101 (P : Params) : Obj := (PySem.Obj.mk (PySem.Value.type "bytes_iterator") none (PySem.Data.fields #[(PySem.Value.bytes #[(32 : UInt8), (33 : UInt8), (34 : UInt8), (35 : UInt8), (36 : UInt8), (37 : UInt8), (38 : UInt8), (39 : UInt8), (40 : UInt8), (41 : UInt8), (42 : UInt8), (43 : UInt8), (44 : UInt8), (45 : UInt8), (46 : UInt8), (47 : UInt8), (48 : UInt8), (49 : UInt8), (50 : UInt8), (51 : UInt8), (52 : UInt8), (53 : UInt8), (54 : UInt8), (55 : UInt8), (56 : UInt8), (57 : UInt8), (58 : UInt8), (59 : UInt8), (60 : UInt8), (62 : UInt8), (63 : UInt8), (64 : UInt8), (65 : UInt8), (66 : UInt8), (67 : UInt8), (68 : UInt8), (69 : UInt8), (70 : UInt8), (71 : UInt8), (72 : UInt8), (73 : UInt8), (74 : UInt8), (75 : UInt8), (76 : UInt8), (77 : UInt8), (78 : UInt8), (79 : UInt8), (80 : UInt8), (81 : UInt8), (82 : UInt8), (83 : UInt8), (84 : UInt8), (85 : UInt8), (86 : UInt8), (87 : UInt8), (88 : UInt8), (89 : UInt8), (90 : UInt8), (91 : UInt8), (92 : UInt8), (93 : UInt8), (94 : UInt8), (95 : UInt8), (96 : UInt8), (97 : UInt8), (98 : UInt8), (99 : UInt8), (100 : UInt8), (101 : UInt8), (102 : UInt8), (103 : UInt8), (104 : UInt8), (105 : UInt8), (106 : UInt8), (107 : UInt8), (108 : UInt8), (109 : UInt8), (110 : UInt8), (111 : UInt8), (112 : UInt8), (113 : UInt8), (114 : UInt8), (115 : UInt8), (116 : UInt8), (117 : UInt8), (118 : UInt8), (119 : UInt8), (120 : UInt8), (121 : UInt8), (122 : UInt8), (123 : UInt8), (124 : UInt8), (125 : UInt8), (126 : UInt8), (9 : UInt8)] 1584), (PySem.Value.int (82 : Int) 0)]) #[])
noncomputable def tr5c3 (P : Params) : BT := (.node (ob0 P) (.node (ob1 P) (.node (ob99 P) (.node (ob7 P) (.node (ob7 P) (.node (ob29 P) .nil .nil) (.node (ob71 P) .nil .nil)) (.node (ob22 P) (.node (ob36 P) .nil .nil) (.node (ob7 P) .nil .nil))) (.node (ob27 P) (.node (ob18 P) (.node (ob7 P) .nil .nil) (.node (ob89 P) .nil .nil)) (.node (ob26 P) (.node (ob39 P) .nil .nil) .nil))) (.node (ob5 P) (.node (ob9 P) (.node (ob16 P) (.node (ob8 P) .nil .nil) (.node (ob72 P) .nil .nil)) (.node (ob24 P) (.node (ob37 P) .nil .nil) (.node (ob101 P) .nil .nil))) (.node (ob13 P) (.node (ob20 P) (.node (ob34 P) .nil .nil) (.node (ob100 P) .nil .nil)) (.node (ob31 P) (.node (ob69 P) .nil .nil) .nil)))) (.node (ob2 P) (.node (ob4 P) (.node (ob8 P) (.node (ob15 P) (.node (ob7 P) .nil .nil) (.node (ob7 P) .nil .nil)) (.node (ob23 P) (.node (ob6 P) .nil .nil) (.node (ob88 P) .nil .nil))) (.node (ob12 P) (.node (ob19 P) (.node (ob33 P) .nil .nil) (.node (ob74 P) .nil .nil)) (.node (ob7 P) (.node (ob40 P) .nil .nil) .nil))) (.node (ob6 P) (.node (ob10 P) (.node (ob17 P) (.node (ob32 P) .nil .nil) (.node (ob74 P) .nil .nil)) (.node (ob25 P) (.node (ob38 P) .nil .nil) .nil)) (.node (ob14 P) (.node (ob21 P) (.node (ob35 P) .nil .nil) (.node (ob87 P) .nil .nil)) (.node (ob28 P) (.node (ob70 P) .nil .nil) .nil)))))
noncomputable abbrev st5c3 (w : World) (os : OsState) : SharedT := ⟨tr5c3 w.params, 58, (PySem.Life.mk [] [] [] 0 [] [] Bool.false #[] [] 0 Bool.false Bool.false Bool.false (0 : Int) [(2000 : Int), (10 : Int), (10 : Int)] Bool.false 0 Bool.true [] [] 0 Bool.false), ⟨[]⟩, (PySem.Drawn.mk 0 0 0 0), 1831, os⟩
noncomputable def ob102 (P : Params) : Obj := (PySem.Obj.mk (PySem.Value.type "dict") none (PySem.Data.dict #[(PySem.DictEntry.mk (PySem.PyData.keyHash P (PySem.Str.ofString "__name__")) (PySem.Value.str (PySem.Str.ofString "__name__") 165) (PySem.Value.str (PySem.Str.ofString "cpy313.email.quoprimime") 1371)), (PySem.DictEntry.mk (PySem.PyData.keyHash P (PySem.Str.ofString "__doc__")) (PySem.Value.str (PySem.Str.ofString "__doc__") 166) PySem.Value.none), (PySem.DictEntry.mk (PySem.PyData.keyHash P (PySem.Str.ofString "__package__")) (PySem.Value.str (PySem.Str.ofString "__package__") 167) PySem.Value.none), (PySem.DictEntry.mk (PySem.PyData.keyHash P (PySem.Str.ofString "__loader__")) (PySem.Value.str (PySem.Str.ofString "__loader__") 168) (PySem.Value.builtin "__main__.__loader__#op\u0061que")), (PySem.DictEntry.mk (PySem.PyData.keyHash P (PySem.Str.ofString "__spec__")) (PySem.Value.str (PySem.Str.ofString "__spec__") 169) PySem.Value.none), (PySem.DictEntry.mk (PySem.PyData.keyHash P (PySem.Str.ofString "__annotations__")) (PySem.Value.str (PySem.Str.ofString "__annotations__") 170) (PySem.Value.ref 6)), (PySem.DictEntry.mk (PySem.PyData.keyHash P (PySem.Str.ofString "__builtins__")) (PySem.Value.str (PySem.Str.ofString "__builtins__") 171) (PySem.Value.ref 4)), (PySem.DictEntry.mk (PySem.PyData.keyHash P (PySem.Str.ofString "__file__")) (PySem.Value.str (PySem.Str.ofString "__file__") 173) (PySem.Value.str (PySem.Str.ofString "/claim/cut.py") 172)), (PySem.DictEntry.mk (PySem.PyData.keyHash P (PySem.Str.ofString "__cached__")) (PySem.Value.str (PySem.Str.ofString "__cached__") 174) PySem.Value.none), (PySem.DictEntry.mk (PySem.PyData.keyHash P (PySem.Str.ofString "_sre")) (PySem.Value.str (PySem.Str.ofString "_sre") 275) (PySem.Value.ref 12)), (PySem.DictEntry.mk (PySem.PyData.keyHash P (PySem.Str.ofString "strip_quotes")) (PySem.Value.str (PySem.Str.ofString "strip_quotes") 290) (PySem.Value.ref 38)), (PySem.DictEntry.mk (PySem.PyData.keyHash P (PySem.Str.ofString "_twin_re_1")) (PySem.Value.str (PySem.Str.ofString "_twin_re_1") 325) (PySem.Value.ref 43)), (PySem.DictEntry.mk (PySem.PyData.keyHash P (PySem.Str.ofString "NL")) (PySem.Value.str (PySem.Str.ofString "NL") 327) (PySem.Value.str (PySem.Str.ofString "\n") 326)), (PySem.DictEntry.mk (PySem.PyData.keyHash P (PySem.Str.ofString "_QUOPRI_MAP")) (PySem.Value.str (PySem.Str.ofString "_QUOPRI_MAP") 1355) (PySem.Value.ref 46)), (PySem.DictEntry.mk (PySem.PyData.keyHash P (PySem.Str.ofString "_QUOPRI_HEADER_MAP")) (PySem.Value.str (PySem.Str.ofString "_QUOPRI_HEADER_MAP") 1356) (PySem.Value.ref 51)), (PySem.DictEntry.mk (PySem.PyData.keyHash P (PySem.Str.ofString "_QUOPRI_BODY_MAP")) (PySem.Value.str (PySem.Str.ofString "_QUOPRI_BODY_MAP") 1357) (PySem.Value.ref 53)), (PySem.DictEntry.mk (PySem.PyData.keyHash P (PySem.Str.ofString "ascii_lowercase")) (PySem.Value.str (PySem.Str.ofString "ascii_lowercase") 1359) (PySem.Value.str (PySem.Str.ofString "abcdefghijklmnopqrstuvwxyz") 1358)), (PySem.DictEntry.mk (PySem.PyData.keyHash P (PySem.Str.ofString "ascii_uppercase")) (PySem.Value.str (PySem.Str.ofString "ascii_uppercase") 1361) (PySem.Value.str (PySem.Str.ofString "ABCDEFGHIJKLMNOPQRSTUVWXYZ") 1360)), (PySem.DictEntry.mk (PySem.PyData.keyHash P (PySem.Str.ofString "ascii_letters")) (PySem.Value.str (PySem.Str.ofString "ascii_letters") 1363) (PySem.Value.str (PySem.Str.ofString "abcdefghijklmnopqrstuvwxyzABCDEFGHIJKLMNOPQRSTUVWXYZ") 1362)), (PySem.DictEntry.mk (PySem.PyData.keyHash P (PySem.Str.ofString "digits")) (PySem.Value.str (PySem.Str.ofString "digits") 1365) (PySem.Value.str (PySem.Str.ofString "0123456789") 1364)), (PySem.DictEntry.mk (PySem.PyData.keyHash P (PySem.Str.ofString "hexdigits")) (PySem.Value.str (PySem.Str.ofString "hexdigits") 1370) (PySem.Value.str (PySem.Str.ofString "0123456789abcdefABCDEF") 1369)), (PySem.DictEntry.mk (PySem.PyData.keyHash P (PySem.Str.ofString "c")) (PySem.Value.str (PySem.Str.ofString "c") 1381) (PySem.Value.int (9 : Int) 1867))] 22) #[])
noncomputable def ob103 (P : Params) : Obj := (PySem.Obj.mk (PySem.Value.type "list") none (PySem.Data.seq (up tq [(9, (PySem.Value.str (PySem.Str.ofString "\t") 1869)), (32, (PySem.Value.str (PySem.Str.ofString " ") 1587)), (33, (PySem.Value.str (PySem.Str.ofString "!") 1590)), (34, (PySem.Value.str (PySem.Str.ofString "\"") 1593)), (35, (PySem.Value.str (PySem.Str.ofString "#") 1596)), (36, (PySem.Value.str (PySem.Str.ofString "$") 1599)), (37, (PySem.Value.str (PySem.Str.ofString "%") 1602)), (38, (PySem.Value.str (PySem.Str.ofString "&") 1605)), (39, (PySem.Value.str (PySem.Str.ofString "'") 1608)), (40, (PySem.Value.str (PySem.Str.ofString "(") 1611)), (41, (PySem.Value.str (PySem.Str.ofString ")") 1614)), (42, (PySem.Value.str (PySem.Str.ofString "*") 1617)), (43, (PySem.Value.str (PySem.Str.ofString "+") 1620)), (44, (PySem.Value.str (PySem.Str.ofString ",") 1623)), (45, (PySem.Value.str (PySem.Str.ofString "-") 1626)), (46, (PySem.Value.str (PySem.Str.ofString ".") 1629)), (47, (PySem.Value.str (PySem.Str.ofString "/") 1632)), (48, (PySem.Value.str (PySem.Str.ofString "0") 1635)), (49, (PySem.Value.str (PySem.Str.ofString "1") 1638)), (50, (PySem.Value.str (PySem.Str.ofString "2") 1641)), (51, (PySem.Value.str (PySem.Str.ofString "3") 1644)), (52, (PySem.Value.str (PySem.Str.ofString "4") 1647)), (53, (PySem.Value.str (PySem.Str.ofString "5") 1650)), (54, (PySem.Value.str (PySem.Str.ofString "6") 1653)), (55, (PySem.Value.str (PySem.Str.ofString "7") 1656)), (56, (PySem.Value.str (PySem.Str.ofString "8") 1659)), (57, (PySem.Value.str (PySem.Str.ofString "9") 1662)), (58, (PySem.Value.str (PySem.Str.ofString ":") 1665)), (59, (PySem.Value.str (PySem.Str.ofString ";") 1668)), (60, (PySem.Value.str (PySem.Str.ofString "<") 1671)), (62, (PySem.Value.str (PySem.Str.ofString ">") 1674)), (63, (PySem.Value.str (PySem.Str.ofString "?") 1677)), (64, (PySem.Value.str (PySem.Str.ofString "@") 1680)), (65, (PySem.Value.str (PySem.Str.ofString "A") 1683)), (66, (PySem.Value.str (PySem.Str.ofString "B") 1686)), (67, (PySem.Value.str (PySem.Str.ofString "C") 1689)), (68, (PySem.Value.str (PySem.Str.ofString "D") 1692)), (69, (PySem.Value.str (PySem.Str.ofString "E") 1695)), (70, (PySem.Value.str (PySem.Str.ofString "F") 1698)), (71, (PySem.Value.str (PySem.Str.ofString "G") 1701)), (72, (PySem.Value.str (PySem.Str.ofString "H") 1704)), (73, (PySem.Value.str (PySem.Str.ofString "I") 1707)), (74, (PySem.Value.str (PySem.Str.ofString "J") 1710)), (75, (PySem.Value.str (PySem.Str.ofString "K") 1713)), (76, (PySem.Value.str (PySem.Str.ofString "L") 1716)), (77, (PySem.Value.str (PySem.Str.ofString "M") 1719)), (78, (PySem.Value.str (PySem.Str.ofString "N") 1722)), (79, (PySem.Value.str (PySem.Str.ofString "O") 1725)), (80, (PySem.Value.str (PySem.Str.ofString "P") 1728)), (81, (PySem.Value.str (PySem.Str.ofString "Q") 1731)), (82, (PySem.Value.str (PySem.Str.ofString "R") 1734)), (83, (PySem.Value.str (PySem.Str.ofString "S") 1737)), (84, (PySem.Value.str (PySem.Str.ofString "T") 1740)), (85, (PySem.Value.str (PySem.Str.ofString "U") 1743)), (86, (PySem.Value.str (PySem.Str.ofString "V") 1746)), (87, (PySem.Value.str (PySem.Str.ofString "W") 1749)), (88, (PySem.Value.str (PySem.Str.ofString "X") 1752)), (89, (PySem.Value.str (PySem.Str.ofString "Y") 1755)), (90, (PySem.Value.str (PySem.Str.ofString "Z") 1758)), (91, (PySem.Value.str (PySem.Str.ofString "[") 1761)), (92, (PySem.Value.str (PySem.Str.ofString "\\") 1764)), (93, (PySem.Value.str (PySem.Str.ofString "]") 1767)), (94, (PySem.Value.str (PySem.Str.ofString "^") 1770)), (95, (PySem.Value.str (PySem.Str.ofString "_") 1773)), (96, (PySem.Value.str (PySem.Str.ofString "`") 1776)), (97, (PySem.Value.str (PySem.Str.ofString "a") 1779)), (98, (PySem.Value.str (PySem.Str.ofString "b") 1782)), (99, (PySem.Value.str (PySem.Str.ofString "c") 1785)), (100, (PySem.Value.str (PySem.Str.ofString "d") 1788)), (101, (PySem.Value.str (PySem.Str.ofString "e") 1791)), (102, (PySem.Value.str (PySem.Str.ofString "f") 1794)), (103, (PySem.Value.str (PySem.Str.ofString "g") 1797)), (104, (PySem.Value.str (PySem.Str.ofString "h") 1800)), (105, (PySem.Value.str (PySem.Str.ofString "i") 1803)), (106, (PySem.Value.str (PySem.Str.ofString "j") 1806)), (107, (PySem.Value.str (PySem.Str.ofString "k") 1809)), (108, (PySem.Value.str (PySem.Str.ofString "l") 1812)), (109, (PySem.Value.str (PySem.Str.ofString "m") 1815)), (110, (PySem.Value.str (PySem.Str.ofString "n") 1818)), (111, (PySem.Value.str (PySem.Str.ofString "o") 1821)), (112, (PySem.Value.str (PySem.Str.ofString "p") 1824)), (113, (PySem.Value.str (PySem.Str.ofString "q") 1827)), (114, (PySem.Value.str (PySem.Str.ofString "r") 1830)), (115, (PySem.Value.str (PySem.Str.ofString "s") 1833)), (116, (PySem.Value.str (PySem.Str.ofString "t") 1836)), (117, (PySem.Value.str (PySem.Str.ofString "u") 1839)), (118, (PySem.Value.str (PySem.Str.ofString "v") 1842)), (119, (PySem.Value.str (PySem.Str.ofString "w") 1845)), (120, (PySem.Value.str (PySem.Str.ofString "x") 1848)), (121, (PySem.Value.str (PySem.Str.ofString "y") 1851)), (122, (PySem.Value.str (PySem.Str.ofString "z") 1854)), (123, (PySem.Value.str (PySem.Str.ofString "{") 1857)), (124, (PySem.Value.str (PySem.Str.ofString "|") 1860)), (125, (PySem.Value.str (PySem.Str.ofString "}") 1863)), (126, (PySem.Value.str (PySem.Str.ofString "~") 1866))]).toArray 0) #[])
noncomputable def ob104 (P : Params) : Obj := (PySem.Obj.mk (PySem.Value.type "bytes_iterator") none (PySem.Data.fields #[PySem.Value.none, (PySem.Value.int (95 : Int) 0)]) #[])
noncomputable def ob105 (P : Params) : Obj := (PySem.Obj.mk (PySem.Value.type "StopIteration") none (PySem.Data.fields #[(PySem.Value.ref 58), PySem.Value.none, PySem.Value.none, PySem.Value.none, (PySem.Value.bool Bool.false), PySem.Value.none]) #[])
noncomputable def tr5 (P : Params) : BT := (.node (ob0 P) (.node (ob1 P) (.node (ob102 P) (.node (ob7 P) (.node (ob7 P) (.node (ob29 P) .nil .nil) (.node (ob71 P) .nil .nil)) (.node (ob22 P) (.node (ob36 P) .nil .nil) (.node (ob7 P) .nil .nil))) (.node (ob27 P) (.node (ob18 P) (.node (ob7 P) .nil .nil) (.node (ob89 P) .nil .nil)) (.node (ob26 P) (.node (ob39 P) .nil .nil) (.node (ob105 P) .nil .nil)))) (.node (ob5 P) (.node (ob9 P) (.node (ob16 P) (.node (ob8 P) .nil .nil) (.node (ob72 P) .nil .nil)) (.node (ob24 P) (.node (ob37 P) .nil .nil) (.node (ob104 P) .nil .nil))) (.node (ob13 P) (.node (ob20 P) (.node (ob34 P) .nil .nil) (.node (ob103 P) .nil .nil)) (.node (ob31 P) (.node (ob69 P) .nil .nil) .nil)))) (.node (ob2 P) (.node (ob4 P) (.node (ob8 P) (.node (ob15 P) (.node (ob7 P) .nil .nil) (.node (ob7 P) .nil .nil)) (.node (ob23 P) (.node (ob6 P) .nil .nil) (.node (ob88 P) .nil .nil))) (.node (ob12 P) (.node (ob19 P) (.node (ob33 P) .nil .nil) (.node (ob74 P) .nil .nil)) (.node (ob7 P) (.node (ob40 P) .nil .nil) .nil))) (.node (ob6 P) (.node (ob10 P) (.node (ob17 P) (.node (ob32 P) .nil .nil) (.node (ob74 P) .nil .nil)) (.node (ob25 P) (.node (ob38 P) .nil .nil) (.node (ob7 P) .nil .nil))) (.node (ob14 P) (.node (ob21 P) (.node (ob35 P) .nil .nil) (.node (ob87 P) .nil .nil)) (.node (ob28 P) (.node (ob70 P) .nil .nil) .nil)))))
noncomputable abbrev st5 (w : World) (os : OsState) : SharedT := ⟨tr5 w.params, 60, (PySem.Life.mk [] [] [] 0 [] [] Bool.false #[] [] 0 Bool.false Bool.false Bool.false (0 : Int) [(2000 : Int), (10 : Int), (10 : Int)] Bool.false 0 Bool.true [] [] 0 Bool.false), ⟨[]⟩, (PySem.Drawn.mk 0 0 0 0), 1870, os⟩
noncomputable abbrev sts6 : List Stmt := [stm 17, stm 18, stm 19]
noncomputable abbrev th6 : Thread := piecesOf sts6 env cE ⟨23, 9, 23, 110⟩ B
noncomputable def ob106 (P : Params) : Obj := (PySem.Obj.mk (PySem.Value.type "dict") none (PySem.Data.dict #[(PySem.DictEntry.mk (PySem.PyData.keyHash P (PySem.Str.ofString "__name__")) (PySem.Value.str (PySem.Str.ofString "__name__") 165) (PySem.Value.str (PySem.Str.ofString "cpy313.email.quoprimime") 1371)), (PySem.DictEntry.mk (PySem.PyData.keyHash P (PySem.Str.ofString "__doc__")) (PySem.Value.str (PySem.Str.ofString "__doc__") 166) PySem.Value.none), (PySem.DictEntry.mk (PySem.PyData.keyHash P (PySem.Str.ofString "__package__")) (PySem.Value.str (PySem.Str.ofString "__package__") 167) PySem.Value.none), (PySem.DictEntry.mk (PySem.PyData.keyHash P (PySem.Str.ofString "__loader__")) (PySem.Value.str (PySem.Str.ofString "__loader__") 168) (PySem.Value.builtin "__main__.__loader__#op\u0061que")), (PySem.DictEntry.mk (PySem.PyData.keyHash P (PySem.Str.ofString "__spec__")) (PySem.Value.str (PySem.Str.ofString "__spec__") 169) PySem.Value.none), (PySem.DictEntry.mk (PySem.PyData.keyHash P (PySem.Str.ofString "__annotations__")) (PySem.Value.str (PySem.Str.ofString "__annotations__") 170) (PySem.Value.ref 6)), (PySem.DictEntry.mk (PySem.PyData.keyHash P (PySem.Str.ofString "__builtins__")) (PySem.Value.str (PySem.Str.ofString "__builtins__") 171) (PySem.Value.ref 4)), (PySem.DictEntry.mk (PySem.PyData.keyHash P (PySem.Str.ofString "__file__")) (PySem.Value.str (PySem.Str.ofString "__file__") 173) (PySem.Value.str (PySem.Str.ofString "/claim/cut.py") 172)), (PySem.DictEntry.mk (PySem.PyData.keyHash P (PySem.Str.ofString "__cached__")) (PySem.Value.str (PySem.Str.ofString "__cached__") 174) PySem.Value.none), (PySem.DictEntry.mk (PySem.PyData.keyHash P (PySem.Str.ofString "_sre")) (PySem.Value.str (PySem.Str.ofString "_sre") 275) (PySem.Value.ref 12)), (PySem.DictEntry.mk (PySem.PyData.keyHash P (PySem.Str.ofString "strip_quotes")) (PySem.Value.str (PySem.Str.ofString "strip_quotes") 290) (PySem.Value.ref 38)), (PySem.DictEntry.mk (PySem.PyData.keyHash P (PySem.Str.ofString "_twin_re_1")) (PySem.Value.str (PySem.Str.ofString "_twin_re_1") 325) (PySem.Value.ref 43)), (PySem.DictEntry.mk (PySem.PyData.keyHash P (PySem.Str.ofString "NL")) (PySem.Value.str (PySem.Str.ofString "NL") 327) (PySem.Value.str (PySem.Str.ofString "\n") 326)), (PySem.DictEntry.mk (PySem.PyData.keyHash P (PySem.Str.ofString "_QUOPRI_MAP")) (PySem.Value.str (PySem.Str.ofString "_QUOPRI_MAP") 1355) (PySem.Value.ref 46)), (PySem.DictEntry.mk (PySem.PyData.keyHash P (PySem.Str.ofString "_QUOPRI_HEADER_MAP")) (PySem.Value.str (PySem.Str.ofString "_QUOPRI_HEADER_MAP") 1356) (PySem.Value.ref 51)), (PySem.DictEntry.mk (PySem.PyData.keyHash P (PySem.Str.ofString "_QUOPRI_BODY_MAP")) (PySem.Value.str (PySem.Str.ofString "_QUOPRI_BODY_MAP") 1357) (PySem.Value.ref 53)), (PySem.DictEntry.mk (PySem.PyData.keyHash P (PySem.Str.ofString "ascii_lowercase")) (PySem.Value.str (PySem.Str.ofString "ascii_lowercase") 1359) (PySem.Value.str (PySem.Str.ofString "abcdefghijklmnopqrstuvwxyz") 1358)), (PySem.DictEntry.mk (PySem.PyData.keyHash P (PySem.Str.ofString "ascii_uppercase")) (PySem.Value.str (PySem.Str.ofString "ascii_uppercase") 1361) (PySem.Value.str (PySem.Str.ofString "ABCDEFGHIJKLMNOPQRSTUVWXYZ") 1360)), (PySem.DictEntry.mk (PySem.PyData.keyHash P (PySem.Str.ofString "ascii_letters")) (PySem.Value.str (PySem.Str.ofString "ascii_letters") 1363) (PySem.Value.str (PySem.Str.ofString "abcdefghijklmnopqrstuvwxyzABCDEFGHIJKLMNOPQRSTUVWXYZ") 1362)), (PySem.DictEntry.mk (PySem.PyData.keyHash P (PySem.Str.ofString "digits")) (PySem.Value.str (PySem.Str.ofString "digits") 1365) (PySem.Value.str (PySem.Str.ofString "0123456789") 1364)), (PySem.DictEntry.mk (PySem.PyData.keyHash P (PySem.Str.ofString "hexdigits")) (PySem.Value.str (PySem.Str.ofString "hexdigits") 1370) (PySem.Value.str (PySem.Str.ofString "0123456789abcdefABCDEF") 1369)), (PySem.DictEntry.mk (PySem.PyData.keyHash P (PySem.Str.ofString "c")) (PySem.Value.str (PySem.Str.ofString "c") 1381) (PySem.Value.int (9 : Int) 1867)), (PySem.DictEntry.mk (PySem.PyData.keyHash P (PySem.Str.ofString "unquote")) (PySem.Value.str (PySem.Str.ofString "unquote") 1876) (PySem.Value.ref 66)), (PySem.DictEntry.mk (PySem.PyData.keyHash P (PySem.Str.ofString "quote")) (PySem.Value.str (PySem.Str.ofString "quote") 1883) (PySem.Value.ref 73)), (PySem.DictEntry.mk (PySem.PyData.keyHash P (PySem.Str.ofString "_QUOPRI_BODY_ENCODE_MAP")) (PySem.Value.str (PySem.Str.ofString "_QUOPRI_BODY_ENCODE_MAP") 1884) (PySem.Value.ref 75))] 25) #[])
noncomputable def ob107 (P : Params) : Obj := (PySem.Obj.mk PySem.Value.none none (PySem.Data.fields #[(PySem.Value.int (3 : Int) 0), (PySem.Value.int (0 : Int) 0), (PySem.Value.ref 37), (PySem.Value.int (25 : Int) 0), (PySem.Value.int (0 : Int) 0), (PySem.Value.ref 65), (PySem.Value.int (27 : Int) 0), (PySem.Value.int (0 : Int) 0), (PySem.Value.ref 72)]) #[])
noncomputable def ob108 (P : Params) : Obj := (PySem.Obj.mk (PySem.Value.type "tuple") none (PySem.Data.seq #[(PySem.Value.str (PySem.Str.ofString "s") 1873)] 0) #[])
noncomputable def ob109 (P : Params) : Obj := (PySem.Obj.mk PySem.Value.none none (PySem.Data.func (PySem.FuncData.mk (PySem.Str.ofString "unquote") (PySem.Str.ofString "unquote") (fArgs (stm 17)) (PySem.FuncBody.stmts (fBody (stm 17))) (fScope (stm 17)) 0 [] PySem.Value.none PySem.Value.none PySem.Value.none PySem.Value.none none PySem.Value.none PySem.Value.none 0)) #[])
noncomputable def ob110 (P : Params) : Obj := (PySem.Obj.mk (PySem.Value.type "code") none (PySem.Data.fields #[(PySem.Value.str (PySem.Str.ofString "unquote") 1870), (PySem.Value.str (PySem.Str.ofString "unquote") 1871), (PySem.Value.str (PySem.Str.ofString "/claim/cut.py") 1872), (PySem.Value.int (25 : Int) 0), (PySem.Value.int (1 : Int) 0), (PySem.Value.int (0 : Int) 0), (PySem.Value.int (0 : Int) 0), (PySem.Value.int (3 : Int) 0), (PySem.Value.ref 60), (PySem.Value.bool Bool.true), (PySem.Value.int (276 : Int) 0), (PySem.Value.ref 61), PySem.Value.none, (PySem.Value.ref 62), (PySem.Value.ref 63), (PySem.Value.ref 64), (PySem.Value.int (1874 : Int) 0), (PySem.Value.int (25 : Int) 0), (PySem.Value.str (PySem.Str.ofString "/claim/cut.py") 1875)]) #[])
noncomputable def ob111 (P : Params) : Obj := (PySem.Obj.mk (PySem.Value.type "function") none (PySem.Data.func (PySem.FuncData.mk (PySem.Str.ofString "unquote") (PySem.Str.ofString "unquote") (fArgs (stm 17)) (PySem.FuncBody.stmts (fBody (stm 17))) (fScope (stm 17)) 3 [] PySem.Value.none PySem.Value.none PySem.Value.none (PySem.Value.str (PySem.Str.ofString "cpy313.email.quoprimime") 1371) none (PySem.Value.ref 65) PySem.Value.none 0)) #[])
noncomputable def ob112 (P : Params) : Obj := (PySem.Obj.mk (PySem.Value.type "tuple") none (PySem.Data.seq #[(PySem.Value.str (PySem.Str.ofString "c") 1880)] 0) #[])
noncomputable def ob113 (P : Params) : Obj := (PySem.Obj.mk PySem.Value.none none (PySem.Data.func (PySem.FuncData.mk (PySem.Str.ofString "quote") (PySem.Str.ofString "quote") (fArgs (stm 18)) (PySem.FuncBody.stmts (fBody (stm 18))) (fScope (stm 18)) 0 [] PySem.Value.none PySem.Value.none PySem.Value.none PySem.Value.none none PySem.Value.none PySem.Value.none 0)) #[])
noncomputable def ob114 (P : Params) : Obj := (PySem.Obj.mk (PySem.Value.type "code") none (PySem.Data.fields #[(PySem.Value.str (PySem.Str.ofString "quote") 1877), (PySem.Value.str (PySem.Str.ofString "quote") 1878), (PySem.Value.str (PySem.Str.ofString "/claim/cut.py") 1879), (PySem.Value.int (27 : Int) 0), (PySem.Value.int (1 : Int) 0), (PySem.Value.int (0 : Int) 0), (PySem.Value.int (0 : Int) 0), (PySem.Value.int (3 : Int) 0), (PySem.Value.ref 67), (PySem.Value.bool Bool.true), (PySem.Value.int (276 : Int) 0), (PySem.Value.ref 68), PySem.Value.none, (PySem.Value.ref 69), (PySem.Value.ref 70), (PySem.Value.ref 71), (PySem.Value.int (1881 : Int) 0), (PySem.Value.int (27 : Int) 0), (PySem.Value.str (PySem.Str.ofString "/claim/cut.py") 1882)]) #[])
noncomputable def ob115 (P : Params) : Obj := (PySem.Obj.mk (PySem.Value.type "function") none (PySem.Data.func (PySem.FuncData.mk (PySem.Str.ofString "quote") (PySem.Str.ofString "quote") (fArgs (stm 18)) (PySem.FuncBody.stmts (fBody (stm 18))) (fScope (stm 18)) 3 [] PySem.Value.none PySem.Value.none PySem.Value.none (PySem.Value.str (PySem.Str.ofString "cpy313.email.quoprimime") 1371) none (PySem.Value.ref 72) PySem.Value.none 0)) #[])
noncomputable def tr6 (P : Params) : BT := (.node (ob0 P) (.node (ob1 P) (.node (ob106 P) (.node (ob7 P) (.node (ob7 P) (.node (ob29 P) (.node (ob7 P) .nil .nil) .nil) (.node (ob71 P) .nil .nil)) (.node (ob22 P) (.node (ob36 P) (.node (ob113 P) .nil .nil) .nil) (.node (ob7 P) .nil .nil))) (.node (ob27 P) (.node (ob18 P) (.node (ob7 P) (.node (ob7 P) .nil .nil) .nil) (.node (ob89 P) .nil .nil)) (.node (ob26 P) (.node (ob39 P) (.node (ob103 P) .nil .nil) .nil) (.node (ob105 P) .nil .nil)))) (.node (ob5 P) (.node (ob9 P) (.node (ob16 P) (.node (ob8 P) (.node (ob110 P) .nil .nil) .nil) (.node (ob72 P) .nil .nil)) (.node (ob24 P) (.node (ob37 P) (.node (ob115 P) .nil .nil) .nil) (.node (ob104 P) .nil .nil))) (.node (ob13 P) (.node (ob20 P) (.node (ob34 P) (.node (ob112 P) .nil .nil) .nil) (.node (ob103 P) .nil .nil)) (.node (ob107 P) (.node (ob69 P) .nil .nil) (.node (ob8 P) .nil .nil))))) (.node (ob2 P) (.node (ob4 P) (.node (ob8 P) (.node (ob15 P) (.node (ob7 P) (.node (ob109 P) .nil .nil) .nil) (.node (ob7 P) .nil .nil)) (.node (ob23 P) (.node (ob6 P) (.node (ob114 P) .nil .nil) .nil) (.node (ob88 P) .nil .nil))) (.node (ob12 P) (.node (ob19 P) (.node (ob33 P) (.node (ob8 P) .nil .nil) .nil) (.node (ob74 P) .nil .nil)) (.node (ob7 P) (.node (ob40 P) .nil .nil) (.node (ob7 P) .nil .nil)))) (.node (ob6 P) (.node (ob10 P) (.node (ob17 P) (.node (ob32 P) (.node (ob111 P) .nil .nil) .nil) (.node (ob74 P) .nil .nil)) (.node (ob25 P) (.node (ob38 P) (.node (ob74 P) .nil .nil) .nil) (.node (ob7 P) .nil .nil))) (.node (ob14 P) (.node (ob21 P) (.node (ob35 P) (.node (ob7 P) .nil .nil) .nil) (.node (ob87 P) .nil .nil)) (.node (ob28 P) (.node (ob70 P) .nil .nil) (.node (ob108 P) .nil .nil))))))
noncomputable abbrev st6 (w : World) (os : OsState) : SharedT := ⟨tr6 w.params, 76, (PySem.Life.mk [] [] [] 0 [] [] Bool.false #[] [] 0 Bool.false Bool.false Bool.false (0 : Int) [(2000 : Int), (10 : Int), (10 : Int)] Bool.false 0 Bool.true [] [] 0 Bool.false), ⟨[]⟩, (PySem.Drawn.mk 0 0 0 0), 1885, os⟩
noncomputable abbrev sts7 : List Stmt := [stm 20]
noncomputable abbrev th7 : Thread := piecesOf sts7 env cE ⟨29, 0, 29, 23⟩ B
noncomputable def ob116 (P : Params) : Obj := (PySem.Obj.mk (PySem.Value.type "dict") none (PySem.Data.dict #[(PySem.DictEntry.mk (PySem.PyData.keyHash P (PySem.Str.ofString "__name__")) (PySem.Value.str (PySem.Str.ofString "__name__") 165) (PySem.Value.str (PySem.Str.ofString "cpy313.email.quoprimime") 1371)), (PySem.DictEntry.mk (PySem.PyData.keyHash P (PySem.Str.ofString "__doc__")) (PySem.Value.str (PySem.Str.ofString "__doc__") 166) PySem.Value.none), (PySem.DictEntry.mk (PySem.PyData.keyHash P (PySem.Str.ofString "__package__")) (PySem.Value.str (PySem.Str.ofString "__package__") 167) PySem.Value.none), (PySem.DictEntry.mk (PySem.PyData.keyHash P (PySem.Str.ofString "__loader__")) (PySem.Value.str (PySem.Str.ofString "__loader__") 168) (PySem.Value.builtin "__main__.__loader__#op\u0061que")), (PySem.DictEntry.mk (PySem.PyData.keyHash P (PySem.Str.ofString "__spec__")) (PySem.Value.str (PySem.Str.ofString "__spec__") 169) PySem.Value.none), (PySem.DictEntry.mk (PySem.PyData.keyHash P (PySem.Str.ofString "__annotations__")) (PySem.Value.str (PySem.Str.ofString "__annotations__") 170) (PySem.Value.ref 6)), (PySem.DictEntry.mk (PySem.PyData.keyHash P (PySem.Str.ofString "__builtins__")) (PySem.Value.str (PySem.Str.ofString "__builtins__") 171) (PySem.Value.ref 4)), (PySem.DictEntry.mk (PySem.PyData.keyHash P (PySem.Str.ofString "__file__")) (PySem.Value.str (PySem.Str.ofString "__file__") 173) (PySem.Value.str (PySem.Str.ofString "/claim/cut.py") 172)), (PySem.DictEntry.mk (PySem.PyData.keyHash P (PySem.Str.ofString "__cached__")) (PySem.Value.str (PySem.Str.ofString "__cached__") 174) PySem.Value.none), (PySem.DictEntry.mk (PySem.PyData.keyHash P (PySem.Str.ofString "_sre")) (PySem.Value.str (PySem.Str.ofString "_sre") 275) (PySem.Value.ref 12)), (PySem.DictEntry.mk (PySem.PyData.keyHash P (PySem.Str.ofString "strip_quotes")) (PySem.Value.str (PySem.Str.ofString "strip_quotes") 290) (PySem.Value.ref 38)), (PySem.DictEntry.mk (PySem.PyData.keyHash P (PySem.Str.ofString "_twin_re_1")) (PySem.Value.str (PySem.Str.ofString "_twin_re_1") 325) (PySem.Value.ref 43)), (PySem.DictEntry.mk (PySem.PyData.keyHash P (PySem.Str.ofString "NL")) (PySem.Value.str (PySem.Str.ofString "NL") 327) (PySem.Value.str (PySem.Str.ofString "\n") 326)), (PySem.DictEntry.mk (PySem.PyData.keyHash P (PySem.Str.ofString "_QUOPRI_MAP")) (PySem.Value.str (PySem.Str.ofString "_QUOPRI_MAP") 1355) (PySem.Value.ref 46)), (PySem.DictEntry.mk (PySem.PyData.keyHash P (PySem.Str.ofString "_QUOPRI_HEADER_MAP")) (PySem.Value.str (PySem.Str.ofString "_QUOPRI_HEADER_MAP") 1356) (PySem.Value.ref 51)), (PySem.DictEntry.mk (PySem.PyData.keyHash P (PySem.Str.ofString "_QUOPRI_BODY_MAP")) (PySem.Value.str (PySem.Str.ofString "_QUOPRI_BODY_MAP") 1357) (PySem.Value.ref 53)), (PySem.DictEntry.mk (PySem.PyData.keyHash P (PySem.Str.ofString "ascii_lowercase")) (PySem.Value.str (PySem.Str.ofString "ascii_lowercase") 1359) (PySem.Value.str (PySem.Str.ofString "abcdefghijklmnopqrstuvwxyz") 1358)), (PySem.DictEntry.mk (PySem.PyData.keyHash P (PySem.Str.ofString "ascii_uppercase")) (PySem.Value.str (PySem.Str.ofString "ascii_uppercase") 1361) (PySem.Value.str (PySem.Str.ofString "ABCDEFGHIJKLMNOPQRSTUVWXYZ") 1360)), (PySem.DictEntry.mk (PySem.PyData.keyHash P (PySem.Str.ofString "ascii_letters")) (PySem.Value.str (PySem.Str.ofString "ascii_letters") 1363) (PySem.Value.str (PySem.Str.ofString "abcdefghijklmnopqrstuvwxyzABCDEFGHIJKLMNOPQRSTUVWXYZ") 1362)), (PySem.DictEntry.mk (PySem.PyData.keyHash P (PySem.Str.ofString "digits")) (PySem.Value.str (PySem.Str.ofString "digits") 1365) (PySem.Value.str (PySem.Str.ofString "0123456789") 1364)), (PySem.DictEntry.mk (PySem.PyData.keyHash P (PySem.Str.ofString "hexdigits")) (PySem.Value.str (PySem.Str.ofString "hexdigits") 1370) (PySem.Value.str (PySem.Str.ofString "0123456789abcdefABCDEF") 1369)), (PySem.DictEntry.mk (PySem.PyData.keyHash P (PySem.Str.ofString "c")) (PySem.Value.str (PySem.Str.ofString "c") 1381) (PySem.Value.int (10 : Int) 1889)), (PySem.DictEntry.mk (PySem.PyData.keyHash P (PySem.Str.ofString "unquote")) (PySem.Value.str (PySem.Str.ofString "unquote") 1876) (PySem.Value.ref 66)), (PySem.DictEntry.mk (PySem.PyData.keyHash P (PySem.Str.ofString "quote")) (PySem.Value.str (PySem.Str.ofString "quote") 1883) (PySem.Value.ref 73)), (PySem.DictEntry.mk (PySem.PyData.keyHash P (PySem.Str.ofString "_QUOPRI_BODY_ENCODE_MAP")) (PySem.Value.str (PySem.Str.ofString "_QUOPRI_BODY_ENCODE_MAP") 1884) (PySem.Value.ref 75))] 25) #[])
noncomputable def ob117 (P : Params) : Obj := (PySem.Obj.mk (PySem.Value.type "list") none (PySem.Data.seq (up tq [(9, (PySem.Value.str (PySem.Str.ofString "\t") 1869)), (10, (PySem.Value.str (PySem.Str.ofString "\n") 1891)), (13, (PySem.Value.str (PySem.Str.ofString "\x0d") 1888)), (32, (PySem.Value.str (PySem.Str.ofString " ") 1587)), (33, (PySem.Value.str (PySem.Str.ofString "!") 1590)), (34, (PySem.Value.str (PySem.Str.ofString "\"") 1593)), (35, (PySem.Value.str (PySem.Str.ofString "#") 1596)), (36, (PySem.Value.str (PySem.Str.ofString "$") 1599)), (37, (PySem.Value.str (PySem.Str.ofString "%") 1602)), (38, (PySem.Value.str (PySem.Str.ofString "&") 1605)), (39, (PySem.Value.str (PySem.Str.ofString "'") 1608)), (40, (PySem.Value.str (PySem.Str.ofString "(") 1611)), (41, (PySem.Value.str (PySem.Str.ofString ")") 1614)), (42, (PySem.Value.str (PySem.Str.ofString "*") 1617)), (43, (PySem.Value.str (PySem.Str.ofString "+") 1620)), (44, (PySem.Value.str (PySem.Str.ofString ",") 1623)), (45, (PySem.Value.str (PySem.Str.ofString "-") 1626)), (46, (PySem.Value.str (PySem.Str.ofString ".") 1629)), (47, (PySem.Value.str (PySem.Str.ofString "/") 1632)), (48, (PySem.Value.str (PySem.Str.ofString "0") 1635)), (49, (PySem.Value.str (PySem.Str.ofString "1") 1638)), (50, (PySem.Value.str (PySem.Str.ofString "2") 1641)), (51, (PySem.Value.str (PySem.Str.ofString "3") 1644)), (52, (PySem.Value.str (PySem.Str.ofString "4") 1647)), (53, (PySem.Value.str (PySem.Str.ofString "5") 1650)), (54, (PySem.Value.str (PySem.Str.ofString "6") 1653)), (55, (PySem.Value.str (PySem.Str.ofString "7") 1656)), (56, (PySem.Value.str (PySem.Str.ofString "8") 1659)), (57, (PySem.Value.str (PySem.Str.ofString "9") 1662)), (58, (PySem.Value.str (PySem.Str.ofString ":") 1665)), (59, (PySem.Value.str (PySem.Str.ofString ";") 1668)), (60, (PySem.Value.str (PySem.Str.ofString "<") 1671)), (62, (PySem.Value.str (PySem.Str.ofString ">") 1674)), (63, (PySem.Value.str (PySem.Str.ofString "?") 1677)), (64, (PySem.Value.str (PySem.Str.ofString "@") 1680)), (65, (PySem.Value.str (PySem.Str.ofString "A") 1683)), (66, (PySem.Value.str (PySem.Str.ofString "B") 1686)), (67, (PySem.Value.str (PySem.Str.ofString "C") 1689)), (68, (PySem.Value.str (PySem.Str.ofString "D") 1692)), (69, (PySem.Value.str (PySem.Str.ofString "E") 1695)), (70, (PySem.Value.str (PySem.Str.ofString "F") 1698)), (71, (PySem.Value.str (PySem.Str.ofString "G") 1701)), (72, (PySem.Value.str (PySem.Str.ofString "H") 1704)), (73, (PySem.Value.str (PySem.Str.ofString "I") 1707)), (74, (PySem.Value.str (PySem.Str.ofString "J") 1710)), (75, (PySem.Value.str (PySem.Str.ofString "K") 1713)), (76, (PySem.Value.str (PySem.Str.ofString "L") 1716)), (77, (PySem.Value.str (PySem.Str.ofString "M") 1719)), (78, (PySem.Value.str (PySem.Str.ofString "N") 1722)), (79, (PySem.Value.str (PySem.Str.ofString "O") 1725)), (80, (PySem.Value.str (PySem.Str.ofString "P") 1728)), (81, (PySem.Value.str (PySem.Str.ofString "Q") 1731)), (82, (PySem.Value.str (PySem.Str.ofString "R") 1734)), (83, (PySem.Value.str (PySem.Str.ofString "S") 1737)), (84, (PySem.Value.str (PySem.Str.ofString "T") 1740)), (85, (PySem.Value.str (PySem.Str.ofString "U") 1743)), (86, (PySem.Value.str (PySem.Str.ofString "V") 1746)), (87, (PySem.Value.str (PySem.Str.ofString "W") 1749)), (88, (PySem.Value.str (PySem.Str.ofString "X") 1752)), (89, (PySem.Value.str (PySem.Str.ofString "Y") 1755)), (90, (PySem.Value.str (PySem.Str.ofString "Z") 1758)), (91, (PySem.Value.str (PySem.Str.ofString "[") 1761)), (92, (PySem.Value.str (PySem.Str.ofString "\\") 1764)), (93, (PySem.Value.str (PySem.Str.ofString "]") 1767)), (94, (PySem.Value.str (PySem.Str.ofString "^") 1770)), (95, (PySem.Value.str (PySem.Str.ofString "_") 1773)), (96, (PySem.Value.str (PySem.Str.ofString "`") 1776)), (97, (PySem.Value.str (PySem.Str.ofString "a") 1779)), (98, (PySem.Value.str (PySem.Str.ofString "b") 1782)), (99, (PySem.Value.str (PySem.Str.ofString "c") 1785)), (100, (PySem.Value.str (PySem.Str.ofString "d") 1788)), (101, (PySem.Value.str (PySem.Str.ofString "e") 1791)), (102, (PySem.Value.str (PySem.Str.ofString "f") 1794)), (103, (PySem.Value.str (PySem.Str.ofString "g") 1797)), (104, (PySem.Value.str (PySem.Str.ofString "h") 1800)), (105, (PySem.Value.str (PySem.Str.ofString "i") 1803)), (106, (PySem.Value.str (PySem.Str.ofString "j") 1806)), (107, (PySem.Value.str (PySem.Str.ofString "k") 1809)), (108, (PySem.Value.str (PySem.Str.ofString "l") 1812)), (109, (PySem.Value.str (PySem.Str.ofString "m") 1815)), (110, (PySem.Value.str (PySem.Str.ofString "n") 1818)), (111, (PySem.Value.str (PySem.Str.ofString "o") 1821)), (112, (PySem.Value.str (PySem.Str.ofString "p") 1824)), (113, (PySem.Value.str (PySem.Str.ofString "q") 1827)), (114, (PySem.Value.str (PySem.Str.ofString "r") 1830)), (115, (PySem.Value.str (PySem.Str.ofString "s") 1833)), (116, (PySem.Value.str (PySem.Str.ofString "t") 1836)), (117, (PySem.Value.str (PySem.Str.ofString "u") 1839)), (118, (PySem.Value.str (PySem.Str.ofString "v") 1842)), (119, (PySem.Value.str (PySem.Str.ofString "w") 1845)), (120, (PySem.Value.str (PySem.Str.ofString "x") 1848)), (121, (PySem.Value.str (PySem.Str.ofString "y") 1851)), (122, (PySem.Value.str (PySem.Str.ofString "z") 1854)), (123, (PySem.Value.str (PySem.Str.ofString "{") 1857)), (124, (PySem.Value.str (PySem.Str.ofString "|") 1860)), (125, (PySem.Value.str (PySem.Str.ofString "}") 1863)), (126, (PySem.Value.str (PySem.Str.ofString "~") 1866))]).toArray 0) #[])
noncomputable def ob118 (P : Params) : Obj := (PySem.Obj.mk (PySem.Value.type "bytes_iterator") none (PySem.Data.fields #[PySem.Value.none, (PySem.Value.int (2 : Int) 0)]) #[])
noncomputable def ob119 (P : Params) : Obj := (PySem.Obj.mk (PySem.Value.type "StopIteration") none (PySem.Data.fields #[(PySem.Value.ref 77), PySem.Value.none, PySem.Value.none, PySem.Value.none, (PySem.Value.bool Bool.false), PySem.Value.none]) #[])
noncomputable def tr7 (P : Params) : BT := (.node (ob0 P) (.node (ob1 P) (.node (ob116 P) (.node (ob7 P) (.node (ob7 P) (.node (ob29 P) (.node (ob7 P) .nil .nil) .nil) (.node (ob71 P) .nil .nil)) (.node (ob22 P) (.node (ob36 P) (.node (ob113 P) .nil .nil) .nil) (.node (ob7 P) .nil .nil))) (.node (ob27 P) (.node (ob18 P) (.node (ob7 P) (.node (ob7 P) .nil .nil) .nil) (.node (ob89 P) .nil .nil)) (.node (ob26 P) (.node (ob39 P) (.node (ob117 P) .nil .nil) .nil) (.node (ob105 P) .nil .nil)))) (.node (ob5 P) (.node (ob9 P) (.node (ob16 P) (.node (ob8 P) (.node (ob110 P) .nil .nil) .nil) (.node (ob72 P) .nil .nil)) (.node (ob24 P) (.node (ob37 P) (.node (ob115 P) .nil .nil) .nil) (.node (ob104 P) .nil .nil))) (.node (ob13 P) (.node (ob20 P) (.node (ob34 P) (.node (ob112 P) .nil .nil) .nil) (.node (ob103 P) .nil .nil)) (.node (ob107 P) (.node (ob69 P) (.node (ob7 P) .nil .nil) .nil) (.node (ob8 P) .nil .nil))))) (.node (ob2 P) (.node (ob4 P) (.node (ob8 P) (.node (ob15 P) (.node (ob7 P) (.node (ob109 P) .nil .nil) .nil) (.node (ob7 P) .nil .nil)) (.node (ob23 P) (.node (ob6 P) (.node (ob114 P) .nil .nil) .nil) (.node (ob88 P) .nil .nil))) (.node (ob12 P) (.node (ob19 P) (.node (ob33 P) (.node (ob8 P) .nil .nil) .nil) (.node (ob74 P) .nil .nil)) (.node (ob7 P) (.node (ob40 P) (.node (ob118 P) .nil .nil) .nil) (.node (ob7 P) .nil .nil)))) (.node (ob6 P) (.node (ob10 P) (.node (ob17 P) (.node (ob32 P) (.node (ob111 P) .nil .nil) .nil) (.node (ob74 P) .nil .nil)) (.node (ob25 P) (.node (ob38 P) (.node (ob74 P) .nil .nil) .nil) (.node (ob7 P) .nil .nil))) (.node (ob14 P) (.node (ob21 P) (.node (ob35 P) (.node (ob7 P) .nil .nil) .nil) (.node (ob87 P) .nil .nil)) (.node (ob28 P) (.node (ob70 P) (.node (ob119 P) .nil .nil) .nil) (.node (ob108 P) .nil .nil))))))
noncomputable abbrev st7 (w : World) (os : OsState) : SharedT := ⟨tr7 w.params, 79, (PySem.Life.mk [] [] [] 0 [] [] Bool.false #[] [] 0 Bool.false Bool.false Bool.false (0 : Int) [(2000 : Int), (10 : Int), (10 : Int)] Bool.false 0 Bool.true [] [] 0 Bool.false), ⟨[]⟩, (PySem.Drawn.mk 0 0 0 0), 1892, os⟩
noncomputable abbrev sts8 : List Stmt := [stm 21, stm 22, stm 23, stm 24, stm 25, stm 26, stm 27, stm 28, stm 29]
noncomputable abbrev th8 : Thread := piecesOf sts8 env cE ⟨30, 9, 30, 16⟩ B
noncomputable def ob120 (P : Params) : Obj := (PySem.Obj.mk (PySem.Value.type "dict") none (PySem.Data.dict #[(PySem.DictEntry.mk (PySem.PyData.keyHash P (PySem.Str.ofString "__name__")) (PySem.Value.str (PySem.Str.ofString "__name__") 165) (PySem.Value.str (PySem.Str.ofString "law_qu0008_01") 1920)), (PySem.DictEntry.mk (PySem.PyData.keyHash P (PySem.Str.ofString "__doc__")) (PySem.Value.str (PySem.Str.ofString "__doc__") 166) PySem.Value.none), (PySem.DictEntry.mk (PySem.PyData.keyHash P (PySem.Str.ofString "__package__")) (PySem.Value.str (PySem.Str.ofString "__package__") 167) PySem.Value.none), (PySem.DictEntry.mk (PySem.PyData.keyHash P (PySem.Str.ofString "__loader__")) (PySem.Value.str (PySem.Str.ofString "__loader__") 168) (PySem.Value.builtin "__main__.__loader__#op\u0061que")), (PySem.DictEntry.mk (PySem.PyData.keyHash P (PySem.Str.ofString "__spec__")) (PySem.Value.str (PySem.Str.ofString "__spec__") 169) PySem.Value.none), (PySem.DictEntry.mk (PySem.PyData.keyHash P (PySem.Str.ofString "__annotations__")) (PySem.Value.str (PySem.Str.ofString "__annotations__") 170) (PySem.Value.ref 6)), (PySem.DictEntry.mk (PySem.PyData.keyHash P (PySem.Str.ofString "__builtins__")) (PySem.Value.str (PySem.Str.ofString "__builtins__") 171) (PySem.Value.ref 4)), (PySem.DictEntry.mk (PySem.PyData.keyHash P (PySem.Str.ofString "__file__")) (PySem.Value.str (PySem.Str.ofString "__file__") 173) (PySem.Value.str (PySem.Str.ofString "/claim/cut.py") 172)), (PySem.DictEntry.mk (PySem.PyData.keyHash P (PySem.Str.ofString "__cached__")) (PySem.Value.str (PySem.Str.ofString "__cached__") 174) PySem.Value.none), (PySem.DictEntry.mk (PySem.PyData.keyHash P (PySem.Str.ofString "_sre")) (PySem.Value.str (PySem.Str.ofString "_sre") 275) (PySem.Value.ref 12)), (PySem.DictEntry.mk (PySem.PyData.keyHash P (PySem.Str.ofString "strip_quotes")) (PySem.Value.str (PySem.Str.ofString "strip_quotes") 290) (PySem.Value.ref 38)), (PySem.DictEntry.mk (PySem.PyData.keyHash P (PySem.Str.ofString "_twin_re_1")) (PySem.Value.str (PySem.Str.ofString "_twin_re_1") 325) (PySem.Value.ref 43)), (PySem.DictEntry.mk (PySem.PyData.keyHash P (PySem.Str.ofString "NL")) (PySem.Value.str (PySem.Str.ofString "NL") 327) (PySem.Value.str (PySem.Str.ofString "\n") 326)), (PySem.DictEntry.mk (PySem.PyData.keyHash P (PySem.Str.ofString "_QUOPRI_MAP")) (PySem.Value.str (PySem.Str.ofString "_QUOPRI_MAP") 1355) (PySem.Value.ref 46)), (PySem.DictEntry.mk (PySem.PyData.keyHash P (PySem.Str.ofString "_QUOPRI_HEADER_MAP")) (PySem.Value.str (PySem.Str.ofString "_QUOPRI_HEADER_MAP") 1356) (PySem.Value.ref 51)), (PySem.DictEntry.mk (PySem.PyData.keyHash P (PySem.Str.ofString "_QUOPRI_BODY_MAP")) (PySem.Value.str (PySem.Str.ofString "_QUOPRI_BODY_MAP") 1357) (PySem.Value.ref 53)), (PySem.DictEntry.mk (PySem.PyData.keyHash P (PySem.Str.ofString "ascii_lowercase")) (PySem.Value.str (PySem.Str.ofString "ascii_lowercase") 1359) (PySem.Value.str (PySem.Str.ofString "abcdefghijklmnopqrstuvwxyz") 1358)), (PySem.DictEntry.mk (PySem.PyData.keyHash P (PySem.Str.ofString "ascii_uppercase")) (PySem.Value.str (PySem.Str.ofString "ascii_uppercase") 1361) (PySem.Value.str (PySem.Str.ofString "ABCDEFGHIJKLMNOPQRSTUVWXYZ") 1360)), (PySem.DictEntry.mk (PySem.PyData.keyHash P (PySem.Str.ofString "ascii_letters")) (PySem.Value.str (PySem.Str.ofString "ascii_letters") 1363) (PySem.Value.str (PySem.Str.ofString "abcdefghijklmnopqrstuvwxyzABCDEFGHIJKLMNOPQRSTUVWXYZ") 1362)), (PySem.DictEntry.mk (PySem.PyData.keyHash P (PySem.Str.ofString "digits")) (PySem.Value.str (PySem.Str.ofString "digits") 1365) (PySem.Value.str (PySem.Str.ofString "0123456789") 1364)), (PySem.DictEntry.mk (PySem.PyData.keyHash P (PySem.Str.ofString "hexdigits")) (PySem.Value.str (PySem.Str.ofString "hexdigits") 1370) (PySem.Value.str (PySem.Str.ofString "0123456789abcdefABCDEF") 1369)), (PySem.DictEntry.mk (PySem.PyData.keyHash P (PySem.Str.ofString "unquote")) (PySem.Value.str (PySem.Str.ofString "unquote") 1876) (PySem.Value.ref 66)), (PySem.DictEntry.mk (PySem.PyData.keyHash P (PySem.Str.ofString "quote")) (PySem.Value.str (PySem.Str.ofString "quote") 1883) (PySem.Value.ref 73)), (PySem.DictEntry.mk (PySem.PyData.keyHash P (PySem.Str.ofString "_QUOPRI_BODY_ENCODE_MAP")) (PySem.Value.str (PySem.Str.ofString "_QUOPRI_BODY_ENCODE_MAP") 1884) (PySem.Value.ref 75)), (PySem.DictEntry.mk (PySem.PyData.keyHash P (PySem.Str.ofString "decode")) (PySem.Value.str (PySem.Str.ofString "decode") 1904) (PySem.Value.ref 86)), (PySem.DictEntry.mk (PySem.PyData.keyHash P (PySem.Str.ofString "_unquote_match")) (PySem.Value.str (PySem.Str.ofString "_unquote_match") 1912) (PySem.Value.ref 93)), (PySem.DictEntry.mk (PySem.PyData.keyHash P (PySem.Str.ofString "header_decode")) (PySem.Value.str (PySem.Str.ofString "header_decode") 1919) (PySem.Value.ref 100)), (PySem.DictEntry.mk (PySem.PyData.keyHash P (PySem.Str.ofString "_law_mark")) (PySem.Value.str (PySem.Str.ofString "_law_mark") 1930) (PySem.Value.ref 107)), (PySem.DictEntry.mk (PySem.PyData.keyHash P (PySem.Str.ofString "_law_told")) (PySem.Value.str (PySem.Str.ofString "_law_told") 1936) (PySem.Value.ref 112)), (PySem.DictEntry.mk (PySem.PyData.keyHash P (PySem.Str.ofString "_law_gone")) (PySem.Value.str (PySem.Str.ofString "_law_gone") 1942) (PySem.Value.ref 117)), (PySem.DictEntry.mk (PySem.PyData.keyHash P (PySem.Str.ofString "law")) (PySem.Value.str (PySem.Str.ofString "law") 1948) (PySem.Value.ref 122))] 33) #[])
noncomputable def ob121 (P : Params) : Obj := (PySem.Obj.mk PySem.Value.none none (PySem.Data.fields #[(PySem.Value.int (3 : Int) 0), (PySem.Value.int (0 : Int) 0), (PySem.Value.ref 37), (PySem.Value.int (25 : Int) 0), (PySem.Value.int (0 : Int) 0), (PySem.Value.ref 65), (PySem.Value.int (27 : Int) 0), (PySem.Value.int (0 : Int) 0), (PySem.Value.ref 72), (PySem.Value.int (33 : Int) 0), (PySem.Value.int (0 : Int) 0), (PySem.Value.ref 85), (PySem.Value.int (63 : Int) 0), (PySem.Value.int (0 : Int) 0), (PySem.Value.ref 92), (PySem.Value.int (66 : Int) 0), (PySem.Value.int (0 : Int) 0), (PySem.Value.ref 99), (PySem.Value.int (70 : Int) 0), (PySem.Value.int (0 : Int) 0), (PySem.Value.ref 106), (PySem.Value.int (75 : Int) 0), (PySem.Value.int (0 : Int) 0), (PySem.Value.ref 111), (PySem.Value.int (77 : Int) 0), (PySem.Value.int (0 : Int) 0), (PySem.Value.ref 116), (PySem.Value.int (82 : Int) 0), (PySem.Value.int (0 : Int) 0), (PySem.Value.ref 121)]) #[])
noncomputable def ob122 (P : Params) : Obj := (PySem.Obj.mk (PySem.Value.type "tuple") none (PySem.Data.seq #[(PySem.Value.str (PySem.Str.ofString "\n") 326)] 0) #[])
noncomputable def ob123 (P : Params) : Obj := (PySem.Obj.mk (PySem.Value.type "tuple") none (PySem.Data.seq #[(PySem.Value.str (PySem.Str.ofString "encoded") 1895), (PySem.Value.str (PySem.Str.ofString "eol") 1896), (PySem.Value.str (PySem.Str.ofString "decoded") 1897), (PySem.Value.str (PySem.Str.ofString "line") 1898), (PySem.Value.str (PySem.Str.ofString "i") 1899), (PySem.Value.str (PySem.Str.ofString "n") 1900), (PySem.Value.str (PySem.Str.ofString "c") 1901)] 0) #[])
noncomputable def ob124 (P : Params) : Obj := (PySem.Obj.mk PySem.Value.none none (PySem.Data.func (PySem.FuncData.mk (PySem.Str.ofString "decode") (PySem.Str.ofString "decode") (fArgs (stm 22)) (PySem.FuncBody.stmts (fBody (stm 22))) (fScope (stm 22)) 0 [] PySem.Value.none PySem.Value.none PySem.Value.none PySem.Value.none none PySem.Value.none PySem.Value.none 0)) #[])
noncomputable def ob125 (P : Params) : Obj := (PySem.Obj.mk (PySem.Value.type "code") none (PySem.Data.fields #[(PySem.Value.str (PySem.Str.ofString "decode") 1892), (PySem.Value.str (PySem.Str.ofString "decode") 1893), (PySem.Value.str (PySem.Str.ofString "/claim/cut.py") 1894), (PySem.Value.int (33 : Int) 0), (PySem.Value.int (2 : Int) 0), (PySem.Value.int (0 : Int) 0), (PySem.Value.int (0 : Int) 0), (PySem.Value.int (3 : Int) 0), (PySem.Value.ref 80), (PySem.Value.bool Bool.true), (PySem.Value.int (276 : Int) 0), (PySem.Value.ref 81), PySem.Value.none, (PySem.Value.ref 82), (PySem.Value.ref 83), (PySem.Value.ref 84), (PySem.Value.int (1902 : Int) 0), (PySem.Value.int (33 : Int) 0), (PySem.Value.str (PySem.Str.ofString "/claim/cut.py") 1903)]) #[])
noncomputable def ob126 (P : Params) : Obj := (PySem.Obj.mk (PySem.Value.type "function") none (PySem.Data.func (PySem.FuncData.mk (PySem.Str.ofString "decode") (PySem.Str.ofString "decode") (fArgs (stm 22)) (PySem.FuncBody.stmts (fBody (stm 22))) (fScope (stm 22)) 3 [] (PySem.Value.ref 79) PySem.Value.none PySem.Value.none (PySem.Value.str (PySem.Str.ofString "cpy313.email.quoprimime") 1371) none (PySem.Value.ref 85) PySem.Value.none 0)) #[])
noncomputable def ob127 (P : Params) : Obj := (PySem.Obj.mk (PySem.Value.type "tuple") none (PySem.Data.seq #[(PySem.Value.str (PySem.Str.ofString "match") 1908), (PySem.Value.str (PySem.Str.ofString "s") 1909)] 0) #[])
noncomputable def ob128 (P : Params) : Obj := (PySem.Obj.mk PySem.Value.none none (PySem.Data.func (PySem.FuncData.mk (PySem.Str.ofString "_unquote_match") (PySem.Str.ofString "_unquote_match") (fArgs (stm 23)) (PySem.FuncBody.stmts (fBody (stm 23))) (fScope (stm 23)) 0 [] PySem.Value.none PySem.Value.none PySem.Value.none PySem.Value.none none PySem.Value.none PySem.Value.none 0)) #[])
noncomputable def ob129 (P : Params) : Obj := (PySem.Obj.mk (PySem.Value.type "code") none (PySem.Data.fields #[(PySem.Value.str (PySem.Str.ofString "_unquote_match") 1905), (PySem.Value.str (PySem.Str.ofString "_unquote_match") 1906), (PySem.Value.str (PySem.Str.ofString "/claim/cut.py") 1907), (PySem.Value.int (63 : Int) 0), (PySem.Value.int (1 : Int) 0), (PySem.Value.int (0 : Int) 0), (PySem.Value.int (0 : Int) 0), (PySem.Value.int (3 : Int) 0), (PySem.Value.ref 87), (PySem.Value.bool Bool.true), (PySem.Value.int (276 : Int) 0), (PySem.Value.ref 88), PySem.Value.none, (PySem.Value.ref 89), (PySem.Value.ref 90), (PySem.Value.ref 91), (PySem.Value.int (1910 : Int) 0), (PySem.Value.int (63 : Int) 0), (PySem.Value.str (PySem.Str.ofString "/claim/cut.py") 1911)]) #[])
noncomputable def ob130 (P : Params) : Obj := (PySem.Obj.mk (PySem.Value.type "function") none (PySem.Data.func (PySem.FuncData.mk (PySem.Str.ofString "_unquote_match") (PySem.Str.ofString "_unquote_match") (fArgs (stm 23)) (PySem.FuncBody.stmts (fBody (stm 23))) (fScope (stm 23)) 3 [] PySem.Value.none PySem.Value.none PySem.Value.none (PySem.Value.str (PySem.Str.ofString "cpy313.email.quoprimime") 1371) none (PySem.Value.ref 92) PySem.Value.none 0)) #[])
noncomputable def ob131 (P : Params) : Obj := (PySem.Obj.mk (PySem.Value.type "tuple") none (PySem.Data.seq #[(PySem.Value.str (PySem.Str.ofString "s") 1916)] 0) #[])
noncomputable def ob132 (P : Params) : Obj := (PySem.Obj.mk PySem.Value.none none (PySem.Data.func (PySem.FuncData.mk (PySem.Str.ofString "header_decode") (PySem.Str.ofString "header_decode") (fArgs (stm 24)) (PySem.FuncBody.stmts (fBody (stm 24))) (fScope (stm 24)) 0 [] PySem.Value.none PySem.Value.none PySem.Value.none PySem.Value.none none PySem.Value.none PySem.Value.none 0)) #[])
noncomputable def ob133 (P : Params) : Obj := (PySem.Obj.mk (PySem.Value.type "code") none (PySem.Data.fields #[(PySem.Value.str (PySem.Str.ofString "header_decode") 1913), (PySem.Value.str (PySem.Str.ofString "header_decode") 1914), (PySem.Value.str (PySem.Str.ofString "/claim/cut.py") 1915), (PySem.Value.int (66 : Int) 0), (PySem.Value.int (1 : Int) 0), (PySem.Value.int (0 : Int) 0), (PySem.Value.int (0 : Int) 0), (PySem.Value.int (3 : Int) 0), (PySem.Value.ref 94), (PySem.Value.bool Bool.true), (PySem.Value.int (276 : Int) 0), (PySem.Value.ref 95), PySem.Value.none, (PySem.Value.ref 96), (PySem.Value.ref 97), (PySem.Value.ref 98), (PySem.Value.int (1917 : Int) 0), (PySem.Value.int (66 : Int) 0), (PySem.Value.str (PySem.Str.ofString "/claim/cut.py") 1918)]) #[])
noncomputable def ob134 (P : Params) : Obj := (PySem.Obj.mk (PySem.Value.type "function") none (PySem.Data.func (PySem.FuncData.mk (PySem.Str.ofString "header_decode") (PySem.Str.ofString "header_decode") (fArgs (stm 24)) (PySem.FuncBody.stmts (fBody (stm 24))) (fScope (stm 24)) 3 [] PySem.Value.none PySem.Value.none PySem.Value.none (PySem.Value.str (PySem.Str.ofString "cpy313.email.quoprimime") 1371) none (PySem.Value.ref 99) PySem.Value.none 0)) #[])
noncomputable def ob135 (P : Params) : Obj := (PySem.Obj.mk (PySem.Value.type "tuple") none (PySem.Data.seq #[(PySem.Value.str (PySem.Str.ofString "coats") 1925), (PySem.Value.str (PySem.Str.ofString "mark") 1926), (PySem.Value.str (PySem.Str.ofString "turn") 1927)] 0) #[])
noncomputable def ob136 (P : Params) : Obj := (PySem.Obj.mk PySem.Value.none none (PySem.Data.func (PySem.FuncData.mk (PySem.Str.ofString "_law_mark") (PySem.Str.ofString "_law_mark") (fArgs (stm 26)) (PySem.FuncBody.stmts (fBody (stm 26))) (fScope (stm 26)) 0 [] PySem.Value.none PySem.Value.none PySem.Value.none PySem.Value.none none PySem.Value.none PySem.Value.none 0)) #[])
noncomputable def ob137 (P : Params) : Obj := (PySem.Obj.mk (PySem.Value.type "code") none (PySem.Data.fields #[(PySem.Value.str (PySem.Str.ofString "_law_mark") 1922), (PySem.Value.str (PySem.Str.ofString "_law_mark") 1923), (PySem.Value.str (PySem.Str.ofString "/claim/cut.py") 1924), (PySem.Value.int (70 : Int) 0), (PySem.Value.int (1 : Int) 0), (PySem.Value.int (0 : Int) 0), (PySem.Value.int (0 : Int) 0), (PySem.Value.int (3 : Int) 0), (PySem.Value.ref 101), (PySem.Value.bool Bool.true), (PySem.Value.int (276 : Int) 0), (PySem.Value.ref 102), PySem.Value.none, (PySem.Value.ref 103), (PySem.Value.ref 104), (PySem.Value.ref 105), (PySem.Value.int (1928 : Int) 0), (PySem.Value.int (70 : Int) 0), (PySem.Value.str (PySem.Str.ofString "/claim/cut.py") 1929)]) #[])
noncomputable def ob138 (P : Params) : Obj := (PySem.Obj.mk (PySem.Value.type "function") none (PySem.Data.func (PySem.FuncData.mk (PySem.Str.ofString "_law_mark") (PySem.Str.ofString "_law_mark") (fArgs (stm 26)) (PySem.FuncBody.stmts (fBody (stm 26))) (fScope (stm 26)) 3 [] PySem.Value.none PySem.Value.none PySem.Value.none (PySem.Value.str (PySem.Str.ofString "law_qu0008_01") 1920) none (PySem.Value.ref 106) PySem.Value.none 0)) #[])
noncomputable def ob139 (P : Params) : Obj := (PySem.Obj.mk PySem.Value.none none (PySem.Data.func (PySem.FuncData.mk (PySem.Str.ofString "_law_told") (PySem.Str.ofString "_law_told") (fArgs (stm 27)) (PySem.FuncBody.stmts (fBody (stm 27))) (fScope (stm 27)) 0 [] PySem.Value.none PySem.Value.none PySem.Value.none PySem.Value.none none PySem.Value.none PySem.Value.none 0)) #[])
noncomputable def ob140 (P : Params) : Obj := (PySem.Obj.mk (PySem.Value.type "code") none (PySem.Data.fields #[(PySem.Value.str (PySem.Str.ofString "_law_told") 1931), (PySem.Value.str (PySem.Str.ofString "_law_told") 1932), (PySem.Value.str (PySem.Str.ofString "/claim/cut.py") 1933), (PySem.Value.int (75 : Int) 0), (PySem.Value.int (2 : Int) 0), (PySem.Value.int (0 : Int) 0), (PySem.Value.int (0 : Int) 0), (PySem.Value.int (3 : Int) 0), (PySem.Value.ref 108), (PySem.Value.bool Bool.true), (PySem.Value.int (276 : Int) 0), (PySem.Value.ref 109), PySem.Value.none, PySem.Value.none, PySem.Value.none, (PySem.Value.ref 110), (PySem.Value.int (1934 : Int) 0), (PySem.Value.int (75 : Int) 0), (PySem.Value.str (PySem.Str.ofString "/claim/cut.py") 1935)]) #[])
noncomputable def ob141 (P : Params) : Obj := (PySem.Obj.mk (PySem.Value.type "function") none (PySem.Data.func (PySem.FuncData.mk (PySem.Str.ofString "_law_told") (PySem.Str.ofString "_law_told") (fArgs (stm 27)) (PySem.FuncBody.stmts (fBody (stm 27))) (fScope (stm 27)) 3 [] PySem.Value.none PySem.Value.none PySem.Value.none (PySem.Value.str (PySem.Str.ofString "law_qu0008_01") 1920) none (PySem.Value.ref 111) PySem.Value.none 0)) #[])
noncomputable def ob142 (P : Params) : Obj := (PySem.Obj.mk PySem.Value.none none (PySem.Data.func (PySem.FuncData.mk (PySem.Str.ofString "_law_gone") (PySem.Str.ofString "_law_gone") (fArgs (stm 28)) (PySem.FuncBody.stmts (fBody (stm 28))) (fScope (stm 28)) 0 [] PySem.Value.none PySem.Value.none PySem.Value.none PySem.Value.none none PySem.Value.none PySem.Value.none 0)) #[])
noncomputable def ob143 (P : Params) : Obj := (PySem.Obj.mk (PySem.Value.type "code") none (PySem.Data.fields #[(PySem.Value.str (PySem.Str.ofString "_law_gone") 1937), (PySem.Value.str (PySem.Str.ofString "_law_gone") 1938), (PySem.Value.str (PySem.Str.ofString "/claim/cut.py") 1939), (PySem.Value.int (77 : Int) 0), (PySem.Value.int (2 : Int) 0), (PySem.Value.int (0 : Int) 0), (PySem.Value.int (0 : Int) 0), (PySem.Value.int (3 : Int) 0), (PySem.Value.ref 113), (PySem.Value.bool Bool.true), (PySem.Value.int (276 : Int) 0), (PySem.Value.ref 114), PySem.Value.none, PySem.Value.none, PySem.Value.none, (PySem.Value.ref 115), (PySem.Value.int (1940 : Int) 0), (PySem.Value.int (77 : Int) 0), (PySem.Value.str (PySem.Str.ofString "/claim/cut.py") 1941)]) #[])
noncomputable def ob144 (P : Params) : Obj := (PySem.Obj.mk (PySem.Value.type "function") none (PySem.Data.func (PySem.FuncData.mk (PySem.Str.ofString "_law_gone") (PySem.Str.ofString "_law_gone") (fArgs (stm 28)) (PySem.FuncBody.stmts (fBody (stm 28))) (fScope (stm 28)) 3 [] PySem.Value.none PySem.Value.none PySem.Value.none (PySem.Value.str (PySem.Str.ofString "law_qu0008_01") 1920) none (PySem.Value.ref 116) PySem.Value.none 0)) #[])
noncomputable def ob145 (P : Params) : Obj := (PySem.Obj.mk PySem.Value.none none (PySem.Data.func (PySem.FuncData.mk (PySem.Str.ofString "law") (PySem.Str.ofString "law") (fArgs (stm 29)) (PySem.FuncBody.stmts (fBody (stm 29))) (fScope (stm 29)) 0 [] PySem.Value.none PySem.Value.none PySem.Value.none PySem.Value.none none PySem.Value.none PySem.Value.none 0)) #[])
noncomputable def ob146 (P : Params) : Obj := (PySem.Obj.mk (PySem.Value.type "code") none (PySem.Data.fields #[(PySem.Value.str (PySem.Str.ofString "law") 1943), (PySem.Value.str (PySem.Str.ofString "law") 1944), (PySem.Value.str (PySem.Str.ofString "/claim/cut.py") 1945), (PySem.Value.int (82 : Int) 0), (PySem.Value.int (1 : Int) 0), (PySem.Value.int (0 : Int) 0), (PySem.Value.int (0 : Int) 0), (PySem.Value.int (3 : Int) 0), (PySem.Value.ref 118), (PySem.Value.bool Bool.true), (PySem.Value.int (276 : Int) 0), (PySem.Value.ref 119), PySem.Value.none, PySem.Value.none, PySem.Value.none, (PySem.Value.ref 120), (PySem.Value.int (1946 : Int) 0), (PySem.Value.int (82 : Int) 0), (PySem.Value.str (PySem.Str.ofString "/claim/cut.py") 1947)]) #[])
noncomputable def ob147 (P : Params) : Obj := (PySem.Obj.mk (PySem.Value.type "function") none (PySem.Data.func (PySem.FuncData.mk (PySem.Str.ofString "law") (PySem.Str.ofString "law") (fArgs (stm 29)) (PySem.FuncBody.stmts (fBody (stm 29))) (fScope (stm 29)) 3 [] PySem.Value.none PySem.Value.none PySem.Value.none (PySem.Value.str (PySem.Str.ofString "law_qu0008_01") 1920) none (PySem.Value.ref 121) PySem.Value.none 0)) #[])
noncomputable def tr8 (P : Params) : BT := (.node (ob0 P) (.node (ob1 P) (.node (ob120 P) (.node (ob7 P) (.node (ob7 P) (.node (ob29 P) (.node (ob7 P) .nil .nil) (.node (ob8 P) .nil .nil)) (.node (ob71 P) (.node (ob122 P) .nil .nil) (.node (ob140 P) .nil .nil))) (.node (ob22 P) (.node (ob36 P) (.node (ob113 P) .nil .nil) (.node (ob135 P) .nil .nil)) (.node (ob7 P) (.node (ob7 P) .nil .nil) (.node (ob8 P) .nil .nil)))) (.node (ob27 P) (.node (ob18 P) (.node (ob7 P) (.node (ob7 P) .nil .nil) (.node (ob133 P) .nil .nil)) (.node (ob89 P) (.node (ob7 P) .nil .nil) (.node (ob142 P) .nil .nil))) (.node (ob26 P) (.node (ob39 P) (.node (ob117 P) .nil .nil) (.node (ob138 P) .nil .nil)) (.node (ob105 P) (.node (ob128 P) .nil .nil) .nil)))) (.node (ob5 P) (.node (ob9 P) (.node (ob16 P) (.node (ob8 P) (.node (ob110 P) .nil .nil) (.node (ob7 P) .nil .nil)) (.node (ob72 P) (.node (ob8 P) .nil .nil) (.node (ob7 P) .nil .nil))) (.node (ob24 P) (.node (ob37 P) (.node (ob115 P) .nil .nil) (.node (ob136 P) .nil .nil)) (.node (ob104 P) (.node (ob127 P) .nil .nil) (.node (ob146 P) .nil .nil)))) (.node (ob13 P) (.node (ob20 P) (.node (ob34 P) (.node (ob112 P) .nil .nil) (.node (ob7 P) .nil .nil)) (.node (ob103 P) (.node (ob125 P) .nil .nil) (.node (ob144 P) .nil .nil))) (.node (ob121 P) (.node (ob69 P) (.node (ob7 P) .nil .nil) (.node (ob8 P) .nil .nil)) (.node (ob8 P) (.node (ob130 P) .nil .nil) .nil))))) (.node (ob2 P) (.node (ob4 P) (.node (ob8 P) (.node (ob15 P) (.node (ob7 P) (.node (ob109 P) .nil .nil) (.node (ob131 P) .nil .nil)) (.node (ob7 P) (.node (ob7 P) .nil .nil) (.node (ob141 P) .nil .nil))) (.node (ob23 P) (.node (ob6 P) (.node (ob114 P) .nil .nil) (.node (ob7 P) .nil .nil)) (.node (ob88 P) (.node (ob8 P) .nil .nil) (.node (ob145 P) .nil .nil)))) (.node (ob12 P) (.node (ob19 P) (.node (ob33 P) (.node (ob8 P) .nil .nil) (.node (ob134 P) .nil .nil)) (.node (ob74 P) (.node (ob124 P) .nil .nil) (.node (ob143 P) .nil .nil))) (.node (ob7 P) (.node (ob40 P) (.node (ob118 P) .nil .nil) (.node (ob7 P) .nil .nil)) (.node (ob7 P) (.node (ob129 P) .nil .nil) .nil)))) (.node (ob6 P) (.node (ob10 P) (.node (ob17 P) (.node (ob32 P) (.node (ob111 P) .nil .nil) (.node (ob132 P) .nil .nil)) (.node (ob74 P) (.node (ob123 P) .nil .nil) (.node (ob8 P) .nil .nil))) (.node (ob25 P) (.node (ob38 P) (.node (ob74 P) .nil .nil) (.node (ob137 P) .nil .nil)) (.node (ob7 P) (.node (ob7 P) .nil .nil) (.node (ob147 P) .nil .nil)))) (.node (ob14 P) (.node (ob21 P) (.node (ob35 P) (.node (ob7 P) .nil .nil) (.node (ob8 P) .nil .nil)) (.node (ob87 P) (.node (ob126 P) .nil .nil) (.node (ob7 P) .nil .nil))) (.node (ob28 P) (.node (ob70 P) (.node (ob119 P) .nil .nil) (.node (ob139 P) .nil .nil)) (.node (ob108 P) (.node (ob7 P) .nil .nil) .nil))))))
noncomputable abbrev st8 (w : World) (os : OsState) : SharedT := ⟨tr8 w.params, 123, (PySem.Life.mk [] [] [] 0 [] [] Bool.false #[] [] 0 Bool.false Bool.false Bool.false (0 : Int) [(2000 : Int), (10 : Int), (10 : Int)] Bool.false 0 Bool.true [] [] 0 Bool.false), ⟨[]⟩, (PySem.Drawn.mk 0 0 0 0), 1949, os⟩
noncomputable def viewP : Program := { Pp with main := { Pp.main with body := [stm 0, stm 2, stm 3, stm 4, stm 5, stm 6, stm 7, stm 8, stm 9, stm 10, stm 11, stm 12, stm 17, stm 18, stm 19, stm 23, stm 24, stm 26, stm 27, stm 28, stm 29] } }
noncomputable abbrev loose : List Str := [Str.ofString "_twin_re_1", Str.ofString "_QUOPRI_MAP", Str.ofString "_QUOPRI_HEADER_MAP", Str.ofString "_QUOPRI_BODY_MAP", Str.ofString "ascii_letters", Str.ofString "hexdigits", Str.ofString "_QUOPRI_BODY_ENCODE_MAP", Str.ofString "decode"]
noncomputable abbrev lv : List (Str × WData) := [(Str.ofString "ascii_letters", (PySem.W.WData.str (PySem.Str.mk #[97, 98, 99, 100, 101, 102, 103, 104, 105, 106, 107, 108, 109, 110, 111, 112, 113, 114, 115, 116, 117, 118, 119, 120, 121, 122, 65, 66, 67, 68, 69, 70, 71, 72, 73, 74, 75, 76, 77, 78, 79, 80, 81, 82, 83, 84, 85, 86, 87, 88, 89, 90]))), (Str.ofString "hexdigits", (PySem.W.WData.str (PySem.Str.mk #[48, 49, 50, 51, 52, 53, 54, 55, 56, 57, 97, 98, 99, 100, 101, 102, 65, 66, 67, 68, 69, 70])))]
noncomputable def frag : Params → Frag := fun P => ((nat_lit 2), ob2 P) :: ((nat_lit 3), ob120 P) :: ((nat_lit 6), ob6 P) :: ((nat_lit 11), ob27 P) :: ((nat_lit 12), ob12 P) :: ((nat_lit 32), ob7 P) :: ((nat_lit 34), ob32 P) :: ((nat_lit 35), ob7 P) :: ((nat_lit 37), ob34 P) :: ((nat_lit 38), ob35 P) :: ((nat_lit 42), ob38 P) :: ((nat_lit 43), ob39 P) :: ((nat_lit 46), ob70 P) :: ((nat_lit 51), ob89 P) :: ((nat_lit 53), ob103 P) :: ((nat_lit 60), ob7 P) :: ((nat_lit 62), ob108 P) :: ((nat_lit 63), ob7 P) :: ((nat_lit 65), ob110 P) :: ((nat_lit 66), ob111 P) :: ((nat_lit 67), ob7 P) :: ((nat_lit 69), ob112 P) :: ((nat_lit 70), ob7 P) :: ((nat_lit 72), ob114 P) :: ((nat_lit 73), ob115 P) :: ((nat_lit 75), ob117 P) :: ((nat_lit 79), ob122 P) :: ((nat_lit 80), ob7 P) :: ((nat_lit 82), ob123 P) :: ((nat_lit 83), ob7 P) :: ((nat_lit 85), ob125 P) :: ((nat_lit 86), ob126 P) :: ((nat_lit 87), ob7 P) :: ((nat_lit 89), ob127 P) :: ((nat_lit 90), ob7 P) :: ((nat_lit 92), ob129 P) :: ((nat_lit 93), ob130 P) :: ((nat_lit 94), ob7 P) :: ((nat_lit 96), ob131 P) :: ((nat_lit 97), ob7 P) :: ((nat_lit 99), ob133 P) :: ((nat_lit 100), ob134 P) :: ((nat_lit 101), ob7 P) :: ((nat_lit 103), ob135 P) :: ((nat_lit 104), ob7 P) :: ((nat_lit 106), ob137 P) :: ((nat_lit 107), ob138 P) :: ((nat_lit 108), ob7 P) :: ((nat_lit 111), ob140 P) :: ((nat_lit 112), ob141 P) :: ((nat_lit 113), ob7 P) :: ((nat_lit 116), ob143 P) :: ((nat_lit 117), ob144 P) :: ((nat_lit 118), ob7 P) :: ((nat_lit 121), ob146 P) :: ((nat_lit 122), ob147 P) :: []
noncomputable abbrev fas : List Addr := [(nat_lit 2), (nat_lit 3), (nat_lit 6), (nat_lit 11), (nat_lit 12), (nat_lit 32), (nat_lit 34), (nat_lit 35), (nat_lit 37), (nat_lit 38), (nat_lit 42), (nat_lit 43), (nat_lit 46), (nat_lit 51), (nat_lit 53), (nat_lit 60), (nat_lit 62), (nat_lit 63), (nat_lit 65), (nat_lit 66), (nat_lit 67), (nat_lit 69), (nat_lit 70), (nat_lit 72), (nat_lit 73), (nat_lit 75), (nat_lit 79), (nat_lit 80), (nat_lit 82), (nat_lit 83), (nat_lit 85), (nat_lit 86), (nat_lit 87), (nat_lit 89), (nat_lit 90), (nat_lit 92), (nat_lit 93), (nat_lit 94), (nat_lit 96), (nat_lit 97), (nat_lit 99), (nat_lit 100), (nat_lit 101), (nat_lit 103), (nat_lit 104), (nat_lit 106), (nat_lit 107), (nat_lit 108), (nat_lit 111), (nat_lit 112), (nat_lit 113), (nat_lit 116), (nat_lit 117), (nat_lit 118), (nat_lit 121), (nat_lit 122)]
-- N 35392 final 8
end
end Mine
end

/-! QTopP -/
section
open PySem PySem.W PyProof.Rows PySem.Calls
set_option maxRecDepth 100000
set_option maxHeartbeats 0
namespace Mine
noncomputable section
theorem eGo : @segGoT = @PySem.W.Fast.tw10295753902157049106 := PySem.W.Fast.te10295753902157049106
theorem eRun : @segRunT = @PySem.W.Fast.tw10110043849684766642 := PySem.W.Fast.te10110043849684766642
theorem eTb : treeTable = PySem.W.Fast.tw14364793385576792824 := PySem.W.Fast.te14364793385576792824
theorem eDen : @denote = @PySem.W.Fast.tw11892475500146522536 := PySem.W.Fast.te11892475500146522536
theorem eTopGo : @topGo = @PySem.W.Fast.tw15667345088766844465 := PySem.W.Fast.te15667345088766844465
theorem eTopRun : @topRun = @PySem.W.Fast.tw14082659384304107361 := PySem.W.Fast.te14082659384304107361
theorem eSegRun : @segRun = @PySem.W.Fast.tw14374325043358763698 := PySem.W.Fast.te14374325043358763698
theorem eImp : @importEnds = @PySem.W.Fast.tw10274390034422433532 := PySem.W.Fast.te10274390034422433532
theorem eFence : @fenceModules? = @PySem.W.Fast.tw14289696077712309145 := PySem.W.Fast.te14289696077712309145
theorem eStart : @start = @PySem.W.Fast.tw1435165496053646825 := PySem.W.Fast.te1435165496053646825
theorem imp_ok (w : World) : importEnds treeTable (opening Pp) w 799 (start (opening Pp)).1 (start (opening Pp)).2 = some ⟨absHeap (trE w.params) 28 (PySem.Life.mk [] [] [] 0 [] [] Bool.false #[] [] 0 Bool.false Bool.false Bool.false (0 : Int) [(2000 : Int), (10 : Int), (10 : Int)] Bool.false 0 Bool.true [] [] 0 Bool.false), ⟨[]⟩, (PySem.Drawn.mk 0 0 0 0), 276, (start (opening Pp)).1.os⟩ := by rewrite [eImp, eTb, eStart]; kernel_rfl
theorem fence_ok (w : World) : (fun os => (fenceModules? Pp ⟨absHeap (trE w.params) 28 (PySem.Life.mk [] [] [] 0 [] [] Bool.false #[] [] 0 Bool.false Bool.false Bool.false (0 : Int) [(2000 : Int), (10 : Int), (10 : Int)] Bool.false 0 Bool.true [] [] 0 Bool.false), ⟨[]⟩, (PySem.Drawn.mk 0 0 0 0), 276, os⟩).map (fun s => (s.heap, s.gens, s.drawn, s.toks))) = fun _ => some (absHeap (trZ w.params) 28 (PySem.Life.mk [] [] [] 0 [] [] Bool.false #[] [] 0 Bool.false Bool.false Bool.false (0 : Int) [(2000 : Int), (10 : Int), (10 : Int)] Bool.false 0 Bool.true [] [] 0 Bool.false), ⟨[]⟩, (PySem.Drawn.mk 0 0 0 0), 276) := by rewrite [eFence]; kernel_rfl
theorem open_ok : ∀ w : World, (fencedOpening treeTable Pp w 35392).map (fun s => (s.heap, s.gens, s.drawn, s.toks)) = some (absHeap (trZ w.params) 28 (PySem.Life.mk [] [] [] 0 [] [] Bool.false #[] [] 0 Bool.false Bool.false Bool.false (0 : Int) [(2000 : Int), (10 : Int), (10 : Int)] Bool.false 0 Bool.true [] [] 0 Bool.false), ⟨[]⟩, (PySem.Drawn.mk 0 0 0 0), 276) := open_cut (He := fun P => absHeap (trE P) 28 (PySem.Life.mk [] [] [] 0 [] [] Bool.false #[] [] 0 Bool.false Bool.false Bool.false (0 : Int) [(2000 : Int), (10 : Int), (10 : Int)] Bool.false 0 Bool.true [] [] 0 Bool.false)) (H₀ := fun P => absHeap (trZ P) 28 (PySem.Life.mk [] [] [] 0 [] [] Bool.false #[] [] 0 Bool.false Bool.false Bool.false (0 : Int) [(2000 : Int), (10 : Int), (10 : Int)] Bool.false 0 Bool.true [] [] 0 Bool.false)) imp_ok (by decide) fence_ok
theorem pre_ok (w : World) (os : OsState) : topGo treeTable Pp w 28 ann 12 (stZ w os).abs (topStub Pp) = some ((stB w os).abs, ⟨denote treeTable cE, cE, ⟨0, 0, 0, 0⟩, B⟩) := by rewrite [eTopGo, eDen, eTb]; kernel_rfl
theorem blk_ok (w : World) (os : OsState) : segRun treeTable Pp w 28 ann 1 1 (stB w os).abs (blockOf bE env cE ⟨0, 0, 0, 0⟩ B) = some (.next, (stB w os).abs, cE, ⟨0, 0, 0, 0⟩) := by kernel_rfl
theorem size_ok (w : World) : ((absHeap (trZ w.params) 28 (PySem.Life.mk [] [] [] 0 [] [] Bool.false #[] [] 0 Bool.false Bool.false Bool.false (0 : Int) [(2000 : Int), (10 : Int), (10 : Int)] Bool.false 0 Bool.true [] [] 0 Bool.false)).isNs mainGlobals && (⟨[]⟩ : Array GenState).size == 0, (absHeap (trZ w.params) 28 (PySem.Life.mk [] [] [] 0 [] [] Bool.false #[] [] 0 Bool.false Bool.false Bool.false (0 : Int) [(2000 : Int), (10 : Int), (10 : Int)] Bool.false 0 Bool.true [] [] 0 Bool.false)).objs.size, (absHeap (trZ w.params) 28 (PySem.Life.mk [] [] [] 0 [] [] Bool.false #[] [] 0 Bool.false Bool.false Bool.false (0 : Int) [(2000 : Int), (10 : Int), (10 : Int)] Bool.false 0 Bool.true [] [] 0 Bool.false)).nsMap mainGlobals "__annotations__") = (true, 28, ann) := by kernel_rfl
theorem pl0 (w : World) : ∀ os, segRunT treeTable Pp w 28 ann 1 129 (stB w os) th0 = some (.next, st0 w os, cE, ⟨10, 0, 10, 2⟩) := fun os => by rewrite [eRun, eTb]; kernel_rfl
theorem g0 (w : World) (os : OsState) : segRun treeTable Pp w 28 ann 1 129 (stB w os).abs th0 = some (.next, (st0 w os).abs, cE, ⟨10, 0, 10, 2⟩) :=
  (segRun_of (pl0 w os))
theorem p1c0false (w : World) : F1c0 88 (w.withFollow "comprehension-iter-twice" false) :=
  byRow2 "special-get-raises" (P := fun w => F1c0 88 (w.withFollow "comprehension-iter-twice" false)) (fun w os => by rewrite [eGo, eTb]; kernel_rfl) (fun w os => by rewrite [eGo, eTb]; kernel_rfl) w
theorem p1c0true (w : World) : F1c0 78 (w.withFollow "comprehension-iter-twice" true) :=
  byRow2 "special-get-raises" (P := fun w => F1c0 78 (w.withFollow "comprehension-iter-twice" true)) (fun w os => by rewrite [eGo, eTb]; kernel_rfl) (fun w os => by rewrite [eGo, eTb]; kernel_rfl) w
theorem p1c1 (w : World) : ∀ os, segGoT treeTable Pp w 28 ann 1 1110 (st1c0 w os) (thr1 w os) = some (st1c1 w os, thr1 w os) := fun os => by rewrite [eGo, eTb]; kernel_rfl
theorem p1c2 (w : World) : ∀ os, segGoT treeTable Pp w 28 ann 1 1110 (st1c1 w os) (thr1 w os) = some (st1c2 w os, thr1 w os) := fun os => by rewrite [eGo, eTb]; kernel_rfl
theorem p1c3 (w : World) : ∀ os, segGoT treeTable Pp w 28 ann 1 1110 (st1c2 w os) (thr1 w os) = some (st1c3 w os, thr1 w os) := fun os => by rewrite [eGo, eTb]; kernel_rfl
theorem p1c4 (w : World) : ∀ os, segGoT treeTable Pp w 28 ann 1 1110 (st1c3 w os) (thr1 w os) = some (st1c4 w os, thr1 w os) := fun os => by rewrite [eGo, eTb]; kernel_rfl
theorem p1c5 (w : World) : ∀ os, segGoT treeTable Pp w 28 ann 1 1110 (st1c4 w os) (thr1 w os) = some (st1c5 w os, thr1 w os) := fun os => by rewrite [eGo, eTb]; kernel_rfl
theorem p1c6 (w : World) : ∀ os, segGoT treeTable Pp w 28 ann 1 1110 (st1c5 w os) (thr1 w os) = some (st1c6 w os, thr1 w os) := fun os => by rewrite [eGo, eTb]; kernel_rfl
theorem p1c7 (w : World) : ∀ os, segGoT treeTable Pp w 28 ann 1 1110 (st1c6 w os) (thr1 w os) = some (st1c7 w os, thr1 w os) := fun os => by rewrite [eGo, eTb]; kernel_rfl
theorem p1c8 (w : World) : ∀ os, segGoT treeTable Pp w 28 ann 1 1110 (st1c7 w os) (thr1 w os) = some (st1c8 w os, thr1 w os) := fun os => by rewrite [eGo, eTb]; kernel_rfl
theorem pl1 (w : World) : ∀ os, segRunT treeTable Pp w 28 ann 1 584 (st1c8 w os) (thr1 w os) = some (.next, st1 w os, cE, ⟨11, 0, 11, 11⟩) := fun os => by rewrite [eRun, eTb]; kernel_rfl
theorem pm1 (w : World) : ∀ os, segRunT treeTable Pp w 28 ann 1 594 (st1c8 w os) (thr1 w os) = some (.next, st1 w os, cE, ⟨11, 0, 11, 11⟩) := fun os => by rewrite [eRun, eTb]; kernel_rfl
theorem g1b (w : World) (os : OsState) : segRun treeTable Pp w 28 ann 1 (1110 + (1110 + (1110 + (1110 + (1110 + (1110 + (1110 + (1110 + 594)))))))) (st1c0 w os).abs (thr1 w os) = some (.next, (st1 w os).abs, cE, ⟨11, 0, 11, 11⟩) :=
  (seg_go (segGo_of (p1c1 w os)) (seg_go (segGo_of (p1c2 w os)) (seg_go (segGo_of (p1c3 w os)) (seg_go (segGo_of (p1c4 w os)) (seg_go (segGo_of (p1c5 w os)) (seg_go (segGo_of (p1c6 w os)) (seg_go (segGo_of (p1c7 w os)) (seg_go (segGo_of (p1c8 w os)) (segRun_of (pm1 w os))))))))))
theorem g1a (w : World) (os : OsState) : segRun treeTable Pp w 28 ann 1 (1110 + (1110 + (1110 + (1110 + (1110 + (1110 + (1110 + (1110 + 584)))))))) (st1c0 w os).abs (thr1 w os) = some (.next, (st1 w os).abs, cE, ⟨11, 0, 11, 11⟩) :=
  (seg_go (segGo_of (p1c1 w os)) (seg_go (segGo_of (p1c2 w os)) (seg_go (segGo_of (p1c3 w os)) (seg_go (segGo_of (p1c4 w os)) (seg_go (segGo_of (p1c5 w os)) (seg_go (segGo_of (p1c6 w os)) (seg_go (segGo_of (p1c7 w os)) (seg_go (segGo_of (p1c8 w os)) (segRun_of (pl1 w os))))))))))
theorem g1c (w : World) : R1 w :=
  byRow2 "comprehension-iter-twice" (P := R1) (fun w os => seg_go (n := 88) (N := (1110 + (1110 + (1110 + (1110 + (1110 + (1110 + (1110 + (1110 + 584))))))))) (segGo_of (p1c0false w os)) (g1a _ os)) (fun w os => seg_go (n := 78) (N := (1110 + (1110 + (1110 + (1110 + (1110 + (1110 + (1110 + (1110 + 594))))))))) (segGo_of (p1c0true w os)) (g1b _ os)) w
theorem g1 (w : World) (os : OsState) : segRun treeTable Pp w 28 ann 1 9552 (st0 w os).abs th1 = some (.next, (st1 w os).abs, cE, ⟨11, 0, 11, 11⟩) := g1c w os
theorem pl2 (w : World) : ∀ os, segRunT treeTable Pp w 28 ann 1 140 (st1 w os) th2 = some (.next, st2 w os, cE, ⟨19, 0, 19, 8⟩) := fun os => by rewrite [eRun, eTb]; kernel_rfl
theorem g2 (w : World) (os : OsState) : segRun treeTable Pp w 28 ann 1 140 (st1 w os).abs th2 = some (.next, (st2 w os).abs, cE, ⟨19, 0, 19, 8⟩) :=
  (segRun_of (pl2 w os))
theorem p3c0 (w : World) : ∀ os, segGoT treeTable Pp w 28 ann 1 88 (st2 w os) th3 = some (st3c0 w os, thr3 w os) :=
  byRow2 "special-get-raises" (P := fun w => ∀ os, segGoT treeTable Pp w 28 ann 1 88 (st2 w os) th3 = some (st3c0 w os, thr3 w os)) (fun w os => by rewrite [eGo, eTb]; kernel_rfl) (fun w os => by rewrite [eGo, eTb]; kernel_rfl) w
theorem p3c1 (w : World) : ∀ os, segGoT treeTable Pp w 28 ann 1 1215 (st3c0 w os) (thr3 w os) = some (st3c1 w os, thr3 w os) := fun os => by rewrite [eGo, eTb]; kernel_rfl
theorem p3c2 (w : World) : ∀ os, segGoT treeTable Pp w 28 ann 1 1215 (st3c1 w os) (thr3 w os) = some (st3c2 w os, thr3 w os) := fun os => by rewrite [eGo, eTb]; kernel_rfl
theorem pl3 (w : World) : ∀ os, segRunT treeTable Pp w 28 ann 1 559 (st3c2 w os) (thr3 w os) = some (.next, st3 w os, cE, ⟨20, 9, 20, 74⟩) := fun os => by rewrite [eRun, eTb]; kernel_rfl
theorem g3 (w : World) (os : OsState) : segRun treeTable Pp w 28 ann 1 (88 + (1215 + (1215 + 559))) (st2 w os).abs th3 = some (.next, (st3 w os).abs, cE, ⟨20, 9, 20, 74⟩) :=
  (seg_go (segGo_of (p3c0 w os)) (seg_go (segGo_of (p3c1 w os)) (seg_go (segGo_of (p3c2 w os)) (segRun_of (pl3 w os)))))
theorem pl4 (w : World) : ∀ os, segRunT treeTable Pp w 28 ann 1 25 (st3 w os) th4 = some (.next, st4 w os, cE, ⟨22, 0, 22, 28⟩) := fun os => by rewrite [eRun, eTb]; kernel_rfl
theorem g4 (w : World) (os : OsState) : segRun treeTable Pp w 28 ann 1 25 (st3 w os).abs th4 = some (.next, (st4 w os).abs, cE, ⟨22, 0, 22, 28⟩) :=
  (segRun_of (pl4 w os))
theorem p5c0 (w : World) : ∀ os, segGoT treeTable Pp w 28 ann 1 54 (st4 w os) th5 = some (st5c0 w os, thr5 w os) :=
  byRow2 "special-get-raises" (P := fun w => ∀ os, segGoT treeTable Pp w 28 ann 1 54 (st4 w os) th5 = some (st5c0 w os, thr5 w os)) (fun w os => by rewrite [eGo, eTb]; kernel_rfl) (fun w os => by rewrite [eGo, eTb]; kernel_rfl) w
theorem p5c1 (w : World) : ∀ os, segGoT treeTable Pp w 28 ann 1 1215 (st5c0 w os) (thr5 w os) = some (st5c1 w os, thr5 w os) := fun os => by rewrite [eGo, eTb]; kernel_rfl
theorem p5c2 (w : World) : ∀ os, segGoT treeTable Pp w 28 ann 1 1215 (st5c1 w os) (thr5 w os) = some (st5c2 w os, thr5 w os) := fun os => by rewrite [eGo, eTb]; kernel_rfl
theorem p5c3 (w : World) : ∀ os, segGoT treeTable Pp w 28 ann 1 1215 (st5c2 w os) (thr5 w os) = some (st5c3 w os, thr5 w os) := fun os => by rewrite [eGo, eTb]; kernel_rfl
theorem pl5 (w : World) : ∀ os, segRunT treeTable Pp w 28 ann 1 604 (st5c3 w os) (thr5 w os) = some (.next, st5 w os, cE, ⟨23, 9, 23, 110⟩) := fun os => by rewrite [eRun, eTb]; kernel_rfl
theorem g5 (w : World) (os : OsState) : segRun treeTable Pp w 28 ann 1 (54 + (1215 + (1215 + (1215 + 604)))) (st4 w os).abs th5 = some (.next, (st5 w os).abs, cE, ⟨23, 9, 23, 110⟩) :=
  (seg_go (segGo_of (p5c0 w os)) (seg_go (segGo_of (p5c1 w os)) (seg_go (segGo_of (p5c2 w os)) (seg_go (segGo_of (p5c3 w os)) (segRun_of (pl5 w os))))))
theorem pl6 (w : World) : ∀ os, segRunT treeTable Pp w 28 ann 1 88 (st5 w os) th6 = some (.next, st6 w os, cE, ⟨29, 0, 29, 23⟩) := fun os => by rewrite [eRun, eTb]; kernel_rfl
theorem g6 (w : World) (os : OsState) : segRun treeTable Pp w 28 ann 1 88 (st5 w os).abs th6 = some (.next, (st6 w os).abs, cE, ⟨29, 0, 29, 23⟩) :=
  (segRun_of (pl6 w os))
theorem pl7 (w : World) : ∀ os, segRunT treeTable Pp w 28 ann 1 118 (st6 w os) th7 = some (.next, st7 w os, cE, ⟨30, 9, 30, 16⟩) :=
  byRow2 "special-get-raises" (P := fun w => ∀ os, segRunT treeTable Pp w 28 ann 1 118 (st6 w os) th7 = some (.next, st7 w os, cE, ⟨30, 9, 30, 16⟩)) (fun w os => by rewrite [eRun, eTb]; kernel_rfl) (fun w os => by rewrite [eRun, eTb]; kernel_rfl) w
theorem g7 (w : World) (os : OsState) : segRun treeTable Pp w 28 ann 1 118 (st6 w os).abs th7 = some (.next, (st7 w os).abs, cE, ⟨30, 9, 30, 16⟩) :=
  (segRun_of (pl7 w os))
theorem pl8 (w : World) : ∀ os, segRunT treeTable Pp w 28 ann 1 230 (st7 w os) th8 = some (.next, st8 w os, cE, ⟨82, 0, 112, 15⟩) := fun os => by rewrite [eRun, eTb]; kernel_rfl
theorem g8 (w : World) (os : OsState) : segRun treeTable Pp w 28 ann 1 230 (st7 w os).abs th8 = some (.next, (st8 w os).abs, cE, ⟨82, 0, 112, 15⟩) :=
  (segRun_of (pl8 w os))
theorem fin_ok (w : World) (os : OsState) : topRun treeTable Pp w 28 ann 2 (st8 w os).abs ⟨doneF .next, cE, ⟨82, 0, 112, 15⟩, B⟩ = some (st8 w os).abs := by kernel_rfl
theorem body_eq : bE = (sts0 ++ (sts1 ++ (sts2 ++ (sts3 ++ (sts4 ++ (sts5 ++ (sts6 ++ (sts7 ++ (sts8 ++ []))))))))) := by kernel_rfl
theorem run_in (w : World) (os : OsState) : topRun treeTable Pp w 28 ann (129 + (9552 + (140 + ((88 + (1215 + (1215 + 559))) + (25 + ((54 + (1215 + (1215 + (1215 + 604)))) + (88 + (118 + (230 + 2))))))))) (stB w os).abs (restOf (sts0 ++ (sts1 ++ (sts2 ++ (sts3 ++ (sts4 ++ (sts5 ++ (sts6 ++ (sts7 ++ (sts8 ++ []))))))))) env cE ⟨0, 0, 0, 0⟩ B) = some (st8 w os).abs :=
  (piece_app (g0 w os) (piece_app (g1 w os) (piece_app (g2 w os) (piece_app (g3 w os) (piece_app (g4 w os) (piece_app (g5 w os) (piece_app (g6 w os) (piece_app (g7 w os) (piece_app (g8 w os) (piece_nil (fin_ok w os)))))))))))
theorem rest_eq : restOf bE env cE ⟨0, 0, 0, 0⟩ B = restOf (sts0 ++ (sts1 ++ (sts2 ++ (sts3 ++ (sts4 ++ (sts5 ++ (sts6 ++ (sts7 ++ (sts8 ++ []))))))))) env cE ⟨0, 0, 0, 0⟩ B := congrArg (fun b => restOf b env cE ⟨0, 0, 0, 0⟩ B) body_eq
theorem run_ok (w : World) (os : OsState) : topRun treeTable Pp w 28 ann (12 + (1 + (129 + (9552 + (140 + ((88 + (1215 + (1215 + 559))) + (25 + ((54 + (1215 + (1215 + (1215 + 604)))) + (88 + (118 + (230 + 2))))))))))) (stZ w os).abs (topStub Pp) = some (st8 w os).abs :=
  go_top (pre_ok w os) (piece_block (blk_ok w os) (rest_eq ▸ run_in w os))
end
end Mine
end

/-! QLeft -/
section
open PySem PySem.W PyProof.Rows PySem.Calls
set_option maxRecDepth 100000
set_option maxHeartbeats 0
namespace Mine
noncomputable section
abbrev rowW : RowW := PySem.Challenge.rw_qu0008_01.row.toRowW
theorem fas_ok : ∀ P, fas = (frag P).map (·.1) := fun _ => by kernel_rfl
abbrev hook : Hook := kHook frag fas fas_ok
abbrev Xt : Shared → Bool := fun s => xlAt viewP lv s && recOk (RowW.records rowW) s
abbrev hZ (P : Params) : Heap := absHeap (trZ P) 28 (PySem.Life.mk [] [] [] 0 [] [] Bool.false #[] [] 0 Bool.false Bool.false Bool.false (0 : Int) [(2000 : Int), (10 : Int), (10 : Int)] Bool.false 0 Bool.true [] [] 0 Bool.false)
abbrev hF (P : Params) : Heap := absHeap (tr8 P) 123 (PySem.Life.mk [] [] [] 0 [] [] Bool.false #[] [] 0 Bool.false Bool.false Bool.false (0 : Int) [(2000 : Int), (10 : Int), (10 : Int)] Bool.false 0 Bool.true [] [] 0 Bool.false)
abbrev sF (w : World) (os : OsState) : Shared := ⟨hF w.params, ⟨[]⟩, (PySem.Drawn.mk 0 0 0 0), 1949, os⟩
theorem look_1 (w : World) : staticsOk (importedModules Pp.main.body) (hZ w.params) (hF w.params) = true := by kernel_rfl
theorem look_2 (w : World) : namesBound Pp (hF w.params) = true := by kernel_rfl
theorem look_3 (w : World) (os : OsState) : gensDone (sF w os) = true := by kernel_rfl
theorem look_4 (w : World) : laidKept (hZ w.params) (hF w.params) = true := by kernel_rfl
theorem look_5 (w : World) (os : OsState) : openSeen viewP loose (importedModules Pp.main.body) Xt true (sF w os) = openGood viewP loose := by rewrite [PySem.W.Fast.te4187177175401517315]; kernel_rfl
theorem look_6 (w : World) (os : OsState) : hook.obs (sF w os) = hook.val w := by kernel_rfl
theorem look_a (w : World) (os : OsState) : (staticsOk (importedModules Pp.main.body) (hZ w.params) (hF w.params) && namesBound Pp (hF w.params) && gensDone (sF w os) && laidKept (hZ w.params) (hF w.params)) = true := by
  rw [look_1, look_2, look_3, look_4]; rfl
theorem looks (w : World) : (fun os => ((staticsOk (importedModules Pp.main.body) (hZ w.params) (hF w.params) && namesBound Pp (hF w.params) && gensDone (sF w os) && laidKept (hZ w.params) (hF w.params)),
    openSeen viewP loose (importedModules Pp.main.body) Xt true (sF w os), hook.obs (sF w os))) = fun _ => (true, openGood viewP loose, hook.val w) :=
  funext fun os => looks_pair (look_a w os) (looks_pair (look_5 w os) (look_6 w os))
theorem left : LeftO Pp viewP loose Xt hook.obs hook.val 35392 :=
  LeftO.of_pieces (H₀ := hZ) (H₁ := hF) (gs₀ := ⟨[]⟩) (gs₁ := ⟨[]⟩) (d₀ := (PySem.Drawn.mk 0 0 0 0)) (d₁ := (PySem.Drawn.mk 0 0 0 0)) (k₀ := 276) (k₁ := 1949) (m₀ := 28) (ann := ann) (M := (12 + (1 + (129 + (9552 + (140 + ((88 + (1215 + (1215 + 559))) + (25 + ((54 + (1215 + (1215 + (1215 + 604)))) + (88 + (118 + (230 + 2)))))))))))) open_ok size_ok run_ok (by decide +kernel) looks
end
end Mine
end

/-! QBase -/
section
open PySem PySem.W PyProof.Rows
namespace Mine
open PySem.Calls

section
variable {prog : Program} {w : World} {A : Around} {E : Value → Shared → Prop} {s : Shared} {K : Frag}

/-- a call of a def of the written part: the caller's whole heap stays -/
theorem call_fn {name qual : Str} {params params₀ : Arguments} {body body₀ : List Stmt} {scope scope₀ : Scope} {dV kV doc pm cdv ct oc : Value} {an od : Option Addr} {osl : Array (Option Value)} {f : Addr} {args : List Value} {binds : List (Str × Value)} {Q : Value → Shared → Prop}
    (X : K.In s.heap) (hlim : s.heap.NoLimit) (hroom : A.depth < recursionLimit)
    (ho : K.lookup f = some ⟨oc, od, .func (fnOf name qual params₀ body₀ scope₀ dV kV doc pm an cdv ct), osl⟩) (hp₀ : params₀ = params) (hb₀ : body₀ = body) (hs₀ : scope₀ = scope) (hcd : codeIn K cdv qual = true)
    (hbind : BindsTo s (fnOf name qual params body scope dV kV doc pm an cdv ct) ⟨args, []⟩ binds) (hloc : ∀ y ∈ binds, scope.names.lookup y.1 = some .local)
    (h : ∀ L' h₁, Fr s.heap L' h₁ (fun y => binds.reverse.lookup y) → News s.heap L' h₁ [] →
      wpAny (model prog w) (A.deeper (envOf qual scope L' f cdv)) (execs body (envOf qual scope L' f cdv))
        (fun fl s' => Q (match fl with | .ret v => v | _ => .none) s') (fun _ _ => False)
        { s with heap := h₁, toks := s.toks + binds.length })
    (hco : scope.isCoroutine = false) (hgen : scope.isGenerator = false) (hk : scope.kind = .function)
    (hcell : ∀ x ∈ scope.names, x.2 ≠ .cell) : wpAny (model prog w) A (call (.ref f) args) Q E s := by
  obtain rfl := hp₀.symm; obtain rfl := hb₀.symm; obtain rfl := hs₀.symm
  refine wpAny_call (codeAny_call_def (fd := fnOf name qual params body scope dV kV doc pm an cdv ct) (body := body) (binds := binds) hroom (X _ _ ho) rfl hlim (codeRec_of X hcd) rfl hbind hcell hloc (fun h₁ hns hk₁ => ?_) hco hgen hk)
  exact wpAny_mono (h s.heap.objs.size h₁ ⟨hns, hk₁, Nat.le_refl _⟩ News.nil) (fun _ _ x => x) (fun _ _ x => x.elim)

/-- the same for a def some of whose names are captured -/
theorem call_fnC {name qual : Str} {params params₀ : Arguments} {body body₀ : List Stmt} {scope scope₀ : Scope} {dV kV doc pm cdv ct oc : Value} {an od : Option Addr} {osl : Array (Option Value)} {f : Addr} {args : List Value} {binds : List (Str × Value)} {Q : Value → Shared → Prop}
    (X : K.In s.heap) (hlim : s.heap.NoLimit) (hroom : A.depth < recursionLimit)
    (ho : K.lookup f = some ⟨oc, od, .func (fnOf name qual params₀ body₀ scope₀ dV kV doc pm an cdv ct), osl⟩) (hp₀ : params₀ = params) (hb₀ : body₀ = body) (hs₀ : scope₀ = scope) (hcd : codeIn K cdv qual = true)
    (hbind : BindsTo s (fnOf name qual params body scope dV kV doc pm an cdv ct) ⟨args, []⟩ binds) (hkind : (binds.all fun y => scope.names.lookup y.1 == some .local || scope.names.lookup y.1 == some .cell) = true)
    (hnd : ((cellsFrom 0 scope.names []).map (·.1)).Nodup)
    (h : ∀ L' h₁ tk cells, Fr s.heap L' h₁ (bindL (envOfC qual scope L' f cdv).kindOf binds fun _ => none) → News s.heap L' h₁ cells →
      CellsAre (bindC (envOfC qual scope L' f cdv).kindOf binds fun _ => none) (cellsFrom (L' + 1) scope.names []) cells →
      wpAny (model prog w) (A.deeper (envOfC qual scope L' f cdv)) (execs body (envOfC qual scope L' f cdv))
        (fun fl s' => Q (match fl with | .ret v => v | _ => .none) s') (fun _ _ => False)
        { s with heap := h₁, toks := tk })
    (hco : scope.isCoroutine = false) (hgen : scope.isGenerator = false) (hk : scope.kind = .function) : wpAny (model prog w) A (call (.ref f) args) Q E s := by
  obtain rfl := hp₀.symm; obtain rfl := hb₀.symm; obtain rfl := hs₀.symm
  refine wpAny_call ?_
  refine codeAny_call_function hroom (X _ _ ho) rfl hco hgen rfl (codeRec_of X hcd) (hbind _ _ _ _ ?_)
  refine wpAny_newFunctionEnv_cells hk (kindsX hkind _) fun env' he s' x => ?_
  subst he
  refine ⟨hlim.keeps x.toInCall.keep, codeAny_func ?_⟩
  obtain ⟨h₁, tk, rfl, _⟩ := x.done
  have hk₁ := x.toInCall.keep
  obtain ⟨cells, NC, Y⟩ := Cl.news (h₀ := s.heap) (Nat.le_refl _) fun n c hm => ⟨x.cell n c (lookup_of_mem_nodup (cellsFrom_names scope.names 0 (s.heap.objs.size + 1) [] [] rfl ▸ hnd) hm), x.above n c hm⟩
  exact wpAny_mono (h s.heap.objs.size h₁ tk cells ⟨x.toInCall.ns, hk₁, Nat.le_refl _⟩ NC Y) (fun _ _ x => x) (fun _ _ x => x.elim)

theorem news_ext {h₀ h h' : Heap} {L : Addr} {news : List (Addr × Obj)} (N : News h₀ L h news) (k : ∀ b o, h.get? b = some o → h'.get? b = some o) : News h₀ L h' news :=
  fun p hp => ⟨k _ _ (N p hp).1, (N p hp).2⟩
end

theorem fill : PySem.Challenge.rw_qu0008_01 = PySem.Challenge.rw_qu0008_01 ∧ Mine.frag = Mine.frag := by
  k_fill; exact ⟨rfl, rfl⟩
end Mine
end

/-! QTxt -/
section
open PySem PySem.W PyProof.Rows
namespace Mine
open PySem.Builtin PySem.Builtin.Str

def S (l : List Nat) : Str := ⟨l.toArray⟩
theorem S_len (l : List Nat) : (S l).length = l.length := by simp [S, Str.length]
theorem S_cps (l : List Nat) : (S l).cps.toList = l := by simp [S]
theorem S_append (a b : List Nat) : S a ++ S b = S (a ++ b) := Str.ext' (by simp [S, Str.cps_append])
theorem S_inj {a b : List Nat} (h : S a = S b) : a = b := by
  have := congrArg (fun x => x.cps.toList) h
  simpa [S] using this
theorem S_of (x : Str) : x = S x.cps.toList := Str.ext' (by simp [S])

theorem q34 : Str.ofString "\"" = S [34] := by decide +kernel

theorem starts1 (l : List Nat) (q : Nat) : Txt.startswith (S l) (S [q]) = (l.head? == some q) := by
  unfold Txt.startswith
  rw [StrLaws.subAt_eq, S_cps, S_cps, S_len, S_len]
  cases l with
  | nil => rfl
  | cons c r =>
    simp [List.take]

theorem ends1 (l : List Nat) (q : Nat) : Txt.endswith (S l) (S [q]) = (l.getLast? == some q) := by
  unfold Txt.endswith
  rw [StrLaws.subAt_eq, S_cps, S_cps, S_len, S_len]
  rcases List.eq_nil_or_concat l with rfl | ⟨r, c, rfl⟩
  · rfl
  · simp

theorem slice_from (l : List Nat) (n : Nat) (h : n ≤ l.length) : Txt.slice (S l) (some (n : Int)) none = S (l.drop n) := by
  have e : Txt.slice (S l) (some (n : Int)) none = StrLaws.sliceText (S l) (some (n : Int)) none := rfl
  rw [e, StrLaws.sliceText_from ⟨by omega, by rw [S_cps]; omega⟩, S_cps]
  unfold S
  congr 2
  rw [List.take_of_length_le (by rw [List.length_drop]; omega)]
  simp
theorem slice_lop (l : List Nat) (c : Nat) : Txt.slice (S (l ++ [c])) none (some (-1)) = S l := by
  have e : Txt.slice (S (l ++ [c])) none (some (-1)) = StrLaws.sliceText (S (l ++ [c])) none (some (-1)) := rfl
  rw [e, StrLaws.sliceText_to_neg (by decide) (by rw [S_len]; simp; omega), S_cps, S_len]
  unfold S
  congr 2
  have : (-1 + ((l ++ [c]).length : Int) - 0).toNat = l.length := by simp; omega
  rw [this]; simp
theorem slice_mid (l : List Nat) (a b : Nat) (hab : a ≤ b) (h : b ≤ l.length) : Txt.slice (S l) (some (a : Int)) (some (b : Int)) = S ((l.drop a).take (b - a)) := by
  have e : Txt.slice (S l) (some (a : Int)) (some (b : Int)) = StrLaws.sliceText (S l) (some (a : Int)) (some (b : Int)) := rfl
  rw [e, StrLaws.sliceText_nat _ hab (by rw [S_len]; exact h), S_cps]
  rfl

def stripL (l : List Nat) : List Nat :=
  let l1 := if l.head? = some 34 then l.tail else l
  if l1.getLast? = some 34 then l1.dropLast else l1

theorem strip1 (l : List Nat) (h : l.head? = some 34) : Txt.slice (S l) (some 1) none = S l.tail := by
  cases l with
  | nil => cases h
  | cons c r => exact slice_from (c :: r) 1 (by simp)
theorem strip2 (l : List Nat) (h : l.getLast? = some 34) : Txt.slice (S l) none (some (-1)) = S l.dropLast := by
  rcases List.eq_nil_or_concat l with rfl | ⟨r, c, rfl⟩
  · cases h
  · rw [List.concat_eq_append]; rw [slice_lop]; simp
end Mine
end

/-! QStrip -/
section
open PySem PySem.W PyProof.Rows
namespace Mine
open PySem.Calls
section
variable {prog : Program} {w : World} {A : Around} {E : Value → Shared → Prop} {s : Shared} {p : Program} {loose : List Str} {mean : ExcName → Option Value} {mg mb : Str → Option Value}

theorem end_str {h₀ h' : Heap} {L : Addr} {m : Str → Option Value} {x y : Str} {t : Tok} {tk : Nat} {Q : Value → Shared → Prop} (h : ∀ t h' tk, (∀ b o, h₀.get? b = some o → h'.get? b = some o) → Q (.str x t) { s with heap := h', toks := tk })
    (F : Fr h₀ L h' m) (e : y = x) : Q (.str y t) { s with heap := h', toks := tk } := e ▸ h t h' tk F.keep

theorem st_tt (l : List Nat) (h1 : Txt.startswith (S l) (Str.ofString "\"") = true) (h2 : Txt.endswith (Txt.slice (S l) (some 1) none) (Str.ofString "\"") = true) :
    Txt.slice (Txt.slice (S l) (some 1) none) none (some (-1)) = S (stripL l) := by
  rw [q34, starts1, beq_iff_eq] at h1
  rw [strip1 _ h1, q34, ends1, beq_iff_eq] at h2
  rw [strip1 _ h1, strip2 _ h2]
  simp only [stripL, h1, if_true, h2]
theorem st_tf (l : List Nat) (h1 : Txt.startswith (S l) (Str.ofString "\"") = true) (h2 : Txt.endswith (Txt.slice (S l) (some 1) none) (Str.ofString "\"") = false) :
    Txt.slice (S l) (some 1) none = S (stripL l) := by
  rw [q34, starts1, beq_iff_eq] at h1
  rw [strip1 _ h1, q34, ends1, beq_eq_false_iff_ne] at h2
  rw [strip1 _ h1]
  simp only [stripL, h1, if_true, h2, if_false]
theorem st_ft (l : List Nat) (h1 : Txt.startswith (S l) (Str.ofString "\"") = false) (h2 : Txt.endswith (S l) (Str.ofString "\"") = true) :
    Txt.slice (S l) none (some (-1)) = S (stripL l) := by
  rw [q34, starts1, beq_eq_false_iff_ne] at h1
  rw [q34, ends1, beq_iff_eq] at h2
  rw [strip2 _ h2]
  simp only [stripL, h1, if_false, h2, if_true]
theorem st_ff (l : List Nat) (h1 : Txt.startswith (S l) (Str.ofString "\"") = false) (h2 : Txt.endswith (S l) (Str.ofString "\"") = false) :
    S l = S (stripL l) := by
  rw [q34, starts1, beq_eq_false_iff_ne] at h1
  rw [q34, ends1, beq_eq_false_iff_ne] at h2
  simp only [stripL, h1, if_false, h2]

set_option maxRecDepth 100000 in
set_option maxHeartbeats 8000000 in
theorem strip_ok {l : List Nat} {t₀ : Tok} {Q : Value → Shared → Prop} (X : (Mine.frag w.params).In s.heap) (T : Top p loose mean mg mb s.heap) (hroom : A.depth < recursionLimit) (hx : (S l).length ≤ 1000)
    (h : ∀ t h' tk, (∀ b o, s.heap.get? b = some o → h'.get? b = some o) → Q (.str (S (stripL l)) t) { s with heap := h', toks := tk }) :
    wpAny (model prog w) A (call (.ref 38) [.str (S l) t₀]) Q E s := by
  refine' call_fn (binds := [(Str.ofString "text", .str (S l) t₀)]) X T.nolimit hroom ?k6 ?kp ?kb ?ks ?k7 ?k9 ?kB ?_ ?c2 ?c3 ?c4 ?c5
  case k6 => k_is
  case kp => dsimp only [fArgs, fBody, fScope, stm, nth, PySem.Challenge.pw_qu0008_01]
  case kb => dsimp only [fArgs, fBody, fScope, stm, nth, PySem.Challenge.pw_qu0008_01]
  case ks => dsimp only [fArgs, fBody, fScope, stm, nth, PySem.Challenge.pw_qu0008_01]
  case k7 => k_is
  case k9 => exact BindsTo.of_eq rfl
  case kB => exact locs rfl
  case c2 => exact rfl
  case c3 => exact rfl
  case c4 => exact rfl
  case c5 => decide
  intro L' h' F' N'
  try dsimp only
  w_on
  k_fold
  k_steps
  · exact end_str h (by assumption) (st_tt l (by assumption) (by assumption))
  · exact end_str h (by assumption) (st_tf l (by assumption) (by assumption))
  · exact end_str h (by assumption) (st_ft l (by assumption) (by assumption))
  · exact end_str h (by assumption) (st_ff l (by assumption) (by assumption))
end
end Mine
end

/-! QInt -/
section
open PySem PySem.W PyProof.Rows PySem.Calls
set_option maxRecDepth 100000
namespace Mine
theorem typeCall_int_2 (a b : Value) : checkTypeCall "int" ⟨[a, b], []⟩ = pure () := by kernel_rfl
theorem newCall_int_2 (a b : Value) : checkBuiltinCall "int.__new__" ⟨[.type "int", a, b], []⟩ = pure () := by kernel_rfl
theorem args_object_init_3 (a b c : Value) : argsOk "object.__init__" ⟨[a, b, c], []⟩ := by
  unfold argsOk; rw [signature?_of (id := "object.__init__") (n := ['_', '_', 't', 'i', 'n', 'i', '_', '_']) (o := ['t', 'c', 'e', 'j', 'b', 'o']) (by kernel_rfl) F.owner_object]; kernel_rfl

theorem wp_text16 {M : Model} {A : Around} {E : Value → Shared → Prop} {s : Shared} {Q : Value → Shared → Prop} {v : Value} {text : List Nat} {n : Int}
    (hs : (text.takeWhile (· != 0)).length ≤ 640) (hr : (int_private% "readNumeral") 0 (Int.toNat 16) (text.takeWhile (· != 0)) = (int_private% "Numeral.value") n)
    (ha : ((text.takeWhile (· != 0)).length == text.length) = true) (h : Q (.int n s.toks) { s with toks := s.toks + 1 }) :
    wpAny M A ((int_private% "intFromText") v text (Int.toNat 16)) Q E s := by
  obtain ⟨hp, g, d, tk, os⟩ := s
  repeat (any_goals (first
    | assumption
    | (with_reducible refine wpAny_ite_true (decide_eq_true hs) ?_)
    | (with_reducible refine wpAny_ite_true (decide_eq_true ha) ?_)
    | wp_step))
  all_goals (try rw [hr])
  all_goals (try dsimp only)
  repeat (any_goals (first
    | assumption
    | (with_reducible refine wpAny_ite_true (decide_eq_true hs) ?_)
    | (with_reducible refine wpAny_ite_true (decide_eq_true ha) ?_)
    | wp_step))

set_option maxHeartbeats 4000000 in
theorem gives_22 (u u' : Tok) : Gives (Builtin.«int.__new__» ⟨[.type "int", .str (S [50, 50]) u, .int 16 u'], []⟩) (.int 34) :=
  .of_wp fun M A E s Q h => by
    obtain ⟨hp, g, d, tk, os⟩ := s
    have f1 := F.conv_sub_int
    have f2 := F.madeHere_int
    have hs : ((if ((S [50, 50]).cps.all fun x => decide (x < 128)) = true then (S [50, 50]).cps.toList else Unicode.numberText (S [50, 50]).cps.toList).takeWhile (· != 0)).length ≤ 640 := by decide +kernel
    have hr : (int_private% "readNumeral") 0 (Int.toNat 16) ((if ((S [50, 50]).cps.all fun x => decide (x < 128)) = true then (S [50, 50]).cps.toList else Unicode.numberText (S [50, 50]).cps.toList).takeWhile (· != 0)) = (int_private% "Numeral.value") 34 := by kernel_rfl
    have ha : (((if ((S [50, 50]).cps.all fun x => decide (x < 128)) = true then (S [50, 50]).cps.toList else Unicode.numberText (S [50, 50]).cps.toList).takeWhile (· != 0)).length == (if ((S [50, 50]).cps.all fun x => decide (x < 128)) = true then (S [50, 50]).cps.toList else Unicode.numberText (S [50, 50]).cps.toList).length) = true := by decide +kernel
    have hk := KIN.Hid.mk (And.intro hs (And.intro hr ha))
    clear hs hr ha
    repeat (any_goals (first
      | assumption
      | ((with_reducible show wpAny _ _ ((int_private% "intFromText") _ _ _) _ _ _); refine wp_text16 hk.out.1 hk.out.2.1 hk.out.2.2 ?_)
      | wp_step))
    all_goals first | exact ⟨_, rfl, h⟩ | skip
set_option maxHeartbeats 4000000 in
theorem gives_3D (u u' : Tok) : Gives (Builtin.«int.__new__» ⟨[.type "int", .str (S [51, 68]) u, .int 16 u'], []⟩) (.int 61) :=
  .of_wp fun M A E s Q h => by
    obtain ⟨hp, g, d, tk, os⟩ := s
    have f1 := F.conv_sub_int
    have f2 := F.madeHere_int
    have hs : ((if ((S [51, 68]).cps.all fun x => decide (x < 128)) = true then (S [51, 68]).cps.toList else Unicode.numberText (S [51, 68]).cps.toList).takeWhile (· != 0)).length ≤ 640 := by decide +kernel
    have hr : (int_private% "readNumeral") 0 (Int.toNat 16) ((if ((S [51, 68]).cps.all fun x => decide (x < 128)) = true then (S [51, 68]).cps.toList else Unicode.numberText (S [51, 68]).cps.toList).takeWhile (· != 0)) = (int_private% "Numeral.value") 61 := by kernel_rfl
    have ha : (((if ((S [51, 68]).cps.all fun x => decide (x < 128)) = true then (S [51, 68]).cps.toList else Unicode.numberText (S [51, 68]).cps.toList).takeWhile (· != 0)).length == (if ((S [51, 68]).cps.all fun x => decide (x < 128)) = true then (S [51, 68]).cps.toList else Unicode.numberText (S [51, 68]).cps.toList).length) = true := by decide +kernel
    have hk := KIN.Hid.mk (And.intro hs (And.intro hr ha))
    clear hs hr ha
    repeat (any_goals (first
      | assumption
      | ((with_reducible show wpAny _ _ ((int_private% "intFromText") _ _ _) _ _ _); refine wp_text16 hk.out.1 hk.out.2.1 hk.out.2.2 ?_)
      | wp_step))
    all_goals first | exact ⟨_, rfl, h⟩ | skip
section
variable {prog : Program} {w : World} {A : Around} {E : Value → Shared → Prop} {s : Shared} {Q : Value → Shared → Prop} {t u : Tok}
theorem call_int_2 {x y : Value} {S : PySem.Spec} {Q : Value → Shared → Prop} (g : Meets (Builtin.«int.__new__» ⟨[.type "int", x, y], []⟩) S) (h : S A.in1 (wants (fun obj s₁ => s₁.TypeIs obj "int" ∧ Q obj s₁) E) s) :
    wpAny (model prog w) A (call (.type "int") [x, y]) Q E s :=
  callType_new F.called_int F.newNe_int (typeCall_int_2 x y) (newCall_int_2 x y) (fun obj => args_object_init_3 obj x y) F.entry_int_new g h
theorem int_22 (h : Q (.int 34 s.toks) { s with toks := s.toks + 1 }) : wpAny (model prog w) A (call (.type "int") [.str (S [50, 50]) t, .int 16 u]) Q E s :=
  call_int_2 (gives_22 t u).meets (show (Made.int 34).post _ s from ⟨rfl, h⟩)
theorem int_3D (h : Q (.int 61 s.toks) { s with toks := s.toks + 1 }) : wpAny (model prog w) A (call (.type "int") [.str (S [51, 68]) t, .int 16 u]) Q E s :=
  call_int_2 (gives_3D t u).meets (show (Made.int 61).post _ s from ⟨rfl, h⟩)
end
end Mine
end

/-! QQuote -/
section
open PySem PySem.W PyProof.Rows
namespace Mine
open PySem.Calls
theorem cut22 : Txt.slice (S [61, 50, 50]) (some 1) (some 3) = S [50, 50] := slice_mid [61, 50, 50] 1 3 (by decide) (by decide)
theorem cut3D : Txt.slice (S [61, 51, 68]) (some 1) (some 3) = S [51, 68] := slice_mid [61, 51, 68] 1 3 (by decide) (by decide)
local macro_rules | `(tactic| walk_at "call type:int") => `(tactic| ((with_reducible show wpAny _ _ (call (Value.type "int") [Value.str _ _, Value.int _ _]) _ _ _); first | (rw [cut22]; refine int_22 ?_) | (rw [cut3D]; refine int_3D ?_)))
section
variable {prog : Program} {w : World} {A : Around} {E : Value → Shared → Prop} {s : Shared} {p : Program} {loose : List Str} {mean : ExcName → Option Value} {mg mb : Str → Option Value}

set_option maxRecDepth 100000 in
set_option maxHeartbeats 8000000 in
theorem quote_34 {t₀ : Tok} {Q : Value → Shared → Prop} (X : (Mine.frag w.params).In s.heap) (T : Top p loose mean mg mb s.heap) (hroom : A.depth < recursionLimit)
    (h : ∀ t h' tk, (∀ b o, s.heap.get? b = some o → h'.get? b = some o) → Q (.str (S [61, 50, 50]) t) { s with heap := h', toks := tk }) :
    wpAny (model prog w) A (call (.ref 73) [.str (S [34]) t₀]) Q E s := by
  refine' call_fn (binds := [(Str.ofString "c", .str (S [34]) t₀)]) X T.nolimit hroom ?k6 ?kp ?kb ?ks ?k7 ?k9 ?kB ?_ ?c2 ?c3 ?c4 ?c5
  case k6 => k_is
  case kp => dsimp only [fArgs, fBody, fScope, stm, nth, PySem.Challenge.pw_qu0008_01]
  case kb => dsimp only [fArgs, fBody, fScope, stm, nth, PySem.Challenge.pw_qu0008_01]
  case ks => dsimp only [fArgs, fBody, fScope, stm, nth, PySem.Challenge.pw_qu0008_01]
  case k7 => k_is
  case k9 => exact BindsTo.of_eq rfl
  case kB => exact locs rfl
  case c2 => exact rfl
  case c3 => exact rfl
  case c4 => exact rfl
  case c5 => decide
  intro L' h' F' N'
  w_on
  k_fold
  k_steps
  exact end_str h F' (by decide +kernel)

set_option maxRecDepth 100000 in
set_option maxHeartbeats 8000000 in
theorem quote_61 {t₀ : Tok} {Q : Value → Shared → Prop} (X : (Mine.frag w.params).In s.heap) (T : Top p loose mean mg mb s.heap) (hroom : A.depth < recursionLimit)
    (h : ∀ t h' tk, (∀ b o, s.heap.get? b = some o → h'.get? b = some o) → Q (.str (S [61, 51, 68]) t) { s with heap := h', toks := tk }) :
    wpAny (model prog w) A (call (.ref 73) [.str (S [61]) t₀]) Q E s := by
  refine' call_fn (binds := [(Str.ofString "c", .str (S [61]) t₀)]) X T.nolimit hroom ?k6 ?kp ?kb ?ks ?k7 ?k9 ?kB ?_ ?c2 ?c3 ?c4 ?c5
  case k6 => k_is
  case kp => dsimp only [fArgs, fBody, fScope, stm, nth, PySem.Challenge.pw_qu0008_01]
  case kb => dsimp only [fArgs, fBody, fScope, stm, nth, PySem.Challenge.pw_qu0008_01]
  case ks => dsimp only [fArgs, fBody, fScope, stm, nth, PySem.Challenge.pw_qu0008_01]
  case k7 => k_is
  case k9 => exact BindsTo.of_eq rfl
  case kB => exact locs rfl
  case c2 => exact rfl
  case c3 => exact rfl
  case c4 => exact rfl
  case c5 => decide
  intro L' h' F' N'
  w_on
  k_fold
  k_steps
  exact end_str h F' (by decide +kernel)

set_option maxRecDepth 100000 in
set_option maxHeartbeats 8000000 in
theorem unquote_22 {t₀ : Tok} {Q : Value → Shared → Prop} (X : (Mine.frag w.params).In s.heap) (T : Top p loose mean mg mb s.heap) (hroom : A.depth < recursionLimit)
    (h : ∀ t h' tk, (∀ b o, s.heap.get? b = some o → h'.get? b = some o) → Q (.str (S [34]) t) { s with heap := h', toks := tk }) :
    wpAny (model prog w) A (call (.ref 66) [.str (S [61, 50, 50]) t₀]) Q E s := by
  have e1 : (S [61, 50, 50]).length ≤ 1000 := by decide
  refine' call_fn (binds := [(Str.ofString "s", .str (S [61, 50, 50]) t₀)]) X T.nolimit hroom ?k6 ?kp ?kb ?ks ?k7 ?k9 ?kB ?_ ?c2 ?c3 ?c4 ?c5
  case k6 => k_is
  case kp => dsimp only [fArgs, fBody, fScope, stm, nth, PySem.Challenge.pw_qu0008_01]
  case kb => dsimp only [fArgs, fBody, fScope, stm, nth, PySem.Challenge.pw_qu0008_01]
  case ks => dsimp only [fArgs, fBody, fScope, stm, nth, PySem.Challenge.pw_qu0008_01]
  case k7 => k_is
  case k9 => exact BindsTo.of_eq rfl
  case kB => exact locs rfl
  case c2 => exact rfl
  case c3 => exact rfl
  case c4 => exact rfl
  case c5 => decide
  intro L' h' F' N'
  w_on
  k_fold
  k_steps

  exact end_str h (by assumption) (by decide +kernel)
set_option maxRecDepth 100000 in
set_option maxHeartbeats 8000000 in
theorem unquote_3D {t₀ : Tok} {Q : Value → Shared → Prop} (X : (Mine.frag w.params).In s.heap) (T : Top p loose mean mg mb s.heap) (hroom : A.depth < recursionLimit)
    (h : ∀ t h' tk, (∀ b o, s.heap.get? b = some o → h'.get? b = some o) → Q (.str (S [61]) t) { s with heap := h', toks := tk }) :
    wpAny (model prog w) A (call (.ref 66) [.str (S [61, 51, 68]) t₀]) Q E s := by
  have e1 : (S [61, 51, 68]).length ≤ 1000 := by decide
  refine' call_fn (binds := [(Str.ofString "s", .str (S [61, 51, 68]) t₀)]) X T.nolimit hroom ?k6 ?kp ?kb ?ks ?k7 ?k9 ?kB ?_ ?c2 ?c3 ?c4 ?c5
  case k6 => k_is
  case kp => dsimp only [fArgs, fBody, fScope, stm, nth, PySem.Challenge.pw_qu0008_01]
  case kb => dsimp only [fArgs, fBody, fScope, stm, nth, PySem.Challenge.pw_qu0008_01]
  case ks => dsimp only [fArgs, fBody, fScope, stm, nth, PySem.Challenge.pw_qu0008_01]
  case k7 => k_is
  case k9 => exact BindsTo.of_eq rfl
  case kB => exact locs rfl
  case c2 => exact rfl
  case c3 => exact rfl
  case c4 => exact rfl
  case c5 => decide
  intro L' h' F' N'
  w_on
  k_fold
  k_steps
  exact end_str h (by assumption) (by decide +kernel)
end
end Mine
end

/-! QMark -/
section
open PySem PySem.W PyProof.Rows
namespace Mine
open PySem.Calls
section
variable {prog : Program} {w : World} {A : Around} {E : Value → Shared → Prop} {s : Shared} {p : Program} {loose : List Str} {mean : ExcName → Option Value} {mg mb : Str → Option Value}
theorem quote_step34 {h₀ : Heap} {L : Addr} {m : Str → Option Value} {news : List (Addr × Obj)} {x : Str} {t₀ : Tok} {Q : Value → Shared → Prop} (F : Fr h₀ L s.heap m) (N : News h₀ L s.heap news) (X : (Mine.frag w.params).In h₀) (T : Top p loose mean mg mb h₀)
    (hroom : A.depth < recursionLimit) (hx : x = S [34]) (h : ∀ t h' tk, Fr h₀ L h' m → News h₀ L h' news → Q (.str (S [61, 50, 50]) t) { s with heap := h', toks := tk }) :
    wpAny (model prog w) A (call (.ref 73) [.str x t₀]) Q E s := by
  subst hx
  exact quote_34 (X.keeps F.keep) (T.keeps F.keep) hroom fun t h' tk k => h t h' tk (F.after k) (news_ext N k)
theorem quote_step61 {h₀ : Heap} {L : Addr} {m : Str → Option Value} {news : List (Addr × Obj)} {x : Str} {t₀ : Tok} {Q : Value → Shared → Prop} (F : Fr h₀ L s.heap m) (N : News h₀ L s.heap news) (X : (Mine.frag w.params).In h₀) (T : Top p loose mean mg mb h₀)
    (hroom : A.depth < recursionLimit) (hx : x = S [61]) (h : ∀ t h' tk, Fr h₀ L h' m → News h₀ L h' news → Q (.str (S [61, 51, 68]) t) { s with heap := h', toks := tk }) :
    wpAny (model prog w) A (call (.ref 73) [.str x t₀]) Q E s := by
  subst hx
  exact quote_61 (X.keeps F.keep) (T.keeps F.keep) hroom fun t h' tk k => h t h' tk (F.after k) (news_ext N k)
theorem room1 {A : Around} {env : Env} (h : A.depth + 1 < recursionLimit) : (A.deeper env).depth < recursionLimit := h
local macro_rules | `(tactic| walk_at "call ref") => `(tactic| ((with_reducible show wpAny _ _ (call (Value.ref 73) [Value.str _ _]) _ _ _); first
  | (refine' quote_step34 ?F ?N ?X ?T ?r ?x ?_; (case x => decide +kernel); (case F => k_asm); (case N => k_asm); (case X => k_asm); (case T => k_asm); (case r => (refine room1 ?_; assumption)); k_whole; intro t' h' tk' F' N'; (try k_sweep))
  | (refine' quote_step61 ?F ?N ?X ?T ?r ?x ?_; (case x => decide +kernel); (case F => k_asm); (case N => k_asm); (case X => k_asm); (case T => k_asm); (case r => (refine room1 ?_; assumption)); k_whole; intro t' h' tk' F' N'; (try k_sweep))))

set_option maxRecDepth 100000 in
set_option maxHeartbeats 8000000 in
theorem mark_0 {t₀ : Tok} {Q : Value → Shared → Prop} (X : (Mine.frag w.params).In s.heap) (T : Top p loose mean mg mb s.heap) (hA : A.handled = none) (hroom : A.depth + 1 < recursionLimit)
    (h : ∀ t h' tk, (∀ b o, s.heap.get? b = some o → h'.get? b = some o) → Q (.str (S [34]) t) { s with heap := h', toks := tk }) :
    wpAny (model prog w) A (call (.ref 107) [.int 0 t₀]) Q E s := by
  obtain ⟨hd0, dp, fr, gd, un⟩ := A
  obtain rfl : hd0 = none := hA
  refine' call_fn (binds := [(Str.ofString "coats", .int 0 t₀)]) X T.nolimit (by omega) ?k6 ?kp ?kb ?ks ?k7 ?k9 ?kB ?_ ?c2 ?c3 ?c4 ?c5
  case k6 => k_is
  case kp => dsimp only [fArgs, fBody, fScope, stm, nth, PySem.Challenge.pw_qu0008_01]
  case kb => dsimp only [fArgs, fBody, fScope, stm, nth, PySem.Challenge.pw_qu0008_01]
  case ks => dsimp only [fArgs, fBody, fScope, stm, nth, PySem.Challenge.pw_qu0008_01]
  case k7 => k_is
  case k9 => exact BindsTo.of_eq rfl
  case kB => exact locs rfl
  case c2 => exact rfl
  case c3 => exact rfl
  case c4 => exact rfl
  case c5 => decide
  intro L' h' F' N'
  w_on
  k_fold
  k_steps
  exact end_str h (by assumption) (by decide +kernel)

set_option maxRecDepth 100000 in
set_option maxHeartbeats 8000000 in
theorem mark_1 {t₀ : Tok} {Q : Value → Shared → Prop} (X : (Mine.frag w.params).In s.heap) (T : Top p loose mean mg mb s.heap) (hA : A.handled = none) (hroom : A.depth + 1 < recursionLimit)
    (h : ∀ t h' tk, (∀ b o, s.heap.get? b = some o → h'.get? b = some o) → Q (.str (S [61, 50, 50]) t) { s with heap := h', toks := tk }) :
    wpAny (model prog w) A (call (.ref 107) [.int 1 t₀]) Q E s := by
  obtain ⟨hd0, dp, fr, gd, un⟩ := A
  obtain rfl : hd0 = none := hA
  refine' call_fn (binds := [(Str.ofString "coats", .int 1 t₀)]) X T.nolimit (by omega) ?k6 ?kp ?kb ?ks ?k7 ?k9 ?kB ?_ ?c2 ?c3 ?c4 ?c5
  case k6 => k_is
  case kp => dsimp only [fArgs, fBody, fScope, stm, nth, PySem.Challenge.pw_qu0008_01]
  case kb => dsimp only [fArgs, fBody, fScope, stm, nth, PySem.Challenge.pw_qu0008_01]
  case ks => dsimp only [fArgs, fBody, fScope, stm, nth, PySem.Challenge.pw_qu0008_01]
  case k7 => k_is
  case k9 => exact BindsTo.of_eq rfl
  case kB => exact locs rfl
  case c2 => exact rfl
  case c3 => exact rfl
  case c4 => exact rfl
  case c5 => decide
  intro L' h' F' N'
  w_on
  k_fold
  k_steps
  exact end_str h (by assumption) (by decide +kernel)

set_option maxRecDepth 100000 in
set_option maxHeartbeats 8000000 in
theorem mark_2 {t₀ : Tok} {Q : Value → Shared → Prop} (X : (Mine.frag w.params).In s.heap) (T : Top p loose mean mg mb s.heap) (hA : A.handled = none) (hroom : A.depth + 1 < recursionLimit)
    (h : ∀ t h' tk, (∀ b o, s.heap.get? b = some o → h'.get? b = some o) → Q (.str (S [61, 51, 68, 50, 50]) t) { s with heap := h', toks := tk }) :
    wpAny (model prog w) A (call (.ref 107) [.int 2 t₀]) Q E s := by
  obtain ⟨hd0, dp, fr, gd, un⟩ := A
  obtain rfl : hd0 = none := hA
  refine' call_fn (binds := [(Str.ofString "coats", .int 2 t₀)]) X T.nolimit (by omega) ?k6 ?kp ?kb ?ks ?k7 ?k9 ?kB ?_ ?c2 ?c3 ?c4 ?c5
  case k6 => k_is
  case kp => dsimp only [fArgs, fBody, fScope, stm, nth, PySem.Challenge.pw_qu0008_01]
  case kb => dsimp only [fArgs, fBody, fScope, stm, nth, PySem.Challenge.pw_qu0008_01]
  case ks => dsimp only [fArgs, fBody, fScope, stm, nth, PySem.Challenge.pw_qu0008_01]
  case k7 => k_is
  case k9 => exact BindsTo.of_eq rfl
  case kB => exact locs rfl
  case c2 => exact rfl
  case c3 => exact rfl
  case c4 => exact rfl
  case c5 => decide
  intro L' h' F' N'
  w_on
  k_fold
  k_steps
  exact end_str h (by assumption) (by decide +kernel)

set_option maxRecDepth 100000 in
set_option maxHeartbeats 8000000 in
theorem mark_3 {t₀ : Tok} {Q : Value → Shared → Prop} (X : (Mine.frag w.params).In s.heap) (T : Top p loose mean mg mb s.heap) (hA : A.handled = none) (hroom : A.depth + 1 < recursionLimit)
    (h : ∀ t h' tk, (∀ b o, s.heap.get? b = some o → h'.get? b = some o) → Q (.str (S [61, 51, 68, 51, 68, 50, 50]) t) { s with heap := h', toks := tk }) :
    wpAny (model prog w) A (call (.ref 107) [.int 3 t₀]) Q E s := by
  obtain ⟨hd0, dp, fr, gd, un⟩ := A
  obtain rfl : hd0 = none := hA
  refine' call_fn (binds := [(Str.ofString "coats", .int 3 t₀)]) X T.nolimit (by omega) ?k6 ?kp ?kb ?ks ?k7 ?k9 ?kB ?_ ?c2 ?c3 ?c4 ?c5
  case k6 => k_is
  case kp => dsimp only [fArgs, fBody, fScope, stm, nth, PySem.Challenge.pw_qu0008_01]
  case kb => dsimp only [fArgs, fBody, fScope, stm, nth, PySem.Challenge.pw_qu0008_01]
  case ks => dsimp only [fArgs, fBody, fScope, stm, nth, PySem.Challenge.pw_qu0008_01]
  case k7 => k_is
  case k9 => exact BindsTo.of_eq rfl
  case kB => exact locs rfl
  case c2 => exact rfl
  case c3 => exact rfl
  case c4 => exact rfl
  case c5 => decide
  intro L' h' F' N'
  w_on
  k_fold
  k_steps
  exact end_str h (by assumption) (by decide +kernel)

end
end Mine
end

/-! QLoop -/
section
open PySem PySem.W PyProof.Rows
namespace Mine
open PySem.Calls
/-- a mark at which the walk stands -/
def Halt (P : Prop) : Prop := P
theorem Halt.mk {P : Prop} (h : P) : Halt P := h
theorem lt2 {L I : Nat} (h : L + 1 + 1 < I) : L < I ∧ L + 1 < I ∧ L + 1 + 1 < I := ⟨by omega, by omega, h⟩
theorem fr_but {h₀ h h' : Heap} {L I : Addr} {m : Str → Option Value} (F : Fr h₀ L h m) (hI : L < I) (hk : ∀ b o, b ≠ I → h.get? b = some o → h'.get? b = some o) : Fr h₀ L h' m :=
  ⟨F.ns.at' fun o e => hk _ o (Nat.ne_of_lt hI) e, fun b o e => hk b o (Nat.ne_of_lt (Nat.lt_trans (Nat.lt_of_lt_of_le (Heap.lt_size e) F.above) hI)) (F.keep b o e), F.above⟩
theorem news_but {h₀ h h' : Heap} {L I : Addr} {news : List (Addr × Obj)} (N : News h₀ L h news) (hn : ∀ p ∈ news, p.1 < I) (hk : ∀ b o, b ≠ I → h.get? b = some o → h'.get? b = some o) : News h₀ L h' news :=
  fun p hp => ⟨hk _ _ (Nat.ne_of_lt (hn p hp)) (N p hp).1, (N p hp).2⟩
theorem news_add {h₀ h : Heap} {L I : Addr} {m : Str → Option Value} {o : Obj} {news : List (Addr × Obj)} (F : Fr h₀ L h m) (N : News h₀ L h news) (hI : L < I) (ho : h.get? I = some o) : News h₀ L h ((I, o) :: news) := fun p hp => by
  rcases List.mem_cons.mp hp with rfl | hp
  · refine ⟨ho, Nat.ne_of_gt hI, ?_⟩
    cases q : h₀.get? I with
    | none => rfl
    | some o' => exact absurd (Nat.lt_of_lt_of_le (Heap.lt_size q) F.above) (Nat.not_lt.mpr (Nat.le_of_lt hI))
  · exact N p hp
theorem fr_congr {h₀ h : Heap} {L : Addr} {m m' : Str → Option Value} (F : Fr h₀ L h m) (e : ∀ y, m y = m' y) : Fr h₀ L h m' := (funext e : m = m') ▸ F
section
variable {prog : Program} {w : World} {A : Around} {E : Value → Shared → Prop} {s : Shared} {env : Env}

/-- a for over any walked iterator, its invariant said of the heap -/
theorem for_own {R : Result → Shared → Prop} {x : Str} {px : Pos} {body : List Stmt} {I : Addr} {fp wr : List Addr} {n : Nat} {P : Nat → Value → Prop} {St : Nat → Heap → Prop} (W : Walks prog w A I fp wr n P St)
    (J : Nat → Heap → Prop) (jst : ∀ i h h', J i h → (∀ b o, b ∉ wr → h.get? b = some o → h'.get? b = some o) → J i h') (hst : St 0 s.heap) (h0 : J 0 s.heap)
    (step : ∀ i v h tk, i < n → P i v → J i h → St (i + 1) h → wpAny (model prog w) A (storeName env x v) (fun _ s₂ => wpAny (model prog w) A (execs body env) (fun f s₃ => match f with
        | .next | .cont => ∃ h' tk', s₃ = { s with heap := h', toks := tk' } ∧ J (i + 1) h' ∧ St (i + 1) h'
        | .brk => R (.ok .next) s₃
        | .ret v => R (.ok (.ret v)) s₃) (fun _ _ => False) s₂) (fun _ _ => False) { s with heap := h, toks := tk })
    (done : ∀ h tk, J n h → R (.ok .next) { s with heap := h, toks := tk }) :
    codeAny (model prog w) A (.forLoop (.Name x px) (.ref I) body [] env) R s := by
  refine codeAny_forLoop (fun k s' => ∃ h tk i, s' = { s with heap := h, toks := tk } ∧ St i h ∧ J i h ∧ i ≤ n ∧ k = n + 1 - i) ?_ (n + 1) ⟨s.heap, s.toks, 0, rfl, hst, h0, Nat.zero_le _, rfl⟩
  rintro k s' ⟨h, tk, i, rfl, hst', hJ, hi, rfl⟩
  by_cases hlt : i < n
  · refine W.item i _ _ _ hlt hst' fun v h₁ tk₁ hP hst₁ hk₁ => ?_
    refine wpAny_assign_Name (wpAny_mono (step i v h₁ tk₁ hlt hP (jst _ _ _ hJ hk₁) hst₁) (fun _ s₂ h₂ => wpAny_mono h₂ (fun f s₃ h₃ => ?_) fun _ _ e => e.elim) fun _ _ e => e.elim)
    cases f with
    | ret v => exact h₃
    | brk => exact h₃
    | cont =>
      obtain ⟨h', tk', rfl, hJ', hs'⟩ := h₃
      exact ⟨n + 1 - (i + 1), by omega, h', tk', i + 1, rfl, hs', hJ', hlt, rfl⟩
    | next =>
      obtain ⟨h', tk', rfl, hJ', hs'⟩ := h₃
      exact ⟨n + 1 - (i + 1), by omega, h', tk', i + 1, rfl, hs', hJ', hlt, rfl⟩
  · have hin : i = n := by omega
    subst hin
    refine W.done _ _ _ hst' fun h₁ tk₁ hk₁ => wpAny_execs_nil ?_
    exact done h₁ tk₁ (jst _ _ _ hJ hk₁)

/-- for x in range(n) over a whole number n -/
theorem for_range {Q : Flow → Shared → Prop} {x : Str} {px pos : Pos} {iter : Expr} {body : List Stmt} (n : Nat) (hn : n ≤ 100000) (hh : A.handled = none) (J : Nat → Heap → Prop)
    (h : wpAny (model prog w) A (eval iter env) (fun xv s₁ => Halt (∃ r u1 u2 u3 h₁ tk₁, xv = .ref r ∧ s₁ = { s with heap := h₁, toks := tk₁ } ∧ IsRange h₁ r 0 n 1 u1 u2 u3 ∧ J 0 h₁ ∧
      (∀ I, I = h₁.objs.size → 
        (∀ i h h', J i h → (∀ b o, b ≠ I → h.get? b = some o → h'.get? b = some o) → J i h') ∧ 
        (∀ i t h tk, i < n → J i h → (∃ o, h.get? I = some o) →
          wpAny (model prog w) A (storeName env x (.int i t)) (fun _ s₂ => wpAny (model prog w) A (execs body env) (fun f s₃ => match f with
            | .next | .cont => Halt (∃ h' tk', s₃ = { s with heap := h', toks := tk' } ∧ J (i + 1) h' ∧ (∀ o, h.get? I = some o → h'.get? I = some o))
            | .brk => Q .next s₃
            | .ret v => Q (.ret v) s₃) (fun _ _ => False) s₂) (fun _ _ => False) { s with heap := h, toks := tk })))) (fun _ _ => False) s)
    (done : ∀ h tk, J n h → Q .next { s with heap := h, toks := tk })
    (hs : ∀ x, foldedSetIterable iter env x = pure x := by intro _; rfl) :
    wpAny (model prog w) A (exec (.For (.Name x px) iter body [] pos) env) Q (fun _ _ => False) s := by
  refine wpAny_For (wpAny_mono h (fun xv s₁ h₁ => ?_) fun _ _ e => e) hs
  obtain ⟨r, u1, u2, u3, h₁, tk₁, rfl, rfl, hr, hJ, hI⟩ := h₁
  have hsz : Builtin.Range.rangeSize 0 (n : Int) 1 = (n : Int) := by rw [rangeSize_one]; split <;> omega
  refine wpAny_pyIter_range hr (small_one (by omega) (by omega) (by omega) (by omega)) ?_
  obtain ⟨jst, step⟩ := hI _ rfl
  have W := Walks.range (prog := prog) (w := w) hh h₁.objs.size 0 1 n
  refine for_own (R := fun r s' => match r with | .ok f => Q f s' | .error e => cameBackBy (model prog w) A env (fun _ _ => False) e s') W J ?_ ?_ ?_ ?_ ?_
  · intro i h h' hj hk
    exact jst i h h' hj fun b o hb e => hk b o (by simpa using hb) e
  · show IsRangeIter _ _ _ _ _
    rw [hsz]
    simpa using Heap.get?_push_size _ rfl
  · exact jst 0 _ _ hJ fun b o _ e => Heap.get?_push_of_some _ e
  · rintro i v h tk hi ⟨t, rfl⟩ hj hst
    have e : (0 : Int) + (i : Int) * 1 = i := by omega
    rw [e]
    refine wpAny_mono (step i t h tk hi hj ⟨_, hst⟩) (fun _ s₂ h₂ => wpAny_mono h₂ (fun f s₃ h₃ => ?_) fun _ _ e => e) fun _ _ e => e
    cases f with
    | ret v => exact h₃
    | brk => exact h₃
    | cont =>
      obtain ⟨h', tk', rfl, hJ', hs'⟩ := h₃
      exact ⟨h', tk', rfl, hJ', hs' _ hst⟩
    | next =>
      obtain ⟨h', tk', rfl, hJ', hs'⟩ := h₃
      exact ⟨h', tk', rfl, hJ', hs' _ hst⟩
  · intro h tk hj
    exact done h tk hj
end
end Mine
end

/-! QGone -/
section
open PySem PySem.W PyProof.Rows
namespace Mine
open PySem.Calls
section
variable {prog : Program} {w : World} {A : Around} {E : Value → Shared → Prop} {s : Shared} {p : Program} {loose : List Str} {mean : ExcName → Option Value} {mg mb : Str → Option Value}

def bellsOver (bells : List Int) (c : Int) : Int := ((bells.filter fun b => decide (c ≤ b)).length : Int)
def goneUp (coats bells : List Int) : Nat → Int
  | 0 => coats.length
  | k + 1 => min (goneUp coats bells k) (k + bellsOver bells (coats.getD k 0))
def goneF (coats bells : List Int) : Int := goneUp coats bells coats.length

theorem len_filtered {D : Addr} {ys : List Value} {f : Int → Bool} {bells : List Int} {Q : Value → Shared → Prop} (hl : s.heap.IsList D ys.toArray) (hc : CarriedAll ys (List.map PyData.int (List.filter f bells))) (hb : bells.length ≤ 1000)
    (h : Q (.int ((bells.filter f).length : Int) (s.toks + 1)) { s with toks := s.toks + 1 + 1 }) : wpAny (model prog w) A (call (.builtin "len") [.ref D]) Q E s :=
  len_list_made hl hc (by rw [List.length_map]; exact Nat.le_trans (List.length_filter_le _ _) (Nat.le_trans hb (by decide))) (by rw [List.length_map]; exact h)
local macro_rules | `(tactic| walk_at "call builtin:len") => `(tactic| (with_reducible refine len_filtered (by assumption) (by assumption) (by assumption) ?_))
abbrev gmap (b : Addr) (l : Int) (t : Tok) : Str → Option Value := fun y => if y = Str.ofString "least" then some (.int l t) else if y = Str.ofString "bells" then some (.ref b) else none

theorem gone_val (coats bells : List Int) (i : Nat) :
    (if (i : Int) + ((List.filter (fun a => decide (coats.getD (i : Int).toNat 0 ≤ a)) bells).length : Int) < goneUp coats bells i then (i : Int) + ((List.filter (fun a => decide (coats.getD (i : Int).toNat 0 ≤ a)) bells).length : Int) else goneUp coats bells i) = goneUp coats bells (i + 1) := by
  have e : (i : Int).toNat = i := by omega
  rw [e]
  simp only [goneUp, bellsOver]
  split <;> omega
theorem gone_map {b : Addr} {x l l' : Int} {t : Tok} (t' : Tok) (b' : Addr) (_ : b' = b) (e : x = l') : ∀ y, (if y = Str.ofString "least" then some (Value.int x t') else gmap b l t y) = gmap b l' t' y := by
  intro y
  by_cases h : y = Str.ofString "least"
  · simp [gmap, h, e]
  · simp [gmap, h]
theorem end_int {h₀ h' : Heap} {L : Addr} {m : Str → Option Value} {x y : Int} {t : Tok} {tk : Nat} {Q : Value → Shared → Prop} (h : ∀ t h' tk, (∀ b o, h₀.get? b = some o → h'.get? b = some o) → Q (.int x t) { s with heap := h', toks := tk })
    (F : Fr h₀ L h' m) (e : y = x) : Q (.int y t) { s with heap := h', toks := tk } := e ▸ h t h' tk F.keep

set_option maxRecDepth 100000 in
set_option maxHeartbeats 8000000 in
theorem gone_ok {a b : Addr} {vs us : List Value} {coats bells : List Int} {Q : Value → Shared → Prop} (X : (Mine.frag w.params).In s.heap) (T : Top p loose mean mg mb s.heap) (hA : A.handled = none) (hroom : A.depth + 1 < recursionLimit)
    (ha : s.heap.IsList a vs.toArray) (hb : s.heap.IsList b us.toArray) (ia : IntsAre vs coats) (ib : IntsAre us bells) (la : coats.length ≤ 1000) (lb : bells.length ≤ 1000)
    (h : ∀ t h' tk, (∀ b o, s.heap.get? b = some o → h'.get? b = some o) → Q (.int (goneF coats bells) t) { s with heap := h', toks := tk }) :
    wpAny (model prog w) A (call (.ref 117) [.ref a, .ref b]) Q E s := by
  obtain ⟨hd0, dp, fr, gd, un⟩ := A
  obtain rfl : hd0 = none := hA
  refine' call_fnC (binds := [(Str.ofString "coats", .ref a), (Str.ofString "bells", .ref b)]) X T.nolimit (by omega) ?k6 ?kp ?kb ?ks ?k7 ?k9 ?kB ?kD ?_ ?c2 ?c3 ?c4
  case k6 => k_is
  case kp => dsimp only [fArgs, fBody, fScope, stm, nth, PySem.Challenge.pw_qu0008_01]
  case kb => dsimp only [fArgs, fBody, fScope, stm, nth, PySem.Challenge.pw_qu0008_01]
  case ks => dsimp only [fArgs, fBody, fScope, stm, nth, PySem.Challenge.pw_qu0008_01]
  case k7 => k_is
  case k9 => exact BindsTo.of_eq rfl
  case kB => exact rfl
  case kD => decide +kernel
  case c2 => exact rfl
  case c3 => exact rfl
  case c4 => exact rfl
  intro L' h' tk' cells' F' N' Y'
  k_cells Y'
  (try simp only [List.cons_append, List.nil_append] at N')
  w_on
  (try dsimp only)
  with_reducible show wpAny _ _ _ _ _ _
  k_fold
  k_steps
  rename_i o1 o2 d1 d2 hh F1 N1
  refine for_range coats.length (by omega) rfl (fun i h => ∃ t o1 o2 v1, Fr s.heap L' h (gmap b (goneUp coats bells i) t) ∧ News s.heap L' h [(L' + 1 + 1, o1), (L' + 1, o2)] ∧ o1.data = .cell v1 ∧ o2.data = .cell (some (.ref a))) ?_ ?_
  · k_steps
    rename News _ _ _ _ => N2
    rename Fr _ _ _ _ => F2
    refine Halt.mk ⟨_, _, _, _, _, _, rfl, rfl, by assumption, ⟨_, o1, o2, _, fr_congr F2 (fun y => rfl), N2, d1, d2.trans rfl⟩, ?_⟩
    have hL2 := Heap.lt_size (N2 (L' + 1 + 1, o1) (.head _)).1
    have hL1 : L' + 1 + 1 < _ := hL2
    intro I hI
    rw [← hI] at hL1
    obtain ⟨l1, l2, l3⟩ := lt2 hL1
    refine ⟨?_, ?_⟩
    · rintro i h1 h2 ⟨t, o1, o2, v1, F, N, e1, e2⟩ hk
      exact ⟨t, o1, o2, v1, fr_but F l1 hk, news_but N (by intro p hp; simp only [List.mem_cons, List.not_mem_nil, or_false] at hp; rcases hp with rfl | rfl; exact hL1; exact l2) hk, e1, e2⟩
    · rintro i t h1 tk1 hi ⟨t1, o3, o4, v1, F3, N3, e1, e2⟩ ⟨oI, hoI⟩
      have N4 := news_add F3 N3 l1 hoI
      clear N3 N2 F2 d1 d2
      w_on
      with_reducible show wpAny _ _ _ _ _ _
      k_fold
      k_steps
      all_goals (try k_data)
      rename News _ _ _ _ => N5
      rename Fr _ _ _ _ => F5
      rename (_ : Obj).data = Data.cell (some (Value.int _ _)) => e5
      refine Halt.mk ⟨_, _, rfl, ⟨_, _, _, _, fr_congr F5 (gone_map _ _ rfl (gone_val coats bells i)), fun p hp => N5 p (.tail _ hp), e5, e2⟩, fun o e => ?_⟩
      rw [hoI] at e
      cases e
      exact (N5 _ (.head _)).1
  · rintro h2 tk2 ⟨t2, o3, o4, v2, F3, N3, e1, e2⟩
    (try dsimp only)
    with_reducible show wpAny _ _ _ _ _ _
    k_steps
    exact end_int h F3 rfl
end
end Mine
end

/-! QTold -/
section
open PySem PySem.W PyProof.Rows
namespace Mine
open PySem.Calls
section
variable {prog : Program} {w : World} {A : Around} {E : Value → Shared → Prop} {s : Shared} {p : Program} {loose : List Str} {mean : ExcName → Option Value} {mg mb : Str → Option Value}

def rep3D : Nat → List Nat
  | 0 => []
  | n + 1 => 51 :: 68 :: rep3D n
def mkN : Nat → List Nat
  | 0 => [34]
  | n + 1 => 61 :: (rep3D n ++ [50, 50])
def toldS (clock k : Int) : Str := S (mkN (k - clock).toNat)
theorem told_gt {clock k : Int} (hb : 0 ≤ k ∧ k ≤ 3) (hc : 0 ≤ clock ∧ clock ≤ 1000) (h : clock < k) : toldS clock k = Str.ofString "=" ++ Txt.mul (Str.ofString "3D") (k - clock - 1) ++ Str.ofString "22" := by
  unfold toldS
  have : k - clock = 1 ∨ k - clock = 2 ∨ k - clock = 3 := by omega
  rcases this with e | e | e <;> rw [e] <;> decide +kernel
theorem told_le {clock k : Int} (h : ¬ clock < k) : toldS clock k = Str.ofString "\"" := by
  unfold toldS
  have : (k - clock).toNat = 0 := by omega
  rw [this]; decide +kernel

set_option maxRecDepth 100000 in
set_option maxHeartbeats 8000000 in
theorem told_ok {a : Addr} {vs : List Value} {coats : List Int} {clock : Int} {t₀ : Tok} {Q : Value → Shared → Prop} (X : (Mine.frag w.params).In s.heap) (T : Top p loose mean mg mb s.heap) (hA : A.handled = none) (hroom : A.depth + 1 < recursionLimit)
    (ha : s.heap.IsList a vs.toArray) (ia : IntsAre vs coats) (la : coats.length ≤ 1000) (lb : ∀ c ∈ coats, 0 ≤ c ∧ c ≤ 3) (hc : 0 ≤ clock ∧ clock ≤ 1000)
    (h : ∀ D ys h' tk, (∀ b o, s.heap.get? b = some o → h'.get? b = some o) → s.heap.get? D = none → h'.get? D = some (LCg.lst ys) → StrsAre ys (coats.map (toldS clock)) → Q (.ref D) { s with heap := h', toks := tk }) :
    wpAny (model prog w) A (call (.ref 112) [.ref a, .int clock t₀]) Q E s := by
  obtain ⟨hd0, dp, fr, gd, un⟩ := A
  obtain rfl : hd0 = none := hA
  refine' call_fnC (binds := [(Str.ofString "coats", .ref a), (Str.ofString "clock", .int clock t₀)]) X T.nolimit (by omega) ?k6 ?kp ?kb ?ks ?k7 ?k9 ?kB ?kD ?_ ?c2 ?c3 ?c4
  case k6 => k_is
  case kp => dsimp only [fArgs, fBody, fScope, stm, nth, PySem.Challenge.pw_qu0008_01]
  case kb => dsimp only [fArgs, fBody, fScope, stm, nth, PySem.Challenge.pw_qu0008_01]
  case ks => dsimp only [fArgs, fBody, fScope, stm, nth, PySem.Challenge.pw_qu0008_01]
  case k7 => k_is
  case k9 => exact BindsTo.of_eq rfl
  case kB => exact rfl
  case kD => decide +kernel
  case c2 => exact rfl
  case c3 => exact rfl
  case c4 => exact rfl
  intro L' h' tk' cells' F' N' Y'
  k_cells Y'
  (try simp only [List.cons_append, List.nil_append] at N')
  w_on
  (try dsimp only)
  with_reducible show wpAny _ _ _ _ _ _
  k_fold
  walk1
  walk1
  walk1
  walk1
  refine LCg.CompSrc.base (by rfl) (by k_asm) (by k_asm) (by assumption) (by size_fits) ?_
  intro g'
  refine' kct_list (toldS clock) (by assumption) (fun k' t' I' oI' C' oC' D' m' ys' h' tk' E' hk' hC' hx' F' N' off' ne' => ?_) ?_
  all_goals (try (simp only [LCg.Off3, and_true] at off'))
  all_goals (try ((show KPfMark → _); intro hMark'))
  · have hb := lb k' hk'
    k_steps
    · exact kct_el (told_gt hb hc (by assumption)) rfl rfl
    · exact kct_el (told_le (by assumption)) rfl rfl
  · k_steps
    rename News _ _ _ _ => N9
    rename Fr _ _ _ _ => F9
    rename CarriedAll _ _ => C9
    refine h _ _ _ _ F9.keep (N9 _ (.head _)).2.2 (N9 _ (.head _)).1 (StrsAre.of_carried ?_)
    rw [List.map_map]
    exact C9
end
end Mine
end

/-! QTok -/
section
open PySem PySem.W PyProof.Rows
namespace Mine
open PySem.Builtin PySem.Builtin.Str

/-- a piece of a coded text: an escape of the sign =, an escape of the mark, a sign that stands for itself -/
inductive Tk where
  | e3D
  | e22
  | ch (c : Nat)
def Tk.ren : Tk → List Nat
  | .e3D => [61, 51, 68]
  | .e22 => [61, 50, 50]
  | .ch c => [c]
def Tk.val : Tk → Nat
  | .e3D => 61
  | .e22 => 34
  | .ch c => c
def okc (c : Nat) : Prop := c = 34 ∨ c = 50 ∨ c = 51 ∨ c = 68 ∨ c = 97
def Tk.ok : Tk → Prop
  | .ch c => okc c
  | _ => True
def ren (l : List Tk) : List Nat := l.flatMap Tk.ren
def vals (l : List Tk) : List Nat := l.map Tk.val
def allOk (l : List Tk) : Prop := ∀ t ∈ l, t.ok

theorem ren_append (a b : List Tk) : ren (a ++ b) = ren a ++ ren b := by simp [ren]
theorem vals_append (a b : List Tk) : vals (a ++ b) = vals a ++ vals b := by simp [vals]
theorem ren_cons (t : Tk) (l : List Tk) : ren (t :: l) = t.ren ++ ren l := by simp [ren]
theorem ren_code {l : List Tk} (h : allOk l) : ∀ c ∈ ren l, c = 34 ∨ c = 50 ∨ c = 51 ∨ c = 61 ∨ c = 68 ∨ c = 97 := by
  intro c hc
  obtain ⟨t, ht, hc⟩ := List.mem_flatMap.mp hc
  have ho := h t ht
  cases t with
  | e3D => simp [Tk.ren] at hc; omega
  | e22 => simp [Tk.ren] at hc; omega
  | ch d =>
    simp only [Tk.ren, List.mem_singleton] at hc
    subst hc
    have ho' : okc c := ho
    unfold okc at ho'
    omega
theorem ren_len_pos {l : List Tk} (h : l ≠ []) : 0 < (ren l).length := by
  cases l with
  | nil => exact absurd rfl h
  | cons t r => rw [ren_cons]; cases t <;> simp [Tk.ren]
theorem tk_len (t : Tk) : 1 ≤ t.ren.length ∧ t.ren.length ≤ 3 := by cases t <;> simp [Tk.ren]
theorem ren_nil {l : List Tk} (h : (ren l).length = 0) : l = [] := by
  cases l with
  | nil => rfl
  | cons t r => have := ren_len_pos (l := t :: r) (by simp); omega
end Mine
end

/-! QTxt2 -/
section
open PySem PySem.W PyProof.Rows
namespace Mine
open PySem.Builtin PySem.Builtin.Str

theorem ls_none (x : Str) (h : ∀ i, i < x.length → Unicode.isLineBreak (x.cps.getD i 0) = false) : ∀ (m cur : Nat), cur + m ≤ x.length →
    Id.run (forIn (m := Id) (List.range' cur m) ((#[], 0) : StrLaws.LsSt) (StrLaws.lsBody x)) = (#[], 0)
  | 0, _, _ => rfl
  | m + 1, cur, hm => by
    rw [List.range'_succ, List.forIn_cons]
    have e : StrLaws.lsBody x cur (#[], 0) = pure (ForInStep.yield (#[], 0)) := by
      unfold StrLaws.lsBody
      rw [h cur (by omega)]
      simp
    rw [e]
    exact ls_none x h m (cur + 1) (by omega)

theorem lines_one {l : List Nat} (hne : l ≠ []) (h : ∀ c ∈ l, Unicode.isLineBreak c = false) : Txt.lines (S l) = [S l] := by
  have hpos : 0 < l.length := List.length_pos_iff.mpr hne
  have hs : lineSpans (S l) = [(0, l.length, l.length)] := by
    rw [StrLaws.ls_eq, ls_none (S l) ?_ _ _ (by omega)]
    · unfold StrLaws.lsEnd
      rw [S_len]
      simp [hpos]
    · intro i hi
      rw [S_len] at hi
      refine h _ ?_
      have : (S l).cps.getD i 0 = l[i] := by simp [S, hi]
      rw [this]
      exact List.getElem_mem hi
  have hc : lineCuts (S l) = [(0, (S l).length)] := by
    unfold lineCuts
    rw [hs, S_len]
    rfl
  unfold Txt.lines
  rw [hc]
  simp

theorem rstrip_same {l : List Nat} {c : Nat} (h : Unicode.isSpace c = false) : Txt.rstrip (S (l ++ [c])) = S (l ++ [c]) := by
  unfold Txt.rstrip Txt.stripBy
  have : stripSame Unicode.isSpace false true (S (l ++ [c])) = true := by
    unfold stripSame stripLo stripHi
    rw [S_cps]
    simp [h]
  rw [if_pos this]

theorem item_at {l a r : List Nat} {c : Nat} {i : Int} (h : l = a ++ c :: r) (hi : i = a.length) : Txt.item (S l) i = S [c] := by
  subst hi; subst h
  unfold Txt.item Txt.charAt
  rw [S_len, StrLaws.seqIndex_nonneg (by omega) (by simp; omega)]
  simp [S]
theorem item_last {l : List Nat} {c : Nat} : Txt.item (S (l ++ [c])) (-1) = S [c] := by
  unfold Txt.item Txt.charAt
  rw [S_len, StrLaws.seqIndex_neg (by omega) (by simp; omega)]
  have : (-1 + ((l ++ [c]).length : Int)).toNat = l.length := by simp; omega
  rw [this]
  simp [S]
theorem char_at {l a r : List Nat} {c : Nat} {i : Int} (h : l = a ++ c :: r) (hi : i = a.length) : (Txt.charAt (S l) i).isSome = true := by
  subst hi; subst h
  unfold Txt.charAt
  rw [S_len, StrLaws.seqIndex_nonneg (by omega) (by simp; omega)]
  simp [S]
theorem slice3 {l a r : List Nat} {x y z : Nat} {i j : Int} (h : l = a ++ x :: y :: z :: r) (hi : i = a.length) (hj : j = a.length + 3) : Txt.slice (S l) (some i) (some j) = S [x, y, z] := by
  subst hi; subst h
  have : j = ((a.length + 3 : Nat) : Int) := by omega
  subst this
  rw [slice_mid _ _ _ (by omega) (by simp)]
  simp

theorem tk_noBreak {l : List Tk} (h : allOk l) : ∀ c ∈ ren l, Unicode.isLineBreak c = false := by
  intro c hc
  rcases ren_code h c hc with h | h | h | h | h | h <;> subst h <;> decide +kernel
theorem tk_last {l : List Tk} (h : allOk l) (hne : l ≠ []) : ∃ a c, ren l = a ++ [c] ∧ Unicode.isSpace c = false ∧ (c = 34 ∨ c = 50 ∨ c = 51 ∨ c = 61 ∨ c = 68 ∨ c = 97) := by
  have hp := ren_len_pos hne
  rcases List.eq_nil_or_concat (ren l) with e | ⟨a, c, e⟩
  · rw [e] at hp; exact absurd hp (by decide)
  · rw [List.concat_eq_append] at e
    have hc := ren_code h c (by rw [e]; simp)
    refine ⟨a, c, e, ?_, hc⟩
    rcases hc with h | h | h | h | h | h <;> subst h <;> decide +kernel
theorem rstrip_ren {l : List Tk} (h : allOk l) (hne : l ≠ []) : Txt.rstrip (S (ren l)) = S (ren l) := by
  obtain ⟨a, c, e, h1, _⟩ := tk_last h hne
  rw [e]; exact rstrip_same h1
theorem lines_ren {l : List Tk} (h : allOk l) (hne : l ≠ []) : Txt.lines (S (ren l)) = [S (ren l)] := by
  refine lines_one ?_ (tk_noBreak h)
  intro e
  have hp := ren_len_pos hne
  rw [e] at hp; exact absurd hp (by decide)
theorem lines_pairs {l : List Tk} {q : List (Str × Tok)} (h : allOk l) (hne : l ≠ []) (e : List.map (fun x => x.fst) q = Txt.lines (S (ren l))) : ∃ t, q = [(S (ren l), t)] := by
  rw [lines_ren h hne] at e
  match q, e with
  | [(x, t)], e => simp only [List.map_cons, List.map_nil, List.cons.injEq, and_true] at e; exact ⟨t, by rw [e]⟩
theorem hex_has {c : Nat} (h : c = 50 ∨ c = 51 ∨ c = 68) : Txt.contains (Str.ofString "0123456789abcdefABCDEF") (S [c]) = true := by
  rcases h with h | h | h <;> subst h <;> decide +kernel
end Mine
end

/-! QWhile -/
section
open PySem PySem.W PyProof.Rows
namespace Mine
open PySem.Calls
theorem halt_here {P : Prop} (h : Halt P) : P := h
section
variable {prog : Program} {w : World} {A : Around} {s : Shared} {env : Env}
theorem while_own {test : Expr} {body : List Stmt} {pos : Pos} {Q : Flow → Shared → Prop} (J : Nat → Heap → Prop) {n₀ : Nat} (h0 : J n₀ s.heap)
    (turn : ∀ n h tk, J n h → wpAny (model prog w) A (isTrue test env (eval test env)) (fun b s₂ =>
      if b = true then wpAny (model prog w) A (execs body env) (fun f s₃ => match f with
        | .next | .cont => Halt (∃ h' tk' n', s₃ = { s with heap := h', toks := tk' } ∧ n' < n ∧ J n' h')
        | .brk => Q .next s₃
        | .ret v => Q (.ret v) s₃) (fun _ _ => False) s₂ else Q .next s₂) (fun _ _ => False) { s with heap := h, toks := tk }) :
    wpAny (model prog w) A (exec (.While test body [] pos) env) Q (fun _ _ => False) s := by
  refine wpAny_While (codeAny_whileLoop (fun n s' => ∃ h tk, s' = { s with heap := h, toks := tk } ∧ J n h) ?_ n₀ ⟨s.heap, s.toks, rfl, h0⟩)
  rintro n s' ⟨h, tk, rfl, hJ⟩
  refine wpAny_mono (turn n h tk hJ) (fun b s₂ h₂ => ?_) fun _ _ e => e.elim
  cases b with
  | false =>
    simp only [Bool.false_eq_true, if_false] at h₂ ⊢
    exact wpAny_execs_nil h₂
  | true =>
    simp only [if_true] at h₂ ⊢
    refine wpAny_mono h₂ (fun f s₃ h₃ => ?_) fun _ _ e => e.elim
    cases f with
    | next => obtain ⟨h', tk', n', rfl, hn, hj⟩ := h₃; exact ⟨n', hn, h', tk', rfl, hj⟩
    | cont => obtain ⟨h', tk', n', rfl, hn, hj⟩ := h₃; exact ⟨n', hn, h', tk', rfl, hj⟩
    | brk => exact h₃
    | ret v => exact h₃

theorem item_tok {value slice : Expr} {l a r : List Nat} {c : Nat} {i : Int} {t u : Tok} {Q : Value → Shared → Prop} {E : Value → Shared → Prop} (hl : l = a ++ c :: r) (hi : i = a.length) (hsz : l.length ≤ 1000)
    (h : Q (.str (S [c]) s.toks) { s with toks := s.toks + 1 })
    (hs : subscripted slice false (.str (S l) t) (.int i u) = operate [.str (S l) t, .int i u] (getItem (.str (S l) t) (.int i u)) := by with_unfolding_all rfl)
    (ht : ∀ r, letTemporaryGo value (.str (S l) t) r = pure () := by intro _; with_unfolding_all rfl) :
    wpAny (model prog w) A (subscriptTail value slice (.str (S l) t) (.int i u)) Q E s := by
  have h1 : a.length < l.length := by rw [hl]; simp
  refine item_str (fitsSsize_of (N := 9223372036854775808) (by omega) (by omega) (Int.le_refl _)) (by rw [S_len]; omega) (by rw [S_len]; omega) (fun _ => ?_) hs ht
  rw [item_at hl hi]
  exact h
end
end Mine
end

/-! QDec -/
section
open PySem PySem.W PyProof.Rows
namespace Mine
open PySem.Calls
section
variable {prog : Program} {w : World} {A : Around} {E : Value → Shared → Prop} {s : Shared} {p : Program} {loose : List Str} {mean : ExcName → Option Value} {mg mb : Str → Option Value}

/-- the names of decode within its while -/
def wmap (cv : Option Value) (i n : Int) (ti tn td tl te t₀ : Tok) (d x : Str) : Str → Option Value := fun y =>
  if y = Str.ofString "c" then cv else if y = Str.ofString "i" then some (.int i ti) else if y = Str.ofString "decoded" then some (.str d td) else
  if y = Str.ofString "n" then some (.int n tn) else if y = Str.ofString "line" then some (.str x tl) else if y = Str.ofString "encoded" then some (.str x t₀) else if y = Str.ofString "eol" then some (.str (Str.ofString "\n") te) else none

def decoded (pre rest : List Tk) : List Nat := vals pre ++ (if rest.isEmpty && !pre.isEmpty then [10] else [])
theorem decoded_start (l : List Tk) : S (decoded [] l) = Str.ofString "" := by
  simp only [decoded, vals, List.map_nil, List.isEmpty_nil, Bool.not_true, Bool.and_false]
  decide +kernel

theorem wmap_start {n : Int} {ti tn td tl tb t₀ : Tok} {d d' x : Str} (e : d' = d) : ∀ y, (if y = Str.ofString "n" then some (Value.int n tn) else if y = Str.ofString "i" then some (Value.int 0 ti) else if y = Str.ofString "line" then some (Value.str x tl) else
    if y = Str.ofString "line" then some (Value.str x tb) else if y = Str.ofString "decoded" then some (Value.str d td) else List.lookup y [(Str.ofString "encoded", Value.str x t₀), (Str.ofString "eol", Value.str (Str.ofString "\n") 326)].reverse) = wmap none 0 n ti tn td tl 326 t₀ d' x y := by
  subst e
  intro y
  unfold wmap
  by_cases h1 : y = Str.ofString "c"
  · subst h1; rfl
  by_cases h2 : y = Str.ofString "i"
  · subst h2; rfl
  by_cases h3 : y = Str.ofString "decoded"
  · subst h3; rfl
  by_cases h4 : y = Str.ofString "n"
  · subst h4; rfl
  by_cases h5 : y = Str.ofString "line"
  · subst h5; rfl
  by_cases h6 : y = Str.ofString "encoded"
  · subst h6; rfl
  by_cases h7 : y = Str.ofString "eol"
  · subst h7; rfl
  have e6 : (y == Str.ofString "encoded") = false := beq_eq_false_iff_ne.mpr h6
  have e7 : (y == Str.ofString "eol") = false := beq_eq_false_iff_ne.mpr h7
  simp [h1, h2, h3, h4, h5, h6, h7, e6, e7, List.lookup_cons]

theorem wmap_turn {cv : Option Value} {i n i' : Int} {ti tn td tl te t₀ ti' td' : Tok} {d x d' d'' : Str} {v : Value} {i'' : Int} (e : d' = d'') (ei : i' = i'') : ∀ y, (if y = Str.ofString "i" then some (Value.int i' ti') else if y = Str.ofString "decoded" then some (Value.str d' td') else
    if y = Str.ofString "c" then some v else wmap cv i n ti tn td tl te t₀ d x y) = wmap (some v) i'' n ti' tn td' tl te t₀ d'' x y := by
  subst e ei
  intro y
  unfold wmap
  by_cases h1 : y = Str.ofString "c"
  · subst h1; rfl
  by_cases h2 : y = Str.ofString "i"
  · subst h2; rfl
  by_cases h3 : y = Str.ofString "decoded"
  · subst h3; rfl
  simp [h1, h2, h3]
theorem wmap_turn2 {cv : Option Value} {i n i' : Int} {ti tn td tl te t₀ ti' td' td₂ : Tok} {d x d' d'' d₂ : Str} {v : Value} {i'' : Int} (e : d₂ = d'') (ei : i' = i'') : ∀ y, (if y = Str.ofString "decoded" then some (Value.str d₂ td₂) else if y = Str.ofString "i" then some (Value.int i' ti') else if y = Str.ofString "decoded" then some (Value.str d' td') else
    if y = Str.ofString "c" then some v else wmap cv i n ti tn td tl te t₀ d x y) = wmap (some v) i'' n ti' tn td₂ tl te t₀ d'' x y := by
  subst e ei
  intro y
  unfold wmap
  by_cases h1 : y = Str.ofString "c"
  · subst h1; rfl
  by_cases h2 : y = Str.ofString "i"
  · subst h2; rfl
  by_cases h3 : y = Str.ofString "decoded"
  · subst h3; rfl
  simp [h1, h2, h3]

theorem truthy_pos {x : Str} {t : Tok} {Q : Bool → Shared → Prop} (hp : 0 < x.length) (hx : x.length ≤ 1000) (h : Q true { s with toks := s.toks + 1 + 1 }) : wpAny (model prog w) A (truthy (.str x t)) Q E s := by
  refine P.truthy_str (by omega) ?_
  have e : ((x.length : Int) != 0) = true := by simp; omega
  rw [e]; exact h
theorem unquote_step22 {h₀ : Heap} {L : Addr} {m : Str → Option Value} {news : List (Addr × Obj)} {x : Str} {t₀ : Tok} {Q : Value → Shared → Prop} (F : Fr h₀ L s.heap m) (N : News h₀ L s.heap news) (X : (Mine.frag w.params).In h₀) (T : Top p loose mean mg mb h₀)
    (hroom : A.depth < recursionLimit) (hx : x = S [61, 50, 50]) (h : ∀ t h' tk, Fr h₀ L h' m → News h₀ L h' news → Q (.str (S [34]) t) { s with heap := h', toks := tk }) :
    wpAny (model prog w) A (call (.ref 66) [.str x t₀]) Q E s := by
  subst hx
  exact unquote_22 (X.keeps F.keep) (T.keeps F.keep) hroom fun t h' tk k => h t h' tk (F.after k) (news_ext N k)
theorem unquote_step3D {h₀ : Heap} {L : Addr} {m : Str → Option Value} {news : List (Addr × Obj)} {x : Str} {t₀ : Tok} {Q : Value → Shared → Prop} (F : Fr h₀ L s.heap m) (N : News h₀ L s.heap news) (X : (Mine.frag w.params).In h₀) (T : Top p loose mean mg mb h₀)
    (hroom : A.depth < recursionLimit) (hx : x = S [61, 51, 68]) (h : ∀ t h' tk, Fr h₀ L h' m → News h₀ L h' news → Q (.str (S [61]) t) { s with heap := h', toks := tk }) :
    wpAny (model prog w) A (call (.ref 66) [.str x t₀]) Q E s := by
  subst hx
  exact unquote_3D (X.keeps F.keep) (T.keeps F.keep) hroom fun t h' tk k => h t h' tk (F.after k) (news_ext N k)

theorem rstrip_tok {l : List Tk} {t : Tok} {Q : Value → Shared → Prop} (hl : allOk l) (hne : l ≠ []) (hsz : (S (ren l)).length ≤ 1000) (h : ∀ t' k, Q (.str (S (ren l)) t') { s with toks := k }) :
    wpAny (model prog w) A (call (.builtin "str.rstrip") [.str (S (ren l)) t]) Q E s :=
  SC.rstrip (fun t' k => by rw [rstrip_ren hl hne]; exact h t' k) (Nat.le_trans hsz (by rw [sizeLine_eq]; decide))

theorem item_tok0 {value slice : Expr} {l pre : List Tk} {c : Nat} {r : List Nat} {t u : Tok} {Q : Value → Shared → Prop} (e0 : ren l = ren pre ++ c :: r) (hsz : (ren l).length ≤ 1000)
    (h : Q (.str (S [c]) s.toks) { s with toks := s.toks + 1 })
    (hs : subscripted slice false (.str (S (ren l)) t) (.int ((ren pre).length : Int) u) = operate [.str (S (ren l)) t, .int ((ren pre).length : Int) u] (getItem (.str (S (ren l)) t) (.int ((ren pre).length : Int) u)) := by with_unfolding_all rfl)
    (ht : ∀ r, letTemporaryGo value (.str (S (ren l)) t) r = pure () := by intro _; with_unfolding_all rfl) :
    wpAny (model prog w) A (subscriptTail value slice (.str (S (ren l)) t) (.int ((ren pre).length : Int) u)) Q E s := item_tok e0 rfl hsz h hs ht
theorem item_tok1 {value slice : Expr} {l pre : List Tk} {c : Nat} {r : List Nat} {t u : Tok} {Q : Value → Shared → Prop} (e0 : ren l = ren pre ++ 61 :: c :: r) (hsz : (ren l).length ≤ 1000)
    (h : Q (.str (S [c]) s.toks) { s with toks := s.toks + 1 })
    (hs : subscripted slice false (.str (S (ren l)) t) (.int (((ren pre).length : Int) + 1) u) = operate [.str (S (ren l)) t, .int (((ren pre).length : Int) + 1) u] (getItem (.str (S (ren l)) t) (.int (((ren pre).length : Int) + 1) u)) := by with_unfolding_all rfl)
    (ht : ∀ r, letTemporaryGo value (.str (S (ren l)) t) r = pure () := by intro _; with_unfolding_all rfl) :
    wpAny (model prog w) A (subscriptTail value slice (.str (S (ren l)) t) (.int (((ren pre).length : Int) + 1) u)) Q E s :=
  item_tok (a := ren pre ++ [61]) (r := r) (by rw [e0]; simp) (by simp) hsz h hs ht
theorem item_tok2 {value slice : Expr} {l pre : List Tk} {x c : Nat} {r : List Nat} {t u : Tok} {Q : Value → Shared → Prop} (e0 : ren l = ren pre ++ 61 :: x :: c :: r) (hsz : (ren l).length ≤ 1000)
    (h : Q (.str (S [c]) s.toks) { s with toks := s.toks + 1 })
    (hs : subscripted slice false (.str (S (ren l)) t) (.int (((ren pre).length : Int) + 2) u) = operate [.str (S (ren l)) t, .int (((ren pre).length : Int) + 2) u] (getItem (.str (S (ren l)) t) (.int (((ren pre).length : Int) + 2) u)) := by with_unfolding_all rfl)
    (ht : ∀ r, letTemporaryGo value (.str (S (ren l)) t) r = pure () := by intro _; with_unfolding_all rfl) :
    wpAny (model prog w) A (subscriptTail value slice (.str (S (ren l)) t) (.int (((ren pre).length : Int) + 2) u)) Q E s :=
  item_tok (a := ren pre ++ [61, x]) (r := r) (by rw [e0]; simp) (by simp) hsz h hs ht
theorem slice_tok {l pre : List Tk} {x y z : Nat} {r : List Nat} (e0 : ren l = ren pre ++ x :: y :: z :: r) : Txt.slice (S (ren l)) (some ((ren pre).length : Int)) (some (((ren pre).length : Int) + 3)) = S [x, y, z] := slice3 e0 rfl rfl
theorem ne_tt {c : Nat} {t u : Tok} {Q : Value → Shared → Prop} (hc : c ≠ 61) (h : Q (.bool true) s) : wpAny (model prog w) A (compareOp .NotEq (.str (S [c]) t) (.str (Str.ofString "=") u)) Q E s := by
  refine P.ne_str ?_
  have e : ((S [c]).cps.toList != (Str.ofString "=").cps.toList) = true := by
    rw [show Str.ofString "=" = S [61] from by decide +kernel, S_cps, S_cps]
    simp [hc]
  rw [e]; exact h
theorem ne_ff {t u : Tok} {Q : Value → Shared → Prop} (h : Q (.bool false) s) : wpAny (model prog w) A (compareOp .NotEq (.str (S [61]) t) (.str (Str.ofString "=") u)) Q E s := by
  refine P.ne_str ?_
  have e : ((S [61]).cps.toList != (Str.ofString "=").cps.toList) = false := by
    rw [show Str.ofString "=" = S [61] from by decide +kernel, S_cps]
    rfl
  rw [e]; exact h
theorem in_hex {c : Nat} {t u : Tok} {Q : Value → Shared → Prop} (hc : c = 50 ∨ c = 51 ∨ c = 68) (h : Q (.bool true) s) : wpAny (model prog w) A (compareOp .In (.str (S [c]) t) (.str (Str.ofString "0123456789abcdefABCDEF") u)) Q E s := by
  refine SB.contains ?_
  rw [hex_has hc]; exact h
theorem not_crlf {c : Nat} {t u : Tok} {Q : Value → Shared → Prop} (hc : c = 34 ∨ c = 50 ∨ c = 51 ∨ c = 61 ∨ c = 68 ∨ c = 97) (h : Q (.bool true) s) : wpAny (model prog w) A (compareOp .NotIn (.str (S [c]) t) (.str (Str.ofString "\r\n") u)) Q E s := by
  refine SB.notContains ?_
  have e : Txt.contains (Str.ofString "\r\n") (S [c]) = false := by
    rcases hc with h | h | h | h | h | h <;> subst h <;> decide +kernel
  rw [e]; exact h
theorem last_tok {value slice : Expr} {l a : List Nat} {c : Nat} {t u : Tok} {Q : Value → Shared → Prop} (hl : l = a ++ [c]) (hsz : l.length ≤ 1000)
    (h : Q (.str (S [c]) s.toks) { s with toks := s.toks + 1 })
    (hs : subscripted slice false (.str (S l) t) (.int (-1) u) = operate [.str (S l) t, .int (-1) u] (getItem (.str (S l) t) (.int (-1) u)) := by with_unfolding_all rfl)
    (ht : ∀ r, letTemporaryGo value (.str (S l) t) r = pure () := by intro _; with_unfolding_all rfl) :
    wpAny (model prog w) A (subscriptTail value slice (.str (S l) t) (.int (-1) u)) Q E s := by
  have h1 : 0 < l.length := by rw [hl]; simp
  refine item_str (fitsSsize_of (N := 9223372036854775808) (by omega) (by omega) (Int.le_refl _)) (by rw [S_len]; omega) (by rw [S_len]; omega) (fun _ => ?_) hs ht
  subst hl
  rw [item_last]
  exact h
theorem ends_nl {x : Str} {a : List Nat} {t u : Tok} {Q : Value → Shared → Prop} (hx : x = S (a ++ [10])) (h : Q (.bool true) s) : wpAny (model prog w) A (call (.builtin "str.endswith") [.str x t, .str (Str.ofString "\n") u]) Q E s := by
  refine SC.endswith ?_
  rw [hx, show Str.ofString "\n" = S [10] from by decide +kernel, ends1]
  simpa using h
theorem decoded_mid (pre r : List Tk) (t : Tk) : decoded pre (t :: r) = vals pre := by simp [decoded]
theorem decoded_next {pre r : List Tk} {t : Tk} (h : r ≠ []) : S (vals pre ++ [t.val]) = S (decoded (pre ++ [t]) r) := by
  have : r.isEmpty = false := by cases r with | nil => exact absurd rfl h | cons _ _ => rfl
  simp [decoded, this, vals]
theorem decoded_last {pre : List Tk} {t : Tk} : S (vals pre ++ [t.val] ++ [10]) = S (decoded (pre ++ [t]) []) := by
  simp [decoded, vals]
theorem ren_next (pre : List Tk) (t : Tk) : (((ren pre).length : Int) + t.ren.length) = ((ren (pre ++ [t])).length : Int) := by
  rw [ren_append]; simp [ren]
theorem ren_next3 {pre : List Tk} {t : Tk} (h : t.ren.length = 3) : (((ren pre).length : Int) + 3) = ((ren (pre ++ [t])).length : Int) := by
  rw [← ren_next, h]; rfl
theorem ren_next1 {pre : List Tk} {c : Nat} : (((ren pre).length : Int) + 1) = ((ren (pre ++ [.ch c])).length : Int) := by
  rw [← ren_next]; rfl
theorem iadd_S {a b : List Nat} {t u : Tok} {Q : Value → Shared → Prop} (hsz : a.length + b.length ≤ 5000) (h : ∀ t' k, Q (.str (S (a ++ b)) t') { s with toks := k }) : wpAny (model prog w) A (inplaceOp .Add (.str (S a) t) (.str (S b) u)) Q E s :=
  SB.iadd (fun t' k => by rw [S_append]; exact h t' k) (by rw [S_len, S_len, sizeLine_eq]; omega)
theorem iadd_nl {a : List Nat} {t u : Tok} {Q : Value → Shared → Prop} (hsz : a.length ≤ 4000) (h : ∀ t' k, Q (.str (S (a ++ [10])) t') { s with toks := k }) : wpAny (model prog w) A (inplaceOp .Add (.str (S a) t) (.str (Str.ofString "\n") u)) Q E s := by
  rw [show Str.ofString "\n" = S [10] from by decide +kernel]
  exact iadd_S (by simp; omega) h
theorem vals_le (l : List Tk) : (vals l).length ≤ (ren l).length := by
  induction l with
  | nil => simp [vals]
  | cons t r ih => rw [ren_cons, List.length_append]; have := tk_len t; simp only [vals, List.map_cons, List.length_cons] at ih ⊢; omega
theorem decoded_len {l : List Tk} (h : (ren l).length ≤ 1000) : (S (decoded l [])).length ≤ 2000 := by
  have h1 := vals_le l
  have h2 : (decoded l []).length ≤ (vals l).length + 1 := by
    unfold decoded
    rw [List.length_append]
    split <;> simp
  rw [S_len]; omega
theorem decoded_end {l : List Tk} (h : l ≠ []) : S (decoded l []) = S (vals l ++ [10]) := by
  cases l with
  | nil => exact absurd rfl h
  | cons t r => rfl

local macro_rules | `(tactic| walk_at "inplaceOp Add str str") => `(tactic| first | (with_reducible refine iadd_nl (by simp only [List.length_append, List.length_cons, List.length_nil]; omega) ?_; intro t' k') | (with_reducible refine iadd_S (by simp only [List.length_append, List.length_cons, List.length_nil]; omega) ?_; intro t' k'))
local macro_rules | `(tactic| walk_at "compareOp NotEq str str") => `(tactic| first | (with_reducible refine ne_ff ?_) | (with_reducible refine ne_tt (by with_reducible assumption) ?_))
local macro_rules | `(tactic| walk_at "compareOp In str str") => `(tactic| (with_reducible refine in_hex (by first | exact Or.inl rfl | exact Or.inr (Or.inl rfl) | exact Or.inr (Or.inr rfl)) ?_))
local macro_rules | `(tactic| walk_at "compareOp NotIn str str") => `(tactic| (with_reducible refine not_crlf (by with_reducible assumption) ?_))
local macro_rules | `(tactic| walk_at "subscriptTail Name UnaryOp str int") => `(tactic| (with_reducible refine last_tok (by with_reducible assumption) (by with_reducible assumption) ?_))
local macro_rules | `(tactic| walk_at "call builtin:str.endswith") => `(tactic| (refine ends_nl (by with_reducible assumption) ?_))
local macro_rules | `(tactic| walk_at "exec While Compare cons nil") => `(tactic| (refine halt_here ?_))
local macro_rules | `(tactic| walk_at "call builtin:str.rstrip") => `(tactic| (with_reducible refine rstrip_tok (by with_reducible assumption) (by with_reducible assumption) (by with_reducible assumption) ?_; intro t' k'))

local macro_rules | `(tactic| walk_at "truthy str") => `(tactic| (with_reducible refine truthy_pos (by with_reducible assumption) (by with_reducible assumption) ?_))
local macro_rules | `(tactic| walk_at "subscriptTail Name Name str int") => `(tactic| (with_reducible refine item_tok0 (by with_reducible assumption) (by with_reducible assumption) ?_))
local macro_rules | `(tactic| walk_at "subscriptTail Name BinOp str int") => `(tactic| first | (with_reducible refine item_tok1 (by with_reducible assumption) (by with_reducible assumption) ?_) | (with_reducible refine item_tok2 (by with_reducible assumption) (by with_reducible assumption) ?_))
local macro_rules | `(tactic| walk_at "call ref") => `(tactic| ((with_reducible show wpAny _ _ (call (Value.ref 66) [Value.str _ _]) _ _ _); first
  | (refine' unquote_step22 ?F ?N ?X ?T ?r ?x ?_; (case x => with_reducible exact slice_tok (by with_reducible assumption)); (case F => k_asm); (case N => k_asm); (case X => k_asm); (case T => k_asm); (case r => (refine room1 ?_; assumption)); k_whole; intro t' h' tk' F' N'; (try k_sweep))
  | (refine' unquote_step3D ?F ?N ?X ?T ?r ?x ?_; (case x => with_reducible exact slice_tok (by with_reducible assumption)); (case F => k_asm); (case N => k_asm); (case X => k_asm); (case T => k_asm); (case r => (refine room1 ?_; assumption)); k_whole; intro t' h' tk' F' N'; (try k_sweep))))

set_option maxRecDepth 100000 in
set_option maxHeartbeats 8000000 in
theorem decode_ok {l : List Tk} {t₀ : Tok} {Q : Value → Shared → Prop} (X : (Mine.frag w.params).In s.heap) (T : Top p loose mean mg mb s.heap) (hA : A.handled = none) (hroom : A.depth + 1 < recursionLimit)
    (hl : allOk l) (hne : l ≠ []) (hx : (S (ren l)).length ≤ 1000)
    (h : ∀ t h' tk, (∀ b o, s.heap.get? b = some o → h'.get? b = some o) → Q (.str (S (vals l)) t) { s with heap := h', toks := tk }) :
    wpAny (model prog w) A (call (.ref 86) [.str (S (ren l)) t₀]) Q E s := by
  obtain ⟨hd0, dp, fr, gd, un⟩ := A
  obtain rfl : hd0 = none := hA
  have hp : 0 < (S (ren l)).length := by rw [S_len]; exact ren_len_pos hne
  refine' call_fn (binds := [(Str.ofString "encoded", .str (S (ren l)) t₀), (Str.ofString "eol", .str (Str.ofString "\n") 326)]) X T.nolimit (by omega) ?k6 ?kp ?kb ?ks ?k7 ?k9 ?kB ?_ ?c2 ?c3 ?c4 ?c5
  case k6 => k_is
  case kp => dsimp only [fArgs, fBody, fScope, stm, nth, PySem.Challenge.pw_qu0008_01]
  case kb => dsimp only [fArgs, fBody, fScope, stm, nth, PySem.Challenge.pw_qu0008_01]
  case ks => dsimp only [fArgs, fBody, fScope, stm, nth, PySem.Challenge.pw_qu0008_01]
  case k7 => k_is
  case k9 => exact binds_K X rfl (by k_is) rfl rfl rfl
  case kB => exact locs rfl
  case c2 => exact rfl
  case c3 => exact rfl
  case c4 => exact rfl
  case c5 => decide
  intro L' h' F' N'
  w_on
  with_reducible show wpAny _ _ _ _ _ _
  k_fold
  k_steps
  rename _ = Txt.lines _ => hlines
  obtain ⟨t1, rfl⟩ := lines_pairs hl hne hlines
  clear hlines
  simp only [strValues, List.map_cons, List.map_nil] at *
  k_steps
  refine Halt.mk ?_
  rename Fr _ _ _ _ => F1
  rename News _ _ _ _ => N1
  refine while_own (fun n h => ∃ pre rest ti td cv, n = rest.length ∧ l = pre ++ rest ∧ Fr s.heap L' h (wmap cv ((ren pre).length : Int) ((S (ren l)).length : Int) ti _ td _ 326 t₀ (S (decoded pre rest)) (S (ren l))) ∧ News s.heap L' h _) (n₀ := l.length) ⟨[], l, _, _, none, rfl, rfl, fr_congr F1 (wmap_start (decoded_start l)), N1⟩ ?_
  rintro n h1 tk1 ⟨pre, rest, ti, td, cv, rfl, hpr, F2, N2⟩
  clear F1 N1
  have hx2 : (ren l).length ≤ 1000 := by rw [← S_len]; exact hx
  rcases rest with _ | ⟨_ | _ | c, r⟩
  · obtain rfl : l = pre := by simpa using hpr
    clear hpr
    have hlen : (S (ren l)).length = (ren l).length := S_len _
    have hde := decoded_end hne
    have hdl := decoded_len hx2
    obtain ⟨aa, cc, hlast, _, hcc⟩ := tk_last hl hne
    w_on
    with_reducible show wpAny _ _ _ _ _ _
    k_steps
    exact end_str h (by assumption) (by rw [hde]; exact slice_lop (vals l) 10)
  · have e0 : ren l = ren pre ++ 61 :: 51 :: 68 :: ren r := by rw [hpr, ren_append, ren_cons]; rfl
    have hlen : (S (ren l)).length = (ren pre).length + 3 + (ren r).length := by rw [S_len, e0]; simp; omega
    have hvl := vals_le pre
    have hrl : (ren pre).length ≤ 1000 := by rw [S_len] at hlen; omega
    rw [decoded_mid] at F2
    w_on
    with_reducible show wpAny _ _ _ _ _ _
    k_steps
    · exfalso
      rename (_ : Int) = ((S (ren l)).length : Int) => he
      omega
    · rename (_ : Int) = ((S (ren l)).length : Int) => he
      obtain rfl : r = [] := ren_nil (by omega)
      rename News _ _ _ _ => N9
      rename Fr _ _ _ _ => F9
      exact Halt.mk ⟨_, _, 0, rfl, Nat.zero_lt_succ _, pre ++ [.e3D], [], _, _, _, rfl, by rw [hpr]; simp, fr_congr F9 (wmap_turn2 (decoded_last (t := .e3D)) (ren_next3 rfl)), N9⟩
    · rename (_ : Int) ≠ ((S (ren l)).length : Int) => he
      have hr : r ≠ [] := by
        rintro rfl
        simp only [ren, List.flatMap_nil, List.length_nil] at hlen he
        omega
      rename News _ _ _ _ => N9
      rename Fr _ _ _ _ => F9
      exact Halt.mk ⟨_, _, r.length, rfl, Nat.lt_succ_self _, pre ++ [.e3D], r, _, _, _, rfl, by rw [hpr]; simp, fr_congr F9 (wmap_turn (decoded_next (t := .e3D) hr) (ren_next3 rfl)), N9⟩
  · have e0 : ren l = ren pre ++ 61 :: 50 :: 50 :: ren r := by rw [hpr, ren_append, ren_cons]; rfl
    have hlen : (S (ren l)).length = (ren pre).length + 3 + (ren r).length := by rw [S_len, e0]; simp; omega
    have hvl := vals_le pre
    have hrl : (ren pre).length ≤ 1000 := by rw [S_len] at hlen; omega
    rw [decoded_mid] at F2
    w_on
    with_reducible show wpAny _ _ _ _ _ _
    k_steps
    · exfalso
      rename (_ : Int) = ((S (ren l)).length : Int) => he
      omega
    · rename (_ : Int) = ((S (ren l)).length : Int) => he
      obtain rfl : r = [] := ren_nil (by omega)
      rename News _ _ _ _ => N9
      rename Fr _ _ _ _ => F9
      exact Halt.mk ⟨_, _, 0, rfl, Nat.zero_lt_succ _, pre ++ [.e22], [], _, _, _, rfl, by rw [hpr]; simp, fr_congr F9 (wmap_turn2 (decoded_last (t := .e22)) (ren_next3 rfl)), N9⟩
    · rename (_ : Int) ≠ ((S (ren l)).length : Int) => he
      have hr : r ≠ [] := by
        rintro rfl
        simp only [ren, List.flatMap_nil, List.length_nil] at hlen he
        omega
      rename News _ _ _ _ => N9
      rename Fr _ _ _ _ => F9
      exact Halt.mk ⟨_, _, r.length, rfl, Nat.lt_succ_self _, pre ++ [.e22], r, _, _, _, rfl, by rw [hpr]; simp, fr_congr F9 (wmap_turn (decoded_next (t := .e22) hr) (ren_next3 rfl)), N9⟩
  · have e0 : ren l = ren pre ++ c :: ren r := by rw [hpr, ren_append, ren_cons]; rfl
    have hlen : (S (ren l)).length = (ren pre).length + 1 + (ren r).length := by rw [S_len, e0]; simp; omega
    have hc61 : c ≠ 61 := by
      have ho : okc c := hl (.ch c) (by rw [hpr]; simp)
      unfold okc at ho; omega
    have hvl := vals_le pre
    have hrl : (ren pre).length ≤ 1000 := by rw [S_len] at hlen; omega
    rw [decoded_mid] at F2
    w_on
    with_reducible show wpAny _ _ _ _ _ _
    k_steps
    · rename (_ : Int) = ((S (ren l)).length : Int) => he
      obtain rfl : r = [] := ren_nil (by omega)
      rename News _ _ _ _ => N9
      rename Fr _ _ _ _ => F9
      exact Halt.mk ⟨_, _, 0, rfl, Nat.zero_lt_succ _, pre ++ [.ch c], [], _, _, _, rfl, by rw [hpr]; simp, fr_congr F9 (wmap_turn2 (decoded_last (t := .ch c)) ren_next1), N9⟩
    · rename (_ : Int) ≠ ((S (ren l)).length : Int) => he
      have hr : r ≠ [] := by
        rintro rfl
        simp only [ren, List.flatMap_nil, List.length_nil] at hlen he
        omega
      rename News _ _ _ _ => N9
      rename Fr _ _ _ _ => F9
      exact Halt.mk ⟨_, _, r.length, rfl, Nat.lt_succ_self _, pre ++ [.ch c], r, _, _, _, rfl, by rw [hpr]; simp, fr_congr F9 (wmap_turn (decoded_next (t := .ch c) hr) ren_next1), N9⟩
end
end Mine
end

/-! QSre -/
section
open PySem
namespace Mine
open PySem.Sre PySem.Builtin PySem.Builtin.Re

def rcode : Array Nat := #[14, 8, 1, 3, 3, 1, 1, 61, 0, 16, 61, 24, 16, 2, 2, 13, 11, 9, 0, 67043328, 126, 126, 0, 0, 0, 0, 0, 1, 1]

theorem runFor_done {n : Nat} {m : M} (h : m.outcome.isSome = true) : M.runFor n m = m := by
  cases n with
  | zero => rfl
  | succ n => simp [M.runFor, h]

theorem runFor_add (a b : Nat) : ∀ m : M, M.runFor (a + b) m = M.runFor b (M.runFor a m) := by
  induction a with
  | zero => intro m; simp [M.runFor]
  | succ a ih =>
    intro m
    rw [show a + 1 + b = (a + b) + 1 by omega]
    simp only [M.runFor]
    split
    · rename_i h; rw [runFor_done h]
    · exact ih _

theorem runFor_more {k n : Nat} {m : M} (h : (M.runFor k m).outcome.isSome = true) (hk : k ≤ n) : M.runFor n m = M.runFor k m := by
  obtain ⟨d, rfl⟩ := Nat.exists_eq_add_of_le hk
  rw [runFor_add, runFor_done h]

section
variable {Mo : Model} {A : Around} {E : Value → Shared → Prop} {s : Shared}

theorem reDrive_ok : ∀ (t k : Nat) (m : M) (Q : M → Shared → Prop), k ≤ 4 * t → (M.runFor k m).outcome.isSome = true → Q (M.runFor k m) s → wpAny Mo A (reDrive (t + 1) m) Q E s
  | 0, k, m, Q, hk, ho, hq => by
    have : k = 0 := by omega
    subst this
    have ho' : m.outcome.isSome = true := ho
    have h4 : (M.runFor reTurnSteps m).outcome.isSome = true := by rw [runFor_done ho']; exact ho'
    rw [reDrive]
    refine wpAny_ite ?_
    rw [if_pos h4, runFor_done ho']
    exact wpAny_pure hq
  | t + 1, k, m, Q, hk, ho, hq => by
    rw [reDrive]
    refine wpAny_ite ?_
    by_cases h4 : (M.runFor reTurnSteps m).outcome.isSome = true
    · rw [if_pos h4]
      refine wpAny_pure ?_
      have : M.runFor reTurnSteps m = M.runFor k m := by
        rcases Nat.le_total k reTurnSteps with h | h
        · exact runFor_more ho h
        · exact (runFor_more h4 h).symm
      rw [this]; exact hq
    · rw [if_neg h4]
      refine wpAny_bind (wpAny_rule ?_)
      have h5 : reTurnSteps ≤ k := by
        rcases Nat.le_total k reTurnSteps with h | h
        · exact absurd (by rw [runFor_more ho h]; exact ho) h4
        · exact h
      have e : M.runFor k m = M.runFor (k - reTurnSteps) (M.runFor reTurnSteps m) := by rw [← runFor_add]; congr 1; omega
      rw [e] at ho hq
      exact reDrive_ok t (k - reTurnSteps) _ Q (by unfold reTurnSteps; omega) ho hq

theorem forIn_still {α : Type} (f : α → PUnit → Sem (ForInStep PUnit)) (l : List α) (Q : PUnit → Shared → Prop)
    (turn : ∀ x (Q : ForInStep PUnit → Shared → Prop), Q (.yield ⟨⟩) s → wpAny Mo A (f x ⟨⟩) Q E s) (h : Q ⟨⟩ s) : wpAny Mo A (forIn l ⟨⟩ f) Q E s :=
  wpAny_forIn_list (E := E) f (fun _ _ s' => s' = s) Q (fun x rest b s' e => by subst e; exact turn x _ rfl) (fun b s' e => by subst e; exact h) l ⟨⟩ rfl

theorem reRunToEnd_ok {k : Nat} {m : M} {Q : Option M → Shared → Prop} {r : Option M} (hk : k ≤ 1000000) (ho : (M.runFor k m).outcome = some (if r.isSome then .matched else .failed))
    (hr : ∀ m', r = some m' → m' = M.runFor k m) (hq : Q r s) : wpAny Mo A (reRunToEnd m) Q E s := by
  unfold reRunToEnd
  refine wpAny_bind ?_
  rw [show (2 : Nat) ^ 64 = 18446744073709551615 + 1 from rfl]
  refine reDrive_ok _ k _ _ (by omega) (by rw [ho]; rfl) ?_
  refine wpAny_bind ?_
  refine forIn_still _ _ _ ?_ ?_
  · intro x Q' h'
    refine wpAny_ite ?_
    split
    · exact wpAny_bind (wpAny_rule (wpAny_pure h'))
    · exact wpAny_pure h'
  · rw [ho]
    cases r with
    | none => exact wpAny_pure hq
    | some m' => rw [← hr m' rfl]; exact wpAny_pure hq
end
end Mine
end

/-! QSre2 -/
section
open PySem
namespace Mine
open PySem.Sre PySem.Builtin PySem.Builtin.Re

def stM (text : Array Nat) (p : Nat) (b : Bool) (seen : Seen) : M :=
  { code := rcode, text, lim := text.size, start := p, lastStart := text.size, pc := 9, pos := p, handed := p, outermost := b, marks := #[],
    frames := [{ wait := .nextStart, pc := 9, pos := p, outermost := b }], weight := 1, seen }

theorem step_exec {m : M} (h1 : m.outcome = none) (h2 : m.answer = none) (h3 : m.pc < m.code.size) : m.step = m.exec := by
  unfold M.step
  simp [h1, h2, h3]

theorem st_fail1 {text : Array Nat} {p : Nat} {b : Bool} {seen : Seen} (hc : p < text.size → text.getD p 0 ≠ 61) :
    (stM text p b seen).step = { stM text p b (seen.add 16) with answer := some false } := by
  rw [step_exec rfl rfl (by show 9 < rcode.size; decide)]
  unfold M.exec
  have e2 : ops[(stM text p b seen).word 0]? = some .LITERAL := rfl
  simp only [e2]
  by_cases hp : p < text.size
  · have hp' : ¬ (p ≥ text.size) := by omega
    have e3 : accepts rcode 9 (text.getD p 0) (seen.add 16) = .ok (text.getD p 0 == 61, seen.add 16) := rfl
    have e4 : (text.getD p 0 == 61) = false := beq_eq_false_iff_ne.mpr (hc hp)
    rw [e4] at e3
    show (if p ≥ text.size then _ else match accepts rcode 9 (text.getD p 0) (seen.add 16) with | .error why => _ | .ok (false, seen) => _ | .ok (true, seen) => _) = _
    rw [if_neg hp', e3]
    rfl
  · show (if p ≥ text.size then _ else _) = _
    rw [if_pos (by omega)]
    rfl

theorem st_fail2 {text : Array Nat} {p : Nat} {b : Bool} {seen : Seen} (hp : p < text.size) :
    ({ stM text p b seen with answer := some false } : M).step = stM text (p + 1) false seen := by
  unfold M.step
  show M.resume { stM text p b seen with frames := [], weight := 0 } { wait := .nextStart, pc := 9, pos := p, outermost := b } false = _
  unfold M.resume
  show (if p < text.size then _ else _) = _
  rw [if_pos hp]
  rfl

theorem st_fail {text : Array Nat} {p : Nat} {b : Bool} {seen : Seen} (hp : p < text.size) (hc : text.getD p 0 ≠ 61) :
    M.runFor 2 (stM text p b seen) = stM text (p + 1) false (seen.add 16) := by
  have e : M.runFor 2 (stM text p b seen) = M.runFor 1 (M.step (stM text p b seen)) := rfl
  rw [e, st_fail1 fun _ => hc]
  show M.step _ = _
  exact st_fail2 hp

theorem st_end {text : Array Nat} {b : Bool} {seen : Seen} : (M.runFor 3 (stM text text.size b seen)).outcome = some .failed := by
  have e : M.runFor 3 (stM text text.size b seen) = M.runFor 2 (M.step (stM text text.size b seen)) := rfl
  rw [e, st_fail1 fun h => absurd h (Nat.lt_irrefl _)]
  show (M.runFor 1 (M.step { stM text text.size b (seen.add 16) with answer := some false })).outcome = _
  have e2 : (M.step { stM text text.size b (seen.add 16) with answer := some false }) = { stM text text.size b (seen.add 16) with answer := some false, frames := [], weight := 0 } := by
    unfold M.step
    show M.resume { stM text text.size b (seen.add 16) with frames := [], weight := 0 } { wait := .nextStart, pc := 9, pos := text.size, outermost := b } false = _
    unfold M.resume
    show (if text.size < text.size then _ else _) = _
    rw [if_neg (Nat.lt_irrefl _)]
    rfl
  rw [e2]
  rfl

def hexc (c : Nat) : Bool := c == 50 || c == 51 || c == 68

theorem acc_hex {c : Nat} (h : hexc c = true) (seen : Seen) : ∃ seen', accepts rcode 15 c seen = .ok (true, seen') := by
  unfold hexc at h
  simp only [Bool.or_eq_true, beq_iff_eq] at h
  rcases h with (h | h) | h <;> subst h <;> exact ⟨_, rfl⟩

theorem st_hit {text : Array Nat} {p : Nat} {b : Bool} {seen : Seen} (hp : p + 3 ≤ text.size) (h0 : text.getD p 0 = 61) (h1 : hexc (text.getD (p + 1) 0) = true) (h2 : hexc (text.getD (p + 2) 0) = true) :
    ∃ m', M.runFor 6 (stM text p b seen) = m' ∧ m'.outcome = some .matched ∧ m'.start = p ∧ m'.handed = p + 3 ∧ m'.lastmark = -1 ∧ m'.lastindex = -1 ∧ m'.marks = #[] := by
  obtain ⟨s1, a1⟩ := acc_hex h1 (((seen.add 16).add 24).add 13)
  obtain ⟨s2, a2⟩ := acc_hex h2 s1
  have x1 : (stM text p b seen).step = { stM text p b (seen.add 16) with pc := 11, pos := p + 1 } := by
    rw [step_exec rfl rfl (by show 9 < rcode.size; decide)]
    unfold M.exec
    have e2 : ops[(stM text p b seen).word 0]? = some .LITERAL := rfl
    simp only [e2]
    have e3 : accepts rcode 9 (text.getD p 0) (seen.add 16) = .ok (true, seen.add 16) := by rw [h0]; rfl
    show (if p ≥ text.size then _ else match accepts rcode 9 (text.getD p 0) (seen.add 16) with | .error why => _ | .ok (false, seen) => _ | .ok (true, seen) => _) = _
    rw [if_neg (by omega), e3]
    rfl
  have x2 : M.step { stM text p b (seen.add 16) with pc := 11, pos := p + 1 } = { stM text p b s2 with pc := 28, pos := p + 3, handed := p + 3, weight := 2, frames := [{ wait := .giveBack, pc := 11, pos := p + 3, outermost := b, count := 2, kept := { lastmark := -1, lastindex := -1, whole := false, marks := #[] } }, { wait := .nextStart, pc := 9, pos := p, outermost := b }] } := by
    rw [step_exec rfl rfl (by show 11 < rcode.size; decide)]
    unfold M.exec
    have e2 : ops[M.word { stM text p b (seen.add 16) with pc := 11, pos := p + 1 } 0]? = some .REPEAT_ONE := rfl
    simp only [e2]
    have e3 : Sre.run rcode text 15 2 (p + 1) 0 (((seen.add 16).add 24).add 13) = .ok (2, s2) := by
      simp only [Sre.run]
      rw [a1]
      show (do let (yes, seen) ← accepts rcode 15 (text.getD (p + 1 + 1) 0) s1; if yes then _ else _ : Except String (Nat × Seen)) = _
      rw [show p + 1 + 1 = p + 2 from rfl, a2]
      rfl
    have e4 : (((text.size : Int) - ((p + 1 : Nat) : Int)).toNat) ≥ 2 := by omega
    have e5 : min 2 (((text.size : Int) - ((p + 1 : Nat) : Int)).toNat) = 2 := by omega
    show (if ((2 : Nat) : Int) > (text.size : Int) - ((p + 1 : Nat) : Int) then _ else match Sre.run rcode text 15 (min 2 (((text.size : Int) - ((p + 1 : Nat) : Int)).toNat)) (p + 1) 0 (((seen.add 16).add 24).add 13) with | .error why => _ | .ok (n, seen) => _) = _
    rw [if_neg (by omega), e5, e3]
    rfl
  refine ⟨_, rfl, ?_⟩
  have e : M.runFor 6 (stM text p b seen) = M.runFor 5 (M.step (stM text p b seen)) := rfl
  rw [e, x1]
  have e : M.runFor 5 { stM text p b (seen.add 16) with pc := 11, pos := p + 1 } = M.runFor 4 (M.step { stM text p b (seen.add 16) with pc := 11, pos := p + 1 }) := rfl
  rw [e, x2]
  have x3 : M.step { stM text p b s2 with pc := 28, pos := p + 3, handed := p + 3, weight := 2, frames := [{ wait := .giveBack, pc := 11, pos := p + 3, outermost := b, count := 2, kept := { lastmark := -1, lastindex := -1, whole := false, marks := #[] } }, { wait := .nextStart, pc := 9, pos := p, outermost := b }] }
      = { stM text p b (s2.add 1) with pc := 28, pos := p + 3, handed := p + 3, weight := 2, answer := some true, frames := [{ wait := .giveBack, pc := 11, pos := p + 3, outermost := b, count := 2, kept := { lastmark := -1, lastindex := -1, whole := false, marks := #[] } }, { wait := .nextStart, pc := 9, pos := p, outermost := b }] } := by
    cases b <;> rfl
  have e : ∀ m : M, m.outcome.isSome = false → M.runFor 4 m = M.runFor 3 m.step := fun m h => by
    show (if m.outcome.isSome = true then m else M.runFor 3 m.step) = _
    rw [h]; rfl
  rw [e _ rfl, x3]
  exact ⟨rfl, rfl, rfl, rfl, rfl, rfl⟩
end Mine
end

/-! QSre3 -/
section
open PySem
namespace Mine
open PySem.Sre PySem.Builtin PySem.Builtin.Re

theorem getD_mid {text : Array Nat} {pre r : List Nat} {c : Nat} (h : text.toList = pre ++ c :: r) : text.getD pre.length 0 = c := by
  have h1 : text.getD pre.length 0 = text.toList.getD pre.length 0 := by
    rw [Array.getD_eq_getD_getElem?, List.getD_eq_getElem?_getD, Array.getElem?_toList]
  rw [h1, h]; simp [List.getD_eq_getElem?_getD]

theorem size_of {text : Array Nat} {l : List Nat} (h : text.toList = l) : text.size = l.length := by rw [← h, Array.length_toList]

theorem st_none {text : Array Nat} : ∀ (chs pre : List Nat) (b : Bool) (seen : Seen), text.toList = pre ++ chs → (∀ c ∈ chs, c ≠ 61) →
    (M.runFor (2 * chs.length + 3) (stM text pre.length b seen)).outcome = some .failed
  | [], pre, b, seen, h, _ => by
    have : pre.length = text.size := by rw [size_of h]; simp
    rw [this]; exact st_end
  | c :: chs, pre, b, seen, h, hn => by
    have hc := getD_mid h
    have hs := size_of h
    rw [show 2 * (c :: chs).length + 3 = 2 + (2 * chs.length + 3) by simp; omega, runFor_add, st_fail (by rw [hs]; simp) (by rw [hc]; exact hn c (.head _))]
    have := st_none chs (pre ++ [c]) false (seen.add 16) (by simpa using h) (fun x hx => hn x (.tail _ hx))
    simpa using this

theorem st_found {text : Array Nat} {x y : Nat} {r : List Nat} (hx : hexc x = true) (hy : hexc y = true) : ∀ (chs pre : List Nat) (b : Bool) (seen : Seen), text.toList = pre ++ (chs ++ 61 :: x :: y :: r) → (∀ c ∈ chs, c ≠ 61) →
    ∃ m', M.runFor (2 * chs.length + 6) (stM text pre.length b seen) = m' ∧ m'.outcome = some .matched ∧ m'.start = pre.length + chs.length ∧ m'.handed = pre.length + chs.length + 3 ∧ m'.lastmark = -1 ∧ m'.lastindex = -1 ∧ m'.marks = #[]
  | [], pre, b, seen, h, _ => by
    have hs := size_of h
    refine st_hit (by rw [hs]; simp) (getD_mid h) ?_ ?_
    · have := getD_mid (text := text) (pre := pre ++ [61]) (c := x) (r := y :: r) (by simpa using h)
      have e : (pre ++ [61]).length = pre.length + 1 := by simp
      rw [e] at this
      rw [this]; exact hx
    · have := getD_mid (text := text) (pre := pre ++ [61, x]) (c := y) (r := r) (by simpa using h)
      have e : (pre ++ [61, x]).length = pre.length + 2 := by simp
      rw [e] at this
      rw [this]; exact hy
  | c :: chs, pre, b, seen, h, hn => by
    have hc := getD_mid h
    have hs := size_of h
    rw [show 2 * (c :: chs).length + 6 = 2 + (2 * chs.length + 6) by simp; omega, runFor_add, st_fail (by rw [hs]; simp) (by rw [hc]; exact hn c (.head _))]
    obtain ⟨m', e, h1, h2, h3, h4⟩ := st_found hx hy chs (pre ++ [c]) false (seen.add 16) (by simpa using h) (fun x hx => hn x (.tail _ hx))
    refine ⟨m', by simpa using e, h1, ?_, ?_, h4⟩
    · rw [h2]; simp; omega
    · rw [h3]; simp; omega

theorem forSearch_eq {text : Array Nat} {p : Nat} (h : p + 3 ≤ text.size) : ∃ seen, forSearch rcode text 0 p text.size false = stM text p true seen := by
  have hb : (decide (p > text.size) || decide (text.size - p < 3)) = false := by
    rw [Bool.or_eq_false_iff, decide_eq_false_iff_not, decide_eq_false_iff_not]; omega
  refine ⟨({} : Seen).add 14, ?_⟩
  unfold forSearch
  show (if (decide (p > text.size) || decide (text.size - p < 3)) = true then _ else _) = _
  rw [hb]
  rfl
theorem forSearch_short {text : Array Nat} {p : Nat} (h : text.size < p + 3) : (M.runFor 1 (forSearch rcode text 0 p text.size false)).outcome = some .failed := by
  have hb : (decide (p > text.size) || decide (text.size - p < 3)) = true := by
    rw [Bool.or_eq_true_iff, decide_eq_true_iff, decide_eq_true_iff]; omega
  unfold forSearch
  show (M.runFor 1 (if (decide (p > text.size) || decide (text.size - p < 3)) = true then _ else _)).outcome = _
  rw [hb]
  rfl

section
variable {Mo : Model} {A : Around} {E : Value → Shared → Prop} {s : Shared}
theorem search_none {text : Array Nat} {pre chs : List Nat} {Q : Option M → Shared → Prop} (h : text.toList = pre ++ chs) (hn : ∀ c ∈ chs, c ≠ 61) (hsz : text.size ≤ 400000) (hq : Q none s) :
    wpAny Mo A (reRunToEnd (forSearch rcode text 0 pre.length text.size false)) Q E s := by
  have hs := size_of h
  rw [List.length_append] at hs
  by_cases h3 : pre.length + 3 ≤ text.size
  · obtain ⟨seen, e⟩ := forSearch_eq h3
    rw [e]
    exact reRunToEnd_ok (r := none) (k := 2 * chs.length + 3) (by omega) (st_none chs pre true seen h hn) (by intro _ h; cases h) hq
  · exact reRunToEnd_ok (r := none) (k := 1) (by omega) (forSearch_short (by omega)) (by intro _ h; cases h) hq
theorem search_found {text : Array Nat} {x y : Nat} {r pre chs : List Nat} {Q : Option M → Shared → Prop} (hx : hexc x = true) (hy : hexc y = true) (h : text.toList = pre ++ (chs ++ 61 :: x :: y :: r)) (hn : ∀ c ∈ chs, c ≠ 61) (hsz : text.size ≤ 400000)
    (hq : ∀ m', m'.start = pre.length + chs.length → m'.handed = pre.length + chs.length + 3 → m'.lastmark = -1 → m'.lastindex = -1 → m'.marks = #[] → Q (some m') s) :
    wpAny Mo A (reRunToEnd (forSearch rcode text 0 pre.length text.size false)) Q E s := by
  have hs := size_of h
  simp only [List.length_append, List.length_cons] at hs
  obtain ⟨seen, e⟩ := forSearch_eq (text := text) (p := pre.length) (by omega)
  rw [e]
  obtain ⟨m', e, h1, h2, h3, h4, h5, h6⟩ := st_found hx hy chs pre true seen h hn
  refine reRunToEnd_ok (r := some m') (k := 2 * chs.length + 6) (by omega) (by rw [e, h1]; rfl) (by intro _ h; cases h; exact e.symm) (hq m' h2 h3 h4 h5 h6)
end
end Mine
end

/-! QRe -/
section
open PySem PySem.W PyProof.Rows PySem.Calls
set_option maxRecDepth 100000
namespace Mine
theorem pa_pattern : PlainAttrs "re.Pattern" :=
  ⟨⟨"object.__getattribute__", by rw [typeLookup_type, builtinLookup_eq_fast]; kernel_rfl, by decide +kernel⟩, by rw [typeLookup_type, builtinLookup_eq_fast]; kernel_rfl⟩
theorem pa_match : PlainAttrs "re.Match" :=
  ⟨⟨"object.__getattribute__", by rw [typeLookup_type, builtinLookup_eq_fast]; kernel_rfl, by decide +kernel⟩, by rw [typeLookup_type, builtinLookup_eq_fast]; kernel_rfl⟩
theorem slot_sub : Slot "re.Pattern" "sub" "re.Pattern.sub" :=
  .of (owner := "re.Pattern") (n := "sub") (by rw [typeLookup_type, builtinLookup_eq_fast]; kernel_rfl) (by decide +kernel) (by decide +kernel) (by decide +kernel)
    (by first | exact .inl (by decide +kernel) | exact .inr (by decide +kernel)) (by rw [isSubtype_type]; kernel_rfl)
theorem slot_group : Slot "re.Match" "group" "re.Match.group" :=
  .of (owner := "re.Match") (n := "group") (by rw [typeLookup_type, builtinLookup_eq_fast]; kernel_rfl) (by decide +kernel) (by decide +kernel) (by decide +kernel)
    (by first | exact .inl (by decide +kernel) | exact .inr (by decide +kernel)) (by rw [isSubtype_type]; kernel_rfl)
theorem type_sub : typeOf (.builtin "re.Pattern.sub") = pure (.type "method_descriptor") := by show builtinType _ = _; rw [builtinType_eq_fast]; kernel_rfl
theorem type_group : typeOf (.builtin "re.Match.group") = pure (.type "method_descriptor") := by show builtinType _ = _; rw [builtinType_eq_fast]; kernel_rfl
theorem entry_sub : entryFor table "re.Pattern.sub" = some Builtin.«re.Pattern.sub» := entryFor_of_tree (by kernel_rfl)
theorem entry_loop : entryFor table "re.Pattern.sub.loop" = some Builtin.«re.Pattern.sub.loop» := entryFor_of_tree (by kernel_rfl)
theorem entry_group : entryFor table "re.Match.group" = some Builtin.«re.Match.group» := entryFor_of_tree (by kernel_rfl)
theorem args_sub (a b c : Value) : argsOk "re.Pattern.sub" ⟨[a, b, c], []⟩ := by
  unfold argsOk; kernel_rfl
theorem args_group (a b : Value) : argsOk "re.Match.group" ⟨[a, b], []⟩ := by
  unfold argsOk; kernel_rfl
theorem plain_loop : plainId "re.Pattern.sub.loop" = true := by decide +kernel
end Mine
end

/-! QRe2 -/
section
open PySem PySem.W PyProof.Rows PySem.Calls
set_option maxRecDepth 100000
namespace Mine
open PySem.Builtin PySem.Builtin.Re
/-- the pattern and its code, as the top left them -/
structure PatAt (h : Heap) : Prop where
  p : ∃ t0 t1, h.get? 43 = some { cls := .type "re.Pattern", data := .fields #[.str (Str.ofString "=[a-fA-F0-9]{2}") t0, .int 256 t1, .int 0 0, .none, .none, .ref 42, .int 0 0] }
  c : h.get? 42 = some { cls := .type "tuple", data := .seq #[.int 14 0, .int 8 0, .int 1 0, .int 3 0, .int 3 0, .int 1 0, .int 1 0, .int 61 0, .int 0 0, .int 16 0, .int 61 0, .int 24 0, .int 16 0, .int 2 0, .int 2 0, .int 13 0, .int 11 0, .int 9 0, .int 0 0, .int 67043328 0, .int 126 0, .int 126 0, .int 0 0, .int 0 0, .int 0 0, .int 0 0, .int 0 0, .int 1 0, .int 1 0] }
theorem PatAt.keeps {h h' : Heap} (x : PatAt h) (k : ∀ b o, h.get? b = some o → h'.get? b = some o) : PatAt h' :=
  ⟨let ⟨t0, t1, e⟩ := x.p; ⟨t0, t1, k _ _ e⟩, k _ _ x.c⟩

section
variable {M : Model} {A : Around} {E : Value → Shared → Prop} {s : Shared}
theorem target_ok {x : Str} {t : Tok} {Q : ReTarget → Shared → Prop} (hp : PatAt s.heap)
    (h : Q { pattern := .ref 43, string := .str x t, code := rcode, text := x.cps, kind := 0, groups := 0, pos := 0, lim := x.cps.size } s) : wpAny M A (reWholeTarget (.ref 43) (.str x t)) Q E s := by
  obtain ⟨⟨t0, t1, hp⟩, hc⟩ := hp
  unfold reWholeTarget
  refine wpAny_bind (wpAny_fieldsOf hp rfl ?_)
  refine wpAny_bind ?_
  show wpAny M A (pure (x.cps, 0)) _ E s
  refine wpAny_pure ?_
  show wpAny M A (do
    reNoCollectionInside (.str x t) 0
    let __do_lift ← reRawItems (.ref 42)
    pure { pattern := .ref 43, string := .str x t, code := __do_lift.map (·.toNat), text := x.cps, kind := 0, groups := 0, pos := 0, lim := x.cps.size }) Q E s
  refine wpAny_bind ?_
  show wpAny M A (pure ()) _ E s
  refine wpAny_pure ?_
  refine wpAny_bind ?_
  unfold reRawItems
  refine wpAny_bind (wpAny_seqItems hc rfl ?_)
  refine wpAny_pure (wpAny_pure ?_)
  have e : Array.map (fun x => x.toNat) (Array.map reRawOf #[Value.int 14 0, .int 8 0, .int 1 0, .int 3 0, .int 3 0, .int 1 0, .int 1 0, .int 61 0, .int 0 0, .int 16 0, .int 61 0, .int 24 0, .int 16 0, .int 2 0, .int 2 0, .int 13 0, .int 11 0, .int 9 0, .int 0 0, .int 67043328 0, .int 126 0, .int 126 0, .int 0 0, .int 0 0, .int 0 0, .int 0 0, .int 0 0, .int 1 0, .int 1 0]) = rcode := by decide +kernel
  rw [← e] at h
  exact h

theorem named_sub (a b : Value) : reNamed "re.Pattern.sub" "sub" ["repl", "string", "count"] 2 [a, b] [] = pure [some a, some b, none] := by rfl
theorem lookup_call : ∃ g, typeLookup (.type "function") "__call__" = pure (some (.builtin g)) := ⟨"function.__call__", by rw [typeLookup_type, builtinLookup_eq_fast]; kernel_rfl⟩
theorem sub_str_ba : isSubtype (.type "str") (.type "bytearray") = pure false := by rw [isSubtype_type]; kernel_rfl
end

section
variable {prog : Program} {w : World} {A : Around} {E : Value → Shared → Prop} {s : Shared}
theorem sub_enter {x : Str} {t : Tok} {f : Addr} {Q : Value → Shared → Prop} (hp : PatAt s.heap) (hf : s.TypeIs (.ref f) "function")
    (h : codeAny (model prog w) A (.builtin "re.Pattern.sub.loop" ⟨[.ref 43, .str x t, .ref f, rawInt 1, rawInt 0, rawInt 0, rawInt 0, rawInt 0, .bool false, .ref s.heap.objs.size, .bool false], []⟩)
      (fun r s' => match r with | .ok (.ret v) => Q v s' | .ok _ => False | .error e => E e s') { s with heap := s.heap.push { cls := .type "list", data := .seq #[] } }) :
    wpAny (model prog w) A (call (.builtin "re.Pattern.sub") [.ref 43, .ref f, .str x t]) Q E s := by
  have hT : s.TypeIs (.ref 43) "re.Pattern" := by obtain ⟨_, _, e⟩ := hp.p; exact ⟨_, e, rfl⟩
  obtain ⟨g, hg⟩ := lookup_call
  refine wpAny_call (codeAny_call_builtin slot_sub.plain entry_sub (slot_sub.check _ _ _ _ _ _ _ _ hT (args_sub _ _ _) ?_))
  show wpAny _ _ (reSubstitute "re.Pattern.sub" "sub" false ⟨[.ref 43, .ref f, .str x t], []⟩) _ _ s
  unfold reSubstitute
  refine wpAny_bind ?_
  rw [named_sub]
  refine wpAny_pure ?_
  refine wpAny_bind (wpAny_pure ?_)
  refine wpAny_bind (wpAny_specialOf hf hg ?_)
  refine wpAny_bind (wpAny_pure ?_)
  refine wpAny_bind (wpAny_pure ?_)
  refine wpAny_bind (wpAny_holding (target_ok hp ?_))
  refine wpAny_bind ?_
  unfold reNotHeld
  refine wpAny_bind (wpAny_isInstance (typeIs_str _ _ _) sub_str_ba ?_)
  refine wpAny_pure ?_
  refine wpAny_bind (wpAny_newList ?_ (by decide))
  exact wpAny_pure ⟨plainId_quiet plain_loop _, h⟩

theorem join_S : ∀ ss : List (List Nat), Str.join (S []) (ss.map S) = S ss.flatten
  | [] => rfl
  | [y] => by simp [Str.join]
  | y :: z :: r => by
    have ih := join_S (z :: r)
    show S y ++ S [] ++ Str.join (S []) (S z :: r.map S) = _
    rw [show S z :: r.map S = (z :: r).map S from rfl, ih, S_append, S_append]
    simp
theorem txt_join_S (ss : List (List Nat)) : Txt.join (S []) (ss.map S) = S ss.flatten := by
  unfold Txt.join
  rw [StrLaws.glued_eq_join, join_S]
theorem sum_len (ss : List (List Nat)) : ((ss.map S).map (·.length)).sum = ss.flatten.length := by
  induction ss with
  | nil => rfl
  | cons y r ih => simp only [List.map_cons, List.sum_cons, List.flatten_cons, List.length_append, S_len]; rw [← ih]

/-- a match of three signs -/
structure MatchAt (h : Heap) (m : Addr) (x : List Nat) (b : Nat) : Prop where
  at_ : ∃ t T lim li, h.get? m = some { cls := .type "re.Match", data := .fields #[.str (S x) t, .ref 43, rawInt 0, rawInt lim, rawInt li, .ref T] } ∧ h.get? T = some { cls := .type "tuple", data := .seq #[rawInt b, rawInt ((b + 3 : Nat) : Int)] }

theorem gm_group {m : Addr} {x : List Nat} {b : Nat} {pl : Sem Bool} {Q : Value × List Value → Shared → Prop} (hm : MatchAt s.heap m x b) (h : Q (.builtin "re.Match.group", [.ref m]) s) :
    wpAny (model prog w) A (getMethod (.ref m) (Str.ofString "group") pl) Q E s := by
  obtain ⟨t, T, lim, li, e, _⟩ := hm.at_
  exact getMethod_builtin ⟨_, e, rfl⟩ pa_match slot_group type_group (fun a ea => by cases ea; exact ⟨_, e, rfl⟩) h
theorem gm_sub {pl : Sem Bool} {Q : Value × List Value → Shared → Prop} (hp : PatAt s.heap) (h : Q (.builtin "re.Pattern.sub", [.ref 43]) s) :
    wpAny (model prog w) A (getMethod (.ref 43) (Str.ofString "sub") pl) Q E s := by
  obtain ⟨t0, t1, e⟩ := hp.p
  exact getMethod_builtin ⟨_, e, rfl⟩ pa_pattern slot_sub type_sub (fun a ea => by cases ea; exact ⟨_, e, rfl⟩) h
theorem group_ok {m : Addr} {x a r : List Nat} {p q z : Nat} {u : Tok} {Q : Value → Shared → Prop} (hm : MatchAt s.heap m x a.length) (hx : x = a ++ p :: q :: z :: r) (h : ∀ t k, Q (.str (S [p, q, z]) t) { s with toks := k }) :
    wpAny (model prog w) A (call (.builtin "re.Match.group") [.ref m, .int 0 u]) Q E s := by
  obtain ⟨t, T, lim, li, e, eT⟩ := hm.at_
  refine wpAny_call (codeAny_call_builtin slot_group.plain entry_group (slot_group.check _ _ _ _ _ _ _ _ ⟨_, e, rfl⟩ (args_group _ _) ?_))
  unfold «re.Match.group»
  refine wpAny_bind (wpAny_pure ?_)
  refine wpAny_bind ?_
  unfold reFound
  refine wpAny_bind (wpAny_fieldsOf e rfl ?_)
  refine wpAny_bind ?_
  unfold reRawItems
  refine wpAny_bind (wpAny_seqItems eT rfl ?_)
  refine wpAny_pure (wpAny_pure ?_)
  have eA : Array.map reRawOf ((some #[rawInt (a.length : Int), rawInt ((a.length + 3 : Nat) : Int)]).getD #[]) = #[(a.length : Int), ((a.length + 3 : Nat) : Int)] := by simp [reRawOf, rawInt]
  rw [eA]
  refine wpAny_bind ?_
  have eN : ∀ (F : Array Value), reGroupNumber ⟨F, #[(a.length : Int), ((a.length + 3 : Nat) : Int)]⟩ (.int 0 u) = pure 0 := fun F => rfl
  rw [eN]
  refine wpAny_pure ?_
  refine wpAny_bind ?_
  have eT2 : reGroupText ⟨#[Value.str (S x) t, Value.ref 43, rawInt 0, rawInt lim, rawInt li, Value.ref T], #[(a.length : Int), ((a.length + 3 : Nat) : Int)]⟩ 0 .none = mkStr ⟨(S x).cps.extract a.length (a.length + 3)⟩ := by
    unfold reGroupText
    have hb : (decide ((a.length : Int) < 0) || decide (((a.length + 3 : Nat) : Int) < 0)) = false := by
      rw [Bool.or_eq_false_iff, decide_eq_false_iff_not, decide_eq_false_iff_not]; omega
    show (if (decide ((a.length : Int) < 0) || decide (((a.length + 3 : Nat) : Int) < 0)) = true then _ else _) = _
    rw [hb]
    rfl
  rw [eT2]
  have eX : (⟨(S x).cps.extract a.length (a.length + 3)⟩ : Str) = S [p, q, z] := by
    subst hx
    apply Str.ext'
    simp [S]
  rw [eX]
  refine wpAny_mkStr (wpAny_pure (h _ _)) (by rw [S_len, sizeLine_eq]; show 3 ≤ _; omega)
end
end Mine
end

/-! QUm -/
section
open PySem PySem.W PyProof.Rows
namespace Mine
open PySem.Calls
theorem MatchAt.keeps {h h' : Heap} {m : Addr} {x : List Nat} {b : Nat} (y : MatchAt h m x b) (k : ∀ b o, h.get? b = some o → h'.get? b = some o) : MatchAt h' m x b :=
  ⟨let ⟨t, T, lim, li, e1, e2⟩ := y.at_; ⟨t, T, lim, li, k _ _ e1, k _ _ e2⟩⟩
section
variable {prog : Program} {w : World} {A : Around} {E : Value → Shared → Prop} {s : Shared} {p : Program} {loose : List Str} {mean : ExcName → Option Value} {mg mb : Str → Option Value}
theorem gm_groupF {h₀ : Heap} {L : Addr} {mm : Str → Option Value} {m : Addr} {x : List Nat} {b : Nat} {pl : Sem Bool} {Q : Value × List Value → Shared → Prop} (F : Fr h₀ L s.heap mm) (hm : MatchAt h₀ m x b) (h : Q (.builtin "re.Match.group", [.ref m]) s) :
    wpAny (model prog w) A (getMethod (.ref m) (Str.ofString "group") pl) Q E s := gm_group (hm.keeps F.keep) h
theorem group_okF {h₀ : Heap} {L : Addr} {mm : Str → Option Value} {m : Addr} {x a r : List Nat} {p q z : Nat} {u : Tok} {Q : Value → Shared → Prop} (F : Fr h₀ L s.heap mm) (hm : MatchAt h₀ m x a.length) (hx : x = a ++ p :: q :: z :: r) (h : ∀ t k, Q (.str (S [p, q, z]) t) { s with toks := k }) :
    wpAny (model prog w) A (call (.builtin "re.Match.group") [.ref m, .int 0 u]) Q E s := group_ok (hm.keeps F.keep) hx h

local macro_rules | `(tactic| walk_at "getMethod ref") => `(tactic| (refine gm_groupF (by k_asm) (by assumption) ?_))
local macro_rules | `(tactic| walk_at "call builtin:re.Match.group") => `(tactic| (refine group_okF (by k_asm) (by assumption) (by assumption) ?_; intro t' k'))
local macro_rules | `(tactic| walk_at "call ref") => `(tactic| ((with_reducible show wpAny _ _ (call (Value.ref 66) [Value.str _ _]) _ _ _); first
  | (refine' unquote_step22 ?F ?N ?X ?T ?r ?x ?_; (case x => with_reducible rfl); (case F => k_asm); (case N => k_asm); (case X => k_asm); (case T => k_asm); (case r => (refine room1 ?_; assumption)); k_whole; intro t' h' tk' F' N'; (try k_sweep))
  | (refine' unquote_step3D ?F ?N ?X ?T ?r ?x ?_; (case x => with_reducible rfl); (case F => k_asm); (case N => k_asm); (case X => k_asm); (case T => k_asm); (case r => (refine room1 ?_; assumption)); k_whole; intro t' h' tk' F' N'; (try k_sweep))))

set_option maxRecDepth 100000 in
set_option maxHeartbeats 8000000 in
theorem um_22 {m : Addr} {x a r : List Nat} {Q : Value → Shared → Prop} (X : (Mine.frag w.params).In s.heap) (T : Top p loose mean mg mb s.heap) (hroom : A.depth + 1 < recursionLimit)
    (hm : MatchAt s.heap m x a.length) (hx : x = a ++ 61 :: 50 :: 50 :: r)
    (h : ∀ t h' tk, (∀ b o, s.heap.get? b = some o → h'.get? b = some o) → Q (.str (S [34]) t) { s with heap := h', toks := tk }) :
    wpAny (model prog w) A (call (.ref 93) [.ref m]) Q E s := by
  refine' call_fn (binds := [(Str.ofString "match", .ref m)]) X T.nolimit (by omega) ?k6 ?kp ?kb ?ks ?k7 ?k9 ?kB ?_ ?c2 ?c3 ?c4 ?c5
  case k6 => k_is
  case kp => dsimp only [fArgs, fBody, fScope, stm, nth, PySem.Challenge.pw_qu0008_01]
  case kb => dsimp only [fArgs, fBody, fScope, stm, nth, PySem.Challenge.pw_qu0008_01]
  case ks => dsimp only [fArgs, fBody, fScope, stm, nth, PySem.Challenge.pw_qu0008_01]
  case k7 => k_is
  case k9 => exact BindsTo.of_eq rfl
  case kB => exact locs rfl
  case c2 => exact rfl
  case c3 => exact rfl
  case c4 => exact rfl
  case c5 => decide
  intro L' h' F' N'
  w_on
  with_reducible show wpAny _ _ _ _ _ _
  k_fold
  k_steps

  exact end_str h (by assumption) rfl
set_option maxRecDepth 100000 in
set_option maxHeartbeats 8000000 in
theorem um_3D {m : Addr} {x a r : List Nat} {Q : Value → Shared → Prop} (X : (Mine.frag w.params).In s.heap) (T : Top p loose mean mg mb s.heap) (hroom : A.depth + 1 < recursionLimit)
    (hm : MatchAt s.heap m x a.length) (hx : x = a ++ 61 :: 51 :: 68 :: r)
    (h : ∀ t h' tk, (∀ b o, s.heap.get? b = some o → h'.get? b = some o) → Q (.str (S [61]) t) { s with heap := h', toks := tk }) :
    wpAny (model prog w) A (call (.ref 93) [.ref m]) Q E s := by
  refine' call_fn (binds := [(Str.ofString "match", .ref m)]) X T.nolimit (by omega) ?k6 ?kp ?kb ?ks ?k7 ?k9 ?kB ?_ ?c2 ?c3 ?c4 ?c5
  case k6 => k_is
  case kp => dsimp only [fArgs, fBody, fScope, stm, nth, PySem.Challenge.pw_qu0008_01]
  case kb => dsimp only [fArgs, fBody, fScope, stm, nth, PySem.Challenge.pw_qu0008_01]
  case ks => dsimp only [fArgs, fBody, fScope, stm, nth, PySem.Challenge.pw_qu0008_01]
  case k7 => k_is
  case k9 => exact BindsTo.of_eq rfl
  case kB => exact locs rfl
  case c2 => exact rfl
  case c3 => exact rfl
  case c4 => exact rfl
  case c5 => decide
  intro L' h' F' N'
  w_on
  with_reducible show wpAny _ _ _ _ _ _
  k_fold
  k_steps
  exact end_str h (by assumption) rfl
end
end Mine
end

/-! QSub -/
section
open PySem PySem.W PyProof.Rows PySem.Calls
set_option maxRecDepth 100000
namespace Mine
open PySem.Builtin PySem.Builtin.Re PySem.Sre

theorem split_tk : ∀ rest : List Tk, allOk rest → (∃ cs : List Nat, rest = cs.map Tk.ch ∧ ∀ c ∈ cs, c ≠ 61) ∨ ∃ (cs : List Nat) (e : Tk) (r : List Tk), rest = cs.map Tk.ch ++ e :: r ∧ (e = .e3D ∨ e = .e22) ∧ ∀ c ∈ cs, c ≠ 61
  | [], _ => .inl ⟨[], rfl, by simp⟩
  | .e3D :: r, _ => .inr ⟨[], .e3D, r, rfl, .inl rfl, by simp⟩
  | .e22 :: r, _ => .inr ⟨[], .e22, r, rfl, .inr rfl, by simp⟩
  | .ch c :: r, h => by
    have hc : c ≠ 61 := by
      have ho : okc c := h (.ch c) (.head _)
      unfold okc at ho; omega
    rcases split_tk r (fun t ht => h t (.tail _ ht)) with ⟨cs, e, hn⟩ | ⟨cs, e, r', e', he, hn⟩
    · exact .inl ⟨c :: cs, by rw [e]; rfl, by intro d hd; rcases List.mem_cons.mp hd with rfl | hd; exact hc; exact hn d hd⟩
    · exact .inr ⟨c :: cs, e, r', by rw [e']; rfl, he, by intro d hd; rcases List.mem_cons.mp hd with rfl | hd; exact hc; exact hn d hd⟩
theorem ren_chs (cs : List Nat) : ren (cs.map Tk.ch) = cs := by
  induction cs with
  | nil => rfl
  | cons c r ih => rw [List.map_cons, ren_cons, ih]; rfl
theorem vals_chs (cs : List Nat) : vals (cs.map Tk.ch) = cs := by
  induction cs with
  | nil => rfl
  | cons c r ih => simp only [vals, List.map_cons, List.map_map] at ih ⊢; rw [ih]; rfl

/-- the pieces in their list -/
structure Pieces (h : Heap) (D : Addr) (n : Nat) (got : List Nat) : Prop where
  at_ : ∃ (items : Array Value) (ep : Nat) (ss : List (List Nat)), h.get? D = some { cls := .type "list", data := .seq items ep } ∧ StrsAre items.toList (ss.map S) ∧ ss.flatten = got ∧ items.size ≤ n

section
variable {prog : Program} {w : World} {A : Around} {E : Value → Shared → Prop} {s : Shared}
theorem pieces_push {D : Addr} {n : Nat} {got y : List Nat} {t : Tok} {Q : Unit → Shared → Prop} (hp : Pieces s.heap D n got) (hn : n ≤ 100000)
    (h : ∀ h', Pieces h' D (n + 1) (got ++ y) → (∀ b o, b ≠ D → s.heap.get? b = some o → h'.get? b = some o) → Q () { s with heap := h' }) :
    wpAny (model prog w) A (updateSeq D (fun x => x.push (.str (S y) t))) Q E s := by
  obtain ⟨items, ep, ss, e, hi, hf, hs⟩ := hp.at_
  refine wpAny_updateSeq e rfl (h _ ⟨⟨items.push (.str (S y) t), ep + 1, ss ++ [y], ?_, ?_, ?_, ?_⟩⟩ fun b o hb ho => ?_) (by rw [sizeLine_eq]; omega) (by rw [Array.size_push, sizeLine_eq]; omega)
  · rw [Heap.get?_update_self _ e (by rfl)]
    simp [Obj.mapSeq]
  · rw [Array.toList_push, List.map_append]
    exact hi.append' (.cons _ _ .nil)
  · rw [List.flatten_append, hf]; simp
  · rw [Array.size_push]; omega
  · exact (Heap.get?_update_ne _ _ _ _ hb).trans ho
variable {p : Program} {loose : List Str} {mean : ExcName → Option Value} {mg mb : Str → Option Value}
theorem newMatch_ok {x : List Nat} {t : Tok} {lim b : Nat} {m : Sre.M} {Q : Value → Shared → Prop} (h1 : m.start = b) (h2 : m.handed = b + 3) 
    (h : ∀ f h', (∀ b o, s.heap.get? b = some o → h'.get? b = some o) → MatchAt h' f x b → Q (.ref f) { s with heap := h' }) :
    wpAny (model prog w) A (reNewMatch (.ref 43) (.str (S x) t) 0 0 lim m) Q E s := by
  unfold reNewMatch
  show wpAny _ _ (do let __do_lift ← newTuple (rawInt m.start :: rawInt m.handed :: []); newFields "re.Match" [.str (S x) t, .ref 43, rawInt (0 : Nat), rawInt lim, rawInt m.lastindex, __do_lift]) _ _ _
  refine wpAny_bind (wpAny_newTuple ?_ (by rw [sizeLine_eq]; show 2 ≤ _; omega))
  unfold newFields
  refine wpAny_newObj_type (h _ _ (fun b o e => Heap.get?_push_of_some _ (Heap.get?_push_of_some _ e)) ⟨⟨t, _, lim, m.lastindex, Heap.get?_push_size _ rfl, ?_⟩⟩)
  refine Heap.get?_push_of_some _ ?_
  rw [Heap.get?_push_size _ rfl, h1, h2]

theorem loop_tail {l : List Tk} {t : Tok} {D : Addr} {n : Int} {k : Nat} {got a r : List Nat} {e : Tk} {m : Sre.M} {Q : PySem.Fin → Shared → Prop} (hroom : A.depth + 1 < recursionLimit) (X : (Mine.frag w.params).In s.heap) (T : Top p loose mean mg mb s.heap)
    (h1 : m.start = a.length) (h2 : m.handed = a.length + 3) (hx : ren l = a ++ (e.ren ++ r)) (he : e = .e3D ∨ e = .e22) (hpc : Pieces s.heap D k got) (hk : k ≤ 100000) 
    (h : ∀ h' tk', (∀ b o, b ≠ D → s.heap.get? b = some o → h'.get? b = some o) → Pieces h' D (k + 1) (got ++ [e.val]) →
      Q (.again (.builtin "re.Pattern.sub.loop" ⟨[.ref 43, .str (S (ren l)) t, .ref 93, .int 1 0, .int 0 0, .int (n + 1) 0, .int ((a.length + 3 : Nat) : Int) 0, .int ((a.length + 3 : Nat) : Int) 0, .bool false, .ref D, .bool false], []⟩)) { s with heap := h', toks := tk' }) :
    wpAny (model prog w) A (do
      let found ← reNewMatch (.ref 43) (.str (S (ren l)) t) 0 0 (S (ren l)).cps.size m
      let item ← holding [found] (if (1 == 1) = true then call (.ref 93) [found] else do
        let __do_lift ← reFound found
        reExpand (.ref 93) __do_lift)
      if (item != Value.none) = true then do
        updateSeq D fun x => x.push item
        again (.builtin "re.Pattern.sub.loop" ⟨[.ref 43, .str (S (ren l)) t, .ref 93, .int 1 0, .int 0 0, .int (n + 1) 0, .int (m.handed : Int) 0, .int (m.handed : Int) 0, .bool (m.handed == m.start), .ref D, .bool false], []⟩)
      else again (.builtin "re.Pattern.sub.loop" ⟨[.ref 43, .str (S (ren l)) t, .ref 93, .int 1 0, .int 0 0, .int (n + 1) 0, .int (m.handed : Int) 0, .int (m.handed : Int) 0, .bool (m.handed == m.start), .ref D, .bool false], []⟩)) Q E s := by
  refine wpAny_bind (newMatch_ok h1 h2 fun f h' hk' hm => ?_)
  have done : ∀ tt h'' tk, (∀ b o, h'.get? b = some o → h''.get? b = some o) → wpAny (model prog w) A (if (Value.str (S [e.val]) tt != Value.none) = true then do
        updateSeq D fun x => x.push (Value.str (S [e.val]) tt)
        again (.builtin "re.Pattern.sub.loop" ⟨[.ref 43, .str (S (ren l)) t, .ref 93, .int 1 0, .int 0 0, .int (n + 1) 0, .int (m.handed : Int) 0, .int (m.handed : Int) 0, .bool (m.handed == m.start), .ref D, .bool false], []⟩)
      else again (.builtin "re.Pattern.sub.loop" ⟨[.ref 43, .str (S (ren l)) t, .ref 93, .int 1 0, .int 0 0, .int (n + 1) 0, .int (m.handed : Int) 0, .int (m.handed : Int) 0, .bool (m.handed == m.start), .ref D, .bool false], []⟩)) Q E { s with heap := h'', toks := tk } := by
    intro tt h'' tk hk''
    refine wpAny_ite (ite_pos (by rfl) ?_)
    have hpc' : Pieces h'' D k got := by
      obtain ⟨items, ep, ss, e1, e2⟩ := hpc.at_
      exact ⟨items, ep, ss, hk'' _ _ (hk' _ _ e1), e2⟩
    refine wpAny_bind (pieces_push (s := { s with heap := h'', toks := tk }) hpc' hk fun h3 hp3 hk3 => ?_)
    refine wpAny_pure ?_
    have eb : (m.handed == m.start) = false := by rw [h1, h2]; simp
    rw [eb, h2]
    exact h h3 tk (fun b o hb ho => hk3 b o hb (hk'' _ _ (hk' _ _ ho))) hp3
  refine wpAny_bind (wpAny_holding ?_)
  refine wpAny_ite (ite_pos (by rfl) ?_)
  rcases he with rfl | rfl
  · exact um_3D (s := { s with heap := h' }) (X.keeps hk') (T.keeps hk') hroom hm (r := r) hx fun tt h'' tk hk'' => done tt h'' tk hk''
  · exact um_22 (s := { s with heap := h' }) (X.keeps hk') (T.keeps hk') hroom hm (r := r) hx fun tt h'' tk hk'' => done tt h'' tk hk''

theorem Pieces.mono {h : Heap} {D : Addr} {n n' : Nat} {got got' : List Nat} (x : Pieces h D n got) (hn : n ≤ n') (e : got = got') : Pieces h D n' got' := by
  subst e
  obtain ⟨items, ep, ss, e, hi, hf, hs⟩ := x.at_
  exact ⟨items, ep, ss, e, hi, hf, Nat.le_trans hs hn⟩
theorem join_tail {x : Array Nat} {D : Addr} {n : Int} {k : Nat} {got : List Nat} {Q : PySem.Fin → Shared → Prop} (hpc : Pieces s.heap D k got) (hg : got.length ≤ 5000)
    (h : ∀ t tk, Q (.done (.ret (.str (S got) t))) { s with toks := tk }) :
    wpAny (model prog w) A (do
      let joiner ← reSlice x 0 0 0
      let __do_lift ← seqItems? (Value.ref D)
      if (__do_lift.getD #[]).isEmpty = true then do
          let text ← pure joiner
          if false = true then do
              let __do_lift ←
                holding [text] do
                    let __do_lift ← mkInt n
                    newTuple [text, __do_lift]
              ret __do_lift
            else ret text
        else do
          let text ← call (Value.builtin (if (0 == 0) = true then "str.join" else "bytes.join")) [joiner, Value.ref D]
          if false = true then do
              let __do_lift ←
                holding [text] do
                    let __do_lift ← mkInt n
                    newTuple [text, __do_lift]
              ret __do_lift
            else ret text) Q E s := by
  obtain ⟨items, ep, ss, e, hi, hf, hs⟩ := hpc.at_
  have e0 : reSlice x 0 0 0 = mkStr (S []) := by
    show mkStr ⟨x.extract 0 0⟩ = _
    congr 1
    apply Str.ext'
    simp [S]
  rw [e0]
  refine wpAny_bind (wpAny_mkStr ?_ (by rw [S_len, sizeLine_eq]; decide))
  refine wpAny_bind (wpAny_seqItems e rfl ?_)
  refine wpAny_ite ?_
  show if items.isEmpty = true then _ else _
  by_cases hem : items.isEmpty = true
  · rw [if_pos hem]
    refine wpAny_bind (wpAny_pure (wpAny_ite (ite_neg (by decide) (wpAny_pure ?_))))
    have hs0 : ss = [] := by
      have hz : items.toList = [] := by simpa using hem
      rw [hz] at hi
      cases ss with
      | nil => rfl
      | cons y r => cases hi
    have : got = [] := by rw [← hf, hs0]; rfl
    subst this
    exact h _ _
  · rw [if_neg hem]
    refine wpAny_bind ?_
    refine join_list (ys := ss.map S) ⟨_, e, rfl, _, rfl⟩ hi ?_ fun t' k' => ?_
    · rw [sum_len, hf, S_len]; simp; omega
    · rw [txt_join_S, hf]
      exact wpAny_ite (ite_neg (by decide) (wpAny_pure (h _ _)))

theorem loop_none {l : List Tk} {t : Tok} {D : Addr} {h₀ h : Heap} {tk : Nat} {n : Int} {pre : List Tk} {cs : List Nat} {R : Result → Shared → Prop} (hP : PatAt h₀) (hx : (ren l).length ≤ 1000) (hD : h₀.get? D = none)
    (hR : ∀ t h' tk, (∀ b o, h₀.get? b = some o → h'.get? b = some o) → R (.ok (.ret (.str (S (vals l)) t))) { s with heap := h', toks := tk })
    (hpr : l = pre ++ cs.map Tk.ch) (hn : ∀ c ∈ cs, c ≠ 61) (hkeep : ∀ b o, h₀.get? b = some o → h.get? b = some o) (hpc : Pieces h D (2 * (ren pre).length) (vals pre)) :
      codeAny (model prog w) A (.builtin "re.Pattern.sub.loop" ⟨[.ref 43, .str (S (ren l)) t, .ref 93, rawInt 1, rawInt 0, rawInt n, rawInt ((ren pre).length : Int), rawInt ((ren pre).length : Int), .bool false, .ref D, .bool false], []⟩) R { s with heap := h, toks := tk } := by
  have hren : ren l = ren pre ++ cs := by rw [hpr, ren_append, ren_chs]
  refine codeAny_builtin entry_loop ?_
  rw [Around.under_plainId plain_loop]
  unfold «re.Pattern.sub.loop»
  dsimp only [rawInt]
  simp only [Int.toNat_natCast]
  refine wpAny_bind (target_ok (hP.keeps hkeep) ?_)
  refine wpAny_ite (ite_neg (by decide) ?_)
  refine wpAny_bind (wpAny_ite (ite_neg (by simp) ?_))
  refine search_none (text := (S (ren l)).cps) (pre := ren pre) (chs := cs) (by rw [S_cps]; exact hren) hn (by have := S_len (ren l); unfold Str.length at this; omega) ?_
  dsimp only
  have hvl := vals_le l
  have hsz : (S (ren l)).cps.size = (ren l).length := S_len (ren l)
  have hrl : (ren l).length = (ren pre).length + cs.length := by rw [hren]; simp
  have hval : vals l = vals pre ++ cs := by rw [hpr, vals_append, vals_chs]
  refine wpAny_ite ?_
  by_cases hlt : (ren pre).length < (S (ren l)).cps.size
  · rw [if_pos hlt]
    have e1 : reSlice (S (ren l)).cps 0 (ren pre).length (S (ren l)).cps.size = mkStr (S cs) := by
      show mkStr ⟨(S (ren l)).cps.extract (ren pre).length (S (ren l)).cps.size⟩ = _
      congr 1
      apply Str.ext'
      rw [hren]
      simp [S]
    rw [e1]
    refine wpAny_bind (wpAny_mkStr ?_ (by rw [S_len, sizeLine_eq]; omega))
    refine wpAny_bind (pieces_push (s := { s with heap := h, toks := tk + 1 }) hpc (by omega) fun h' hp' hk' => ?_)
    rw [← hval] at hp'
    exact join_tail (s := { s with heap := h', toks := tk + 1 }) hp' (by omega) fun t' tk' => hR t' h' tk' fun b o e => hk' b o (fun eb => by rw [eb, hD] at e; cases e) (hkeep b o e)
  · rw [if_neg hlt]
    have hc : cs = [] := by
      have : cs.length = 0 := by omega
      exact List.length_eq_zero_iff.mp this
    rw [hc, List.append_nil] at hval
    rw [← hval] at hpc
    exact join_tail (s := { s with heap := h, toks := tk }) hpc (by omega) fun t' tk' => hR t' h tk' hkeep
theorem loop_ok {l : List Tk} {t : Tok} {D : Addr} {h₀ : Heap} {R : Result → Shared → Prop} (hroom : A.depth + 1 < recursionLimit) (X : (Mine.frag w.params).In h₀) (T : Top p loose mean mg mb h₀) (hP : PatAt h₀) (hl : allOk l) (hx : (ren l).length ≤ 1000) (hD : h₀.get? D = none)
    (hR : ∀ t h' tk, (∀ b o, h₀.get? b = some o → h'.get? b = some o) → R (.ok (.ret (.str (S (vals l)) t))) { s with heap := h', toks := tk }) :
    ∀ (k : Nat) (pre rest : List Tk) (h : Heap) (tk : Nat) (n : Int), rest.length ≤ k → l = pre ++ rest → (∀ b o, h₀.get? b = some o → h.get? b = some o) → Pieces h D (2 * (ren pre).length) (vals pre) →
      codeAny (model prog w) A (.builtin "re.Pattern.sub.loop" ⟨[.ref 43, .str (S (ren l)) t, .ref 93, rawInt 1, rawInt 0, rawInt n, rawInt ((ren pre).length : Int), rawInt ((ren pre).length : Int), .bool false, .ref D, .bool false], []⟩) R { s with heap := h, toks := tk }
  | 0, pre, rest, h, tk, n, hk, hpr, hkeep, hpc => by
    have : rest = ([] : List Nat).map Tk.ch := List.length_eq_zero_iff.mp (by omega)
    exact loop_none hP hx hD hR (this ▸ hpr) (by simp) hkeep hpc
  | k + 1, pre, rest, h, tk, n, hk, hpr, hkeep, hpc => by
    rcases split_tk rest (fun t ht => hl t (by rw [hpr]; exact List.mem_append_right _ ht)) with ⟨cs, rfl, hn⟩ | ⟨cs, e, r, rfl, he, hn⟩
    · exact loop_none hP hx hD hR hpr hn hkeep hpc
    have hren : ren l = ren pre ++ (cs ++ (e.ren ++ ren r)) := by rw [hpr, ren_append, ren_append, ren_chs, ren_cons]
    have hrl : (ren l).length = (ren pre).length + cs.length + e.ren.length + (ren r).length := by rw [hren]; simp; omega
    have hsz : (S (ren l)).cps.size = (ren l).length := S_len (ren l)
    refine codeAny_builtin entry_loop ?_
    rw [Around.under_plainId plain_loop]
    unfold «re.Pattern.sub.loop»
    dsimp only [rawInt]
    simp only [Int.toNat_natCast]
    refine wpAny_bind (target_ok (hP.keeps hkeep) ?_)
    refine wpAny_ite (ite_neg (by decide) ?_)
    refine wpAny_bind (wpAny_ite (ite_neg (by simp) ?_))
    have hfound : ∃ y z, hexc y = true ∧ hexc z = true ∧ e.ren = [61, y, z] := by
      rcases he with rfl | rfl
      · exact ⟨51, 68, rfl, rfl, rfl⟩
      · exact ⟨50, 50, rfl, rfl, rfl⟩
    obtain ⟨y, z, hy, hz, her⟩ := hfound
    refine search_found (text := (S (ren l)).cps) (pre := ren pre) (chs := cs) (r := ren r) hy hz (by rw [S_cps, hren, her]; rfl) hn (by omega) fun m h1 h2 _ _ _ => ?_
    dsimp only
    have h1' : m.start = (ren pre ++ cs).length := by rw [h1, List.length_append]
    have h2' : m.handed = (ren pre ++ cs).length + 3 := by rw [h2, List.length_append]
    have hxa : ren l = (ren pre ++ cs) ++ (e.ren ++ ren r) := by rw [hren, List.append_assoc]
    have hlen : (ren ((pre ++ cs.map Tk.ch) ++ [e])).length = (ren pre ++ cs).length + 3 := by
      rw [ren_append, ren_append, ren_chs, ren_cons, her]; simp [ren]; omega
    have hvals : vals ((pre ++ cs.map Tk.ch) ++ [e]) = vals pre ++ cs ++ [e.val] := by
      rw [vals_append, vals_append, vals_chs]; rfl
    have hpr' : l = ((pre ++ cs.map Tk.ch) ++ [e]) ++ r := by rw [hpr]; simp
    have next : ∀ (h' : Heap) (tk' : Nat) (g : List Nat) (q : Nat), q ≤ 2 * (ren pre).length + 1 → vals pre ++ cs = g → (∀ b o, h₀.get? b = some o → h'.get? b = some o) → Pieces h' D (q + 1) (g ++ [e.val]) →
        Code.quiet (.builtin "re.Pattern.sub.loop" ⟨[.ref 43, .str (S (ren l)) t, .ref 93, .int 1 0, .int 0 0, .int (n + 1) 0, .int (((ren pre ++ cs).length + 3 : Nat) : Int) 0, .int (((ren pre ++ cs).length + 3 : Nat) : Int) 0, .bool false, .ref D, .bool false], []⟩) = true ∧
        codeAny (model prog w) A (.builtin "re.Pattern.sub.loop" ⟨[.ref 43, .str (S (ren l)) t, .ref 93, .int 1 0, .int 0 0, .int (n + 1) 0, .int (((ren pre ++ cs).length + 3 : Nat) : Int) 0, .int (((ren pre ++ cs).length + 3 : Nat) : Int) 0, .bool false, .ref D, .bool false], []⟩) R { s with heap := h', toks := tk' } := by
      intro h' tk' g q hq hg hk' hp'
      refine ⟨plainId_quiet plain_loop _, ?_⟩
      have := loop_ok (t := t) hroom X T hP hl hx hD hR k ((pre ++ cs.map Tk.ch) ++ [e]) r h' tk' (n + 1) (by simp at hk; omega) hpr' hk' (hp'.mono (by rw [hlen, List.length_append]; omega) (by rw [hvals, hg]))
      rw [hlen] at this
      exact this
    have hroom' : A.in1.depth + 1 < recursionLimit := hroom
    refine wpAny_ite ?_
    by_cases hlt : (ren pre).length < m.start
    · rw [if_pos hlt]
      have e1 : reSlice (S (ren l)).cps 0 (ren pre).length m.start = mkStr (S cs) := by
        rw [h1']
        show mkStr ⟨(S (ren l)).cps.extract (ren pre).length (ren pre ++ cs).length⟩ = _
        congr 1
        apply Str.ext'
        rw [hxa]
        simp [S]
      rw [e1]
      refine wpAny_bind (wpAny_mkStr ?_ (by rw [S_len, sizeLine_eq]; omega))
      refine wpAny_bind (pieces_push (s := { s with heap := h, toks := tk + 1 }) hpc (by omega) fun h' hp' hk' => ?_)
      have hkeep' : ∀ b o, h₀.get? b = some o → h'.get? b = some o := fun b o e => hk' b o (fun eb => by rw [eb, hD] at e; cases e) (hkeep b o e)
      refine wpAny_ite (ite_neg (by decide) ?_)
      exact loop_tail (s := { s with heap := h', toks := tk + 1 }) hroom' (X.keeps hkeep') (T.keeps hkeep') h1' h2' hxa he hp' (by omega) fun h'' tk'' hk'' hp'' =>
        next h'' tk'' _ _ (Nat.le_refl _) rfl (fun b o e => hk'' b o (fun eb => by rw [eb, hD] at e; cases e) (hkeep' b o e)) hp''
    · rw [if_neg hlt]
      have hc : cs = [] := by
        have : cs.length = 0 := by omega
        exact List.length_eq_zero_iff.mp this
      refine wpAny_ite (ite_neg (by decide) ?_)
      exact loop_tail (s := { s with heap := h, toks := tk }) hroom' (X.keeps hkeep) (T.keeps hkeep) h1' h2' hxa he hpc (by omega) fun h'' tk'' hk'' hp'' =>
        next h'' tk'' _ _ (by omega) (by rw [hc, List.append_nil]) (fun b o e => hk'' b o (fun eb => by rw [eb, hD] at e; cases e) (hkeep b o e)) hp''
end
end Mine
end

/-! QHead -/
section
open PySem PySem.W PyProof.Rows
namespace Mine
open PySem.Calls PySem.Builtin PySem.Builtin.Str
theorem replace_none {x z : Str} {c : Nat} (h : c ∉ x.cps.toList) : Txt.replace x ⟨#[c]⟩ z = x := by
  unfold Txt.replace
  have : occurrences x ⟨#[c]⟩ 0 x.length (x.length + 1) = [] := by
    obtain ⟨f, h'⟩ := StrLaws.occ_chain x ⟨#[c]⟩ (x.length + 1)
    cases ho : occurrences x ⟨#[c]⟩ 0 x.length (x.length + 1) with
    | nil => rfl
    | cons i r =>
      rw [ho] at h'
      exact absurd (List.mem_of_getElem? ((StrLaws.subAt_one x c i).mp h'.2.1)) h
  rw [this]
  simp
theorem replace_ren {l : List Tk} {z : Str} (h : allOk l) : Txt.replace (S (ren l)) (Str.ofString "_") z = S (ren l) := by
  rw [show Str.ofString "_" = ⟨#[95]⟩ from by decide +kernel]
  refine replace_none ?_
  rw [S_cps]
  intro hc
  have := ren_code h _ hc
  omega
section
variable {prog : Program} {w : World} {A : Around} {E : Value → Shared → Prop} {s : Shared} {p : Program} {loose : List Str} {mean : ExcName → Option Value} {mg mb : Str → Option Value}
theorem pat_of {h : Heap} (X : (Mine.frag w.params).In h) : PatAt h := ⟨⟨_, _, X 43 _ (by k_is)⟩, X 42 _ (by k_is)⟩
theorem fn_of {h : Heap} (X : (Mine.frag w.params).In h) : ∃ o, h.get? 93 = some o ∧ o.cls = .type "function" := ⟨_, X 93 _ (by k_is), rfl⟩
theorem sub_step {h₀ : Heap} {L : Addr} {m : Str → Option Value} {news : List (Addr × Obj)} {l : List Tk} {t : Tok} {Q : Value → Shared → Prop} (F : Fr h₀ L s.heap m) (N : News h₀ L s.heap news) (X : (Mine.frag w.params).In h₀) (T : Top p loose mean mg mb h₀)
    (hroom : A.depth + 1 < recursionLimit) (hl : allOk l) (hx : (S (ren l)).length ≤ 1000) (h : ∀ t h' tk, Fr h₀ L h' m → News h₀ L h' news → Q (.str (S (vals l)) t) { s with heap := h', toks := tk }) :
    wpAny (model prog w) A (call (.builtin "re.Pattern.sub") [.ref 43, .ref 93, .str (S (ren l)) t]) Q E s := by
  have X' := X.keeps F.keep
  obtain ⟨o, ho, hc⟩ := fn_of X'
  refine sub_enter (pat_of X') ⟨o, ho, hc⟩ ?_
  refine loop_ok (s := s) (h₀ := s.heap) (R := fun r s' => match r with | .ok (.ret v) => Q v s' | .ok _ => False | .error e => E e s') hroom X' (T.keeps F.keep) (pat_of X') hl (by rw [← S_len]; exact hx) ?_
    (fun t' h' tk' k => h t' h' tk' (F.after k) (news_ext N k)) l.length [] l _ s.toks 0 (Nat.le_refl _) rfl (fun b o e => Heap.get?_push_of_some _ e) ⟨#[], 0, [], Heap.get?_push_size _ rfl, .nil, rfl, by simp⟩
  cases q : s.heap.get? s.heap.objs.size with
  | none => rfl
  | some o => exact absurd (Heap.lt_size q) (Nat.lt_irrefl _)
theorem gm_subF {h₀ : Heap} {L : Addr} {m : Str → Option Value} {pl : Sem Bool} {Q : Value × List Value → Shared → Prop} (F : Fr h₀ L s.heap m) (X : (Mine.frag w.params).In h₀) (h : Q (.builtin "re.Pattern.sub", [.ref 43]) s) :
    wpAny (model prog w) A (getMethod (.ref 43) (Str.ofString "sub") pl) Q E s := gm_sub (pat_of (X.keeps F.keep)) h
theorem repl_tok {l : List Tk} {t u v : Tok} {Q : Value → Shared → Prop} (hu : u ≠ 0) (hv : v ≠ 0) (huv : u ≠ v) (hl : allOk l) (hx : (S (ren l)).length ≤ 1000) (h : ∀ t' k, Q (.str (S (ren l)) t') { s with toks := k }) :
    wpAny (model prog w) A (call (.builtin "str.replace") [.str (S (ren l)) t, .str (Str.ofString "_") u, .str (Str.ofString " ") v]) Q E s :=
  SC.replaceW hu hv huv (by decide +kernel) (by omega) (by decide +kernel) fun t' k => by rw [replace_ren hl]; exact h t' k

-- a line for no key: the walker keeps its lines by their count, and QUm has as many of its own
local macro_rules | `(tactic| walk_at "no key of the walk") => `(tactic| skip)
local macro_rules | `(tactic| walk_at "getMethod ref") => `(tactic| (refine gm_subF (by k_asm) (by k_asm) ?_))
local macro_rules | `(tactic| walk_at "call builtin:str.replace") => `(tactic| (refine repl_tok (by first | omega | (simp; done) | (simp; omega)) (by first | omega | (simp; done) | (simp; omega)) (by first | omega | (simp; done) | (simp; omega)) (by assumption) (by assumption) ?_; intro t' k'))
local macro_rules | `(tactic| walk_at "call builtin:re.Pattern.sub") => `(tactic| (refine' sub_step ?F ?N ?X ?T ?r ?l ?x ?_; (case F => k_asm); (case N => k_asm); (case X => k_asm); (case T => k_asm); (case l => assumption); (case x => assumption); (case r => assumption); intro t' h' tk' F' N'; (try k_sweep)))

set_option maxRecDepth 100000 in
set_option maxHeartbeats 8000000 in
theorem header_ok {l : List Tk} {t₀ : Tok} {Q : Value → Shared → Prop} (X : (Mine.frag w.params).In s.heap) (T : Top p loose mean mg mb s.heap) (hroom : A.depth + 2 < recursionLimit)
    (hl : allOk l) (hx : (S (ren l)).length ≤ 1000)
    (h : ∀ t h' tk, (∀ b o, s.heap.get? b = some o → h'.get? b = some o) → Q (.str (S (vals l)) t) { s with heap := h', toks := tk }) :
    wpAny (model prog w) A (call (.ref 100) [.str (S (ren l)) t₀]) Q E s := by
  refine' call_fn (binds := [(Str.ofString "s", .str (S (ren l)) t₀)]) X T.nolimit (by omega) ?k6 ?kp ?kb ?ks ?k7 ?k9 ?kB ?_ ?c2 ?c3 ?c4 ?c5
  case k6 => k_is
  case kp => dsimp only [fArgs, fBody, fScope, stm, nth, PySem.Challenge.pw_qu0008_01]
  case kb => dsimp only [fArgs, fBody, fScope, stm, nth, PySem.Challenge.pw_qu0008_01]
  case ks => dsimp only [fArgs, fBody, fScope, stm, nth, PySem.Challenge.pw_qu0008_01]
  case k7 => k_is
  case k9 => exact BindsTo.of_eq rfl
  case kB => exact locs rfl
  case c2 => exact rfl
  case c3 => exact rfl
  case c4 => exact rfl
  case c5 => decide
  intro L' h' F' N'
  have hr2 : ∀ env, (A.deeper env).depth + 1 < recursionLimit := fun env => hroom
  w_on
  with_reducible show wpAny _ _ _ _ _ _
  k_fold
  refine wpAny_execs_cons ?_
  iterate 10 walk1
  refine repl_tok (by simp) (by simp) (by simp) (by assumption) (by assumption) ?_
  intro t' k'
  k_steps

  exact end_str h (by assumption) rfl
end
end Mine
end

/-! QForL -/
section
open PySem PySem.W PyProof.Rows
namespace Mine
open PySem.Calls
section
variable {prog : Program} {w : World} {A : Around} {E : Value → Shared → Prop} {s : Shared} {env : Env}
/-- what a for over a list asks, once the list stands -/
def ForL (prog : Program) (w : World) (A : Around) (env : Env) (x : Str) (body : List Stmt) (Q : Flow → Shared → Prop) (E : Value → Shared → Prop) (s : Shared) (xv : Value) (s₁ : Shared) : Prop :=
  ∃ (r : Addr) (vs : List Value) (h₁ : Heap) (tk₁ : Nat) (J : Nat → Heap → Prop), xv = .ref r ∧ s₁ = { s with heap := h₁, toks := tk₁ } ∧ h₁.IsList r vs.toArray ∧ J 0 h₁ ∧
    (∀ i h h', J i h → (∀ b o, b ≠ h₁.objs.size → h.get? b = some o → h'.get? b = some o) → J i h') ∧
    (∀ i v h tk oI, vs[i]? = some v → J i h → h.get? h₁.objs.size = some oI → h.IsList r vs.toArray →
      wpAny (model prog w) A (storeName env x v) (fun _ s₂ => wpAny (model prog w) A (execs body env) (fun f s₃ => match f with
        | .next | .cont => Halt (∃ h' tk', s₃ = { s with heap := h', toks := tk' } ∧ J (i + 1) h' ∧ h'.get? h₁.objs.size = some oI ∧ h'.IsList r vs.toArray)
        | .brk => Q .next s₃
        | .ret v => Q (.ret v) s₃) E s₂) E { s with heap := h, toks := tk }) ∧
    (∀ h tk, J vs.length h → Q .next { s with heap := h, toks := tk })

theorem for_list {Q : Flow → Shared → Prop} {x : Str} {px pos : Pos} {iter : Expr} {body : List Stmt} (hh : A.handled = none)
    (h : wpAny (model prog w) A (eval iter env) (fun xv s₁ => Halt (ForL prog w A env x body Q (fun _ _ => False) s xv s₁)) E s)
    (hs : ∀ x, foldedSetIterable iter env x = pure x := by intro _; rfl) :
    wpAny (model prog w) A (exec (.For (.Name x px) iter body [] pos) env) Q E s := by
  refine wpAny_For (wpAny_mono h (fun xv s₁ h₁ => ?_) fun _ _ e => e) hs
  obtain ⟨r, vs, h₁, tk₁, J, rfl, rfl, hl, hJ, jst, step, done⟩ := h₁
  refine wpAny_pyIter_list hl ?_
  have hne : r ≠ h₁.objs.size := by
    obtain ⟨o, e, _⟩ := hl
    exact Nat.ne_of_lt (Heap.lt_size e)
  have W := Walks.list (prog := prog) (w := w) hh h₁.objs.size r hne vs.toArray
  refine for_own (R := fun r s' => match r with | .ok f => Q f s' | .error e => cameBackBy (model prog w) A env E e s') W J ?_ ?_ ?_ ?_ ?_
  · intro i h h' hj hk
    exact jst i h h' hj fun b o hb e => hk b o (by simpa using hb) e
  · exact ⟨⟨_, Heap.get?_push_size _ rfl, rfl, rfl⟩, hl.push _⟩
  · exact jst 0 _ _ hJ fun b o _ e => Heap.get?_push_of_some _ e
  · rintro i v h tk hi hv hj hst
    obtain ⟨⟨oI, e1, e2⟩, e3⟩ := hst
    refine wpAny_mono (step i v h tk oI (by simpa using hv) hj e1 e3) (fun _ s₂ h₂ => wpAny_mono h₂ (fun f s₃ h₃ => ?_) fun _ _ e => e) fun _ _ e => e
    cases f with
    | ret v => exact h₃
    | brk => exact h₃
    | cont =>
      obtain ⟨h', tk', rfl, hJ', q1, q2⟩ := h₃
      exact ⟨h', tk', rfl, hJ', ⟨oI, q1, e2⟩, q2⟩
    | next =>
      obtain ⟨h', tk', rfl, hJ', q1, q2⟩ := h₃
      exact ⟨h', tk', rfl, hJ', ⟨oI, q1, e2⟩, q2⟩
  · intro h tk hj
    exact done h tk (by simpa using hj)
end
end Mine
end

/-! QList -/
section
open PySem PySem.W PyProof.Rows
namespace Mine
open PySem.Calls
section
variable {prog : Program} {w : World} {A : Around} {E : Value → Shared → Prop} {s : Shared} {h₀ : Heap} {L l b : Addr} {m : Str → Option Value} {news : List (Addr × Obj)} {value slice : PySem.Expr} {vs ws : List Value} {Q : Value → Shared → Prop}
theorem pick_take (n : Nat) : slicePick vs.toArray none (some (n : Int)) none = (vs.take n).toArray := by
  have e : sliceBounds none (some (n : Int)) none vs.toArray.size = (((0 : Nat) : Int), ((min n vs.length : Nat) : Int), 1) := by
    unfold sliceBounds
    simp
    omega
  rw [kmk_pick_nat _ e]
  simp [List.take_eq_take_iff]
theorem pick_drop {g : Int} (h0 : 0 ≤ g) (h1 : g ≤ vs.length) : slicePick vs.toArray (some g) none none = (vs.drop g.toNat).toArray := by
  have e : sliceBounds (some g) none none vs.toArray.size = (((g.toNat : Nat) : Int), ((vs.length : Nat) : Int), 1) := by
    unfold sliceBounds
    have : ¬ g < 0 := by omega
    simp [this]
    omega
  rw [kmk_pick_nat _ e]
  rw [List.take_of_length_le (by simp)]
theorem sl_take {n : Nat} {u : Tok} (F : Fr h₀ L s.heap m) (N : News h₀ L s.heap news) (hl : s.heap.IsList l vs.toArray) (hz : vs.length ≤ 1000)
    (h : ∀ D h', Fr h₀ L h' m → News h₀ L h' ((D, W.listOf (vs.take n).toArray 0) :: news) → (∀ p ∈ news, p.1 < D) → Q (.ref D) { s with heap := h' })
    (hs : subscripted slice false (.ref l) (.ref s.heap.objs.size) = operate [.ref s.heap.objs.size, .ref l] (getItem (.ref l) (.ref s.heap.objs.size))) (ht : ∀ r, letTemporaryGo value (.ref l) r = pure ()) :
    wpAny (model prog w) A (subscriptTail value slice (.ref l) (.ref s.heap.objs.size)) Q E { s with heap := s.heap.push { cls := .type "slice", data := .fields #[.none, .int (n : Int) u, .none] } } :=
  kmk_slice F N hl .none (.int _ _) (fun D h' F' N' l1 => h D h' F' (by rw [pick_take] at N'; exact N') l1) hs ht (by rw [List.size_toArray, sizeLine_eq]; omega)
theorem sl_drop {g : Int} {u : Tok} {ops : List Value} (F : Fr h₀ L s.heap m) (N : News h₀ L s.heap news) (hl : s.heap.IsList l vs.toArray) (h0 : 0 ≤ g) (h1 : g ≤ vs.length) (hz : vs.length ≤ 1000)
    (h : ∀ D h', Fr h₀ L h' m → News h₀ L h' ((D, W.listOf (vs.drop g.toNat).toArray 0) :: news) → (∀ p ∈ news, p.1 < D) → Q (.ref D) { s with heap := h' })
    (hs : subscripted slice false (.ref l) (.ref s.heap.objs.size) = operate ops (getItem (.ref l) (.ref s.heap.objs.size))) (ht : ∀ r, letTemporaryGo value (.ref l) r = pure ()) :
    wpAny (model prog w) A (subscriptTail value slice (.ref l) (.ref s.heap.objs.size)) Q E { s with heap := s.heap.push { cls := .type "slice", data := .fields #[.int g u, .none, .none] } } :=
  kmk_slice3_lit (zs := vs.drop g.toNat) F N hl (.int _ _) .none .none (by decide) (by rw [pick_drop h0 h1]) h hs ht (by rw [List.size_toArray, sizeLine_eq]; omega)
theorem sl_rev {u : Tok} {ops : List Value} (F : Fr h₀ L s.heap m) (N : News h₀ L s.heap news) (hl : s.heap.IsList l vs.toArray) (hz : vs.length ≤ 1000)
    (h : ∀ D h', Fr h₀ L h' m → News h₀ L h' ((D, W.listOf vs.reverse.toArray 0) :: news) → (∀ p ∈ news, p.1 < D) → Q (.ref D) { s with heap := h' })
    (hs : subscripted slice false (.ref l) (.ref s.heap.objs.size) = operate ops (getItem (.ref l) (.ref s.heap.objs.size))) (ht : ∀ r, letTemporaryGo value (.ref l) r = pure ()) :
    wpAny (model prog w) A (subscriptTail value slice (.ref l) (.ref s.heap.objs.size)) Q E { s with heap := s.heap.push { cls := .type "slice", data := .fields #[.none, .none, .int (-1) u] } } :=
  krv_lit (its := vs.toArray) (zs := vs.reverse) F N hl (.int _ _) rfl h hs ht (by rw [List.size_toArray, sizeLine_eq]; omega)
theorem add_ll (F : Fr h₀ L s.heap m) (N : News h₀ L s.heap news) (ha : s.heap.IsList l vs.toArray) (hb : s.heap.IsList b ws.toArray) (hz : vs.length + ws.length ≤ 1000)
    (h : ∀ D h', Fr h₀ L h' m → News h₀ L h' ((D, W.listOf (vs ++ ws).toArray 0) :: news) → (∀ p ∈ news, p.1 < D) → Q (.ref D) { s with heap := h' }) :
    wpAny (model prog w) A (binaryOp .Add (.ref l) (.ref b)) Q E s :=
  kmk_add_lit F N ha hb rfl h (by simp only [sizeLine_eq]; omega)
end
end Mine
end

/-! QConst -/
section
open PySem PySem.W PyProof.Rows
namespace Mine
open PySem.Calls
inductive IntConsts : List Expr → List Int → Prop
  | nil : IntConsts [] []
  | cons {i : Int} {k : Nat} {p : Pos} {r : List Expr} {ns : List Int} : IntConsts r ns → IntConsts (.Constant (.int i) k p :: r) (i :: ns)
section
variable {prog : Program} {w : World} {A : Around} {E : Value → Shared → Prop} {h₀ : Heap} {L : Addr} {m : Str → Option Value} {news : List (Addr × Obj)} {env : Env}
theorem consts_spliced {pos : Pos} {elts : List Expr} {ns : List Int} (hc : IntConsts elts ns) : ∀ (s : Shared) (Q : List Value → Shared → Prop), (∀ vs tk, IntsAre vs ns → Q vs { s with toks := tk }) →
    wpAny (model prog w) A (spliced (backTo pos (starEach elts env))) Q E s := by
  induction hc with
  | nil => intro s Q h; exact wpAny_items_nil (h [] s.toks .nil)
  | cons hr ih =>
    intro s Q h
    refine wpAny_items_cons (wpAny_Constant_int ?_)
    refine ih _ _ fun vs tk hv => ?_
    exact h _ tk (.cons _ _ hv)
theorem list_consts {s : Shared} {pos : Pos} {elts : List Expr} {ns : List Int} {Q : Value → Shared → Prop} (hc : IntConsts elts ns) (F : Fr h₀ L s.heap m) (N : News h₀ L s.heap news) (hz : ns.length ≤ 1000)
    (h : ∀ D vs h' tk, Fr h₀ L h' m → News h₀ L h' ((D, W.listOf vs.toArray 0) :: news) → (∀ p ∈ news, p.1 < D) → IntsAre vs ns → vs.length = ns.length → Q (.ref D) { s with heap := h', toks := tk }) :
    wpAny (model prog w) A (eval (.List elts pos) env) Q E s := by
  refine List_ (consts_spliced hc s _ fun vs tk hv => ?_)
  refine newList_N (s := { s with toks := tk }) F N (fun h' F' N' => h _ vs h' tk F' N' (fun p hp => Heap.lt_size (N p hp).1) hv hv.length) (by rw [hv.length, sizeLine_eq]; omega)
end
end Mine
end

/-! QL1 -/
section
open PySem PySem.W PyProof.Rows
namespace Mine
open PySem.Calls
def leftOf : List Int → List Int
  | [] => []
  | x :: r => if x.fmod 6 = 4 then (x.fdiv 6).fmod 4 :: leftOf r else leftOf r
def rightOf : List Int → List Int
  | [] => []
  | x :: r => if x.fmod 6 = 5 then (x.fdiv 6).fmod 4 :: rightOf r else rightOf r
def deedsOf : List Int → List Int
  | [] => []
  | x :: r => if x.fmod 6 = 4 ∨ x.fmod 6 = 5 then deedsOf r else x.fmod 6 :: deedsOf r
theorem leftOf_append (a b : List Int) : leftOf (a ++ b) = leftOf a ++ leftOf b := by
  induction a with
  | nil => rfl
  | cons x r ih => simp only [List.cons_append, leftOf, ih]; split <;> rfl
theorem rightOf_append (a b : List Int) : rightOf (a ++ b) = rightOf a ++ rightOf b := by
  induction a with
  | nil => rfl
  | cons x r ih => simp only [List.cons_append, rightOf, ih]; split <;> rfl
theorem deedsOf_append (a b : List Int) : deedsOf (a ++ b) = deedsOf a ++ deedsOf b := by
  induction a with
  | nil => rfl
  | cons x r ih => simp only [List.cons_append, deedsOf, ih]; split <;> rfl
theorem leftOf_le (a : List Int) : (leftOf a).length ≤ a.length := by
  induction a with
  | nil => exact Nat.le_refl _
  | cons x r ih => simp only [leftOf]; split <;> simp <;> omega
theorem rightOf_le (a : List Int) : (rightOf a).length ≤ a.length := by
  induction a with
  | nil => exact Nat.le_refl _
  | cons x r ih => simp only [rightOf]; split <;> simp <;> omega
theorem deedsOf_le (a : List Int) : (deedsOf a).length ≤ a.length := by
  induction a with
  | nil => exact Nat.le_refl _
  | cons x r ih => simp only [deedsOf]; split <;> simp <;> omega
theorem fmod4_bd (x : Int) : 0 ≤ x.fmod 4 ∧ x.fmod 4 ≤ 3 := by
  have := Int.fmod_nonneg_of_pos x (b := 4) (by omega)
  have := Int.fmod_lt_of_pos x (b := 4) (by omega)
  omega
theorem leftOf_bd (a : List Int) : ∀ c ∈ leftOf a, 0 ≤ c ∧ c ≤ 3 := by
  induction a with
  | nil => intro c hc; cases hc
  | cons x r ih =>
    intro c hc
    simp only [leftOf] at hc
    split at hc
    · rcases List.mem_cons.mp hc with rfl | hc
      · exact fmod4_bd _
      · exact ih c hc
    · exact ih c hc
theorem rightOf_bd (a : List Int) : ∀ c ∈ rightOf a, 0 ≤ c ∧ c ≤ 3 := by
  induction a with
  | nil => intro c hc; cases hc
  | cons x r ih =>
    intro c hc
    simp only [rightOf] at hc
    split at hc
    · rcases List.mem_cons.mp hc with rfl | hc
      · exact fmod4_bd _
      · exact ih c hc
    · exact ih c hc
theorem left_yes {x : Int} (a : List Int) (h : x.fmod 6 = 4) : leftOf (a ++ [x]) = leftOf a ++ [(x.fdiv 6).fmod 4] := by rw [leftOf_append]; simp [leftOf, h]
theorem left_no {x : Int} (a : List Int) (h : ¬ x.fmod 6 = 4) : leftOf (a ++ [x]) = leftOf a := by rw [leftOf_append]; simp [leftOf, h]
theorem right_yes {x : Int} (a : List Int) (h : x.fmod 6 = 5) : rightOf (a ++ [x]) = rightOf a ++ [(x.fdiv 6).fmod 4] := by rw [rightOf_append]; simp [rightOf, h]
theorem right_no {x : Int} (a : List Int) (h : ¬ x.fmod 6 = 5) : rightOf (a ++ [x]) = rightOf a := by rw [rightOf_append]; simp [rightOf, h]
theorem deeds_yes {x : Int} (a : List Int) (h : ¬ x.fmod 6 = 4) (h' : ¬ x.fmod 6 = 5) : deedsOf (a ++ [x]) = deedsOf a ++ [x.fmod 6] := by rw [deedsOf_append]; simp [deedsOf, h, h']
theorem deeds_no {x : Int} (a : List Int) (h : x.fmod 6 = 4 ∨ x.fmod 6 = 5) : deedsOf (a ++ [x]) = deedsOf a := by rw [deedsOf_append]; simp [deedsOf, h]
theorem IntsAre.at {vs : List Value} {ns : List Int} (h : IntsAre vs ns) {i : Nat} {v : Value} (e : vs[i]? = some v) : ∃ n t, v = .int n t ∧ ns.take (i + 1) = ns.take i ++ [n] := by
  induction h generalizing i with
  | nil => cases e
  | cons n t hr ih =>
    cases i with
    | zero => cases e; exact ⟨n, t, rfl, rfl⟩
    | succ i =>
      obtain ⟨n', t', rfl, e'⟩ := ih (by simpa using e)
      exact ⟨n', t', rfl, by simp [List.take_succ_cons, e']⟩
theorem IntsAre.append {vs us : List Value} {ns ms : List Int} (h : IntsAre vs ns) (h' : IntsAre us ms) : IntsAre (vs ++ us) (ns ++ ms) := by
  induction h with
  | nil => exact h'
  | cons n t hr ih => exact .cons n t ih
theorem IntsAre.take {vs : List Value} {ns : List Int} (h : IntsAre vs ns) (k : Nat) : IntsAre (vs.take k) (ns.take k) := by
  induction h generalizing k with
  | nil => simp; exact .nil
  | cons n t hr ih => cases k with
    | zero => exact .nil
    | succ k => exact .cons n t (ih k)
theorem IntsAre.drop {vs : List Value} {ns : List Int} (h : IntsAre vs ns) (k : Nat) : IntsAre (vs.drop k) (ns.drop k) := by
  induction h generalizing k with
  | nil => simp; exact .nil
  | cons n t hr ih => cases k with
    | zero => exact .cons n t hr
    | succ k => exact ih k
theorem IntsAre.reverse {vs : List Value} {ns : List Int} (h : IntsAre vs ns) : IntsAre vs.reverse ns.reverse := by
  induction h with
  | nil => exact .nil
  | cons n t hr ih => simp only [List.reverse_cons]; exact IntsAre.append ih (.cons n t .nil)
theorem fr_lt {h₀ h : Heap} {L : Addr} {m : Str → Option Value} (F : Fr h₀ L h m) : L < h.objs.size := by
  obtain ⟨o, _, _, e, _⟩ := F.ns
  exact Heap.lt_size e
theorem news_lt {h₀ h : Heap} {L : Addr} {news : List (Addr × Obj)} (N : News h₀ L h news) : ∀ p ∈ news, p.1 < h.objs.size := fun p hp => Heap.lt_size (N p hp).1
theorem stp4 {vl vr vd : List Value} {xs : List Int} {i : Nat} {x : Int} {t : Tok} (ex : xs.take (i + 1) = xs.take i ++ [x]) (e : x.fmod 6 = 4) (il : IntsAre vl (leftOf (xs.take i))) (ir : IntsAre vr (rightOf (xs.take i))) (id : IntsAre vd (deedsOf (xs.take i))) :
    IntsAre (vl ++ [.int ((x.fdiv 6).fmod 4) t]) (leftOf (xs.take (i + 1))) ∧ IntsAre vr (rightOf (xs.take (i + 1))) ∧ IntsAre vd (deedsOf (xs.take (i + 1))) := by
  rw [ex, left_yes _ e, right_no _ (by omega), deeds_no _ (.inl e)]
  exact ⟨IntsAre.append il (.cons _ _ .nil), ir, id⟩
theorem stp5 {vl vr vd : List Value} {xs : List Int} {i : Nat} {x : Int} {t : Tok} (ex : xs.take (i + 1) = xs.take i ++ [x]) (e' : x.fmod 6 ≠ 4) (e : x.fmod 6 = 5) (il : IntsAre vl (leftOf (xs.take i))) (ir : IntsAre vr (rightOf (xs.take i))) (id : IntsAre vd (deedsOf (xs.take i))) :
    IntsAre vl (leftOf (xs.take (i + 1))) ∧ IntsAre (vr ++ [.int ((x.fdiv 6).fmod 4) t]) (rightOf (xs.take (i + 1))) ∧ IntsAre vd (deedsOf (xs.take (i + 1))) := by
  rw [ex, left_no _ e', right_yes _ e, deeds_no _ (.inr e)]
  exact ⟨il, IntsAre.append ir (.cons _ _ .nil), id⟩
theorem stp0 {vl vr vd : List Value} {xs : List Int} {i : Nat} {x : Int} {t : Tok} (ex : xs.take (i + 1) = xs.take i ++ [x]) (e' : x.fmod 6 ≠ 4) (e : x.fmod 6 ≠ 5) (il : IntsAre vl (leftOf (xs.take i))) (ir : IntsAre vr (rightOf (xs.take i))) (id : IntsAre vd (deedsOf (xs.take i))) :
    IntsAre vl (leftOf (xs.take (i + 1))) ∧ IntsAre vr (rightOf (xs.take (i + 1))) ∧ IntsAre (vd ++ [.int (x.fmod 6) t]) (deedsOf (xs.take (i + 1))) := by
  rw [ex, left_no _ e', right_no _ e, deeds_yes _ e' e]
  exact ⟨il, ir, IntsAre.append id (.cons _ _ .nil)⟩
section
variable {prog : Program} {w : World} {A : Around} {E : Value → Shared → Prop} {s : Shared} {h₀ : Heap} {L D : Addr} {m : Str → Option Value} {news news' : List (Addr × Obj)}
theorem append_L {xs : List Value} {n : Nat} {x : Value} {Q : Value → Shared → Prop} (F : Fr h₀ L s.heap m) (N : News h₀ L s.heap news) (U : Upd D (W.listOf xs.toArray n) (W.listOf (xs ++ [x]).toArray (n + 1)) news news')
    (hz : xs.length ≤ 1000) (h : ∀ h', Fr h₀ L h' m → News h₀ L h' news' → Q .none { s with heap := h' }) : wpAny (model prog w) A (call (.builtin "list.append") [.ref D, x]) Q E s :=
  append_K F N (its := xs.toArray) (by rw [List.push_toArray]; exact U) h (by rw [List.size_toArray, sizeLine_eq]; omega)
end
end Mine
end

/-! QFrame -/
section
open PySem PySem.W PyProof.Rows
namespace Mine
open PySem.Calls
theorem room3 {A : Around} {env : Env} (h : A.depth + 4 < recursionLimit) : (A.deeper env).depth + 2 < recursionLimit := by
  show A.depth + 1 + 2 < recursionLimit
  omega
section
variable {prog : Program} {w : World} {A : Around} {E : Value → Shared → Prop} {s : Shared} {p : Program} {loose : List Str} {mean : ExcName → Option Value} {mg mb : Str → Option Value} {h₀ : Heap} {L : Addr} {m : Str → Option Value} {news : List (Addr × Obj)} {Q : Value → Shared → Prop}
theorem mark_F {c : Int} {t₀ : Tok} (X : (Mine.frag w.params).In h₀) (T : Top p loose mean mg mb h₀) (hA : A.handled = none) (hr : A.depth + 2 < recursionLimit) (F : Fr h₀ L s.heap m) (N : News h₀ L s.heap news) (hc : 0 ≤ c ∧ c ≤ 3)
    (h : ∀ t h' tk, Fr h₀ L h' m → News h₀ L h' news → Q (.str (S (mkN c.toNat)) t) { s with heap := h', toks := tk }) : wpAny (model prog w) A (call (.ref 107) [.int c t₀]) Q E s := by
  have : c = 0 ∨ c = 1 ∨ c = 2 ∨ c = 3 := by omega
  rcases this with rfl | rfl | rfl | rfl
  · exact mark_0 (X.keeps F.keep) (T.keeps F.keep) hA (by omega) fun t h' tk k => h t h' tk (F.after k) (news_ext N k)
  · exact mark_1 (X.keeps F.keep) (T.keeps F.keep) hA (by omega) fun t h' tk k => h t h' tk (F.after k) (news_ext N k)
  · exact mark_2 (X.keeps F.keep) (T.keeps F.keep) hA (by omega) fun t h' tk k => h t h' tk (F.after k) (news_ext N k)
  · exact mark_3 (X.keeps F.keep) (T.keeps F.keep) hA (by omega) fun t h' tk k => h t h' tk (F.after k) (news_ext N k)
theorem strip_F {l : List Nat} {t₀ : Tok} (X : (Mine.frag w.params).In h₀) (T : Top p loose mean mg mb h₀) (hr : A.depth + 2 < recursionLimit) (F : Fr h₀ L s.heap m) (N : News h₀ L s.heap news) (hx : l.length ≤ 1000)
    (h : ∀ t h' tk, Fr h₀ L h' m → News h₀ L h' news → Q (.str (S (stripL l)) t) { s with heap := h', toks := tk }) : wpAny (model prog w) A (call (.ref 38) [.str (S l) t₀]) Q E s :=
  strip_ok (X.keeps F.keep) (T.keeps F.keep) (by omega) (by rw [S_len]; exact hx) fun t h' tk k => h t h' tk (F.after k) (news_ext N k)
theorem decode_F {l : List Tk} {x : List Nat} {t₀ : Tok} (X : (Mine.frag w.params).In h₀) (T : Top p loose mean mg mb h₀) (hA : A.handled = none) (hr : A.depth + 2 < recursionLimit) (F : Fr h₀ L s.heap m) (N : News h₀ L s.heap news) (e : ren l = x) (hl : allOk l) (hne : l ≠ []) (hx : x.length ≤ 1000)
    (h : ∀ t h' tk, Fr h₀ L h' m → News h₀ L h' news → Q (.str (S (vals l)) t) { s with heap := h', toks := tk }) : wpAny (model prog w) A (call (.ref 86) [.str (S x) t₀]) Q E s := by
  subst e
  exact decode_ok (X.keeps F.keep) (T.keeps F.keep) hA (by omega) hl hne (by rw [S_len]; exact hx) fun t h' tk k => h t h' tk (F.after k) (news_ext N k)
theorem header_F {l : List Tk} {x : List Nat} {t₀ : Tok} (X : (Mine.frag w.params).In h₀) (T : Top p loose mean mg mb h₀) (hr : A.depth + 2 < recursionLimit) (F : Fr h₀ L s.heap m) (N : News h₀ L s.heap news) (e : ren l = x) (hl : allOk l) (hx : x.length ≤ 1000)
    (h : ∀ t h' tk, Fr h₀ L h' m → News h₀ L h' news → Q (.str (S (vals l)) t) { s with heap := h', toks := tk }) : wpAny (model prog w) A (call (.ref 100) [.str (S x) t₀]) Q E s := by
  subst e
  exact header_ok (X.keeps F.keep) (T.keeps F.keep) hr hl (by rw [S_len]; exact hx) fun t h' tk k => h t h' tk (F.after k) (news_ext N k)
theorem gone_F {a b : Addr} {vs us : List Value} {coats bells : List Int} (X : (Mine.frag w.params).In h₀) (T : Top p loose mean mg mb h₀) (hA : A.handled = none) (hr : A.depth + 2 < recursionLimit) (F : Fr h₀ L s.heap m) (N : News h₀ L s.heap news)
    (ha : s.heap.IsList a vs.toArray) (hb : s.heap.IsList b us.toArray) (ia : IntsAre vs coats) (ib : IntsAre us bells) (la : coats.length ≤ 1000) (lb : bells.length ≤ 1000)
    (h : ∀ t h' tk, Fr h₀ L h' m → News h₀ L h' news → Q (.int (goneF coats bells) t) { s with heap := h', toks := tk }) : wpAny (model prog w) A (call (.ref 117) [.ref a, .ref b]) Q E s :=
  gone_ok (X.keeps F.keep) (T.keeps F.keep) hA (by omega) ha hb ia ib la lb fun t h' tk k => h t h' tk (F.after k) (news_ext N k)
theorem told_F {a : Addr} {vs : List Value} {coats : List Int} {clock : Int} {t₀ : Tok} (X : (Mine.frag w.params).In h₀) (T : Top p loose mean mg mb h₀) (hA : A.handled = none) (hr : A.depth + 2 < recursionLimit) (F : Fr h₀ L s.heap m) (N : News h₀ L s.heap news)
    (ha : s.heap.IsList a vs.toArray) (ia : IntsAre vs coats) (la : coats.length ≤ 1000) (lb : ∀ c ∈ coats, 0 ≤ c ∧ c ≤ 3) (hc : 0 ≤ clock ∧ clock ≤ 1000)
    (h : ∀ D ys h' tk, Fr h₀ L h' m → News h₀ L h' ((D, LCg.lst ys) :: news) → StrsAre ys (coats.map (toldS clock)) → Q (.ref D) { s with heap := h', toks := tk }) : wpAny (model prog w) A (call (.ref 112) [.ref a, .int clock t₀]) Q E s :=
  told_ok (X.keeps F.keep) (T.keeps F.keep) hA (by omega) ha ia la lb hc fun D ys h' tk k hn hD hs => h D ys h' tk (F.after k) (fun q hq => by
    rcases List.mem_cons.mp hq with rfl | hq
    · refine ⟨hD, ?_, ?_⟩
      · intro e
        obtain ⟨o, _, _, e', _⟩ := F.ns
        rw [← e, hn] at e'
        cases e'
      · cases q : h₀.get? D with
        | none => rfl
        | some o => have := F.keep _ _ q; rw [hn] at this; cases this
    · exact news_ext N k q hq) hs
end
end Mine
end

/-! QPlain -/
section
open PySem PySem.W PyProof.Rows
namespace Mine

/-! how many are gone -/
theorem bo_nonneg (bells : List Int) (c : Int) : 0 ≤ bellsOver bells c := by unfold bellsOver; omega
theorem goneUp_len (L b : List Int) : ∀ k, goneUp L b k ≤ L.length
  | 0 => Int.le_refl _
  | k + 1 => by have := goneUp_len L b k; simp only [goneUp]; omega
theorem goneUp_le (L b : List Int) : ∀ k j, j < k → goneUp L b k ≤ j + bellsOver b (L.getD j 0)
  | 0, _, h => by omega
  | k + 1, j, h => by
    simp only [goneUp]
    by_cases e : j = k
    · subst e; omega
    · have := goneUp_le L b k j (by omega); omega
theorem goneUp_att (L b : List Int) : ∀ k, goneUp L b k = L.length ∨ ∃ j : Nat, j < k ∧ goneUp L b k = j + bellsOver b (L.getD j 0)
  | 0 => .inl rfl
  | k + 1 => by
    simp only [goneUp]
    by_cases e : goneUp L b k ≤ k + bellsOver b (L.getD k 0)
    · rw [Int.min_eq_left e]
      rcases goneUp_att L b k with h | ⟨j, hj, h⟩
      · exact .inl h
      · exact .inr ⟨j, by omega, h⟩
    · rw [Int.min_eq_right (by omega)]
      exact .inr ⟨k, by omega, rfl⟩
theorem goneF_nonneg (L b : List Int) : 0 ≤ goneF L b := by
  unfold goneF
  rcases goneUp_att L b L.length with h | ⟨j, _, h⟩
  · omega
  · have := bo_nonneg b (L.getD j 0); omega
theorem goneF_len (L b : List Int) : goneF L b ≤ L.length := goneUp_len L b _
theorem goneF_nil (L : List Int) : goneF L [] = 0 := by
  have h0 := goneF_nonneg L []
  cases L with
  | nil => rfl
  | cons x r =>
    have := goneUp_le (x :: r) [] (x :: r).length 0 (by simp)
    have e : bellsOver [] ((x :: r).getD 0 0) = 0 := rfl
    rw [e] at this
    unfold goneF at h0 ⊢
    omega
theorem bo_add (b : List Int) (c k : Int) : bellsOver (b ++ [c]) k = bellsOver b k + if k ≤ c then 1 else 0 := by
  unfold bellsOver
  rw [List.filter_append, List.length_append]
  by_cases h : k ≤ c <;> simp [h]
theorem bo_zero {b : List Int} {c k : Int} (hb : ∀ x ∈ b, x ≤ c) (h : c < k) : bellsOver b k = 0 := by
  unfold bellsOver
  rw [List.filter_eq_nil_iff.mpr]
  · rfl
  · intro x hx
    have := hb x hx
    simp; omega
/-- one more bell, not below any other: one more is gone if the next lies bare -/
theorem goneF_bell {L b : List Int} {c : Int} (hb : ∀ x ∈ b, x ≤ c) :
    goneF L (b ++ [c]) = if goneF L b < L.length ∧ L.getD (goneF L b).toNat 0 ≤ c then goneF L b + 1 else goneF L b := by
  have h0 := goneF_nonneg L b
  have h1 := goneF_len L b
  have h2 := fun j hj => goneUp_le L b L.length j hj
  have h3 := goneUp_att L b L.length
  have h1' := goneF_len L (b ++ [c])
  have h2' := fun j hj => goneUp_le L (b ++ [c]) L.length j hj
  have h3' := goneUp_att L (b ++ [c]) L.length
  change ∀ j, j < L.length → goneF L b ≤ _ at h2
  change goneF L b = _ ∨ ∃ j : Nat, j < L.length ∧ goneF L b = _ at h3
  change ∀ j, j < L.length → goneF L (b ++ [c]) ≤ _ at h2'
  change goneF L (b ++ [c]) = _ ∨ ∃ j : Nat, j < L.length ∧ goneF L (b ++ [c]) = _ at h3'
  generalize goneF L b = g at *
  generalize goneF L (b ++ [c]) = g' at *
  have hge : g ≤ g' := by
    rcases h3' with e | ⟨j, hj, e⟩
    · omega
    · have := h2 j hj
      rw [bo_add] at e
      split at e <;> omega
  by_cases hl : g < L.length
  · by_cases hc : L.getD g.toNat 0 ≤ c
    · rw [if_pos ⟨hl, hc⟩]
      have hup : g' ≤ g + 1 := by
        rcases h3 with e | ⟨j, hj, e⟩
        · omega
        · have := h2' j hj
          rw [bo_add] at this
          split at this <;> omega
      have hlo : g + 1 ≤ g' := by
        rcases h3' with e | ⟨j, hj, e⟩
        · omega
        · have hj' := h2 j hj
          rw [bo_add] at e
          by_cases hk : L.getD j 0 ≤ c
          · rw [if_pos hk] at e; omega
          · rw [if_neg hk] at e
            have hz := bo_zero (k := L.getD j 0) hb (by omega)
            rw [hz] at e hj'
            by_cases hjg : (j : Int) = g
            · have : g.toNat = j := by omega
              rw [this] at hc; exact absurd hc hk
            · omega
      omega
    · rw [if_neg (fun h => hc h.2)]
      have := h2' g.toNat (by omega)
      rw [bo_add, if_neg hc, bo_zero hb (by omega)] at this
      omega
  · rw [if_neg (fun h => hl h.1)]
    omega

/-! the text -/
def mkc (c k : Int) : List Nat := mkN (k - c).toNat
def txtOf (l r : List Int) (i c : Int) : List Nat := (l.map (mkc c)).flatten ++ (97 :: (mkc c i ++ [68, 50])) ++ ((r.map (mkc c)).reverse.flatten)
def dropIf (c : Int) : List Int → List Int
  | [] => []
  | h :: t => if h ≤ c then t else h :: t
theorem drop_bell {L b : List Int} {c : Int} (hb : ∀ x ∈ b, x ≤ c) : L.drop (goneF L (b ++ [c])).toNat = dropIf c (L.drop (goneF L b).toNat) := by
  have h0 := goneF_nonneg L b
  rw [goneF_bell hb]
  generalize goneF L b = g at *
  by_cases hl : g < L.length
  · rw [List.drop_eq_getElem_cons (i := g.toNat) (by omega)]
    have e : L.getD g.toNat 0 = L[g.toNat]'(by omega) := by simp [List.getD, List.getElem?_eq_getElem (show g.toNat < L.length by omega)]
    rw [e]
    by_cases hc : L[g.toNat]'(by omega) ≤ c
    · rw [if_pos ⟨hl, hc⟩]
      simp only [dropIf, hc, if_true]
      congr 1; omega
    · rw [if_neg (fun h => hc h.2)]
      simp only [dropIf, hc, if_false]
      exact List.drop_eq_getElem_cons (by omega)
  · rw [if_neg (fun h => hl h.1), List.drop_of_length_le (by omega)]
    rfl
theorem mkc_bare {c k : Int} (h : k ≤ c) : mkc c k = [34] := by
  unfold mkc; rw [show (k - c).toNat = 0 by omega]; rfl
theorem mkc_coat {c k : Int} (h : ¬ k ≤ c) : ∃ x, mkc c k = 61 :: (x ++ [50]) := by
  unfold mkc
  obtain ⟨n, e⟩ : ∃ n, (k - c).toNat = n + 1 := ⟨(k - c).toNat - 1, by omega⟩
  rw [e]
  exact ⟨rep3D n ++ [50], by simp [mkN]⟩
theorem strip_head (c : Int) (l : List Int) (z : List Nat) :
    (if ((l.map (mkc c)).flatten ++ 97 :: z).head? = some 34 then ((l.map (mkc c)).flatten ++ 97 :: z).tail else (l.map (mkc c)).flatten ++ 97 :: z) = ((dropIf c l).map (mkc c)).flatten ++ 97 :: z := by
  cases l with
  | nil => simp [dropIf]
  | cons h t =>
    by_cases hc : h ≤ c
    · simp [dropIf, hc, mkc_bare hc]
    · obtain ⟨x, e⟩ := mkc_coat hc
      simp [dropIf, hc, e]
theorem strip_last (c : Int) (r : List Int) (z : List Nat) :
    (if ((z ++ [50]) ++ (r.map (mkc c)).reverse.flatten).getLast? = some 34 then ((z ++ [50]) ++ (r.map (mkc c)).reverse.flatten).dropLast else (z ++ [50]) ++ (r.map (mkc c)).reverse.flatten) = (z ++ [50]) ++ ((dropIf c r).map (mkc c)).reverse.flatten := by
  cases r with
  | nil => simp [dropIf]
  | cons h t =>
    by_cases hc : h ≤ c
    · have e : (z ++ [50]) ++ ((h :: t).map (mkc c)).reverse.flatten = ((z ++ [50]) ++ (t.map (mkc c)).reverse.flatten) ++ [34] := by simp [mkc_bare hc]
      rw [e, List.dropLast_concat, List.getLast?_concat, if_pos rfl]
      simp [dropIf, hc]
    · obtain ⟨x, ex⟩ := mkc_coat hc
      have e : (z ++ [50]) ++ ((h :: t).map (mkc c)).reverse.flatten = ((z ++ [50]) ++ (t.map (mkc c)).reverse.flatten ++ 61 :: x) ++ [50] := by simp [ex]
      rw [show dropIf c (h :: t) = h :: t by simp [dropIf, hc], e, List.getLast?_concat, if_neg (by decide)]
theorem strip_txt (l r : List Int) (i c : Int) : stripL (txtOf l r i c) = txtOf (dropIf c l) (dropIf c r) i c := by
  have e1 : ∀ l, txtOf l r i c = (l.map (mkc c)).flatten ++ 97 :: ((mkc c i ++ [68, 50]) ++ (r.map (mkc c)).reverse.flatten) := fun l => by simp [txtOf]
  have e2 : ∀ r, txtOf (dropIf c l) r i c = (((dropIf c l).map (mkc c)).flatten ++ 97 :: (mkc c i ++ [68]) ++ [50]) ++ (r.map (mkc c)).reverse.flatten := fun r => by simp [txtOf]
  unfold stripL
  dsimp only
  rw [e1 l, strip_head, ← e1 (dropIf c l), e2 r, strip_last, ← e2]

/-! a reading -/
def mkT : Nat → List Tk
  | 0 => [.ch 34]
  | 1 => [.e22]
  | n + 2 => .e3D :: ((rep3D n).map .ch ++ [.ch 50, .ch 50])
theorem ren_ch (l : List Nat) : ren (l.map .ch) = l := by
  induction l with
  | nil => rfl
  | cons c r ih => rw [List.map_cons, ren_cons, ih]; rfl
theorem vals_ch (l : List Nat) : vals (l.map .ch) = l := by
  induction l with
  | nil => rfl
  | cons c r ih => simp only [vals, List.map_cons, Tk.val] at ih ⊢; rw [ih]
theorem ren_mkT : ∀ n, ren (mkT n) = mkN n
  | 0 => rfl
  | 1 => rfl
  | n + 2 => by
    simp only [mkT, ren_cons, ren_append, ren_ch]
    rfl
theorem vals_mkT : ∀ n, vals (mkT n) = mkN (n - 1)
  | 0 => rfl
  | 1 => rfl
  | n + 2 => by
    show Tk.val .e3D :: vals ((rep3D n).map .ch ++ [.ch 50, .ch 50]) = mkN (n + 1)
    rw [vals_append, vals_ch]
    rfl
theorem rep_ok : ∀ n, ∀ c ∈ rep3D n, okc c
  | 0, _, h => by cases h
  | n + 1, c, h => by
    simp only [rep3D, List.mem_cons] at h
    rcases h with rfl | rfl | h
    · simp [okc]
    · simp [okc]
    · exact rep_ok n c h
theorem mkT_ok : ∀ n, allOk (mkT n)
  | 0 => by intro t ht; simp only [mkT, List.mem_singleton] at ht; subst ht; simp [Tk.ok, okc]
  | 1 => by intro t ht; simp only [mkT, List.mem_singleton] at ht; subst ht; trivial
  | n + 2 => by
    intro t ht
    simp only [mkT, List.mem_cons, List.mem_append, List.mem_map, List.not_mem_nil, or_false] at ht
    rcases ht with rfl | ⟨c, hc, rfl⟩ | rfl | rfl
    · trivial
    · exact rep_ok n c hc
    · simp [Tk.ok, okc]
    · simp [Tk.ok, okc]
def tkc (c k : Int) : List Tk := mkT (k - c).toNat
theorem ren_tkc (c k : Int) : ren (tkc c k) = mkc c k := ren_mkT _
theorem vals_tkc (c k : Int) : vals (tkc c k) = mkc (c + 1) k := by
  unfold tkc mkc; rw [vals_mkT, show (k - (c + 1)).toNat = (k - c).toNat - 1 by omega]
theorem ren_flat (ts : List (List Tk)) : ren ts.flatten = (ts.map ren).flatten := by
  induction ts with
  | nil => rfl
  | cons t r ih => rw [List.flatten_cons, ren_append, ih]; rfl
theorem vals_flat (ts : List (List Tk)) : vals ts.flatten = (ts.map vals).flatten := by
  induction ts with
  | nil => rfl
  | cons t r ih => rw [List.flatten_cons, vals_append, ih]; rfl
def tokOf (l r : List Int) (i c : Int) : List Tk := (l.map (tkc c)).flatten ++ (.ch 97 :: (tkc c i ++ [.ch 68, .ch 50])) ++ (r.map (tkc c)).reverse.flatten
theorem ren_tok (l r : List Int) (i c : Int) : ren (tokOf l r i c) = txtOf l r i c := by
  have e : ren [Tk.ch 68, .ch 50] = [68, 50] := rfl
  have e' : (ren ∘ tkc c) = mkc c := funext fun k => ren_tkc c k
  simp only [tokOf, txtOf, ren_append, ren_cons, ren_flat, List.map_reverse, List.map_map, e, e', ren_tkc]
  rfl
theorem vals_cons (t : Tk) (l : List Tk) : vals (t :: l) = t.val :: vals l := rfl
theorem vals_tok (l r : List Int) (i c : Int) : vals (tokOf l r i c) = txtOf l r i (c + 1) := by
  have e : vals [Tk.ch 68, .ch 50] = [68, 50] := rfl
  have e' : (vals ∘ tkc c) = mkc (c + 1) := funext fun k => vals_tkc c k
  simp only [tokOf, txtOf, vals_append, vals_cons, vals_flat, List.map_reverse, List.map_map, e, e', vals_tkc]
  rfl
theorem tok_ok (l r : List Int) (i c : Int) : allOk (tokOf l r i c) := by
  intro t ht
  simp only [tokOf, List.mem_append, List.mem_cons, List.mem_flatten, List.mem_map, List.mem_reverse, List.not_mem_nil, or_false] at ht
  rcases ht with (⟨_, ⟨k, _, rfl⟩, h⟩ | rfl | h | rfl | rfl) | ⟨_, ⟨k, _, rfl⟩, h⟩
  · exact mkT_ok _ t h
  · simp [Tk.ok, okc]
  · exact mkT_ok _ t h
  · simp [Tk.ok, okc]
  · simp [Tk.ok, okc]
  · exact mkT_ok _ t h
theorem tok_ne (l r : List Int) (i c : Int) : tokOf l r i c ≠ [] := by simp [tokOf]
theorem rep_len : ∀ n, (rep3D n).length = 2 * n
  | 0 => rfl
  | n + 1 => by simp only [rep3D, List.length_cons, rep_len n]; omega
theorem mkc_len {c k : Int} (hc : 0 ≤ c) (hk : k ≤ 3) : (mkc c k).length ≤ 7 := by
  unfold mkc
  have : (k - c).toNat ≤ 3 := by omega
  generalize (k - c).toNat = n at *
  cases n with
  | zero => decide
  | succ n => simp only [mkN, List.length_cons, List.length_append, rep_len, List.length_nil]; omega
theorem flat_len {c : Int} (hc : 0 ≤ c) : ∀ l : List Int, (∀ k ∈ l, 0 ≤ k ∧ k ≤ 3) → ((l.map (mkc c)).flatten).length ≤ 7 * l.length
  | [], _ => by simp
  | k :: r, h => by
    have h1 := mkc_len hc (h k (List.mem_cons_self)).2
    have h2 := flat_len hc r fun k' hk' => h k' (List.mem_cons_of_mem _ hk')
    simp only [List.map_cons, List.flatten_cons, List.length_append, List.length_cons]
    omega
theorem flat_rev_len (ss : List (List Nat)) : ss.reverse.flatten.length = ss.flatten.length := by
  induction ss with
  | nil => rfl
  | cons a r ih => simp only [List.reverse_cons, List.flatten_append, List.length_append, List.flatten_cons, List.flatten_nil, List.length_nil, ih]; omega
theorem txt_len {l r : List Int} {i c : Int} (hc : 0 ≤ c) (hl : ∀ k ∈ l, 0 ≤ k ∧ k ≤ 3) (hr : ∀ k ∈ r, 0 ≤ k ∧ k ≤ 3) (hi : i ≤ 3) (ll : l.length ≤ 19) (lr : r.length ≤ 19) : (txtOf l r i c).length ≤ 1000 := by
  have h1 := flat_len hc l hl
  have h2 := flat_len hc r hr
  have h3 := mkc_len hc hi
  simp only [txtOf, List.length_append, List.length_cons, List.length_nil, flat_rev_len]
  omega
end Mine
end

/-! QJoin -/
section
open PySem PySem.W PyProof.Rows
namespace Mine
open PySem.Calls
theorem strs_rev {vs : List Value} {ss : List Str} (h : StrsAre vs ss) : StrsAre vs.reverse ss.reverse := by
  induction h with
  | nil => exact .nil
  | cons y t hr ih => rw [List.reverse_cons, List.reverse_cons]; exact StrsAre.append' ih (.cons y t .nil)
theorem strs_one {v : Value} {x : Str} {t : Tok} (h : v = .str x t) : StrsAre [v] [x] := h ▸ .cons x t .nil
/-- the pieces of the text, left to right -/
def partsOf (l r : List Int) (i c : Int) : List (List Nat) := (l.map (mkc c)) ++ [97] :: mkc c i :: [68, 50] :: (r.map (mkc c)).reverse
theorem parts_flat (l r : List Int) (i c : Int) : (partsOf l r i c).flatten = txtOf l r i c := by
  simp [partsOf, txtOf]
theorem parts_len (l r : List Int) (i c : Int) : (partsOf l r i c).length = l.length + r.length + 3 := by
  simp only [partsOf, List.length_append, List.length_cons, List.length_reverse, List.length_map]; omega
theorem told_mkc (c : Int) : ∀ l : List Int, l.map (toldS c) = (l.map (mkc c)).map S := fun l => by rw [List.map_map]; rfl
theorem q97 : Str.ofString "a" = S [97] := by decide +kernel
theorem qD2 : Str.ofString "D2" = S [68, 50] := by decide +kernel
theorem q0 : Str.ofString "" = S [] := by decide +kernel
/-- ahead + ['a'] + _law_told([inner], clock) + ['D2'] + behind[::-1] -/
theorem parts_told {ya yb yi : List Value} {l r : List Int} {i c : Int} {t u : Tok} (ha : StrsAre ya (l.map (toldS c))) (hb : StrsAre yb (r.map (toldS c))) (hi : StrsAre yi ([i].map (toldS c))) :
    StrsAre (((ya ++ [.str (Str.ofString "a") t]) ++ yi ++ [.str (Str.ofString "D2") u]) ++ yb.reverse) ((partsOf l r i c).map S) := by
  have h1 := StrsAre.append' (StrsAre.append' (StrsAre.append' (StrsAre.append' ha (strs_one (x := Str.ofString "a") (t := t) rfl)) hi) (strs_one (x := Str.ofString "D2") (t := u) rfl)) (strs_rev hb)
  have e : (partsOf l r i c).map S = l.map (toldS c) ++ [Str.ofString "a"] ++ [i].map (toldS c) ++ [Str.ofString "D2"] ++ (r.map (toldS c)).reverse := by
    rw [q97, qD2, told_mkc, told_mkc, told_mkc]
    simp [partsOf, List.map_reverse]
  rw [e]; exact h1
/-- marks + ['a', _law_mark(inner), 'D2'] + [_law_mark(some) for some in right[::-1]] -/
theorem parts_marks {ya yb : List Value} {l r : List Int} {i : Int} {t u v : Tok} (ha : StrsAre ya (l.map fun k => S (mkN k.toNat))) (hb : StrsAre yb (r.reverse.map fun k => S (mkN k.toNat))) :
    StrsAre ((ya ++ [.str (Str.ofString "a") t, .str (S (mkN i.toNat)) v, .str (Str.ofString "D2") u]) ++ yb) ((partsOf l r i 0).map S) := by
  have h1 := StrsAre.append' (StrsAre.append' ha (.cons (Str.ofString "a") t (.cons (S (mkN i.toNat)) v (.cons (Str.ofString "D2") u .nil)))) hb
  have e0 : ∀ k : Int, mkc 0 k = mkN k.toNat := fun k => by unfold mkc; rw [Int.sub_zero]
  have e1 : ∀ l : List Int, (l.map fun k => S (mkN k.toNat)) = (l.map (mkc 0)).map S := fun l => by
    rw [List.map_map]; exact List.map_congr_left fun k _ => by rw [Function.comp, e0]
  have e : (partsOf l r i 0).map S = (l.map fun k => S (mkN k.toNat)) ++ [Str.ofString "a", S (mkN i.toNat), Str.ofString "D2"] ++ (r.reverse.map fun k => S (mkN k.toNat)) := by
    rw [q97, qD2, e1, e1, ← e0 i]
    simp [partsOf, List.map_reverse]
  rw [e]; exact h1
section
variable {prog : Program} {w : World} {A : Around} {E : Value → Shared → Prop} {s : Shared}
theorem join_parts {D : Addr} {its : List Value} {l r : List Int} {i c : Int} {t : Tok} {Q : Value → Shared → Prop} (hl : s.heap.IsList D its.toArray) (hi : StrsAre its ((partsOf l r i c).map S))
    (hx : (txtOf l r i c).length ≤ 1000) (h : ∀ t' k, Q (.str (S (txtOf l r i c)) t') { s with toks := k }) :
    wpAny (model prog w) A (call (.builtin "str.join") [.str (Str.ofString "") t, .ref D]) Q E s := by
  rw [q0]
  refine join_list (ys := (partsOf l r i c).map S) hl hi ?_ fun t' k => ?_
  · rw [sum_len, parts_flat, S_len]; simp only [List.length_nil, Nat.mul_zero]; omega
  · rw [txt_join_S, parts_flat]; exact h t' k
theorem ne_same {x y : Str} {t u : Tok} {Q : Value → Shared → Prop} (e : x = y) (h : Q (.bool false) s) : wpAny (model prog w) A (compareOp .NotEq (.str x t) (.str y u)) Q E s := by
  subst e
  refine ne_str ?_
  rw [bne_self_eq_false]; exact h
end
end Mine
end

/-! QStt -/
section
open PySem PySem.W PyProof.Rows
namespace Mine
/-- the state between the deeds: the text x, the readings c, the bells bs -/
def Stt (L R : List Int) (i : Int) (n : Nat) (x : List Nat) (c : Int) (bs : List Int) : Prop :=
  x = txtOf (L.drop (goneF L bs).toNat) (R.drop (goneF R bs).toNat) i c ∧ (∀ b ∈ bs, b ≤ c) ∧ 0 ≤ c ∧ c ≤ n ∧ bs.length ≤ n
theorem stt_start (L R : List Int) (i : Int) : Stt L R i 0 (txtOf L R i 0) 0 [] := by
  refine ⟨?_, fun b hb => (nomatch hb), Int.le_refl _, Int.le_refl _, Nat.le_refl _⟩
  rw [goneF_nil, goneF_nil]; rfl
theorem stt_read {L R : List Int} {i c : Int} {n : Nat} {x : List Nat} {bs : List Int} (h : Stt L R i n x c bs) :
    ∃ l, ren l = x ∧ allOk l ∧ l ≠ [] ∧ Stt L R i (n + 1) (vals l) (c + 1) bs := by
  obtain ⟨rfl, hb, h0, h1, h2⟩ := h
  refine ⟨_, ren_tok _ _ _ _, tok_ok _ _ _ _, tok_ne _ _ _ _, vals_tok _ _ _ _, fun b hm => ?_, by omega, by omega, by omega⟩
  have := hb b hm; omega
theorem stt_strip {L R : List Int} {i c : Int} {n : Nat} {x : List Nat} {bs : List Int} (h : Stt L R i n x c bs) : Stt L R i (n + 1) (stripL x) c (bs ++ [c]) := by
  obtain ⟨rfl, hb, h0, h1, h2⟩ := h
  refine ⟨?_, fun b hm => ?_, h0, by omega, by simp; omega⟩
  · rw [strip_txt, drop_bell hb, drop_bell hb]
  · rcases List.mem_append.mp hm with hm | hm
    · exact hb b hm
    · rw [List.mem_singleton.mp hm]; exact Int.le_refl _
theorem drop_bd {L : List Int} (h : ∀ k ∈ L, 0 ≤ k ∧ k ≤ 3) (n : Nat) : ∀ k ∈ L.drop n, 0 ≤ k ∧ k ≤ 3 := fun k hk => h k (List.mem_of_mem_drop hk)
theorem drop_le {L : List Int} {b : Nat} (h : L.length ≤ b) (n : Nat) : (L.drop n).length ≤ b := by rw [List.length_drop]; omega
theorem stt_len {L R : List Int} {i c : Int} {n : Nat} {x : List Nat} {bs : List Int} (h : Stt L R i n x c bs) (hl : ∀ k ∈ L, 0 ≤ k ∧ k ≤ 3) (hr : ∀ k ∈ R, 0 ≤ k ∧ k ≤ 3) (hi : i ≤ 3) (ll : L.length ≤ 19) (lr : R.length ≤ 19) : x.length ≤ 1000 := by
  obtain ⟨rfl, _, h0, _, _⟩ := h
  exact txt_len h0 (drop_bd hl _) (drop_bd hr _) hi (drop_le ll _) (drop_le lr _)
theorem gone_bd (L bs : List Int) : 0 ≤ goneF L bs ∧ goneF L bs ≤ L.length := ⟨goneF_nonneg L bs, goneF_len L bs⟩
end Mine
end

/-! QMap -/
section
open PySem PySem.W PyProof.Rows
namespace Mine
open PySem.Calls
abbrev lmap (ox : Option Value) (ld lr ll a : Addr) : Str → Option Value := fun y => if y = Str.ofString "x" then ox else if y = Str.ofString "deeds" then some (.ref ld) else if y = Str.ofString "right" then some (.ref lr) else if y = Str.ofString "left" then some (.ref ll) else if y = Str.ofString "script" then some (.ref a) else none
abbrev lmapM (lb lm : Addr) (inner : Int) (ti : Tok) (ox : Option Value) (ld lr ll a : Addr) : Str → Option Value := fun y => if y = Str.ofString "bells" then some (.ref lb) else if y = Str.ofString "marks" then some (.ref lm) else if y = Str.ofString "inner" then some (.int inner ti) else lmap ox ld lr ll a y
abbrev lmap2 (ob oa od : Option Value) (vt vc : Value) (M : Str → Option Value) : Str → Option Value := fun y => if y = Str.ofString "behind" then ob else if y = Str.ofString "ahead" then oa else if y = Str.ofString "clock" then some vc else if y = Str.ofString "text" then some vt else if y = Str.ofString "deed" then od else M y
theorem lmap2_start {vt vc : Value} {lb lm : Addr} {inner : Int} {ti : Tok} {ox : Option Value} {ld lr ll a : Addr} : ∀ y, (if y = Str.ofString "clock" then some vc else if y = Str.ofString "bells" then some (.ref lb) else if y = Str.ofString "text" then some vt else if y = Str.ofString "marks" then some (.ref lm) else if y = Str.ofString "inner" then some (.int inner ti) else lmap ox ld lr ll a y) = lmap2 none none none vt vc (lmapM lb lm inner ti ox ld lr ll a) y := by
  intro y
  by_cases h1 : y = Str.ofString "behind"
  · subst h1; rfl
  by_cases h2 : y = Str.ofString "ahead"
  · subst h2; rfl
  by_cases h3 : y = Str.ofString "clock"
  · subst h3; rfl
  by_cases h4 : y = Str.ofString "text"
  · subst h4; rfl
  by_cases h5 : y = Str.ofString "deed"
  · subst h5; rfl
  simp only [lmap2, lmapM, h1, h2, h3, h4, h5, if_false]
theorem lmap2_read {ob oa od : Option Value} {vt vc vt' vc' vd : Value} {M : Str → Option Value} : ∀ y, (if y = Str.ofString "clock" then some vc' else if y = Str.ofString "text" then some vt' else if y = Str.ofString "deed" then some vd else lmap2 ob oa od vt vc M y) = lmap2 ob oa (some vd) vt' vc' M y := by
  intro y
  by_cases h1 : y = Str.ofString "behind"
  · subst h1; rfl
  by_cases h2 : y = Str.ofString "ahead"
  · subst h2; rfl
  by_cases h3 : y = Str.ofString "clock"
  · subst h3; rfl
  by_cases h4 : y = Str.ofString "text"
  · subst h4; rfl
  by_cases h5 : y = Str.ofString "deed"
  · subst h5; rfl
  simp only [lmap2, lmapM, h1, h2, h3, h4, h5, if_false]
theorem lmap2_strip {ob oa od : Option Value} {vt vc vt' vd : Value} {M : Str → Option Value} : ∀ y, (if y = Str.ofString "text" then some vt' else if y = Str.ofString "deed" then some vd else lmap2 ob oa od vt vc M y) = lmap2 ob oa (some vd) vt' vc M y := by
  intro y
  by_cases h1 : y = Str.ofString "behind"
  · subst h1; rfl
  by_cases h2 : y = Str.ofString "ahead"
  · subst h2; rfl
  by_cases h3 : y = Str.ofString "clock"
  · subst h3; rfl
  by_cases h4 : y = Str.ofString "text"
  · subst h4; rfl
  by_cases h5 : y = Str.ofString "deed"
  · subst h5; rfl
  simp only [lmap2, lmapM, h1, h2, h3, h4, h5, if_false]
theorem lmap2_end {ob oa od : Option Value} {vt vc va vb : Value} {M : Str → Option Value} : ∀ y, (if y = Str.ofString "behind" then some vb else if y = Str.ofString "ahead" then some va else lmap2 ob oa od vt vc M y) = lmap2 (some vb) (some va) od vt vc M y := by
  intro y
  by_cases h1 : y = Str.ofString "behind"
  · subst h1; rfl
  by_cases h2 : y = Str.ofString "ahead"
  · subst h2; rfl
  simp only [lmap2, h1, h2, if_false]
theorem news4 {h₀ h : Heap} {L : Addr} {news : List (Addr × Obj)} {p1 p2 p3 p4 : Addr × Obj} (N : News h₀ L h news) (h1 : p1 ∈ news) (h2 : p2 ∈ news) (h3 : p3 ∈ news) (h4 : p4 ∈ news) : News h₀ L h [p1, p2, p3, p4] := fun p hp => by
  simp only [List.mem_cons, List.not_mem_nil, or_false] at hp
  rcases hp with rfl | rfl | rfl | rfl
  · exact N _ h1
  · exact N _ h2
  · exact N _ h3
  · exact N _ h4
theorem news4_lt {n : Nat} {d1 d2 d3 d4 : Addr} {o1 o2 o3 o4 : Obj} (h : ∀ p ∈ [(d1, o1), (d2, o2), (d3, o3), (d4, o4)], p.1 < n) : d1 < n ∧ d2 < n ∧ d3 < n ∧ d4 < n :=
  ⟨h (d1, o1) (.head _), h (d2, o2) (.tail _ (.head _)), h (d3, o3) (.tail _ (.tail _ (.head _))), h (d4, o4) (.tail _ (.tail _ (.tail _ (.head _))))⟩
theorem news4_but {h₀ h h' : Heap} {L I : Addr} {d1 d2 d3 d4 : Addr} {o1 o2 o3 o4 : Obj} (N : News h₀ L h [(d1, o1), (d2, o2), (d3, o3), (d4, o4)]) (l : d1 < I ∧ d2 < I ∧ d3 < I ∧ d4 < I) (hk : ∀ b o, b ≠ I → h.get? b = some o → h'.get? b = some o) : News h₀ L h' [(d1, o1), (d2, o2), (d3, o3), (d4, o4)] :=
  news_but N (by intro p hp; simp only [List.mem_cons, List.not_mem_nil, or_false] at hp; rcases hp with rfl | rfl | rfl | rfl; exact l.1; exact l.2.1; exact l.2.2.1; exact l.2.2.2) hk
/-- what stands between the deeds -/
def Between (h₀ : Heap) (L' : Addr) (Lf Rt : List Int) (inner : Int) (ti : Tok) (lb ld lr ll a : Addr) (vd vr vl : List Value) (ed er el : Nat) (more : List (Addr × Obj)) (n : Nat) (h : Heap) : Prop :=
  ∃ (ox od oa ob : Option Value) (lm : Addr) (x : List Nat) (tt tc : Tok) (c : Int) (bs : List Int) (ub : List Value) (eb : Nat), Fr h₀ L' h (lmap2 ob oa od (.str (S x) tt) (.int c tc) (lmapM lb lm inner ti ox ld lr ll a)) ∧
    News h₀ L' h (more ++ [(lb, W.listOf ub.toArray eb), (ld, W.listOf vd.toArray ed), (lr, W.listOf vr.toArray er), (ll, W.listOf vl.toArray el)]) ∧ IntsAre ub bs ∧ Stt Lf Rt inner n x c bs
end Mine
end

/-! QLaw2 -/
section
open PySem PySem.W PyProof.Rows
namespace Mine
open PySem.Calls
theorem told_len {ys : List Value} {L : List Int} {f : Int → Str} (h : StrsAre ys (L.map f)) : ys.length = L.length := by rw [h.length, List.length_map]
def Halted : Prop := True
def Stop : Prop := True
local macro_rules | `(tactic| walk_at "exec Assign") => `(tactic| ((with_reducible rename Stop => hX'); clear hX'; refine halt_here ?_))
local macro_rules | `(tactic| walk_at "exec For Name BinOp cons nil") => `(tactic| (refine halt_here ?_))
local macro_rules | `(tactic| walk_at "exec For Name Name cons nil") => `(tactic| (refine halt_here ?_))
local macro_rules | `(tactic| walk_at "subscriptTail Name Slice ref ref") => `(tactic| (k_dflt (first
  | (refine' sl_take (n := 8) ?F ?N ?l ?z ?_ ?s ?t; (case F => k_asm); (case N => k_asm); (case l => kmk_list); (case z => omega); (case s => with_unfolding_all rfl); (case t => kmk_pure))
  | (refine' sl_rev ?F ?N ?l ?z ?_ ?s ?t; (case F => k_asm); (case N => k_asm); (case l => kmk_list); (case z => omega); (case s => with_unfolding_all rfl); (case t => kmk_pure))
  | (refine' sl_drop ?F ?N ?l ?y ?x ?z ?_ ?s ?t; (case F => k_asm); (case N => k_asm); (case l => kmk_list); (case y => omega); (case x => omega); (case z => omega); (case s => with_unfolding_all rfl); (case t => kmk_pure))); intro D' h' F' N' l1; (try k_lt l1); (try k_sweep)))
local macro_rules | `(tactic| walk_at "binaryOp Add ref ref") => `(tactic| (k_dflt (refine' add_ll ?F ?N ?a ?b ?z ?_; (case F => k_asm); (case N => k_asm); (case a => kmk_list); (case b => kmk_list); (case z => ((try simp only [List.length_append, List.length_cons, List.length_nil, List.length_take, List.length_reverse]); omega))); intro D' h' F' N' l1; (try k_lt l1); (try k_sweep)))
local macro_rules | `(tactic| walk_at "call builtin:list.append") => `(tactic| ((show wpAny _ _ (call (Value.builtin _) [Value.ref _, _]) _ _ _); k_dflt (refine' append_L ?F ?N ?U ?z ?_; (case F => k_asm); (case N => k_asm); (case U => k_upd); (case z => omega)); intro h' F' N'; (try k_sweep)))
local macro_rules | `(tactic| walk_at "call builtin:sum") => `(tactic| ((show wpAny _ _ (call (Value.builtin _) [Value.ref _]) _ _ _); k_dflt (refine' LSm.sum_ints ?F ?N ?hh ?l ?i ?_; (case F => k_asm); (case N => k_asm); (case hh => rfl); (case l => kmk_list); (case i => assumption)); intro h' tk' t' F' N'; (try k_sweep)))
local macro_rules | `(tactic| walk_at "exec Assign cons ListComp") => `(tactic| ((fail_if_success (rename Halted => hX')); refine halt_here ?_))
theorem fr_gen {h₀ h : Heap} {L : Addr} {n : Int} {t : Tok} {m : Str → Option Value} (F : Fr h₀ L h (fun y => if y = Str.ofString "inner" then some (.int n t) else m y)) : ∃ t', Fr h₀ L h (fun y => if y = Str.ofString "inner" then some (.int n t') else m y) := ⟨t, F⟩
local macro_rules | `(tactic| walk_at "call ref") => `(tactic| first
  | ((show wpAny _ _ (call (Value.ref 107) [Value.int _ _]) _ _ _); k_dflt (refine' mark_F ?X ?T ?hA ?r ?F ?N ?c ?_; (case X => k_asm); (case T => k_asm); (case hA => rfl); (case r => (refine room3 ?_; assumption)); (case F => k_asm); (case N => k_asm); (case c => assumption)); intro t' h' tk' F' N'; (try k_sweep))
  | ((show wpAny _ _ (call (Value.ref 38) [Value.str _ _]) _ _ _); k_dflt (refine' strip_F ?X ?T ?r ?F ?N ?x ?_; (case X => k_asm); (case T => k_asm); (case r => (refine room3 ?_; assumption)); (case F => k_asm); (case N => k_asm); (case x => assumption)); intro t' h' tk' F' N'; (try k_sweep))
  | ((show wpAny _ _ (call (Value.ref 86) [Value.str _ _]) _ _ _); k_dflt (refine' decode_F ?X ?T ?hA ?r ?F ?N ?e ?l ?n ?x ?_; (case X => k_asm); (case T => k_asm); (case hA => rfl); (case r => (refine room3 ?_; assumption)); (case F => k_asm); (case N => k_asm); (case e => assumption); (case l => assumption); (case n => assumption); (case x => assumption)); intro t' h' tk' F' N'; (try k_sweep))
  | ((show wpAny _ _ (call (Value.ref 100) [Value.str _ _]) _ _ _); k_dflt (refine' header_F ?X ?T ?r ?F ?N ?e ?l ?x ?_; (case X => k_asm); (case T => k_asm); (case r => (refine room3 ?_; assumption)); (case F => k_asm); (case N => k_asm); (case e => assumption); (case l => assumption); (case x => assumption)); intro t' h' tk' F' N'; (try k_sweep))
  | ((show wpAny _ _ (call (Value.ref 117) [Value.ref _, Value.ref _]) _ _ _); k_dflt (refine' gone_F ?X ?T ?hA ?r ?F ?N ?a ?b ?i ?j ?x ?y ?_; (case X => k_asm); (case T => k_asm); (case hA => rfl); (case r => (refine room3 ?_; assumption)); (case F => k_asm); (case N => k_asm); (case a => kmk_list); (case b => kmk_list); (case i => assumption); (case j => assumption); (case x => assumption); (case y => assumption)); intro t' h' tk' F' N'; (try k_sweep))
  | ((show wpAny _ _ (call (Value.ref 112) [Value.ref _, Value.int _ _]) _ _ _); k_dflt (refine' told_F ?X ?T ?hA ?r ?F ?N ?a ?i ?x ?b ?c ?_; (case X => k_asm); (case T => k_asm); (case hA => rfl); (case r => (refine room3 ?_; assumption)); (case F => k_asm); (case N => k_asm); (case a => kmk_list); (case i => first | assumption | exact IntsAre.drop (by assumption) _ | exact .cons _ _ .nil); (case x => first | assumption | (exact drop_le (by assumption) _) | (simp only [List.length_cons, List.length_nil]; omega)); (case b => first | assumption | exact drop_bd (by assumption) _); (case c => assumption)); intro D' ys' h' tk' F' N' S'; (have bS' := told_len S'); (try simp only [List.length_drop, List.length_cons, List.length_nil] at bS'); (try k_sweep)))
local macro_rules | `(tactic| walk_at "call builtin:str.join") => `(tactic| (refine' join_parts ?a ?b ?c ?_; (case a => kmk_list); (case b => first | exact parts_told (by assumption) (by assumption) (by assumption) | exact parts_marks (by assumption) (by assumption)); (case c => assumption); intro t' k'))
local macro_rules | `(tactic| walk_at "compareOp NotEq str str") => `(tactic| (refine ne_same rfl ?_))
local macro_rules | `(tactic| walk_at "eval ListComp") => `(tactic| (refine halt_here ?_))
theorem lmap0 {ld lr ll a : Addr} : ∀ y, (if y = Str.ofString "deeds" then some (Value.ref ld) else if y = Str.ofString "right" then some (.ref lr) else if y = Str.ofString "left" then some (.ref ll) else List.lookup y [(Str.ofString "script", Value.ref a)].reverse) = lmap none ld lr ll a y := by
  intro y
  by_cases h : y = Str.ofString "x"
  · subst h; rfl
  · simp only [lmap, h, if_false, List.reverse_cons, List.reverse_nil, List.nil_append, List.lookup]
    by_cases h' : y = Str.ofString "script"
    · subst h'; rfl
    · have : (y == Str.ofString "script") = false := by simpa using h'
      simp [h', this]
theorem lmapx {ox : Option Value} {v : Value} {ld lr ll a : Addr} : ∀ y, (if y = Str.ofString "x" then some v else lmap ox ld lr ll a y) = lmap (some v) ld lr ll a y := by
  intro y
  by_cases h : y = Str.ofString "x"
  · simp [lmap, h]
  · simp [lmap, h]
theorem natlt4 {n a b c d : Nat} (h : a < n ∧ b < n ∧ c < n ∧ d < n) : a < n ∧ b < n ∧ c < n ∧ d < n := h
theorem lt_of6 {n : Nat} {D d1 d2 ld lr ll : Addr} {o1 o2 o3 o4 o5 o6 : Obj} (h : ∀ p ∈ [(D, o1), (d1, o2), (d2, o3), (ld, o4), (lr, o5), (ll, o6)], p.1 < n) : D < n ∧ ld < n ∧ lr < n ∧ ll < n :=
  ⟨h (D, o1) (.head _), h (ld, o4) (.tail _ (.tail _ (.tail _ (.head _)))), h (lr, o5) (.tail _ (.tail _ (.tail _ (.tail _ (.head _))))), h (ll, o6) (.tail _ (.tail _ (.tail _ (.tail _ (.tail _ (.head _))))))⟩
section
variable {prog : Program} {w : World} {A : Around} {E : Value → Shared → Prop} {s : Shared} {p : Program} {loose : List Str} {mean : ExcName → Option Value} {mg mb : Str → Option Value}
set_option maxRecDepth 100000 in
set_option maxHeartbeats 8000000 in
theorem law_ok {a : Addr} {vs : List Value} {ns : List Int} {Q : Value → Shared → Prop} (X : (Mine.frag w.params).In s.heap) (T : Top p loose mean mg mb s.heap) (hA : A.handled = none) (hroom : A.depth + 4 < recursionLimit)
    (hl : s.heap.IsList a vs.toArray) (hi : IntsAre vs ns) (hn : ns.length ≤ 63)
    (h : ∀ h' tk, (∀ b o, s.heap.get? b = some o → h'.get? b = some o) → Q (.bool true) { s with heap := h', toks := tk }) :
    wpAny (model prog w) A (call (.ref 122) [.ref a]) Q E s := by
  obtain ⟨hd0, dp, fr, gd, un⟩ := A
  obtain rfl : hd0 = none := hA
  have hvl : vs.length ≤ 63 := by rw [hi.length]; exact hn
  refine' call_fn (binds := [(Str.ofString "script", .ref a)]) X T.nolimit (by omega) ?k6 ?kp ?kb ?ks ?k7 ?k9 ?kB ?_ ?c2 ?c3 ?c4 ?c5
  case k6 => k_is
  case kp => dsimp only [fArgs, fBody, fScope, stm, nth, PySem.Challenge.pw_qu0008_01]
  case kb => dsimp only [fArgs, fBody, fScope, stm, nth, PySem.Challenge.pw_qu0008_01]
  case ks => dsimp only [fArgs, fBody, fScope, stm, nth, PySem.Challenge.pw_qu0008_01]
  case k7 => k_is
  case k9 => exact BindsTo.of_eq rfl
  case kB => exact locs rfl
  case c2 => exact rfl
  case c3 => exact rfl
  case c4 => exact rfl
  case c5 => decide
  intro L' h' F' N'
  w_on
  with_reducible show wpAny _ _ _ _ _ _
  k_fold
  k_steps
  refine Halt.mk ?_
  with_reducible refine for_list ?hh ?_ ?hs
  case hh => rfl
  case hs => intro x; rfl
  walk1
  refine' list_consts (ns := [10, 4, 5, 17, 11, 0, 1, 3, 0, 2, 6]) ?c ?F ?N ?z ?_
  case c => repeat (first | exact IntConsts.nil | refine IntConsts.cons ?_)
  case F => k_asm
  case N => k_asm
  case z => decide
  intro D' vs' h' tk' F' N' l1 hI' hL'
  k_lt l1
  simp only [List.length_cons, List.length_nil] at hL'
  k_steps
  rename News _ _ _ _ => N1
  rename Fr _ _ _ _ => F1
  rename_i ll _ _ _ lr _ llr _ ld _ lld _ D8 _ lD8 D hF lD
  have hIx := hI'.append (hi.take 8)
  have hxl : ([10, 4, 5, 17, 11, 0, 1, 3, 0, 2, 6] ++ ns.take 8).length ≤ 19 := by simp only [List.length_append, List.length_cons, List.length_nil, List.length_take]; omega
  generalize hxs : ([10, 4, 5, 17, 11, 0, 1, 3, 0, 2, 6] ++ ns.take 8) = xs at hIx hxl
  generalize hzs : vs' ++ vs.take 8 = zs at hIx N1
  clear hL' hI' lD8 l1
  dsimp only
  have hLI := fr_lt F1
  have lI := natlt4 (lt_of6 (news_lt N1))
  refine Halt.mk ⟨D, zs, hF, _, fun i h => ∃ ox vl vr vd el er ed, Fr s.heap L' h (lmap ox ld lr ll a) ∧ News s.heap L' h [(D, W.listOf zs.toArray 0), (ld, W.listOf vd.toArray ed), (lr, W.listOf vr.toArray er), (ll, W.listOf vl.toArray el)] ∧ IntsAre vl (leftOf (xs.take i)) ∧ IntsAre vr (rightOf (xs.take i)) ∧ IntsAre vd (deedsOf (xs.take i)), rfl, rfl, ?jl, ?j0, ?jst, ?jstep, ?jdone⟩
  case jl => kmk_list
  case j0 => exact ⟨none, [], [], [], 0, 0, 0, fr_congr F1 lmap0, fun p hp => N1 p (by simp only [List.mem_cons, List.not_mem_nil, or_false] at hp ⊢; rcases hp with rfl | rfl | rfl | rfl <;> simp), .nil, .nil, .nil⟩
  case jst =>
    rintro i h1 h2 ⟨ox, vl, vr, vd, el, er, ed, F, N, il, ir, id⟩ hk
    exact ⟨ox, vl, vr, vd, el, er, ed, fr_but F hLI hk, news_but N (by intro p hp; simp only [List.mem_cons, List.not_mem_nil, or_false] at hp; rcases hp with rfl | rfl | rfl | rfl; exact lI.1; exact lI.2.1; exact lI.2.2.1; exact lI.2.2.2) hk, il, ir, id⟩
  case jstep =>
    generalize hF.objs.size = I at hLI lI
    intro i v h1 tk1 oI hv hJ hoI hls
    obtain ⟨ox, vl, vr, vd, el, er, ed, F3, N3, il, ir, id⟩ := hJ
    obtain ⟨x, t, rfl, ex⟩ := IntsAre.at hIx hv
    have N4 := news_add F3 N3 hLI hoI
    have bl : vl.length ≤ 19 := by rw [il.length]; exact Nat.le_trans (leftOf_le _) (by rw [List.length_take]; omega)
    have br : vr.length ≤ 19 := by rw [ir.length]; exact Nat.le_trans (rightOf_le _) (by rw [List.length_take]; omega)
    have bd : vd.length ≤ 19 := by rw [id.length]; exact Nat.le_trans (deedsOf_le _) (by rw [List.length_take]; omega)
    clear N3 N1 F1 hls
    w_on
    with_reducible show wpAny _ _ _ _ _ _
    k_fold
    k_steps
    · rename News _ _ _ _ => N5
      rename Fr _ _ _ _ => F5
      exact Halt.mk ⟨_, _, rfl, ⟨some (.int x t), _, _, _, _, _, _, fr_congr F5 lmapx, fun p hp => N5 p (.tail _ hp), stp4 ex (by assumption) il ir id⟩, (N5 _ (.head _)).1, (by kmk_list)⟩
    · rename News _ _ _ _ => N5
      rename Fr _ _ _ _ => F5
      exact Halt.mk ⟨_, _, rfl, ⟨some (.int x t), _, _, _, _, _, _, fr_congr F5 lmapx, fun p hp => N5 p (.tail _ hp), stp5 ex (by assumption) (by assumption) il ir id⟩, (N5 _ (.head _)).1, (by kmk_list)⟩
    · rename News _ _ _ _ => N5
      rename Fr _ _ _ _ => F5
      exact Halt.mk ⟨_, _, rfl, ⟨some (.int x t), _, _, _, _, _, _, fr_congr F5 lmapx, fun p hp => N5 p (.tail _ hp), stp0 ex (by assumption) (by assumption) il ir id⟩, (N5 _ (.head _)).1, (by kmk_list)⟩
  case jdone =>
    intro h2 tk2 hJ
    obtain ⟨ox, vl, vr, vd, el, er, ed, F2, N2, il, ir, id⟩ := hJ
    rw [List.take_of_length_le (Nat.le_of_eq hIx.length.symm)] at il ir id
    clear N1 F1 hLI lI hIx lD lld llr

    have hI8 := IntsAre.take hi 8
    have bl : vl.length ≤ 19 := by rw [il.length]; exact Nat.le_trans (leftOf_le _) hxl
    have br : vr.length ≤ 19 := by rw [ir.length]; exact Nat.le_trans (rightOf_le _) hxl
    have bd : vd.length ≤ 19 := by rw [id.length]; exact Nat.le_trans (deedsOf_le _) hxl
    dsimp only
    with_reducible show wpAny _ _ _ _ _ _
    k_steps
    refine Halt.mk ?_
    rename News _ _ _ _ => N3
    rename Fr _ _ _ _ => F3
    obtain ⟨ti, F4⟩ := fr_gen F3
    clear F3
    generalize hin : (List.take 8 ns).sum.fmod 4 = inner at F4
    have hinb := fmod4_bd (List.take 8 ns).sum
    rw [hin] at hinb
    have hdd : Halted := trivial
    refine LCg.Assign_ListComp_U (F₀ := by k_asm) (by rfl) (by with_unfolding_all rfl) (by with_unfolding_all rfl) (by decide) (by rfl) (by decide) (by rfl) (by rfl) (by rfl) ?_
    walk1
    refine LCg.CompSrc.ledger (by rfl) (by k_asm) (by k_asm) (hm := List.mem_cons_of_mem _ (List.mem_cons_of_mem _ (List.mem_cons_of_mem _ (List.mem_cons_of_mem _ (List.mem_cons_self))))) (by rw [List.size_toArray, sizeLine_eq]; omega) ?_
    intro g'
    refine' kct_list (fun k => S (mkN k.toNat)) il (fun k' t' I' oI' C' oC' D' m' ys' h' tk' E' hk' hC' hx' F' N' off' ne' => ?_) ?_
    all_goals (try (simp only [LCg.Off3, and_true] at off'))
    all_goals (try ((show KPfMark → _); intro hMark'))
    · have hb := leftOf_bd xs k' hk'
      k_steps
    walk1
    have hst : Stop := trivial
    k_steps
    refine Halt.mk ?_
    rename CarriedAll _ _ => C5
    rename News _ _ _ _ => N5
    rename Fr _ _ _ _ => F5
    have S5 : StrsAre _ ((leftOf xs).map fun k => S (mkN k.toNat)) := StrsAre.of_carried (by rw [List.map_map]; exact C5)
    have b5 := S5.length
    rw [List.length_map, ← il.length] at b5
    clear C5
    k_steps
    refine Halt.mk ?_
    dsimp only
    refine LCg.ListComp_U (F₀ := by k_asm) (by with_unfolding_all rfl) (by decide) (by rfl) (by decide) (by rfl) ?_
    iterate 10 walk1
    refine LCg.CompSrc.ledger (by rfl) (by k_asm) (by k_asm) (hm := List.mem_cons_self) (by rw [List.size_toArray, List.length_reverse, sizeLine_eq]; omega) ?_
    intro g2'
    refine' kct_list (fun k => S (mkN k.toNat)) (IntsAre.reverse ir) (fun k' t' I' oI' C' oC' D' m' ys' h' tk' E' hk' hC' hx' F' N' off' ne' => ?_) ?_
    · intro hMark'
      have hb := rightOf_bd xs k' (List.mem_reverse.mp hk')
      dsimp only
      iterate 9 walk1
      rename News _ _ _ _ => N9
      rename Fr _ _ _ _ => F9
      exact LCg.CompEnd.intro F9 N9 _ (fun p hp => hp) off' (.inr ⟨_, List.mem_cons_self, rfl, _, rfl⟩) (kct_el rfl rfl rfl)
    walk1
    rename CarriedAll _ _ => C7
    have S7 : StrsAre _ ((rightOf xs).reverse.map fun k => S (mkN k.toNat)) := StrsAre.of_carried (by rw [List.map_map]; exact C7)
    have b7 := S7.length
    rw [List.length_map, List.length_reverse, ← ir.length] at b7
    clear C7
    have hx1 : (txtOf (leftOf xs) (rightOf xs) inner 0).length ≤ 1000 := txt_len (Int.le_refl _) (leftOf_bd xs) (rightOf_bd xs) hinb.2 (Nat.le_trans (leftOf_le _) hxl) (Nat.le_trans (rightOf_le _) hxl)
    dsimp only
    iterate 3 walk1
    refine' join_parts (l := leftOf xs) (r := rightOf xs) (i := inner) (c := 0) ?a ?b hx1 ?_
    case a => kmk_list
    case b => exact parts_marks S5 S7
    intro t' k'
    clear S5 S7 b5 b7
    dsimp only
    k_steps
    rename News _ _ _ _ => N8
    rename Fr _ _ _ _ => F8
    rename_i lb _ _ _ hF2
    have N9 := news4 (p1 := (lb, W.listOf ([] : List Value).toArray 0)) (p2 := (ld, W.listOf vd.toArray ed)) (p3 := (lr, W.listOf vr.toArray er)) (p4 := (ll, W.listOf vl.toArray el)) N8 (.head _) (by k_mem) (by k_mem) (by k_mem)
    have F9 := fr_congr F8 lmap2_start
    have hLI := fr_lt F9
    have lI := natlt4 (news4_lt (news_lt N9))
    have gbl := leftOf_bd xs
    have gbr := rightOf_bd xs
    have gll : (leftOf xs).length ≤ 19 := Nat.le_trans (leftOf_le _) hxl
    have glr : (rightOf xs).length ≤ 19 := Nat.le_trans (rightOf_le _) hxl
    have gdl : (deedsOf xs).length ≤ 19 := Nat.le_trans (deedsOf_le _) hxl
    generalize leftOf xs = Lf at *
    generalize rightOf xs = Rt at *
    generalize deedsOf xs = Ds at *
    clear N8 F8
    refine Halt.mk ?_
    with_reducible refine for_list ?hh ?_ ?hs
    case hh => rfl
    case hs => intro x; rfl
    walk1
    refine Halt.mk ⟨ld, vd, hF2, _, Between s.heap L' Lf Rt inner ti lb ld lr ll a vd vr vl ed er el [], rfl, rfl, ?jl, ?j0, ?jst, ?jstep, ?jdone⟩
    case jl => exact News.isList N9 (by k_mem)
    case j0 => exact ⟨_, _, _, _, _, _, _, _, _, _, _, _, F9, N9, .nil, stt_start _ _ _⟩
    case jst =>
      rintro i h1 h2 ⟨ox, od, oa, ob, lm, x, tt, tc, c, bs, ub, eb, F, N, ib, st⟩ hk
      exact ⟨_, _, _, _, _, _, _, _, _, _, _, _, fr_but F hLI hk, news4_but N lI hk, ib, st⟩
    case jdone =>
      rintro h3 tk3 ⟨ox, od, oa, ob, lm, x, tt, tc, c, bs, ub, eb, F, N, ib, st⟩
      clear N9 F9
      dsimp only
      with_reducible show wpAny _ _ _ _ _ _
      k_steps
      exact h _ _ F.keep
    case jstep =>
      generalize hF2.objs.size = I at hLI lI
      intro i v h1 tk1 oI hv hJ hoI hls
      obtain ⟨ox, od, oa, ob, lm, x, tt, tc, c, bs, ub, eb, F3, N3, ib, st⟩ := hJ
      obtain ⟨d, t, rfl, ex⟩ := IntsAre.at id hv
      have N4 : News s.heap L' h1 [(I, oI), (lb, W.listOf ub.toArray eb), (ld, W.listOf vd.toArray ed), (lr, W.listOf vr.toArray er), (ll, W.listOf vl.toArray el)] := news_add F3 N3 hLI hoI
      have hx : x.length ≤ 1000 := stt_len st gbl gbr hinb.2 gll glr
      have hi19 : i < vd.length := (List.getElem?_eq_some_iff.mp hv).1
      have hdl : vd.length ≤ 19 := bd
      have hub : ub.length ≤ 1000 := by rw [ib.length]; have := st.2.2.2.2; omega
      have hcb : 0 ≤ c ∧ c ≤ 1000 := ⟨st.2.2.1, by have := st.2.2.2.1; omega⟩
      clear N3 N9 F9 hls
      w_on
      with_reducible show wpAny _ _ _ _ _ _
      k_fold
      walk1
      k_unfold
      try dsimp only
      with_reducible refine wpAny_execs_cons ?_
      refine wpAny_mono (Q := fun fl s' => Halt (fl = .next ∧ ∃ h' tk', s' = { s with heap := h', toks := tk' } ∧ Between s.heap L' Lf Rt inner ti lb ld lr ll a vd vr vl ed er el [(I, oI)] (i + 1) h')) (E := fun _ _ => False) ?ifs ?rest (fun _ _ e => e.elim)
      case ifs =>
        obtain ⟨l, e1, e2, e3, st'⟩ := stt_read st
        k_fold
        k_steps
        · rename News _ _ _ _ => N5
          rename Fr _ _ _ _ => F5
          exact Halt.mk ⟨rfl, _, _, rfl, _, _, _, _, _, _, _, _, _, _, _, _, fr_congr F5 lmap2_read, N5, ib, st'⟩
        · rename News _ _ _ _ => N5
          rename Fr _ _ _ _ => F5
          exact Halt.mk ⟨rfl, _, _, rfl, _, _, _, _, _, _, _, _, _, _, _, _, fr_congr F5 lmap2_read, N5, ib, st'⟩
        · rename News _ _ _ _ => N5
          rename Fr _ _ _ _ => F5
          exact Halt.mk ⟨rfl, _, _, rfl, _, _, _, _, _, _, _, _, _, _, _, _, fr_congr F5 lmap2_strip, N5, IntsAre.append ib (.cons _ _ .nil), stt_strip st⟩
      case rest =>
        rename News _ _ _ _ => Nz
        rename Fr _ _ _ _ => Fz
        clear st ib hub hcb hx Nz Fz
        rintro fl s' ⟨rfl, h5, tk5, rfl, ox, od, oa, ob, lm, x, tt, tc, c, bs, ub, eb, F5, N5, ib, st⟩
        have N6 : News s.heap L' h5 [(I, oI), (lb, W.listOf ub.toArray eb), (ld, W.listOf vd.toArray ed), (lr, W.listOf vr.toArray er), (ll, W.listOf vl.toArray el)] := N5
        clear N5
        have hx : x.length ≤ 1000 := stt_len st gbl gbr hinb.2 gll glr
        obtain ⟨rfl, hb, h0, h1, h2⟩ := st
        have hcb : 0 ≤ c ∧ c ≤ 1000 := ⟨h0, by omega⟩
        have hub : bs.length ≤ 1000 := by omega
        have hul : Lf.length ≤ 1000 := by omega
        have hur : Rt.length ≤ 1000 := by omega
        have hil : vl.length = Lf.length := il.length
        have hir : vr.length = Rt.length := ir.length
        have ggl := gone_bd Lf bs
        have ggr := gone_bd Rt bs
        have hin1 : ∀ k ∈ [inner], 0 ≤ k ∧ k ≤ 3 := fun k hk => by rw [List.mem_singleton.mp hk]; exact hinb
        dsimp only
        with_reducible show wpAny _ _ _ _ _ _
        k_fold
        k_steps
        rename News _ _ _ _ => N7
        rename Fr _ _ _ _ => F7
        exact Halt.mk ⟨_, _, rfl, ⟨_, _, _, _, _, _, _, _, _, _, _, _, fr_congr F7 lmap2_end, news4 (p1 := (lb, W.listOf ub.toArray eb)) (p2 := (ld, W.listOf vd.toArray ed)) (p3 := (lr, W.listOf vr.toArray er)) (p4 := (ll, W.listOf vl.toArray el)) N7 (by k_mem) (by k_mem) (by k_mem) (by k_mem), ib, ⟨rfl, hb, h0, h1, h2⟩⟩, (N7 (I, oI) (by k_mem)).1, News.isList N7 (by k_mem)⟩
end
end Mine
end

/-! QFin2 -/
section
open PySem PySem.W PyProof.Rows PySem.W.X
namespace Mine
open PySem.Calls
theorem law_end {cl : Str → Option Addr} {mean : ExcName → Option Value} {ns : List Int} {s₁ : Shared} {h' : Heap} {tk : Nat} (k : ∀ b o, s₁.heap.get? b = some o → h'.get? b = some o) (hg : s₁.gens = #[]) :
    GoodWG PySem.Challenge.rw_qu0008_01.row.claim cl mean [ofPy (PyData.list (List.map PyData.int ns))] s₁ (Except.ok (Flow.ret (.bool true))) { s₁ with heap := h', toks := tk } :=
  GoodW.toG ⟨.inl ⟨.bool true, .bool true, [], rfl, fun _ => rfl, .bool true, postW_of rfl (w_eq_bool (w_res rfl) w_lit) rfl, unshared_nil⟩, k, rfl, hg⟩
set_option maxRecDepth 100000 in
set_option maxHeartbeats 8000000 in
theorem law_holds : PySem.Challenge.rw_qu0008_01.Holds := by
  w_on
  o_law
  refine holds_open (q := viewP) (loose := loose) (Xt := Xt) (XP := XL viewP lv) (Yf := hook.obs) (Ya := hook.val) (YP := hook.says) (N := 35392) left hook.of hook.keeps (fun s e => xl_of s (Bool.and_eq_true_iff.mp e).1) XL.keeps
    (by rfl) (by rfl) (by rfl) (fun s e => recFacts_of (Bool.and_eq_true_iff.mp e).2) (by rfl) (by first | assumption | decide +kernel) (by decide +kernel) ⟨rfl, rfl, rfl, rfl, rfl, by decide +kernel⟩ ?hw ?hc
  case hw => w_witness2
  case hc =>
    k_fill
    intro w s₀ s₁ mg mb G Y fa o pm cd doc dV kV ho hd hcd hD hmg hg args vals as hpre hlay hrd hwl hlo
    have KX := kIn_of Y
    refine Ground.open G ?_
    intro T B D TE TW
    wrow_args hpre hlay hrd hwl hlo
    x_fa T KX hmg
    rename IntsAre _ _ => hI
    rename Heap.IsList _ _ _ => hL
    exact law_ok KX T rfl (by decide) hL hI (by omega) fun h' tk k => law_end k hg
end Mine
end

theorem PySem.Challenge.cw_qu0008_01_holds : PySem.Challenge.rw_qu0008_01.Holds :=
  Mine.law_holds
