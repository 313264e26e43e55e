import PyProof.Rows.All
import Wide.All
import OpenK.AllK
import Wide.FinOn
import Lean
import PySem.Challenge.RW_ku0005_01
set_option Elab.async false
-- part Hd1
section
open PySem PySem.W PyProof.Rows
set_option maxRecDepth 100000
set_option maxHeartbeats 8000000
namespace Mine

noncomputable abbrev pw := PySem.Challenge.pw_ku0005_01
noncomputable def stAt : Nat → List Stmt → Stmt
  | _, [] => .Pass ⟨0, 0, 0, 0⟩
  | 0, s :: _ => s
  | k + 1, _ :: l => stAt k l
noncomputable def fdA (k : Nat) : Arguments := match stAt k pw.main.body with | .FunctionDef _ a _ _ _ _ _ _ _ _ => a | _ => ⟨[], [], none, [], [], none, []⟩
noncomputable def fdB (k : Nat) : List Stmt := match stAt k pw.main.body with | .FunctionDef _ _ b _ _ _ _ _ _ _ => b | _ => []
noncomputable def fdS (k : Nat) : Scope := match stAt k pw.main.body with | .FunctionDef _ _ _ _ _ _ s _ _ _ => s | _ => pw.main.scope
noncomputable def benv : Env := { scope := pw.main.scope, locals := 3, globals := 3, cells := [], code := .ref 13, frame := some 14 }
noncomputable def bE : List Stmt := behindTheImports pw
noncomputable def bcode : Code := .body bE benv
noncomputable abbrev annV : Option Value := some (.ref 6)
noncomputable abbrev qpos : Pos := ⟨0, 0, 0, 0⟩
noncomputable abbrev bB : List Frame := [topFrame qpos]
noncomputable def sl (i n : Nat) : List Stmt := (bE.drop i).take n
noncomputable def tab17 : List Value := [(.str (Str.ofString "=00") 195), (.str (Str.ofString "=01") 199), (.str (Str.ofString "=02") 203), (.str (Str.ofString "=03") 207), (.str (Str.ofString "=04") 211), (.str (Str.ofString "=05") 215), (.str (Str.ofString "=06") 219), (.str (Str.ofString "=07") 223), (.str (Str.ofString "=08") 227), (.str (Str.ofString "=09") 231), (.str (Str.ofString "=0A") 235), (.str (Str.ofString "=0B") 239), (.str (Str.ofString "=0C") 243), (.str (Str.ofString "=0D") 247), (.str (Str.ofString "=0E") 251), (.str (Str.ofString "=0F") 255), (.str (Str.ofString "=10") 259), (.str (Str.ofString "=11") 263), (.str (Str.ofString "=12") 267), (.str (Str.ofString "=13") 271), (.str (Str.ofString "=14") 275), (.str (Str.ofString "=15") 279), (.str (Str.ofString "=16") 283), (.str (Str.ofString "=17") 287), (.str (Str.ofString "=18") 291), (.str (Str.ofString "=19") 295), (.str (Str.ofString "=1A") 299), (.str (Str.ofString "=1B") 303), (.str (Str.ofString "=1C") 307), (.str (Str.ofString "=1D") 311), (.str (Str.ofString "=1E") 315), (.str (Str.ofString "=1F") 319), (.str (Str.ofString "=20") 323), (.str (Str.ofString "=21") 327), (.str (Str.ofString "=22") 331), (.str (Str.ofString "=23") 335), (.str (Str.ofString "=24") 339), (.str (Str.ofString "=25") 343), (.str (Str.ofString "=26") 347), (.str (Str.ofString "=27") 351), (.str (Str.ofString "=28") 355), (.str (Str.ofString "=29") 359), (.str (Str.ofString "=2A") 363), (.str (Str.ofString "=2B") 367), (.str (Str.ofString "=2C") 371), (.str (Str.ofString "=2D") 375), (.str (Str.ofString "=2E") 379), (.str (Str.ofString "=2F") 383), (.str (Str.ofString "=30") 387), (.str (Str.ofString "=31") 391), (.str (Str.ofString "=32") 395), (.str (Str.ofString "=33") 399), (.str (Str.ofString "=34") 403), (.str (Str.ofString "=35") 407), (.str (Str.ofString "=36") 411), (.str (Str.ofString "=37") 415), (.str (Str.ofString "=38") 419), (.str (Str.ofString "=39") 423), (.str (Str.ofString "=3A") 427), (.str (Str.ofString "=3B") 431), (.str (Str.ofString "=3C") 435), (.str (Str.ofString "=3D") 439), (.str (Str.ofString "=3E") 443), (.str (Str.ofString "=3F") 447), (.str (Str.ofString "=40") 451), (.str (Str.ofString "=41") 455), (.str (Str.ofString "=42") 459), (.str (Str.ofString "=43") 463), (.str (Str.ofString "=44") 467), (.str (Str.ofString "=45") 471), (.str (Str.ofString "=46") 475), (.str (Str.ofString "=47") 479), (.str (Str.ofString "=48") 483), (.str (Str.ofString "=49") 487), (.str (Str.ofString "=4A") 491), (.str (Str.ofString "=4B") 495), (.str (Str.ofString "=4C") 499), (.str (Str.ofString "=4D") 503), (.str (Str.ofString "=4E") 507), (.str (Str.ofString "=4F") 511), (.str (Str.ofString "=50") 515), (.str (Str.ofString "=51") 519), (.str (Str.ofString "=52") 523), (.str (Str.ofString "=53") 527), (.str (Str.ofString "=54") 531), (.str (Str.ofString "=55") 535), (.str (Str.ofString "=56") 539), (.str (Str.ofString "=57") 543), (.str (Str.ofString "=58") 547), (.str (Str.ofString "=59") 551), (.str (Str.ofString "=5A") 555), (.str (Str.ofString "=5B") 559), (.str (Str.ofString "=5C") 563), (.str (Str.ofString "=5D") 567), (.str (Str.ofString "=5E") 571), (.str (Str.ofString "=5F") 575), (.str (Str.ofString "=60") 579), (.str (Str.ofString "=61") 583), (.str (Str.ofString "=62") 587), (.str (Str.ofString "=63") 591), (.str (Str.ofString "=64") 595), (.str (Str.ofString "=65") 599), (.str (Str.ofString "=66") 603), (.str (Str.ofString "=67") 607), (.str (Str.ofString "=68") 611), (.str (Str.ofString "=69") 615), (.str (Str.ofString "=6A") 619), (.str (Str.ofString "=6B") 623), (.str (Str.ofString "=6C") 627), (.str (Str.ofString "=6D") 631), (.str (Str.ofString "=6E") 635), (.str (Str.ofString "=6F") 639), (.str (Str.ofString "=70") 643), (.str (Str.ofString "=71") 647), (.str (Str.ofString "=72") 651), (.str (Str.ofString "=73") 655), (.str (Str.ofString "=74") 659), (.str (Str.ofString "=75") 663), (.str (Str.ofString "=76") 667), (.str (Str.ofString "=77") 671), (.str (Str.ofString "=78") 675), (.str (Str.ofString "=79") 679), (.str (Str.ofString "=7A") 683), (.str (Str.ofString "=7B") 687), (.str (Str.ofString "=7C") 691), (.str (Str.ofString "=7D") 695), (.str (Str.ofString "=7E") 699), (.str (Str.ofString "=7F") 703), (.str (Str.ofString "=80") 707), (.str (Str.ofString "=81") 711), (.str (Str.ofString "=82") 715), (.str (Str.ofString "=83") 719), (.str (Str.ofString "=84") 723), (.str (Str.ofString "=85") 727), (.str (Str.ofString "=86") 731), (.str (Str.ofString "=87") 735), (.str (Str.ofString "=88") 739), (.str (Str.ofString "=89") 743), (.str (Str.ofString "=8A") 747), (.str (Str.ofString "=8B") 751), (.str (Str.ofString "=8C") 755), (.str (Str.ofString "=8D") 759), (.str (Str.ofString "=8E") 763), (.str (Str.ofString "=8F") 767), (.str (Str.ofString "=90") 771), (.str (Str.ofString "=91") 775), (.str (Str.ofString "=92") 779), (.str (Str.ofString "=93") 783), (.str (Str.ofString "=94") 787), (.str (Str.ofString "=95") 791), (.str (Str.ofString "=96") 795), (.str (Str.ofString "=97") 799), (.str (Str.ofString "=98") 803), (.str (Str.ofString "=99") 807), (.str (Str.ofString "=9A") 811), (.str (Str.ofString "=9B") 815), (.str (Str.ofString "=9C") 819), (.str (Str.ofString "=9D") 823), (.str (Str.ofString "=9E") 827), (.str (Str.ofString "=9F") 831), (.str (Str.ofString "=A0") 835), (.str (Str.ofString "=A1") 839), (.str (Str.ofString "=A2") 843), (.str (Str.ofString "=A3") 847), (.str (Str.ofString "=A4") 851), (.str (Str.ofString "=A5") 855), (.str (Str.ofString "=A6") 859), (.str (Str.ofString "=A7") 863), (.str (Str.ofString "=A8") 867), (.str (Str.ofString "=A9") 871), (.str (Str.ofString "=AA") 875), (.str (Str.ofString "=AB") 879), (.str (Str.ofString "=AC") 883), (.str (Str.ofString "=AD") 887), (.str (Str.ofString "=AE") 891), (.str (Str.ofString "=AF") 895), (.str (Str.ofString "=B0") 899), (.str (Str.ofString "=B1") 903), (.str (Str.ofString "=B2") 907), (.str (Str.ofString "=B3") 911), (.str (Str.ofString "=B4") 915), (.str (Str.ofString "=B5") 919), (.str (Str.ofString "=B6") 923), (.str (Str.ofString "=B7") 927), (.str (Str.ofString "=B8") 931), (.str (Str.ofString "=B9") 935), (.str (Str.ofString "=BA") 939), (.str (Str.ofString "=BB") 943), (.str (Str.ofString "=BC") 947), (.str (Str.ofString "=BD") 951), (.str (Str.ofString "=BE") 955), (.str (Str.ofString "=BF") 959), (.str (Str.ofString "=C0") 963), (.str (Str.ofString "=C1") 967), (.str (Str.ofString "=C2") 971), (.str (Str.ofString "=C3") 975), (.str (Str.ofString "=C4") 979), (.str (Str.ofString "=C5") 983), (.str (Str.ofString "=C6") 987), (.str (Str.ofString "=C7") 991), (.str (Str.ofString "=C8") 995), (.str (Str.ofString "=C9") 999), (.str (Str.ofString "=CA") 1003), (.str (Str.ofString "=CB") 1007), (.str (Str.ofString "=CC") 1011), (.str (Str.ofString "=CD") 1015), (.str (Str.ofString "=CE") 1019), (.str (Str.ofString "=CF") 1023), (.str (Str.ofString "=D0") 1027), (.str (Str.ofString "=D1") 1031), (.str (Str.ofString "=D2") 1035), (.str (Str.ofString "=D3") 1039), (.str (Str.ofString "=D4") 1043), (.str (Str.ofString "=D5") 1047), (.str (Str.ofString "=D6") 1051), (.str (Str.ofString "=D7") 1055), (.str (Str.ofString "=D8") 1059), (.str (Str.ofString "=D9") 1063), (.str (Str.ofString "=DA") 1067), (.str (Str.ofString "=DB") 1071), (.str (Str.ofString "=DC") 1075), (.str (Str.ofString "=DD") 1079), (.str (Str.ofString "=DE") 1083), (.str (Str.ofString "=DF") 1087), (.str (Str.ofString "=E0") 1091), (.str (Str.ofString "=E1") 1095), (.str (Str.ofString "=E2") 1099), (.str (Str.ofString "=E3") 1103), (.str (Str.ofString "=E4") 1107), (.str (Str.ofString "=E5") 1111), (.str (Str.ofString "=E6") 1115), (.str (Str.ofString "=E7") 1119), (.str (Str.ofString "=E8") 1123), (.str (Str.ofString "=E9") 1127), (.str (Str.ofString "=EA") 1131), (.str (Str.ofString "=EB") 1135), (.str (Str.ofString "=EC") 1139), (.str (Str.ofString "=ED") 1143), (.str (Str.ofString "=EE") 1147), (.str (Str.ofString "=EF") 1151), (.str (Str.ofString "=F0") 1155), (.str (Str.ofString "=F1") 1159), (.str (Str.ofString "=F2") 1163), (.str (Str.ofString "=F3") 1167), (.str (Str.ofString "=F4") 1171), (.str (Str.ofString "=F5") 1175), (.str (Str.ofString "=F6") 1179), (.str (Str.ofString "=F7") 1183), (.str (Str.ofString "=F8") 1187), (.str (Str.ofString "=F9") 1191), (.str (Str.ofString "=FA") 1195), (.str (Str.ofString "=FB") 1199), (.str (Str.ofString "=FC") 1203), (.str (Str.ofString "=FD") 1207), (.str (Str.ofString "=FE") 1211), (.str (Str.ofString "=FF") 1215)]
noncomputable def t22 : List (Value × Value × Nat) := [((.str (Str.ofString "=00") 195), (.str (Str.ofString "=00") 195), 1000), ((.str (Str.ofString "=01") 199), (.str (Str.ofString "=01") 199), 1000), ((.str (Str.ofString "=02") 203), (.str (Str.ofString "=02") 203), 1000), ((.str (Str.ofString "=03") 207), (.str (Str.ofString "=03") 207), 1000), ((.str (Str.ofString "=04") 211), (.str (Str.ofString "=04") 211), 1000), ((.str (Str.ofString "=05") 215), (.str (Str.ofString "=05") 215), 1000), ((.str (Str.ofString "=06") 219), (.str (Str.ofString "=06") 219), 1000), ((.str (Str.ofString "=07") 223), (.str (Str.ofString "=07") 223), 1000), ((.str (Str.ofString "=08") 227), (.str (Str.ofString "=08") 227), 1000), ((.str (Str.ofString "=09") 231), (.str (Str.ofString "=09") 231), 1000), ((.str (Str.ofString "=0A") 235), (.str (Str.ofString "=0A") 235), 1000), ((.str (Str.ofString "=0B") 239), (.str (Str.ofString "=0B") 239), 1000), ((.str (Str.ofString "=0C") 243), (.str (Str.ofString "=0C") 243), 1000), ((.str (Str.ofString "=0D") 247), (.str (Str.ofString "=0D") 247), 1000), ((.str (Str.ofString "=0E") 251), (.str (Str.ofString "=0E") 251), 1000), ((.str (Str.ofString "=0F") 255), (.str (Str.ofString "=0F") 255), 1000), ((.str (Str.ofString "=10") 259), (.str (Str.ofString "=10") 259), 1000), ((.str (Str.ofString "=11") 263), (.str (Str.ofString "=11") 263), 1000), ((.str (Str.ofString "=12") 267), (.str (Str.ofString "=12") 267), 1000), ((.str (Str.ofString "=13") 271), (.str (Str.ofString "=13") 271), 1000), ((.str (Str.ofString "=14") 275), (.str (Str.ofString "=14") 275), 1000), ((.str (Str.ofString "=15") 279), (.str (Str.ofString "=15") 279), 1000), ((.str (Str.ofString "=16") 283), (.str (Str.ofString "=16") 283), 1000), ((.str (Str.ofString "=17") 287), (.str (Str.ofString "=17") 287), 1000), ((.str (Str.ofString "=18") 291), (.str (Str.ofString "=18") 291), 1000), ((.str (Str.ofString "=19") 295), (.str (Str.ofString "=19") 295), 1000), ((.str (Str.ofString "=1A") 299), (.str (Str.ofString "=1A") 299), 1000), ((.str (Str.ofString "=1B") 303), (.str (Str.ofString "=1B") 303), 1000), ((.str (Str.ofString "=1C") 307), (.str (Str.ofString "=1C") 307), 1000), ((.str (Str.ofString "=1D") 311), (.str (Str.ofString "=1D") 311), 1000), ((.str (Str.ofString "=1E") 315), (.str (Str.ofString "=1E") 315), 1000), ((.str (Str.ofString "=1F") 319), (.str (Str.ofString "=1F") 319), 1000), ((.str (Str.ofString "=20") 323), (.str (Str.ofString "=20") 323), 1000), ((.str (Str.ofString "=21") 327), (.str (Str.ofString "!") 1246), 1), ((.str (Str.ofString "=22") 331), (.str (Str.ofString "=22") 331), 1000), ((.str (Str.ofString "=23") 335), (.str (Str.ofString "=23") 335), 1000), ((.str (Str.ofString "=24") 339), (.str (Str.ofString "=24") 339), 1000), ((.str (Str.ofString "=25") 343), (.str (Str.ofString "=25") 343), 1000), ((.str (Str.ofString "=26") 347), (.str (Str.ofString "=26") 347), 1000), ((.str (Str.ofString "=27") 351), (.str (Str.ofString "=27") 351), 1000), ((.str (Str.ofString "=28") 355), (.str (Str.ofString "=28") 355), 1000), ((.str (Str.ofString "=29") 359), (.str (Str.ofString "=29") 359), 1000), ((.str (Str.ofString "=2A") 363), (.str (Str.ofString "*") 1249), 2), ((.str (Str.ofString "=2B") 367), (.str (Str.ofString "+") 1252), 3), ((.str (Str.ofString "=2C") 371), (.str (Str.ofString "=2C") 371), 1000), ((.str (Str.ofString "=2D") 375), (.str (Str.ofString "-") 1243), 0), ((.str (Str.ofString "=2E") 379), (.str (Str.ofString "=2E") 379), 1000), ((.str (Str.ofString "=2F") 383), (.str (Str.ofString "/") 1255), 4), ((.str (Str.ofString "=30") 387), (.str (Str.ofString "0") 1414), 57), ((.str (Str.ofString "=31") 391), (.str (Str.ofString "1") 1417), 58), ((.str (Str.ofString "=32") 395), (.str (Str.ofString "2") 1420), 59), ((.str (Str.ofString "=33") 399), (.str (Str.ofString "3") 1423), 60), ((.str (Str.ofString "=34") 403), (.str (Str.ofString "4") 1426), 61), ((.str (Str.ofString "=35") 407), (.str (Str.ofString "5") 1429), 62), ((.str (Str.ofString "=36") 411), (.str (Str.ofString "6") 1432), 63), ((.str (Str.ofString "=37") 415), (.str (Str.ofString "7") 1435), 64), ((.str (Str.ofString "=38") 419), (.str (Str.ofString "8") 1438), 65), ((.str (Str.ofString "=39") 423), (.str (Str.ofString "9") 1441), 66), ((.str (Str.ofString "=3A") 427), (.str (Str.ofString "=3A") 427), 1000), ((.str (Str.ofString "=3B") 431), (.str (Str.ofString "=3B") 431), 1000), ((.str (Str.ofString "=3C") 435), (.str (Str.ofString "=3C") 435), 1000), ((.str (Str.ofString "=3D") 439), (.str (Str.ofString "=3D") 439), 1000), ((.str (Str.ofString "=3E") 443), (.str (Str.ofString "=3E") 443), 1000), ((.str (Str.ofString "=3F") 447), (.str (Str.ofString "=3F") 447), 1000), ((.str (Str.ofString "=40") 451), (.str (Str.ofString "=40") 451), 1000), ((.str (Str.ofString "=41") 455), (.str (Str.ofString "A") 1336), 31), ((.str (Str.ofString "=42") 459), (.str (Str.ofString "B") 1339), 32), ((.str (Str.ofString "=43") 463), (.str (Str.ofString "C") 1342), 33), ((.str (Str.ofString "=44") 467), (.str (Str.ofString "D") 1345), 34), ((.str (Str.ofString "=45") 471), (.str (Str.ofString "E") 1348), 35), ((.str (Str.ofString "=46") 475), (.str (Str.ofString "F") 1351), 36), ((.str (Str.ofString "=47") 479), (.str (Str.ofString "G") 1354), 37), ((.str (Str.ofString "=48") 483), (.str (Str.ofString "H") 1357), 38), ((.str (Str.ofString "=49") 487), (.str (Str.ofString "I") 1360), 39), ((.str (Str.ofString "=4A") 491), (.str (Str.ofString "J") 1363), 40), ((.str (Str.ofString "=4B") 495), (.str (Str.ofString "K") 1366), 41), ((.str (Str.ofString "=4C") 499), (.str (Str.ofString "L") 1369), 42), ((.str (Str.ofString "=4D") 503), (.str (Str.ofString "M") 1372), 43), ((.str (Str.ofString "=4E") 507), (.str (Str.ofString "N") 1375), 44), ((.str (Str.ofString "=4F") 511), (.str (Str.ofString "O") 1378), 45), ((.str (Str.ofString "=50") 515), (.str (Str.ofString "P") 1381), 46), ((.str (Str.ofString "=51") 519), (.str (Str.ofString "Q") 1384), 47), ((.str (Str.ofString "=52") 523), (.str (Str.ofString "R") 1387), 48), ((.str (Str.ofString "=53") 527), (.str (Str.ofString "S") 1390), 49), ((.str (Str.ofString "=54") 531), (.str (Str.ofString "T") 1393), 50), ((.str (Str.ofString "=55") 535), (.str (Str.ofString "U") 1396), 51), ((.str (Str.ofString "=56") 539), (.str (Str.ofString "V") 1399), 52), ((.str (Str.ofString "=57") 543), (.str (Str.ofString "W") 1402), 53), ((.str (Str.ofString "=58") 547), (.str (Str.ofString "X") 1405), 54), ((.str (Str.ofString "=59") 551), (.str (Str.ofString "Y") 1408), 55), ((.str (Str.ofString "=5A") 555), (.str (Str.ofString "Z") 1411), 56), ((.str (Str.ofString "=5B") 559), (.str (Str.ofString "=5B") 559), 1000), ((.str (Str.ofString "=5C") 563), (.str (Str.ofString "=5C") 563), 1000), ((.str (Str.ofString "=5D") 567), (.str (Str.ofString "=5D") 567), 1000), ((.str (Str.ofString "=5E") 571), (.str (Str.ofString "=5E") 571), 1000), ((.str (Str.ofString "=5F") 575), (.str (Str.ofString "=5F") 575), 1000), ((.str (Str.ofString "=60") 579), (.str (Str.ofString "=60") 579), 1000), ((.str (Str.ofString "=61") 583), (.str (Str.ofString "a") 1258), 5), ((.str (Str.ofString "=62") 587), (.str (Str.ofString "b") 1261), 6), ((.str (Str.ofString "=63") 591), (.str (Str.ofString "c") 1264), 7), ((.str (Str.ofString "=64") 595), (.str (Str.ofString "d") 1267), 8), ((.str (Str.ofString "=65") 599), (.str (Str.ofString "e") 1270), 9), ((.str (Str.ofString "=66") 603), (.str (Str.ofString "f") 1273), 10), ((.str (Str.ofString "=67") 607), (.str (Str.ofString "g") 1276), 11), ((.str (Str.ofString "=68") 611), (.str (Str.ofString "h") 1279), 12), ((.str (Str.ofString "=69") 615), (.str (Str.ofString "i") 1282), 13), ((.str (Str.ofString "=6A") 619), (.str (Str.ofString "j") 1285), 14), ((.str (Str.ofString "=6B") 623), (.str (Str.ofString "k") 1288), 15), ((.str (Str.ofString "=6C") 627), (.str (Str.ofString "l") 1291), 16), ((.str (Str.ofString "=6D") 631), (.str (Str.ofString "m") 1294), 17), ((.str (Str.ofString "=6E") 635), (.str (Str.ofString "n") 1297), 18), ((.str (Str.ofString "=6F") 639), (.str (Str.ofString "o") 1300), 19), ((.str (Str.ofString "=70") 643), (.str (Str.ofString "p") 1303), 20), ((.str (Str.ofString "=71") 647), (.str (Str.ofString "q") 1306), 21), ((.str (Str.ofString "=72") 651), (.str (Str.ofString "r") 1309), 22), ((.str (Str.ofString "=73") 655), (.str (Str.ofString "s") 1312), 23), ((.str (Str.ofString "=74") 659), (.str (Str.ofString "t") 1315), 24), ((.str (Str.ofString "=75") 663), (.str (Str.ofString "u") 1318), 25), ((.str (Str.ofString "=76") 667), (.str (Str.ofString "v") 1321), 26), ((.str (Str.ofString "=77") 671), (.str (Str.ofString "w") 1324), 27), ((.str (Str.ofString "=78") 675), (.str (Str.ofString "x") 1327), 28), ((.str (Str.ofString "=79") 679), (.str (Str.ofString "y") 1330), 29), ((.str (Str.ofString "=7A") 683), (.str (Str.ofString "z") 1333), 30), ((.str (Str.ofString "=7B") 687), (.str (Str.ofString "=7B") 687), 1000), ((.str (Str.ofString "=7C") 691), (.str (Str.ofString "=7C") 691), 1000), ((.str (Str.ofString "=7D") 695), (.str (Str.ofString "=7D") 695), 1000), ((.str (Str.ofString "=7E") 699), (.str (Str.ofString "=7E") 699), 1000), ((.str (Str.ofString "=7F") 703), (.str (Str.ofString "=7F") 703), 1000), ((.str (Str.ofString "=80") 707), (.str (Str.ofString "=80") 707), 1000), ((.str (Str.ofString "=81") 711), (.str (Str.ofString "=81") 711), 1000), ((.str (Str.ofString "=82") 715), (.str (Str.ofString "=82") 715), 1000), ((.str (Str.ofString "=83") 719), (.str (Str.ofString "=83") 719), 1000), ((.str (Str.ofString "=84") 723), (.str (Str.ofString "=84") 723), 1000), ((.str (Str.ofString "=85") 727), (.str (Str.ofString "=85") 727), 1000), ((.str (Str.ofString "=86") 731), (.str (Str.ofString "=86") 731), 1000), ((.str (Str.ofString "=87") 735), (.str (Str.ofString "=87") 735), 1000), ((.str (Str.ofString "=88") 739), (.str (Str.ofString "=88") 739), 1000), ((.str (Str.ofString "=89") 743), (.str (Str.ofString "=89") 743), 1000), ((.str (Str.ofString "=8A") 747), (.str (Str.ofString "=8A") 747), 1000), ((.str (Str.ofString "=8B") 751), (.str (Str.ofString "=8B") 751), 1000), ((.str (Str.ofString "=8C") 755), (.str (Str.ofString "=8C") 755), 1000), ((.str (Str.ofString "=8D") 759), (.str (Str.ofString "=8D") 759), 1000), ((.str (Str.ofString "=8E") 763), (.str (Str.ofString "=8E") 763), 1000), ((.str (Str.ofString "=8F") 767), (.str (Str.ofString "=8F") 767), 1000), ((.str (Str.ofString "=90") 771), (.str (Str.ofString "=90") 771), 1000), ((.str (Str.ofString "=91") 775), (.str (Str.ofString "=91") 775), 1000), ((.str (Str.ofString "=92") 779), (.str (Str.ofString "=92") 779), 1000), ((.str (Str.ofString "=93") 783), (.str (Str.ofString "=93") 783), 1000), ((.str (Str.ofString "=94") 787), (.str (Str.ofString "=94") 787), 1000), ((.str (Str.ofString "=95") 791), (.str (Str.ofString "=95") 791), 1000), ((.str (Str.ofString "=96") 795), (.str (Str.ofString "=96") 795), 1000), ((.str (Str.ofString "=97") 799), (.str (Str.ofString "=97") 799), 1000), ((.str (Str.ofString "=98") 803), (.str (Str.ofString "=98") 803), 1000), ((.str (Str.ofString "=99") 807), (.str (Str.ofString "=99") 807), 1000), ((.str (Str.ofString "=9A") 811), (.str (Str.ofString "=9A") 811), 1000), ((.str (Str.ofString "=9B") 815), (.str (Str.ofString "=9B") 815), 1000), ((.str (Str.ofString "=9C") 819), (.str (Str.ofString "=9C") 819), 1000), ((.str (Str.ofString "=9D") 823), (.str (Str.ofString "=9D") 823), 1000), ((.str (Str.ofString "=9E") 827), (.str (Str.ofString "=9E") 827), 1000), ((.str (Str.ofString "=9F") 831), (.str (Str.ofString "=9F") 831), 1000), ((.str (Str.ofString "=A0") 835), (.str (Str.ofString "=A0") 835), 1000), ((.str (Str.ofString "=A1") 839), (.str (Str.ofString "=A1") 839), 1000), ((.str (Str.ofString "=A2") 843), (.str (Str.ofString "=A2") 843), 1000), ((.str (Str.ofString "=A3") 847), (.str (Str.ofString "=A3") 847), 1000), ((.str (Str.ofString "=A4") 851), (.str (Str.ofString "=A4") 851), 1000), ((.str (Str.ofString "=A5") 855), (.str (Str.ofString "=A5") 855), 1000), ((.str (Str.ofString "=A6") 859), (.str (Str.ofString "=A6") 859), 1000), ((.str (Str.ofString "=A7") 863), (.str (Str.ofString "=A7") 863), 1000), ((.str (Str.ofString "=A8") 867), (.str (Str.ofString "=A8") 867), 1000), ((.str (Str.ofString "=A9") 871), (.str (Str.ofString "=A9") 871), 1000), ((.str (Str.ofString "=AA") 875), (.str (Str.ofString "=AA") 875), 1000), ((.str (Str.ofString "=AB") 879), (.str (Str.ofString "=AB") 879), 1000), ((.str (Str.ofString "=AC") 883), (.str (Str.ofString "=AC") 883), 1000), ((.str (Str.ofString "=AD") 887), (.str (Str.ofString "=AD") 887), 1000), ((.str (Str.ofString "=AE") 891), (.str (Str.ofString "=AE") 891), 1000), ((.str (Str.ofString "=AF") 895), (.str (Str.ofString "=AF") 895), 1000), ((.str (Str.ofString "=B0") 899), (.str (Str.ofString "=B0") 899), 1000), ((.str (Str.ofString "=B1") 903), (.str (Str.ofString "=B1") 903), 1000), ((.str (Str.ofString "=B2") 907), (.str (Str.ofString "=B2") 907), 1000), ((.str (Str.ofString "=B3") 911), (.str (Str.ofString "=B3") 911), 1000), ((.str (Str.ofString "=B4") 915), (.str (Str.ofString "=B4") 915), 1000), ((.str (Str.ofString "=B5") 919), (.str (Str.ofString "=B5") 919), 1000), ((.str (Str.ofString "=B6") 923), (.str (Str.ofString "=B6") 923), 1000), ((.str (Str.ofString "=B7") 927), (.str (Str.ofString "=B7") 927), 1000), ((.str (Str.ofString "=B8") 931), (.str (Str.ofString "=B8") 931), 1000), ((.str (Str.ofString "=B9") 935), (.str (Str.ofString "=B9") 935), 1000), ((.str (Str.ofString "=BA") 939), (.str (Str.ofString "=BA") 939), 1000), ((.str (Str.ofString "=BB") 943), (.str (Str.ofString "=BB") 943), 1000), ((.str (Str.ofString "=BC") 947), (.str (Str.ofString "=BC") 947), 1000), ((.str (Str.ofString "=BD") 951), (.str (Str.ofString "=BD") 951), 1000), ((.str (Str.ofString "=BE") 955), (.str (Str.ofString "=BE") 955), 1000), ((.str (Str.ofString "=BF") 959), (.str (Str.ofString "=BF") 959), 1000), ((.str (Str.ofString "=C0") 963), (.str (Str.ofString "=C0") 963), 1000), ((.str (Str.ofString "=C1") 967), (.str (Str.ofString "=C1") 967), 1000), ((.str (Str.ofString "=C2") 971), (.str (Str.ofString "=C2") 971), 1000), ((.str (Str.ofString "=C3") 975), (.str (Str.ofString "=C3") 975), 1000), ((.str (Str.ofString "=C4") 979), (.str (Str.ofString "=C4") 979), 1000), ((.str (Str.ofString "=C5") 983), (.str (Str.ofString "=C5") 983), 1000), ((.str (Str.ofString "=C6") 987), (.str (Str.ofString "=C6") 987), 1000), ((.str (Str.ofString "=C7") 991), (.str (Str.ofString "=C7") 991), 1000), ((.str (Str.ofString "=C8") 995), (.str (Str.ofString "=C8") 995), 1000), ((.str (Str.ofString "=C9") 999), (.str (Str.ofString "=C9") 999), 1000), ((.str (Str.ofString "=CA") 1003), (.str (Str.ofString "=CA") 1003), 1000), ((.str (Str.ofString "=CB") 1007), (.str (Str.ofString "=CB") 1007), 1000), ((.str (Str.ofString "=CC") 1011), (.str (Str.ofString "=CC") 1011), 1000), ((.str (Str.ofString "=CD") 1015), (.str (Str.ofString "=CD") 1015), 1000), ((.str (Str.ofString "=CE") 1019), (.str (Str.ofString "=CE") 1019), 1000), ((.str (Str.ofString "=CF") 1023), (.str (Str.ofString "=CF") 1023), 1000), ((.str (Str.ofString "=D0") 1027), (.str (Str.ofString "=D0") 1027), 1000), ((.str (Str.ofString "=D1") 1031), (.str (Str.ofString "=D1") 1031), 1000), ((.str (Str.ofString "=D2") 1035), (.str (Str.ofString "=D2") 1035), 1000), ((.str (Str.ofString "=D3") 1039), (.str (Str.ofString "=D3") 1039), 1000), ((.str (Str.ofString "=D4") 1043), (.str (Str.ofString "=D4") 1043), 1000), ((.str (Str.ofString "=D5") 1047), (.str (Str.ofString "=D5") 1047), 1000), ((.str (Str.ofString "=D6") 1051), (.str (Str.ofString "=D6") 1051), 1000), ((.str (Str.ofString "=D7") 1055), (.str (Str.ofString "=D7") 1055), 1000), ((.str (Str.ofString "=D8") 1059), (.str (Str.ofString "=D8") 1059), 1000), ((.str (Str.ofString "=D9") 1063), (.str (Str.ofString "=D9") 1063), 1000), ((.str (Str.ofString "=DA") 1067), (.str (Str.ofString "=DA") 1067), 1000), ((.str (Str.ofString "=DB") 1071), (.str (Str.ofString "=DB") 1071), 1000), ((.str (Str.ofString "=DC") 1075), (.str (Str.ofString "=DC") 1075), 1000), ((.str (Str.ofString "=DD") 1079), (.str (Str.ofString "=DD") 1079), 1000), ((.str (Str.ofString "=DE") 1083), (.str (Str.ofString "=DE") 1083), 1000), ((.str (Str.ofString "=DF") 1087), (.str (Str.ofString "=DF") 1087), 1000), ((.str (Str.ofString "=E0") 1091), (.str (Str.ofString "=E0") 1091), 1000), ((.str (Str.ofString "=E1") 1095), (.str (Str.ofString "=E1") 1095), 1000), ((.str (Str.ofString "=E2") 1099), (.str (Str.ofString "=E2") 1099), 1000), ((.str (Str.ofString "=E3") 1103), (.str (Str.ofString "=E3") 1103), 1000), ((.str (Str.ofString "=E4") 1107), (.str (Str.ofString "=E4") 1107), 1000), ((.str (Str.ofString "=E5") 1111), (.str (Str.ofString "=E5") 1111), 1000), ((.str (Str.ofString "=E6") 1115), (.str (Str.ofString "=E6") 1115), 1000), ((.str (Str.ofString "=E7") 1119), (.str (Str.ofString "=E7") 1119), 1000), ((.str (Str.ofString "=E8") 1123), (.str (Str.ofString "=E8") 1123), 1000), ((.str (Str.ofString "=E9") 1127), (.str (Str.ofString "=E9") 1127), 1000), ((.str (Str.ofString "=EA") 1131), (.str (Str.ofString "=EA") 1131), 1000), ((.str (Str.ofString "=EB") 1135), (.str (Str.ofString "=EB") 1135), 1000), ((.str (Str.ofString "=EC") 1139), (.str (Str.ofString "=EC") 1139), 1000), ((.str (Str.ofString "=ED") 1143), (.str (Str.ofString "=ED") 1143), 1000), ((.str (Str.ofString "=EE") 1147), (.str (Str.ofString "=EE") 1147), 1000), ((.str (Str.ofString "=EF") 1151), (.str (Str.ofString "=EF") 1151), 1000), ((.str (Str.ofString "=F0") 1155), (.str (Str.ofString "=F0") 1155), 1000), ((.str (Str.ofString "=F1") 1159), (.str (Str.ofString "=F1") 1159), 1000), ((.str (Str.ofString "=F2") 1163), (.str (Str.ofString "=F2") 1163), 1000), ((.str (Str.ofString "=F3") 1167), (.str (Str.ofString "=F3") 1167), 1000), ((.str (Str.ofString "=F4") 1171), (.str (Str.ofString "=F4") 1171), 1000), ((.str (Str.ofString "=F5") 1175), (.str (Str.ofString "=F5") 1175), 1000), ((.str (Str.ofString "=F6") 1179), (.str (Str.ofString "=F6") 1179), 1000), ((.str (Str.ofString "=F7") 1183), (.str (Str.ofString "=F7") 1183), 1000), ((.str (Str.ofString "=F8") 1187), (.str (Str.ofString "=F8") 1187), 1000), ((.str (Str.ofString "=F9") 1191), (.str (Str.ofString "=F9") 1191), 1000), ((.str (Str.ofString "=FA") 1195), (.str (Str.ofString "=FA") 1195), 1000), ((.str (Str.ofString "=FB") 1199), (.str (Str.ofString "=FB") 1199), 1000), ((.str (Str.ofString "=FC") 1203), (.str (Str.ofString "=FC") 1203), 1000), ((.str (Str.ofString "=FD") 1207), (.str (Str.ofString "=FD") 1207), 1000), ((.str (Str.ofString "=FE") 1211), (.str (Str.ofString "=FE") 1211), 1000), ((.str (Str.ofString "=FF") 1215), (.str (Str.ofString "=FF") 1215), 1000)]
noncomputable def t24 : List (Value × Value × Nat) := [((.str (Str.ofString "=00") 195), (.str (Str.ofString "=00") 195), 1000), ((.str (Str.ofString "=01") 199), (.str (Str.ofString "=01") 199), 1000), ((.str (Str.ofString "=02") 203), (.str (Str.ofString "=02") 203), 1000), ((.str (Str.ofString "=03") 207), (.str (Str.ofString "=03") 207), 1000), ((.str (Str.ofString "=04") 211), (.str (Str.ofString "=04") 211), 1000), ((.str (Str.ofString "=05") 215), (.str (Str.ofString "=05") 215), 1000), ((.str (Str.ofString "=06") 219), (.str (Str.ofString "=06") 219), 1000), ((.str (Str.ofString "=07") 223), (.str (Str.ofString "=07") 223), 1000), ((.str (Str.ofString "=08") 227), (.str (Str.ofString "=08") 227), 1000), ((.str (Str.ofString "=09") 231), (.str (Str.ofString "\t") 1730), 94), ((.str (Str.ofString "=0A") 235), (.str (Str.ofString "=0A") 235), 1000), ((.str (Str.ofString "=0B") 239), (.str (Str.ofString "=0B") 239), 1000), ((.str (Str.ofString "=0C") 243), (.str (Str.ofString "=0C") 243), 1000), ((.str (Str.ofString "=0D") 247), (.str (Str.ofString "=0D") 247), 1000), ((.str (Str.ofString "=0E") 251), (.str (Str.ofString "=0E") 251), 1000), ((.str (Str.ofString "=0F") 255), (.str (Str.ofString "=0F") 255), 1000), ((.str (Str.ofString "=10") 259), (.str (Str.ofString "=10") 259), 1000), ((.str (Str.ofString "=11") 263), (.str (Str.ofString "=11") 263), 1000), ((.str (Str.ofString "=12") 267), (.str (Str.ofString "=12") 267), 1000), ((.str (Str.ofString "=13") 271), (.str (Str.ofString "=13") 271), 1000), ((.str (Str.ofString "=14") 275), (.str (Str.ofString "=14") 275), 1000), ((.str (Str.ofString "=15") 279), (.str (Str.ofString "=15") 279), 1000), ((.str (Str.ofString "=16") 283), (.str (Str.ofString "=16") 283), 1000), ((.str (Str.ofString "=17") 287), (.str (Str.ofString "=17") 287), 1000), ((.str (Str.ofString "=18") 291), (.str (Str.ofString "=18") 291), 1000), ((.str (Str.ofString "=19") 295), (.str (Str.ofString "=19") 295), 1000), ((.str (Str.ofString "=1A") 299), (.str (Str.ofString "=1A") 299), 1000), ((.str (Str.ofString "=1B") 303), (.str (Str.ofString "=1B") 303), 1000), ((.str (Str.ofString "=1C") 307), (.str (Str.ofString "=1C") 307), 1000), ((.str (Str.ofString "=1D") 311), (.str (Str.ofString "=1D") 311), 1000), ((.str (Str.ofString "=1E") 315), (.str (Str.ofString "=1E") 315), 1000), ((.str (Str.ofString "=1F") 319), (.str (Str.ofString "=1F") 319), 1000), ((.str (Str.ofString "=20") 323), (.str (Str.ofString " ") 1448), 0), ((.str (Str.ofString "=21") 327), (.str (Str.ofString "!") 1451), 1), ((.str (Str.ofString "=22") 331), (.str (Str.ofString "\"") 1454), 2), ((.str (Str.ofString "=23") 335), (.str (Str.ofString "#") 1457), 3), ((.str (Str.ofString "=24") 339), (.str (Str.ofString "$") 1460), 4), ((.str (Str.ofString "=25") 343), (.str (Str.ofString "%") 1463), 5), ((.str (Str.ofString "=26") 347), (.str (Str.ofString "&") 1466), 6), ((.str (Str.ofString "=27") 351), (.str (Str.ofString "'") 1469), 7), ((.str (Str.ofString "=28") 355), (.str (Str.ofString "(") 1472), 8), ((.str (Str.ofString "=29") 359), (.str (Str.ofString ")") 1475), 9), ((.str (Str.ofString "=2A") 363), (.str (Str.ofString "*") 1478), 10), ((.str (Str.ofString "=2B") 367), (.str (Str.ofString "+") 1481), 11), ((.str (Str.ofString "=2C") 371), (.str (Str.ofString ",") 1484), 12), ((.str (Str.ofString "=2D") 375), (.str (Str.ofString "-") 1487), 13), ((.str (Str.ofString "=2E") 379), (.str (Str.ofString ".") 1490), 14), ((.str (Str.ofString "=2F") 383), (.str (Str.ofString "/") 1493), 15), ((.str (Str.ofString "=30") 387), (.str (Str.ofString "0") 1496), 16), ((.str (Str.ofString "=31") 391), (.str (Str.ofString "1") 1499), 17), ((.str (Str.ofString "=32") 395), (.str (Str.ofString "2") 1502), 18), ((.str (Str.ofString "=33") 399), (.str (Str.ofString "3") 1505), 19), ((.str (Str.ofString "=34") 403), (.str (Str.ofString "4") 1508), 20), ((.str (Str.ofString "=35") 407), (.str (Str.ofString "5") 1511), 21), ((.str (Str.ofString "=36") 411), (.str (Str.ofString "6") 1514), 22), ((.str (Str.ofString "=37") 415), (.str (Str.ofString "7") 1517), 23), ((.str (Str.ofString "=38") 419), (.str (Str.ofString "8") 1520), 24), ((.str (Str.ofString "=39") 423), (.str (Str.ofString "9") 1523), 25), ((.str (Str.ofString "=3A") 427), (.str (Str.ofString ":") 1526), 26), ((.str (Str.ofString "=3B") 431), (.str (Str.ofString ";") 1529), 27), ((.str (Str.ofString "=3C") 435), (.str (Str.ofString "<") 1532), 28), ((.str (Str.ofString "=3D") 439), (.str (Str.ofString "=3D") 439), 1000), ((.str (Str.ofString "=3E") 443), (.str (Str.ofString ">") 1535), 29), ((.str (Str.ofString "=3F") 447), (.str (Str.ofString "?") 1538), 30), ((.str (Str.ofString "=40") 451), (.str (Str.ofString "@") 1541), 31), ((.str (Str.ofString "=41") 455), (.str (Str.ofString "A") 1544), 32), ((.str (Str.ofString "=42") 459), (.str (Str.ofString "B") 1547), 33), ((.str (Str.ofString "=43") 463), (.str (Str.ofString "C") 1550), 34), ((.str (Str.ofString "=44") 467), (.str (Str.ofString "D") 1553), 35), ((.str (Str.ofString "=45") 471), (.str (Str.ofString "E") 1556), 36), ((.str (Str.ofString "=46") 475), (.str (Str.ofString "F") 1559), 37), ((.str (Str.ofString "=47") 479), (.str (Str.ofString "G") 1562), 38), ((.str (Str.ofString "=48") 483), (.str (Str.ofString "H") 1565), 39), ((.str (Str.ofString "=49") 487), (.str (Str.ofString "I") 1568), 40), ((.str (Str.ofString "=4A") 491), (.str (Str.ofString "J") 1571), 41), ((.str (Str.ofString "=4B") 495), (.str (Str.ofString "K") 1574), 42), ((.str (Str.ofString "=4C") 499), (.str (Str.ofString "L") 1577), 43), ((.str (Str.ofString "=4D") 503), (.str (Str.ofString "M") 1580), 44), ((.str (Str.ofString "=4E") 507), (.str (Str.ofString "N") 1583), 45), ((.str (Str.ofString "=4F") 511), (.str (Str.ofString "O") 1586), 46), ((.str (Str.ofString "=50") 515), (.str (Str.ofString "P") 1589), 47), ((.str (Str.ofString "=51") 519), (.str (Str.ofString "Q") 1592), 48), ((.str (Str.ofString "=52") 523), (.str (Str.ofString "R") 1595), 49), ((.str (Str.ofString "=53") 527), (.str (Str.ofString "S") 1598), 50), ((.str (Str.ofString "=54") 531), (.str (Str.ofString "T") 1601), 51), ((.str (Str.ofString "=55") 535), (.str (Str.ofString "U") 1604), 52), ((.str (Str.ofString "=56") 539), (.str (Str.ofString "V") 1607), 53), ((.str (Str.ofString "=57") 543), (.str (Str.ofString "W") 1610), 54), ((.str (Str.ofString "=58") 547), (.str (Str.ofString "X") 1613), 55), ((.str (Str.ofString "=59") 551), (.str (Str.ofString "Y") 1616), 56), ((.str (Str.ofString "=5A") 555), (.str (Str.ofString "Z") 1619), 57), ((.str (Str.ofString "=5B") 559), (.str (Str.ofString "[") 1622), 58), ((.str (Str.ofString "=5C") 563), (.str (Str.ofString "\\") 1625), 59), ((.str (Str.ofString "=5D") 567), (.str (Str.ofString "]") 1628), 60), ((.str (Str.ofString "=5E") 571), (.str (Str.ofString "^") 1631), 61), ((.str (Str.ofString "=5F") 575), (.str (Str.ofString "_") 1634), 62), ((.str (Str.ofString "=60") 579), (.str (Str.ofString "`") 1637), 63), ((.str (Str.ofString "=61") 583), (.str (Str.ofString "a") 1640), 64), ((.str (Str.ofString "=62") 587), (.str (Str.ofString "b") 1643), 65), ((.str (Str.ofString "=63") 591), (.str (Str.ofString "c") 1646), 66), ((.str (Str.ofString "=64") 595), (.str (Str.ofString "d") 1649), 67), ((.str (Str.ofString "=65") 599), (.str (Str.ofString "e") 1652), 68), ((.str (Str.ofString "=66") 603), (.str (Str.ofString "f") 1655), 69), ((.str (Str.ofString "=67") 607), (.str (Str.ofString "g") 1658), 70), ((.str (Str.ofString "=68") 611), (.str (Str.ofString "h") 1661), 71), ((.str (Str.ofString "=69") 615), (.str (Str.ofString "i") 1664), 72), ((.str (Str.ofString "=6A") 619), (.str (Str.ofString "j") 1667), 73), ((.str (Str.ofString "=6B") 623), (.str (Str.ofString "k") 1670), 74), ((.str (Str.ofString "=6C") 627), (.str (Str.ofString "l") 1673), 75), ((.str (Str.ofString "=6D") 631), (.str (Str.ofString "m") 1676), 76), ((.str (Str.ofString "=6E") 635), (.str (Str.ofString "n") 1679), 77), ((.str (Str.ofString "=6F") 639), (.str (Str.ofString "o") 1682), 78), ((.str (Str.ofString "=70") 643), (.str (Str.ofString "p") 1685), 79), ((.str (Str.ofString "=71") 647), (.str (Str.ofString "q") 1688), 80), ((.str (Str.ofString "=72") 651), (.str (Str.ofString "r") 1691), 81), ((.str (Str.ofString "=73") 655), (.str (Str.ofString "s") 1694), 82), ((.str (Str.ofString "=74") 659), (.str (Str.ofString "t") 1697), 83), ((.str (Str.ofString "=75") 663), (.str (Str.ofString "u") 1700), 84), ((.str (Str.ofString "=76") 667), (.str (Str.ofString "v") 1703), 85), ((.str (Str.ofString "=77") 671), (.str (Str.ofString "w") 1706), 86), ((.str (Str.ofString "=78") 675), (.str (Str.ofString "x") 1709), 87), ((.str (Str.ofString "=79") 679), (.str (Str.ofString "y") 1712), 88), ((.str (Str.ofString "=7A") 683), (.str (Str.ofString "z") 1715), 89), ((.str (Str.ofString "=7B") 687), (.str (Str.ofString "{") 1718), 90), ((.str (Str.ofString "=7C") 691), (.str (Str.ofString "|") 1721), 91), ((.str (Str.ofString "=7D") 695), (.str (Str.ofString "}") 1724), 92), ((.str (Str.ofString "=7E") 699), (.str (Str.ofString "~") 1727), 93), ((.str (Str.ofString "=7F") 703), (.str (Str.ofString "=7F") 703), 1000), ((.str (Str.ofString "=80") 707), (.str (Str.ofString "=80") 707), 1000), ((.str (Str.ofString "=81") 711), (.str (Str.ofString "=81") 711), 1000), ((.str (Str.ofString "=82") 715), (.str (Str.ofString "=82") 715), 1000), ((.str (Str.ofString "=83") 719), (.str (Str.ofString "=83") 719), 1000), ((.str (Str.ofString "=84") 723), (.str (Str.ofString "=84") 723), 1000), ((.str (Str.ofString "=85") 727), (.str (Str.ofString "=85") 727), 1000), ((.str (Str.ofString "=86") 731), (.str (Str.ofString "=86") 731), 1000), ((.str (Str.ofString "=87") 735), (.str (Str.ofString "=87") 735), 1000), ((.str (Str.ofString "=88") 739), (.str (Str.ofString "=88") 739), 1000), ((.str (Str.ofString "=89") 743), (.str (Str.ofString "=89") 743), 1000), ((.str (Str.ofString "=8A") 747), (.str (Str.ofString "=8A") 747), 1000), ((.str (Str.ofString "=8B") 751), (.str (Str.ofString "=8B") 751), 1000), ((.str (Str.ofString "=8C") 755), (.str (Str.ofString "=8C") 755), 1000), ((.str (Str.ofString "=8D") 759), (.str (Str.ofString "=8D") 759), 1000), ((.str (Str.ofString "=8E") 763), (.str (Str.ofString "=8E") 763), 1000), ((.str (Str.ofString "=8F") 767), (.str (Str.ofString "=8F") 767), 1000), ((.str (Str.ofString "=90") 771), (.str (Str.ofString "=90") 771), 1000), ((.str (Str.ofString "=91") 775), (.str (Str.ofString "=91") 775), 1000), ((.str (Str.ofString "=92") 779), (.str (Str.ofString "=92") 779), 1000), ((.str (Str.ofString "=93") 783), (.str (Str.ofString "=93") 783), 1000), ((.str (Str.ofString "=94") 787), (.str (Str.ofString "=94") 787), 1000), ((.str (Str.ofString "=95") 791), (.str (Str.ofString "=95") 791), 1000), ((.str (Str.ofString "=96") 795), (.str (Str.ofString "=96") 795), 1000), ((.str (Str.ofString "=97") 799), (.str (Str.ofString "=97") 799), 1000), ((.str (Str.ofString "=98") 803), (.str (Str.ofString "=98") 803), 1000), ((.str (Str.ofString "=99") 807), (.str (Str.ofString "=99") 807), 1000), ((.str (Str.ofString "=9A") 811), (.str (Str.ofString "=9A") 811), 1000), ((.str (Str.ofString "=9B") 815), (.str (Str.ofString "=9B") 815), 1000), ((.str (Str.ofString "=9C") 819), (.str (Str.ofString "=9C") 819), 1000), ((.str (Str.ofString "=9D") 823), (.str (Str.ofString "=9D") 823), 1000), ((.str (Str.ofString "=9E") 827), (.str (Str.ofString "=9E") 827), 1000), ((.str (Str.ofString "=9F") 831), (.str (Str.ofString "=9F") 831), 1000), ((.str (Str.ofString "=A0") 835), (.str (Str.ofString "=A0") 835), 1000), ((.str (Str.ofString "=A1") 839), (.str (Str.ofString "=A1") 839), 1000), ((.str (Str.ofString "=A2") 843), (.str (Str.ofString "=A2") 843), 1000), ((.str (Str.ofString "=A3") 847), (.str (Str.ofString "=A3") 847), 1000), ((.str (Str.ofString "=A4") 851), (.str (Str.ofString "=A4") 851), 1000), ((.str (Str.ofString "=A5") 855), (.str (Str.ofString "=A5") 855), 1000), ((.str (Str.ofString "=A6") 859), (.str (Str.ofString "=A6") 859), 1000), ((.str (Str.ofString "=A7") 863), (.str (Str.ofString "=A7") 863), 1000), ((.str (Str.ofString "=A8") 867), (.str (Str.ofString "=A8") 867), 1000), ((.str (Str.ofString "=A9") 871), (.str (Str.ofString "=A9") 871), 1000), ((.str (Str.ofString "=AA") 875), (.str (Str.ofString "=AA") 875), 1000), ((.str (Str.ofString "=AB") 879), (.str (Str.ofString "=AB") 879), 1000), ((.str (Str.ofString "=AC") 883), (.str (Str.ofString "=AC") 883), 1000), ((.str (Str.ofString "=AD") 887), (.str (Str.ofString "=AD") 887), 1000), ((.str (Str.ofString "=AE") 891), (.str (Str.ofString "=AE") 891), 1000), ((.str (Str.ofString "=AF") 895), (.str (Str.ofString "=AF") 895), 1000), ((.str (Str.ofString "=B0") 899), (.str (Str.ofString "=B0") 899), 1000), ((.str (Str.ofString "=B1") 903), (.str (Str.ofString "=B1") 903), 1000), ((.str (Str.ofString "=B2") 907), (.str (Str.ofString "=B2") 907), 1000), ((.str (Str.ofString "=B3") 911), (.str (Str.ofString "=B3") 911), 1000), ((.str (Str.ofString "=B4") 915), (.str (Str.ofString "=B4") 915), 1000), ((.str (Str.ofString "=B5") 919), (.str (Str.ofString "=B5") 919), 1000), ((.str (Str.ofString "=B6") 923), (.str (Str.ofString "=B6") 923), 1000), ((.str (Str.ofString "=B7") 927), (.str (Str.ofString "=B7") 927), 1000), ((.str (Str.ofString "=B8") 931), (.str (Str.ofString "=B8") 931), 1000), ((.str (Str.ofString "=B9") 935), (.str (Str.ofString "=B9") 935), 1000), ((.str (Str.ofString "=BA") 939), (.str (Str.ofString "=BA") 939), 1000), ((.str (Str.ofString "=BB") 943), (.str (Str.ofString "=BB") 943), 1000), ((.str (Str.ofString "=BC") 947), (.str (Str.ofString "=BC") 947), 1000), ((.str (Str.ofString "=BD") 951), (.str (Str.ofString "=BD") 951), 1000), ((.str (Str.ofString "=BE") 955), (.str (Str.ofString "=BE") 955), 1000), ((.str (Str.ofString "=BF") 959), (.str (Str.ofString "=BF") 959), 1000), ((.str (Str.ofString "=C0") 963), (.str (Str.ofString "=C0") 963), 1000), ((.str (Str.ofString "=C1") 967), (.str (Str.ofString "=C1") 967), 1000), ((.str (Str.ofString "=C2") 971), (.str (Str.ofString "=C2") 971), 1000), ((.str (Str.ofString "=C3") 975), (.str (Str.ofString "=C3") 975), 1000), ((.str (Str.ofString "=C4") 979), (.str (Str.ofString "=C4") 979), 1000), ((.str (Str.ofString "=C5") 983), (.str (Str.ofString "=C5") 983), 1000), ((.str (Str.ofString "=C6") 987), (.str (Str.ofString "=C6") 987), 1000), ((.str (Str.ofString "=C7") 991), (.str (Str.ofString "=C7") 991), 1000), ((.str (Str.ofString "=C8") 995), (.str (Str.ofString "=C8") 995), 1000), ((.str (Str.ofString "=C9") 999), (.str (Str.ofString "=C9") 999), 1000), ((.str (Str.ofString "=CA") 1003), (.str (Str.ofString "=CA") 1003), 1000), ((.str (Str.ofString "=CB") 1007), (.str (Str.ofString "=CB") 1007), 1000), ((.str (Str.ofString "=CC") 1011), (.str (Str.ofString "=CC") 1011), 1000), ((.str (Str.ofString "=CD") 1015), (.str (Str.ofString "=CD") 1015), 1000), ((.str (Str.ofString "=CE") 1019), (.str (Str.ofString "=CE") 1019), 1000), ((.str (Str.ofString "=CF") 1023), (.str (Str.ofString "=CF") 1023), 1000), ((.str (Str.ofString "=D0") 1027), (.str (Str.ofString "=D0") 1027), 1000), ((.str (Str.ofString "=D1") 1031), (.str (Str.ofString "=D1") 1031), 1000), ((.str (Str.ofString "=D2") 1035), (.str (Str.ofString "=D2") 1035), 1000), ((.str (Str.ofString "=D3") 1039), (.str (Str.ofString "=D3") 1039), 1000), ((.str (Str.ofString "=D4") 1043), (.str (Str.ofString "=D4") 1043), 1000), ((.str (Str.ofString "=D5") 1047), (.str (Str.ofString "=D5") 1047), 1000), ((.str (Str.ofString "=D6") 1051), (.str (Str.ofString "=D6") 1051), 1000), ((.str (Str.ofString "=D7") 1055), (.str (Str.ofString "=D7") 1055), 1000), ((.str (Str.ofString "=D8") 1059), (.str (Str.ofString "=D8") 1059), 1000), ((.str (Str.ofString "=D9") 1063), (.str (Str.ofString "=D9") 1063), 1000), ((.str (Str.ofString "=DA") 1067), (.str (Str.ofString "=DA") 1067), 1000), ((.str (Str.ofString "=DB") 1071), (.str (Str.ofString "=DB") 1071), 1000), ((.str (Str.ofString "=DC") 1075), (.str (Str.ofString "=DC") 1075), 1000), ((.str (Str.ofString "=DD") 1079), (.str (Str.ofString "=DD") 1079), 1000), ((.str (Str.ofString "=DE") 1083), (.str (Str.ofString "=DE") 1083), 1000), ((.str (Str.ofString "=DF") 1087), (.str (Str.ofString "=DF") 1087), 1000), ((.str (Str.ofString "=E0") 1091), (.str (Str.ofString "=E0") 1091), 1000), ((.str (Str.ofString "=E1") 1095), (.str (Str.ofString "=E1") 1095), 1000), ((.str (Str.ofString "=E2") 1099), (.str (Str.ofString "=E2") 1099), 1000), ((.str (Str.ofString "=E3") 1103), (.str (Str.ofString "=E3") 1103), 1000), ((.str (Str.ofString "=E4") 1107), (.str (Str.ofString "=E4") 1107), 1000), ((.str (Str.ofString "=E5") 1111), (.str (Str.ofString "=E5") 1111), 1000), ((.str (Str.ofString "=E6") 1115), (.str (Str.ofString "=E6") 1115), 1000), ((.str (Str.ofString "=E7") 1119), (.str (Str.ofString "=E7") 1119), 1000), ((.str (Str.ofString "=E8") 1123), (.str (Str.ofString "=E8") 1123), 1000), ((.str (Str.ofString "=E9") 1127), (.str (Str.ofString "=E9") 1127), 1000), ((.str (Str.ofString "=EA") 1131), (.str (Str.ofString "=EA") 1131), 1000), ((.str (Str.ofString "=EB") 1135), (.str (Str.ofString "=EB") 1135), 1000), ((.str (Str.ofString "=EC") 1139), (.str (Str.ofString "=EC") 1139), 1000), ((.str (Str.ofString "=ED") 1143), (.str (Str.ofString "=ED") 1143), 1000), ((.str (Str.ofString "=EE") 1147), (.str (Str.ofString "=EE") 1147), 1000), ((.str (Str.ofString "=EF") 1151), (.str (Str.ofString "=EF") 1151), 1000), ((.str (Str.ofString "=F0") 1155), (.str (Str.ofString "=F0") 1155), 1000), ((.str (Str.ofString "=F1") 1159), (.str (Str.ofString "=F1") 1159), 1000), ((.str (Str.ofString "=F2") 1163), (.str (Str.ofString "=F2") 1163), 1000), ((.str (Str.ofString "=F3") 1167), (.str (Str.ofString "=F3") 1167), 1000), ((.str (Str.ofString "=F4") 1171), (.str (Str.ofString "=F4") 1171), 1000), ((.str (Str.ofString "=F5") 1175), (.str (Str.ofString "=F5") 1175), 1000), ((.str (Str.ofString "=F6") 1179), (.str (Str.ofString "=F6") 1179), 1000), ((.str (Str.ofString "=F7") 1183), (.str (Str.ofString "=F7") 1183), 1000), ((.str (Str.ofString "=F8") 1187), (.str (Str.ofString "=F8") 1187), 1000), ((.str (Str.ofString "=F9") 1191), (.str (Str.ofString "=F9") 1191), 1000), ((.str (Str.ofString "=FA") 1195), (.str (Str.ofString "=FA") 1195), 1000), ((.str (Str.ofString "=FB") 1199), (.str (Str.ofString "=FB") 1199), 1000), ((.str (Str.ofString "=FC") 1203), (.str (Str.ofString "=FC") 1203), 1000), ((.str (Str.ofString "=FD") 1207), (.str (Str.ofString "=FD") 1207), 1000), ((.str (Str.ofString "=FE") 1211), (.str (Str.ofString "=FE") 1211), 1000), ((.str (Str.ofString "=FF") 1215), (.str (Str.ofString "=FF") 1215), 1000)]
noncomputable def upd (j : Nat) : List (Value × Value × Nat) → List Value
  | [] => []
  | (a, b, r) :: l => (bif Nat.blt r j then b else a) :: upd j l
noncomputable def tk : Nat → List Value → List Value
  | 0, _ => []
  | _ + 1, [] => []
  | k + 1, a :: l => a :: tk k l
noncomputable def nat8 (i : Nat) : List UInt8 → Int
  | [] => 0
  | b :: l => match i with | 0 => Int.ofNat b.toNat | i + 1 => nat8 i l
noncomputable def kkOf : Option (SharedT × Thread) → Result → Sem PySem.Fin
  | some (_, ⟨_, _, _, .ret k _ _ _ _ _ _ :: _⟩) => k
  | _ => fun _ => .pure (.done .next)
noncomputable def oc15 : Obj := ⟨.type "range", none, .fields #[.int 0 190, .int 256 189, .int 1 191], #[]⟩
noncomputable def oc16 (k : Nat) : Obj := ⟨.type "range_iterator", none, .fields #[.int (Int.ofNat k) 0, .int (Int.ofNat (Nat.sub 256 k)) 0, .int 1 0], #[]⟩
noncomputable def oc17 (k : Nat) : Obj := ⟨.type "list", none, .seq ⟨tk k tab17⟩ k, #[]⟩
noncomputable def oc18 (P : Params) (k : Nat) : Obj := match k with
  | 0 => ⟨.type "dict", none, .dict #[] 0, #[]⟩
  | k + 1 => ⟨.type "dict", none, .dict #[⟨PyData.keyHash P (Str.ofString "c"), .str (Str.ofString "c") 193, .int (Int.ofNat k) (Nat.add 192 (Nat.mul 4 k))⟩] 1, #[]⟩
noncomputable def o11_0 (P : Params) : Obj := ⟨(.type "tuple"), none, (.seq #[] 0), #[]⟩
noncomputable def o12_0 (P : Params) : Obj := ⟨.none, none, (.fields #[]), #[]⟩
noncomputable def o13_0 (P : Params) : Obj := ⟨(.type "code"), none, (.fields #[(.str (Str.ofString "<module>") 182), (.str (Str.ofString "<module>") 183), (.str (Str.ofString "/claim/cut.py") 184), (.int 1 0), (.int 0 0), (.int 0 0), (.int 0 0), (.int 0 0), (.ref 11), (.bool false), (.int 181 0), (.ref 12), .none, .none, .none, .none, (.int 185 0), (.int 1 0), (.str (Str.ofString "/claim/cut.py") 186)]), #[]⟩
noncomputable def o14_0 (P : Params) : Obj := ⟨(.type "frame"), none, .plain, #[(some (.ref 13)), (some (.ref 3)), (some (.ref 3)), none, (some (.str (Str.ofString "__main__") 164)), none, (some (.ref 0))]⟩
noncomputable def o3_0 (P : Params) : Obj := ⟨(.type "dict"), none, (.dict #[⟨PyData.keyHash P (Str.ofString "__name__"), (.str (Str.ofString "__name__") 165), (.str (Str.ofString "__main__") 164)⟩,
   ⟨PyData.keyHash P (Str.ofString "__doc__"), (.str (Str.ofString "__doc__") 166), .none⟩,
   ⟨PyData.keyHash P (Str.ofString "__package__"), (.str (Str.ofString "__package__") 167), .none⟩,
   ⟨PyData.keyHash P (Str.ofString "__loader__"), (.str (Str.ofString "__loader__") 168), (.builtin "__main__.__loader__#opaque")⟩,
   ⟨PyData.keyHash P (Str.ofString "__spec__"), (.str (Str.ofString "__spec__") 169), .none⟩,
   ⟨PyData.keyHash P (Str.ofString "__annotations__"), (.str (Str.ofString "__annotations__") 170), (.ref 6)⟩,
   ⟨PyData.keyHash P (Str.ofString "__builtins__"), (.str (Str.ofString "__builtins__") 171), (.ref 4)⟩,
   ⟨PyData.keyHash P (Str.ofString "__file__"), (.str (Str.ofString "__file__") 173), (.str (Str.ofString "/claim/cut.py") 172)⟩,
   ⟨PyData.keyHash P (Str.ofString "__cached__"), (.str (Str.ofString "__cached__") 174), .none⟩,
   ⟨PyData.keyHash P (Str.ofString "NL"), (.str (Str.ofString "NL") 188), (.str (Str.ofString "\n") 187)⟩] 10), #[]⟩
noncomputable def o3_1 (P : Params) : Obj := ⟨(.type "dict"), none, (.dict #[⟨PyData.keyHash P (Str.ofString "__name__"), (.str (Str.ofString "__name__") 165), (.str (Str.ofString "__main__") 164)⟩,
   ⟨PyData.keyHash P (Str.ofString "__doc__"), (.str (Str.ofString "__doc__") 166), .none⟩,
   ⟨PyData.keyHash P (Str.ofString "__package__"), (.str (Str.ofString "__package__") 167), .none⟩,
   ⟨PyData.keyHash P (Str.ofString "__loader__"), (.str (Str.ofString "__loader__") 168), (.builtin "__main__.__loader__#opaque")⟩,
   ⟨PyData.keyHash P (Str.ofString "__spec__"), (.str (Str.ofString "__spec__") 169), .none⟩,
   ⟨PyData.keyHash P (Str.ofString "__annotations__"), (.str (Str.ofString "__annotations__") 170), (.ref 6)⟩,
   ⟨PyData.keyHash P (Str.ofString "__builtins__"), (.str (Str.ofString "__builtins__") 171), (.ref 4)⟩,
   ⟨PyData.keyHash P (Str.ofString "__file__"), (.str (Str.ofString "__file__") 173), (.str (Str.ofString "/claim/cut.py") 172)⟩,
   ⟨PyData.keyHash P (Str.ofString "__cached__"), (.str (Str.ofString "__cached__") 174), .none⟩,
   ⟨PyData.keyHash P (Str.ofString "NL"), (.str (Str.ofString "NL") 188), (.str (Str.ofString "\n") 187)⟩,
   ⟨PyData.keyHash P (Str.ofString "_QUOPRI_MAP"), (.str (Str.ofString "_QUOPRI_MAP") 1216), (.ref 17)⟩] 11), #[]⟩
noncomputable def o15_0 (P : Params) : Obj := ⟨(.type "range"), none, (.fields #[(.int 0 190), (.int 256 189), (.int 1 191)]), #[]⟩
noncomputable def o16_0 (P : Params) : Obj := ⟨(.type "range_iterator"), none, (.fields #[(.int 256 0), (.int 0 0), (.int 1 0)]), #[]⟩
noncomputable def o17_0 (P : Params) : Obj := ⟨(.type "list"), none, (.seq ⟨tab17⟩ 256), #[]⟩
noncomputable def o18_0 (P : Params) : Obj := ⟨(.type "dict"), none, (.dict #[] 2), #[]⟩
noncomputable def o19_0 (P : Params) : Obj := ⟨(.type "tuple"), none, (.seq #[] 0), #[]⟩
noncomputable def o20_0 (P : Params) : Obj := ⟨(.type "StopIteration"), none, (.fields #[(.ref 19), .none, .none, .none, (.bool false), .none]), #[]⟩
noncomputable def o3_2 (P : Params) : Obj := ⟨(.type "dict"), none, (.dict #[⟨PyData.keyHash P (Str.ofString "__name__"), (.str (Str.ofString "__name__") 165), (.str (Str.ofString "cpy313.email.quoprimime") 1232)⟩,
   ⟨PyData.keyHash P (Str.ofString "__doc__"), (.str (Str.ofString "__doc__") 166), .none⟩,
   ⟨PyData.keyHash P (Str.ofString "__package__"), (.str (Str.ofString "__package__") 167), .none⟩,
   ⟨PyData.keyHash P (Str.ofString "__loader__"), (.str (Str.ofString "__loader__") 168), (.builtin "__main__.__loader__#opaque")⟩,
   ⟨PyData.keyHash P (Str.ofString "__spec__"), (.str (Str.ofString "__spec__") 169), .none⟩,
   ⟨PyData.keyHash P (Str.ofString "__annotations__"), (.str (Str.ofString "__annotations__") 170), (.ref 6)⟩,
   ⟨PyData.keyHash P (Str.ofString "__builtins__"), (.str (Str.ofString "__builtins__") 171), (.ref 4)⟩,
   ⟨PyData.keyHash P (Str.ofString "__file__"), (.str (Str.ofString "__file__") 173), (.str (Str.ofString "/claim/cut.py") 172)⟩,
   ⟨PyData.keyHash P (Str.ofString "__cached__"), (.str (Str.ofString "__cached__") 174), .none⟩,
   ⟨PyData.keyHash P (Str.ofString "NL"), (.str (Str.ofString "NL") 188), (.str (Str.ofString "\n") 187)⟩,
   ⟨PyData.keyHash P (Str.ofString "_QUOPRI_MAP"), (.str (Str.ofString "_QUOPRI_MAP") 1216), (.ref 17)⟩,
   ⟨PyData.keyHash P (Str.ofString "_QUOPRI_HEADER_MAP"), (.str (Str.ofString "_QUOPRI_HEADER_MAP") 1217), (.ref 22)⟩,
   ⟨PyData.keyHash P (Str.ofString "_QUOPRI_BODY_MAP"), (.str (Str.ofString "_QUOPRI_BODY_MAP") 1218), (.ref 24)⟩,
   ⟨PyData.keyHash P (Str.ofString "ascii_lowercase"), (.str (Str.ofString "ascii_lowercase") 1220), (.str (Str.ofString "abcdefghijklmnopqrstuvwxyz") 1219)⟩,
   ⟨PyData.keyHash P (Str.ofString "ascii_uppercase"), (.str (Str.ofString "ascii_uppercase") 1222), (.str (Str.ofString "ABCDEFGHIJKLMNOPQRSTUVWXYZ") 1221)⟩,
   ⟨PyData.keyHash P (Str.ofString "ascii_letters"), (.str (Str.ofString "ascii_letters") 1224), (.str (Str.ofString "abcdefghijklmnopqrstuvwxyzABCDEFGHIJKLMNOPQRSTUVWXYZ") 1223)⟩,
   ⟨PyData.keyHash P (Str.ofString "digits"), (.str (Str.ofString "digits") 1226), (.str (Str.ofString "0123456789") 1225)⟩,
   ⟨PyData.keyHash P (Str.ofString "hexdigits"), (.str (Str.ofString "hexdigits") 1231), (.str (Str.ofString "0123456789abcdefABCDEF") 1230)⟩] 18), #[]⟩
noncomputable def o21_0 (P : Params) : Obj := ⟨(.type "slice"), none, (.fields #[.none, .none, .none]), #[]⟩
noncomputable def o22_0 (P : Params) : Obj := ⟨(.type "list"), none, (.seq ⟨tab17⟩ 0), #[]⟩
noncomputable def o23_0 (P : Params) : Obj := ⟨(.type "slice"), none, (.fields #[.none, .none, .none]), #[]⟩
noncomputable def o24_0 (P : Params) : Obj := ⟨(.type "list"), none, (.seq ⟨tab17⟩ 0), #[]⟩
noncomputable def o3_3 (P : Params) : Obj := ⟨(.type "dict"), none, (.dict #[⟨PyData.keyHash P (Str.ofString "__name__"), (.str (Str.ofString "__name__") 165), (.str (Str.ofString "cpy313.email.quoprimime") 1232)⟩,
   ⟨PyData.keyHash P (Str.ofString "__doc__"), (.str (Str.ofString "__doc__") 166), .none⟩,
   ⟨PyData.keyHash P (Str.ofString "__package__"), (.str (Str.ofString "__package__") 167), .none⟩,
   ⟨PyData.keyHash P (Str.ofString "__loader__"), (.str (Str.ofString "__loader__") 168), (.builtin "__main__.__loader__#opaque")⟩,
   ⟨PyData.keyHash P (Str.ofString "__spec__"), (.str (Str.ofString "__spec__") 169), .none⟩,
   ⟨PyData.keyHash P (Str.ofString "__annotations__"), (.str (Str.ofString "__annotations__") 170), (.ref 6)⟩,
   ⟨PyData.keyHash P (Str.ofString "__builtins__"), (.str (Str.ofString "__builtins__") 171), (.ref 4)⟩,
   ⟨PyData.keyHash P (Str.ofString "__file__"), (.str (Str.ofString "__file__") 173), (.str (Str.ofString "/claim/cut.py") 172)⟩,
   ⟨PyData.keyHash P (Str.ofString "__cached__"), (.str (Str.ofString "__cached__") 174), .none⟩,
   ⟨PyData.keyHash P (Str.ofString "NL"), (.str (Str.ofString "NL") 188), (.str (Str.ofString "\n") 187)⟩,
   ⟨PyData.keyHash P (Str.ofString "_QUOPRI_MAP"), (.str (Str.ofString "_QUOPRI_MAP") 1216), (.ref 17)⟩,
   ⟨PyData.keyHash P (Str.ofString "_QUOPRI_HEADER_MAP"), (.str (Str.ofString "_QUOPRI_HEADER_MAP") 1217), (.ref 22)⟩,
   ⟨PyData.keyHash P (Str.ofString "_QUOPRI_BODY_MAP"), (.str (Str.ofString "_QUOPRI_BODY_MAP") 1218), (.ref 24)⟩,
   ⟨PyData.keyHash P (Str.ofString "ascii_lowercase"), (.str (Str.ofString "ascii_lowercase") 1220), (.str (Str.ofString "abcdefghijklmnopqrstuvwxyz") 1219)⟩,
   ⟨PyData.keyHash P (Str.ofString "ascii_uppercase"), (.str (Str.ofString "ascii_uppercase") 1222), (.str (Str.ofString "ABCDEFGHIJKLMNOPQRSTUVWXYZ") 1221)⟩,
   ⟨PyData.keyHash P (Str.ofString "ascii_letters"), (.str (Str.ofString "ascii_letters") 1224), (.str (Str.ofString "abcdefghijklmnopqrstuvwxyzABCDEFGHIJKLMNOPQRSTUVWXYZ") 1223)⟩,
   ⟨PyData.keyHash P (Str.ofString "digits"), (.str (Str.ofString "digits") 1226), (.str (Str.ofString "0123456789") 1225)⟩,
   ⟨PyData.keyHash P (Str.ofString "hexdigits"), (.str (Str.ofString "hexdigits") 1231), (.str (Str.ofString "0123456789abcdefABCDEF") 1230)⟩,
   ⟨PyData.keyHash P (Str.ofString "c"), (.str (Str.ofString "c") 1242), (.int 57 1439)⟩] 19), #[]⟩
noncomputable def o22_1 (P : Params) : Obj := ⟨(.type "list"), none, (.seq ⟨upd 67 t22⟩ 0), #[]⟩
noncomputable def o25_0 (P : Params) : Obj := ⟨(.type "bytes_iterator"), none, (.fields #[.none, (.int 67 0)]), #[]⟩
noncomputable def o26_0 (P : Params) : Obj := ⟨(.type "tuple"), none, (.seq #[] 0), #[]⟩
noncomputable def o27_0 (P : Params) : Obj := ⟨(.type "StopIteration"), none, (.fields #[(.ref 26), .none, .none, .none, (.bool false), .none]), #[]⟩
noncomputable def o22_2 (P : Params) : Obj := ⟨(.type "list"), none, (.seq #[(.str (Str.ofString "=00") 195), (.str (Str.ofString "=01") 199), (.str (Str.ofString "=02") 203), (.str (Str.ofString "=03") 207), (.str (Str.ofString "=04") 211), (.str (Str.ofString "=05") 215), (.str (Str.ofString "=06") 219), (.str (Str.ofString "=07") 223), (.str (Str.ofString "=08") 227), (.str (Str.ofString "=09") 231), (.str (Str.ofString "=0A") 235), (.str (Str.ofString "=0B") 239), (.str (Str.ofString "=0C") 243), (.str (Str.ofString "=0D") 247), (.str (Str.ofString "=0E") 251), (.str (Str.ofString "=0F") 255), (.str (Str.ofString "=10") 259), (.str (Str.ofString "=11") 263), (.str (Str.ofString "=12") 267), (.str (Str.ofString "=13") 271), (.str (Str.ofString "=14") 275), (.str (Str.ofString "=15") 279), (.str (Str.ofString "=16") 283), (.str (Str.ofString "=17") 287), (.str (Str.ofString "=18") 291), (.str (Str.ofString "=19") 295), (.str (Str.ofString "=1A") 299), (.str (Str.ofString "=1B") 303), (.str (Str.ofString "=1C") 307), (.str (Str.ofString "=1D") 311), (.str (Str.ofString "=1E") 315), (.str (Str.ofString "=1F") 319), (.str (Str.ofString "_") 1442), (.str (Str.ofString "!") 1246), (.str (Str.ofString "=22") 331), (.str (Str.ofString "=23") 335), (.str (Str.ofString "=24") 339), (.str (Str.ofString "=25") 343), (.str (Str.ofString "=26") 347), (.str (Str.ofString "=27") 351), (.str (Str.ofString "=28") 355), (.str (Str.ofString "=29") 359), (.str (Str.ofString "*") 1249), (.str (Str.ofString "+") 1252), (.str (Str.ofString "=2C") 371), (.str (Str.ofString "-") 1243), (.str (Str.ofString "=2E") 379), (.str (Str.ofString "/") 1255), (.str (Str.ofString "0") 1414), (.str (Str.ofString "1") 1417), (.str (Str.ofString "2") 1420), (.str (Str.ofString "3") 1423), (.str (Str.ofString "4") 1426), (.str (Str.ofString "5") 1429), (.str (Str.ofString "6") 1432), (.str (Str.ofString "7") 1435), (.str (Str.ofString "8") 1438), (.str (Str.ofString "9") 1441), (.str (Str.ofString "=3A") 427), (.str (Str.ofString "=3B") 431), (.str (Str.ofString "=3C") 435), (.str (Str.ofString "=3D") 439), (.str (Str.ofString "=3E") 443), (.str (Str.ofString "=3F") 447), (.str (Str.ofString "=40") 451), (.str (Str.ofString "A") 1336), (.str (Str.ofString "B") 1339), (.str (Str.ofString "C") 1342), (.str (Str.ofString "D") 1345), (.str (Str.ofString "E") 1348), (.str (Str.ofString "F") 1351), (.str (Str.ofString "G") 1354), (.str (Str.ofString "H") 1357), (.str (Str.ofString "I") 1360), (.str (Str.ofString "J") 1363), (.str (Str.ofString "K") 1366), (.str (Str.ofString "L") 1369), (.str (Str.ofString "M") 1372), (.str (Str.ofString "N") 1375), (.str (Str.ofString "O") 1378), (.str (Str.ofString "P") 1381), (.str (Str.ofString "Q") 1384), (.str (Str.ofString "R") 1387), (.str (Str.ofString "S") 1390), (.str (Str.ofString "T") 1393), (.str (Str.ofString "U") 1396), (.str (Str.ofString "V") 1399), (.str (Str.ofString "W") 1402), (.str (Str.ofString "X") 1405), (.str (Str.ofString "Y") 1408), (.str (Str.ofString "Z") 1411), (.str (Str.ofString "=5B") 559), (.str (Str.ofString "=5C") 563), (.str (Str.ofString "=5D") 567), (.str (Str.ofString "=5E") 571), (.str (Str.ofString "=5F") 575), (.str (Str.ofString "=60") 579), (.str (Str.ofString "a") 1258), (.str (Str.ofString "b") 1261), (.str (Str.ofString "c") 1264), (.str (Str.ofString "d") 1267), (.str (Str.ofString "e") 1270), (.str (Str.ofString "f") 1273), (.str (Str.ofString "g") 1276), (.str (Str.ofString "h") 1279), (.str (Str.ofString "i") 1282), (.str (Str.ofString "j") 1285), (.str (Str.ofString "k") 1288), (.str (Str.ofString "l") 1291), (.str (Str.ofString "m") 1294), (.str (Str.ofString "n") 1297), (.str (Str.ofString "o") 1300), (.str (Str.ofString "p") 1303), (.str (Str.ofString "q") 1306), (.str (Str.ofString "r") 1309), (.str (Str.ofString "s") 1312), (.str (Str.ofString "t") 1315), (.str (Str.ofString "u") 1318), (.str (Str.ofString "v") 1321), (.str (Str.ofString "w") 1324), (.str (Str.ofString "x") 1327), (.str (Str.ofString "y") 1330), (.str (Str.ofString "z") 1333), (.str (Str.ofString "=7B") 687), (.str (Str.ofString "=7C") 691), (.str (Str.ofString "=7D") 695), (.str (Str.ofString "=7E") 699), (.str (Str.ofString "=7F") 703), (.str (Str.ofString "=80") 707), (.str (Str.ofString "=81") 711), (.str (Str.ofString "=82") 715), (.str (Str.ofString "=83") 719), (.str (Str.ofString "=84") 723), (.str (Str.ofString "=85") 727), (.str (Str.ofString "=86") 731), (.str (Str.ofString "=87") 735), (.str (Str.ofString "=88") 739), (.str (Str.ofString "=89") 743), (.str (Str.ofString "=8A") 747), (.str (Str.ofString "=8B") 751), (.str (Str.ofString "=8C") 755), (.str (Str.ofString "=8D") 759), (.str (Str.ofString "=8E") 763), (.str (Str.ofString "=8F") 767), (.str (Str.ofString "=90") 771), (.str (Str.ofString "=91") 775), (.str (Str.ofString "=92") 779), (.str (Str.ofString "=93") 783), (.str (Str.ofString "=94") 787), (.str (Str.ofString "=95") 791), (.str (Str.ofString "=96") 795), (.str (Str.ofString "=97") 799), (.str (Str.ofString "=98") 803), (.str (Str.ofString "=99") 807), (.str (Str.ofString "=9A") 811), (.str (Str.ofString "=9B") 815), (.str (Str.ofString "=9C") 819), (.str (Str.ofString "=9D") 823), (.str (Str.ofString "=9E") 827), (.str (Str.ofString "=9F") 831), (.str (Str.ofString "=A0") 835), (.str (Str.ofString "=A1") 839), (.str (Str.ofString "=A2") 843), (.str (Str.ofString "=A3") 847), (.str (Str.ofString "=A4") 851), (.str (Str.ofString "=A5") 855), (.str (Str.ofString "=A6") 859), (.str (Str.ofString "=A7") 863), (.str (Str.ofString "=A8") 867), (.str (Str.ofString "=A9") 871), (.str (Str.ofString "=AA") 875), (.str (Str.ofString "=AB") 879), (.str (Str.ofString "=AC") 883), (.str (Str.ofString "=AD") 887), (.str (Str.ofString "=AE") 891), (.str (Str.ofString "=AF") 895), (.str (Str.ofString "=B0") 899), (.str (Str.ofString "=B1") 903), (.str (Str.ofString "=B2") 907), (.str (Str.ofString "=B3") 911), (.str (Str.ofString "=B4") 915), (.str (Str.ofString "=B5") 919), (.str (Str.ofString "=B6") 923), (.str (Str.ofString "=B7") 927), (.str (Str.ofString "=B8") 931), (.str (Str.ofString "=B9") 935), (.str (Str.ofString "=BA") 939), (.str (Str.ofString "=BB") 943), (.str (Str.ofString "=BC") 947), (.str (Str.ofString "=BD") 951), (.str (Str.ofString "=BE") 955), (.str (Str.ofString "=BF") 959), (.str (Str.ofString "=C0") 963), (.str (Str.ofString "=C1") 967), (.str (Str.ofString "=C2") 971), (.str (Str.ofString "=C3") 975), (.str (Str.ofString "=C4") 979), (.str (Str.ofString "=C5") 983), (.str (Str.ofString "=C6") 987), (.str (Str.ofString "=C7") 991), (.str (Str.ofString "=C8") 995), (.str (Str.ofString "=C9") 999), (.str (Str.ofString "=CA") 1003), (.str (Str.ofString "=CB") 1007), (.str (Str.ofString "=CC") 1011), (.str (Str.ofString "=CD") 1015), (.str (Str.ofString "=CE") 1019), (.str (Str.ofString "=CF") 1023), (.str (Str.ofString "=D0") 1027), (.str (Str.ofString "=D1") 1031), (.str (Str.ofString "=D2") 1035), (.str (Str.ofString "=D3") 1039), (.str (Str.ofString "=D4") 1043), (.str (Str.ofString "=D5") 1047), (.str (Str.ofString "=D6") 1051), (.str (Str.ofString "=D7") 1055), (.str (Str.ofString "=D8") 1059), (.str (Str.ofString "=D9") 1063), (.str (Str.ofString "=DA") 1067), (.str (Str.ofString "=DB") 1071), (.str (Str.ofString "=DC") 1075), (.str (Str.ofString "=DD") 1079), (.str (Str.ofString "=DE") 1083), (.str (Str.ofString "=DF") 1087), (.str (Str.ofString "=E0") 1091), (.str (Str.ofString "=E1") 1095), (.str (Str.ofString "=E2") 1099), (.str (Str.ofString "=E3") 1103), (.str (Str.ofString "=E4") 1107), (.str (Str.ofString "=E5") 1111), (.str (Str.ofString "=E6") 1115), (.str (Str.ofString "=E7") 1119), (.str (Str.ofString "=E8") 1123), (.str (Str.ofString "=E9") 1127), (.str (Str.ofString "=EA") 1131), (.str (Str.ofString "=EB") 1135), (.str (Str.ofString "=EC") 1139), (.str (Str.ofString "=ED") 1143), (.str (Str.ofString "=EE") 1147), (.str (Str.ofString "=EF") 1151), (.str (Str.ofString "=F0") 1155), (.str (Str.ofString "=F1") 1159), (.str (Str.ofString "=F2") 1163), (.str (Str.ofString "=F3") 1167), (.str (Str.ofString "=F4") 1171), (.str (Str.ofString "=F5") 1175), (.str (Str.ofString "=F6") 1179), (.str (Str.ofString "=F7") 1183), (.str (Str.ofString "=F8") 1187), (.str (Str.ofString "=F9") 1191), (.str (Str.ofString "=FA") 1195), (.str (Str.ofString "=FB") 1199), (.str (Str.ofString "=FC") 1203), (.str (Str.ofString "=FD") 1207), (.str (Str.ofString "=FE") 1211), (.str (Str.ofString "=FF") 1215)] 0), #[]⟩
noncomputable def o3_4 (P : Params) : Obj := ⟨(.type "dict"), none, (.dict #[⟨PyData.keyHash P (Str.ofString "__name__"), (.str (Str.ofString "__name__") 165), (.str (Str.ofString "cpy313.email.quoprimime") 1232)⟩,
   ⟨PyData.keyHash P (Str.ofString "__doc__"), (.str (Str.ofString "__doc__") 166), .none⟩,
   ⟨PyData.keyHash P (Str.ofString "__package__"), (.str (Str.ofString "__package__") 167), .none⟩,
   ⟨PyData.keyHash P (Str.ofString "__loader__"), (.str (Str.ofString "__loader__") 168), (.builtin "__main__.__loader__#opaque")⟩,
   ⟨PyData.keyHash P (Str.ofString "__spec__"), (.str (Str.ofString "__spec__") 169), .none⟩,
   ⟨PyData.keyHash P (Str.ofString "__annotations__"), (.str (Str.ofString "__annotations__") 170), (.ref 6)⟩,
   ⟨PyData.keyHash P (Str.ofString "__builtins__"), (.str (Str.ofString "__builtins__") 171), (.ref 4)⟩,
   ⟨PyData.keyHash P (Str.ofString "__file__"), (.str (Str.ofString "__file__") 173), (.str (Str.ofString "/claim/cut.py") 172)⟩,
   ⟨PyData.keyHash P (Str.ofString "__cached__"), (.str (Str.ofString "__cached__") 174), .none⟩,
   ⟨PyData.keyHash P (Str.ofString "NL"), (.str (Str.ofString "NL") 188), (.str (Str.ofString "\n") 187)⟩,
   ⟨PyData.keyHash P (Str.ofString "_QUOPRI_MAP"), (.str (Str.ofString "_QUOPRI_MAP") 1216), (.ref 17)⟩,
   ⟨PyData.keyHash P (Str.ofString "_QUOPRI_HEADER_MAP"), (.str (Str.ofString "_QUOPRI_HEADER_MAP") 1217), (.ref 22)⟩,
   ⟨PyData.keyHash P (Str.ofString "_QUOPRI_BODY_MAP"), (.str (Str.ofString "_QUOPRI_BODY_MAP") 1218), (.ref 24)⟩,
   ⟨PyData.keyHash P (Str.ofString "ascii_lowercase"), (.str (Str.ofString "ascii_lowercase") 1220), (.str (Str.ofString "abcdefghijklmnopqrstuvwxyz") 1219)⟩,
   ⟨PyData.keyHash P (Str.ofString "ascii_uppercase"), (.str (Str.ofString "ascii_uppercase") 1222), (.str (Str.ofString "ABCDEFGHIJKLMNOPQRSTUVWXYZ") 1221)⟩,
   ⟨PyData.keyHash P (Str.ofString "ascii_letters"), (.str (Str.ofString "ascii_letters") 1224), (.str (Str.ofString "abcdefghijklmnopqrstuvwxyzABCDEFGHIJKLMNOPQRSTUVWXYZ") 1223)⟩,
   ⟨PyData.keyHash P (Str.ofString "digits"), (.str (Str.ofString "digits") 1226), (.str (Str.ofString "0123456789") 1225)⟩,
   ⟨PyData.keyHash P (Str.ofString "hexdigits"), (.str (Str.ofString "hexdigits") 1231), (.str (Str.ofString "0123456789abcdefABCDEF") 1230)⟩,
   ⟨PyData.keyHash P (Str.ofString "c"), (.str (Str.ofString "c") 1242), (.int 9 1728)⟩] 19), #[]⟩
noncomputable def o24_1 (P : Params) : Obj := ⟨(.type "list"), none, (.seq ⟨upd 95 t24⟩ 0), #[]⟩
noncomputable def o28_0 (P : Params) : Obj := ⟨(.type "bytes_iterator"), none, (.fields #[.none, (.int 95 0)]), #[]⟩
noncomputable def o29_0 (P : Params) : Obj := ⟨(.type "tuple"), none, (.seq #[] 0), #[]⟩
noncomputable def o30_0 (P : Params) : Obj := ⟨(.type "StopIteration"), none, (.fields #[(.ref 29), .none, .none, .none, (.bool false), .none]), #[]⟩
noncomputable def o3_5 (P : Params) : Obj := ⟨(.type "dict"), none, (.dict #[⟨PyData.keyHash P (Str.ofString "__name__"), (.str (Str.ofString "__name__") 165), (.str (Str.ofString "cpy313.email.quoprimime") 1232)⟩,
   ⟨PyData.keyHash P (Str.ofString "__doc__"), (.str (Str.ofString "__doc__") 166), .none⟩,
   ⟨PyData.keyHash P (Str.ofString "__package__"), (.str (Str.ofString "__package__") 167), .none⟩,
   ⟨PyData.keyHash P (Str.ofString "__loader__"), (.str (Str.ofString "__loader__") 168), (.builtin "__main__.__loader__#opaque")⟩,
   ⟨PyData.keyHash P (Str.ofString "__spec__"), (.str (Str.ofString "__spec__") 169), .none⟩,
   ⟨PyData.keyHash P (Str.ofString "__annotations__"), (.str (Str.ofString "__annotations__") 170), (.ref 6)⟩,
   ⟨PyData.keyHash P (Str.ofString "__builtins__"), (.str (Str.ofString "__builtins__") 171), (.ref 4)⟩,
   ⟨PyData.keyHash P (Str.ofString "__file__"), (.str (Str.ofString "__file__") 173), (.str (Str.ofString "/claim/cut.py") 172)⟩,
   ⟨PyData.keyHash P (Str.ofString "__cached__"), (.str (Str.ofString "__cached__") 174), .none⟩,
   ⟨PyData.keyHash P (Str.ofString "NL"), (.str (Str.ofString "NL") 188), (.str (Str.ofString "\n") 187)⟩,
   ⟨PyData.keyHash P (Str.ofString "_QUOPRI_MAP"), (.str (Str.ofString "_QUOPRI_MAP") 1216), (.ref 17)⟩,
   ⟨PyData.keyHash P (Str.ofString "_QUOPRI_HEADER_MAP"), (.str (Str.ofString "_QUOPRI_HEADER_MAP") 1217), (.ref 22)⟩,
   ⟨PyData.keyHash P (Str.ofString "_QUOPRI_BODY_MAP"), (.str (Str.ofString "_QUOPRI_BODY_MAP") 1218), (.ref 24)⟩,
   ⟨PyData.keyHash P (Str.ofString "ascii_lowercase"), (.str (Str.ofString "ascii_lowercase") 1220), (.str (Str.ofString "abcdefghijklmnopqrstuvwxyz") 1219)⟩,
   ⟨PyData.keyHash P (Str.ofString "ascii_uppercase"), (.str (Str.ofString "ascii_uppercase") 1222), (.str (Str.ofString "ABCDEFGHIJKLMNOPQRSTUVWXYZ") 1221)⟩,
   ⟨PyData.keyHash P (Str.ofString "ascii_letters"), (.str (Str.ofString "ascii_letters") 1224), (.str (Str.ofString "abcdefghijklmnopqrstuvwxyzABCDEFGHIJKLMNOPQRSTUVWXYZ") 1223)⟩,
   ⟨PyData.keyHash P (Str.ofString "digits"), (.str (Str.ofString "digits") 1226), (.str (Str.ofString "0123456789") 1225)⟩,
   ⟨PyData.keyHash P (Str.ofString "hexdigits"), (.str (Str.ofString "hexdigits") 1231), (.str (Str.ofString "0123456789abcdefABCDEF") 1230)⟩,
   ⟨PyData.keyHash P (Str.ofString "unquote"), (.str (Str.ofString "unquote") 1737), (.ref 37)⟩,
   ⟨PyData.keyHash P (Str.ofString "quote"), (.str (Str.ofString "quote") 1744), (.ref 44)⟩,
   ⟨PyData.keyHash P (Str.ofString "header_encode"), (.str (Str.ofString "header_encode") 1754), (.ref 52)⟩,
   ⟨PyData.keyHash P (Str.ofString "_QUOPRI_BODY_ENCODE_MAP"), (.str (Str.ofString "_QUOPRI_BODY_ENCODE_MAP") 1755), (.ref 54)⟩] 24), #[]⟩
noncomputable def o12_1 (P : Params) : Obj := ⟨.none, none, (.fields #[(.int 16 0), (.int 0 0), (.ref 36), (.int 18 0), (.int 0 0), (.ref 43), (.int 20 0), (.int 0 0), (.ref 51)]), #[]⟩
noncomputable def o31_0 (P : Params) : Obj := ⟨(.type "tuple"), none, (.seq #[] 0), #[]⟩
noncomputable def o32_0 (P : Params) : Obj := ⟨.none, none, (.fields #[]), #[]⟩
noncomputable def o33_0 (P : Params) : Obj := ⟨(.type "tuple"), none, (.seq #[(.str (Str.ofString "s") 1734)] 0), #[]⟩
noncomputable def o34_0 (P : Params) : Obj := ⟨(.type "tuple"), none, (.seq #[] 0), #[]⟩
noncomputable def o35_0 (P : Params) : Obj := ⟨.none, none, (.func { name := (Str.ofString "unquote"), qualname := (Str.ofString "unquote"), params := fdA 13, body := .stmts (fdB 13), scope := fdS 13, globals := 0, closure := [], defaults := .none, kwdefaults := .none, doc := .none, pyModule := .none, annotations := none, code := .none, closureTuple := .none, builtins := 0 }), #[]⟩
noncomputable def o36_0 (P : Params) : Obj := ⟨(.type "code"), none, (.fields #[(.str (Str.ofString "unquote") 1731), (.str (Str.ofString "unquote") 1732), (.str (Str.ofString "/claim/cut.py") 1733), (.int 16 0), (.int 1 0), (.int 0 0), (.int 0 0), (.int 3 0), (.ref 31), (.bool true), (.int 181 0), (.ref 32), .none, (.ref 33), (.ref 34), (.ref 35), (.int 1735 0), (.int 16 0), (.str (Str.ofString "/claim/cut.py") 1736)]), #[]⟩
noncomputable def o37_0 (P : Params) : Obj := ⟨(.type "function"), none, (.func { name := (Str.ofString "unquote"), qualname := (Str.ofString "unquote"), params := fdA 13, body := .stmts (fdB 13), scope := fdS 13, globals := 3, closure := [], defaults := .none, kwdefaults := .none, doc := .none, pyModule := (.str (Str.ofString "cpy313.email.quoprimime") 1232), annotations := none, code := (.ref 36), closureTuple := .none, builtins := 0 }), #[]⟩
noncomputable def o38_0 (P : Params) : Obj := ⟨(.type "tuple"), none, (.seq #[] 0), #[]⟩
noncomputable def o39_0 (P : Params) : Obj := ⟨.none, none, (.fields #[]), #[]⟩
noncomputable def o40_0 (P : Params) : Obj := ⟨(.type "tuple"), none, (.seq #[(.str (Str.ofString "c") 1741)] 0), #[]⟩
noncomputable def o41_0 (P : Params) : Obj := ⟨(.type "tuple"), none, (.seq #[] 0), #[]⟩
noncomputable def o42_0 (P : Params) : Obj := ⟨.none, none, (.func { name := (Str.ofString "quote"), qualname := (Str.ofString "quote"), params := fdA 14, body := .stmts (fdB 14), scope := fdS 14, globals := 0, closure := [], defaults := .none, kwdefaults := .none, doc := .none, pyModule := .none, annotations := none, code := .none, closureTuple := .none, builtins := 0 }), #[]⟩
noncomputable def o43_0 (P : Params) : Obj := ⟨(.type "code"), none, (.fields #[(.str (Str.ofString "quote") 1738), (.str (Str.ofString "quote") 1739), (.str (Str.ofString "/claim/cut.py") 1740), (.int 18 0), (.int 1 0), (.int 0 0), (.int 0 0), (.int 3 0), (.ref 38), (.bool true), (.int 181 0), (.ref 39), .none, (.ref 40), (.ref 41), (.ref 42), (.int 1742 0), (.int 18 0), (.str (Str.ofString "/claim/cut.py") 1743)]), #[]⟩
noncomputable def o44_0 (P : Params) : Obj := ⟨(.type "function"), none, (.func { name := (Str.ofString "quote"), qualname := (Str.ofString "quote"), params := fdA 14, body := .stmts (fdB 14), scope := fdS 14, globals := 3, closure := [], defaults := .none, kwdefaults := .none, doc := .none, pyModule := (.str (Str.ofString "cpy313.email.quoprimime") 1232), annotations := none, code := (.ref 43), closureTuple := .none, builtins := 0 }), #[]⟩
noncomputable def o45_0 (P : Params) : Obj := ⟨(.type "tuple"), none, (.seq #[(.str (Str.ofString "iso-8859-1") 1745)] 0), #[]⟩
noncomputable def o46_0 (P : Params) : Obj := ⟨(.type "tuple"), none, (.seq #[] 0), #[]⟩
noncomputable def o47_0 (P : Params) : Obj := ⟨.none, none, (.fields #[]), #[]⟩
noncomputable def o48_0 (P : Params) : Obj := ⟨(.type "tuple"), none, (.seq #[(.str (Str.ofString "header_bytes") 1749), (.str (Str.ofString "charset") 1750), (.str (Str.ofString "encoded") 1751)] 0), #[]⟩
noncomputable def o49_0 (P : Params) : Obj := ⟨(.type "tuple"), none, (.seq #[] 0), #[]⟩
noncomputable def o50_0 (P : Params) : Obj := ⟨.none, none, (.func { name := (Str.ofString "header_encode"), qualname := (Str.ofString "header_encode"), params := fdA 15, body := .stmts (fdB 15), scope := fdS 15, globals := 0, closure := [], defaults := .none, kwdefaults := .none, doc := .none, pyModule := .none, annotations := none, code := .none, closureTuple := .none, builtins := 0 }), #[]⟩
noncomputable def o51_0 (P : Params) : Obj := ⟨(.type "code"), none, (.fields #[(.str (Str.ofString "header_encode") 1746), (.str (Str.ofString "header_encode") 1747), (.str (Str.ofString "/claim/cut.py") 1748), (.int 20 0), (.int 2 0), (.int 0 0), (.int 0 0), (.int 3 0), (.ref 46), (.bool true), (.int 181 0), (.ref 47), .none, (.ref 48), (.ref 49), (.ref 50), (.int 1752 0), (.int 20 0), (.str (Str.ofString "/claim/cut.py") 1753)]), #[]⟩
noncomputable def o52_0 (P : Params) : Obj := ⟨(.type "function"), none, (.func { name := (Str.ofString "header_encode"), qualname := (Str.ofString "header_encode"), params := fdA 15, body := .stmts (fdB 15), scope := fdS 15, globals := 3, closure := [], defaults := (.ref 45), kwdefaults := .none, doc := .none, pyModule := (.str (Str.ofString "cpy313.email.quoprimime") 1232), annotations := none, code := (.ref 51), closureTuple := .none, builtins := 0 }), #[]⟩
noncomputable def o53_0 (P : Params) : Obj := ⟨(.type "slice"), none, (.fields #[.none, .none, .none]), #[]⟩
noncomputable def o54_0 (P : Params) : Obj := ⟨(.type "list"), none, (.seq #[(.str (Str.ofString "=00") 195), (.str (Str.ofString "=01") 199), (.str (Str.ofString "=02") 203), (.str (Str.ofString "=03") 207), (.str (Str.ofString "=04") 211), (.str (Str.ofString "=05") 215), (.str (Str.ofString "=06") 219), (.str (Str.ofString "=07") 223), (.str (Str.ofString "=08") 227), (.str (Str.ofString "\t") 1730), (.str (Str.ofString "\n") 1762), (.str (Str.ofString "=0B") 239), (.str (Str.ofString "=0C") 243), (.str (Str.ofString "\x0d") 1759), (.str (Str.ofString "=0E") 251), (.str (Str.ofString "=0F") 255), (.str (Str.ofString "=10") 259), (.str (Str.ofString "=11") 263), (.str (Str.ofString "=12") 267), (.str (Str.ofString "=13") 271), (.str (Str.ofString "=14") 275), (.str (Str.ofString "=15") 279), (.str (Str.ofString "=16") 283), (.str (Str.ofString "=17") 287), (.str (Str.ofString "=18") 291), (.str (Str.ofString "=19") 295), (.str (Str.ofString "=1A") 299), (.str (Str.ofString "=1B") 303), (.str (Str.ofString "=1C") 307), (.str (Str.ofString "=1D") 311), (.str (Str.ofString "=1E") 315), (.str (Str.ofString "=1F") 319), (.str (Str.ofString " ") 1448), (.str (Str.ofString "!") 1451), (.str (Str.ofString "\"") 1454), (.str (Str.ofString "#") 1457), (.str (Str.ofString "$") 1460), (.str (Str.ofString "%") 1463), (.str (Str.ofString "&") 1466), (.str (Str.ofString "'") 1469), (.str (Str.ofString "(") 1472), (.str (Str.ofString ")") 1475), (.str (Str.ofString "*") 1478), (.str (Str.ofString "+") 1481), (.str (Str.ofString ",") 1484), (.str (Str.ofString "-") 1487), (.str (Str.ofString ".") 1490), (.str (Str.ofString "/") 1493), (.str (Str.ofString "0") 1496), (.str (Str.ofString "1") 1499), (.str (Str.ofString "2") 1502), (.str (Str.ofString "3") 1505), (.str (Str.ofString "4") 1508), (.str (Str.ofString "5") 1511), (.str (Str.ofString "6") 1514), (.str (Str.ofString "7") 1517), (.str (Str.ofString "8") 1520), (.str (Str.ofString "9") 1523), (.str (Str.ofString ":") 1526), (.str (Str.ofString ";") 1529), (.str (Str.ofString "<") 1532), (.str (Str.ofString "=3D") 439), (.str (Str.ofString ">") 1535), (.str (Str.ofString "?") 1538), (.str (Str.ofString "@") 1541), (.str (Str.ofString "A") 1544), (.str (Str.ofString "B") 1547), (.str (Str.ofString "C") 1550), (.str (Str.ofString "D") 1553), (.str (Str.ofString "E") 1556), (.str (Str.ofString "F") 1559), (.str (Str.ofString "G") 1562), (.str (Str.ofString "H") 1565), (.str (Str.ofString "I") 1568), (.str (Str.ofString "J") 1571), (.str (Str.ofString "K") 1574), (.str (Str.ofString "L") 1577), (.str (Str.ofString "M") 1580), (.str (Str.ofString "N") 1583), (.str (Str.ofString "O") 1586), (.str (Str.ofString "P") 1589), (.str (Str.ofString "Q") 1592), (.str (Str.ofString "R") 1595), (.str (Str.ofString "S") 1598), (.str (Str.ofString "T") 1601), (.str (Str.ofString "U") 1604), (.str (Str.ofString "V") 1607), (.str (Str.ofString "W") 1610), (.str (Str.ofString "X") 1613), (.str (Str.ofString "Y") 1616), (.str (Str.ofString "Z") 1619), (.str (Str.ofString "[") 1622), (.str (Str.ofString "\\") 1625), (.str (Str.ofString "]") 1628), (.str (Str.ofString "^") 1631), (.str (Str.ofString "_") 1634), (.str (Str.ofString "`") 1637), (.str (Str.ofString "a") 1640), (.str (Str.ofString "b") 1643), (.str (Str.ofString "c") 1646), (.str (Str.ofString "d") 1649), (.str (Str.ofString "e") 1652), (.str (Str.ofString "f") 1655), (.str (Str.ofString "g") 1658), (.str (Str.ofString "h") 1661), (.str (Str.ofString "i") 1664), (.str (Str.ofString "j") 1667), (.str (Str.ofString "k") 1670), (.str (Str.ofString "l") 1673), (.str (Str.ofString "m") 1676), (.str (Str.ofString "n") 1679), (.str (Str.ofString "o") 1682), (.str (Str.ofString "p") 1685), (.str (Str.ofString "q") 1688), (.str (Str.ofString "r") 1691), (.str (Str.ofString "s") 1694), (.str (Str.ofString "t") 1697), (.str (Str.ofString "u") 1700), (.str (Str.ofString "v") 1703), (.str (Str.ofString "w") 1706), (.str (Str.ofString "x") 1709), (.str (Str.ofString "y") 1712), (.str (Str.ofString "z") 1715), (.str (Str.ofString "{") 1718), (.str (Str.ofString "|") 1721), (.str (Str.ofString "}") 1724), (.str (Str.ofString "~") 1727), (.str (Str.ofString "=7F") 703), (.str (Str.ofString "=80") 707), (.str (Str.ofString "=81") 711), (.str (Str.ofString "=82") 715), (.str (Str.ofString "=83") 719), (.str (Str.ofString "=84") 723), (.str (Str.ofString "=85") 727), (.str (Str.ofString "=86") 731), (.str (Str.ofString "=87") 735), (.str (Str.ofString "=88") 739), (.str (Str.ofString "=89") 743), (.str (Str.ofString "=8A") 747), (.str (Str.ofString "=8B") 751), (.str (Str.ofString "=8C") 755), (.str (Str.ofString "=8D") 759), (.str (Str.ofString "=8E") 763), (.str (Str.ofString "=8F") 767), (.str (Str.ofString "=90") 771), (.str (Str.ofString "=91") 775), (.str (Str.ofString "=92") 779), (.str (Str.ofString "=93") 783), (.str (Str.ofString "=94") 787), (.str (Str.ofString "=95") 791), (.str (Str.ofString "=96") 795), (.str (Str.ofString "=97") 799), (.str (Str.ofString "=98") 803), (.str (Str.ofString "=99") 807), (.str (Str.ofString "=9A") 811), (.str (Str.ofString "=9B") 815), (.str (Str.ofString "=9C") 819), (.str (Str.ofString "=9D") 823), (.str (Str.ofString "=9E") 827), (.str (Str.ofString "=9F") 831), (.str (Str.ofString "=A0") 835), (.str (Str.ofString "=A1") 839), (.str (Str.ofString "=A2") 843), (.str (Str.ofString "=A3") 847), (.str (Str.ofString "=A4") 851), (.str (Str.ofString "=A5") 855), (.str (Str.ofString "=A6") 859), (.str (Str.ofString "=A7") 863), (.str (Str.ofString "=A8") 867), (.str (Str.ofString "=A9") 871), (.str (Str.ofString "=AA") 875), (.str (Str.ofString "=AB") 879), (.str (Str.ofString "=AC") 883), (.str (Str.ofString "=AD") 887), (.str (Str.ofString "=AE") 891), (.str (Str.ofString "=AF") 895), (.str (Str.ofString "=B0") 899), (.str (Str.ofString "=B1") 903), (.str (Str.ofString "=B2") 907), (.str (Str.ofString "=B3") 911), (.str (Str.ofString "=B4") 915), (.str (Str.ofString "=B5") 919), (.str (Str.ofString "=B6") 923), (.str (Str.ofString "=B7") 927), (.str (Str.ofString "=B8") 931), (.str (Str.ofString "=B9") 935), (.str (Str.ofString "=BA") 939), (.str (Str.ofString "=BB") 943), (.str (Str.ofString "=BC") 947), (.str (Str.ofString "=BD") 951), (.str (Str.ofString "=BE") 955), (.str (Str.ofString "=BF") 959), (.str (Str.ofString "=C0") 963), (.str (Str.ofString "=C1") 967), (.str (Str.ofString "=C2") 971), (.str (Str.ofString "=C3") 975), (.str (Str.ofString "=C4") 979), (.str (Str.ofString "=C5") 983), (.str (Str.ofString "=C6") 987), (.str (Str.ofString "=C7") 991), (.str (Str.ofString "=C8") 995), (.str (Str.ofString "=C9") 999), (.str (Str.ofString "=CA") 1003), (.str (Str.ofString "=CB") 1007), (.str (Str.ofString "=CC") 1011), (.str (Str.ofString "=CD") 1015), (.str (Str.ofString "=CE") 1019), (.str (Str.ofString "=CF") 1023), (.str (Str.ofString "=D0") 1027), (.str (Str.ofString "=D1") 1031), (.str (Str.ofString "=D2") 1035), (.str (Str.ofString "=D3") 1039), (.str (Str.ofString "=D4") 1043), (.str (Str.ofString "=D5") 1047), (.str (Str.ofString "=D6") 1051), (.str (Str.ofString "=D7") 1055), (.str (Str.ofString "=D8") 1059), (.str (Str.ofString "=D9") 1063), (.str (Str.ofString "=DA") 1067), (.str (Str.ofString "=DB") 1071), (.str (Str.ofString "=DC") 1075), (.str (Str.ofString "=DD") 1079), (.str (Str.ofString "=DE") 1083), (.str (Str.ofString "=DF") 1087), (.str (Str.ofString "=E0") 1091), (.str (Str.ofString "=E1") 1095), (.str (Str.ofString "=E2") 1099), (.str (Str.ofString "=E3") 1103), (.str (Str.ofString "=E4") 1107), (.str (Str.ofString "=E5") 1111), (.str (Str.ofString "=E6") 1115), (.str (Str.ofString "=E7") 1119), (.str (Str.ofString "=E8") 1123), (.str (Str.ofString "=E9") 1127), (.str (Str.ofString "=EA") 1131), (.str (Str.ofString "=EB") 1135), (.str (Str.ofString "=EC") 1139), (.str (Str.ofString "=ED") 1143), (.str (Str.ofString "=EE") 1147), (.str (Str.ofString "=EF") 1151), (.str (Str.ofString "=F0") 1155), (.str (Str.ofString "=F1") 1159), (.str (Str.ofString "=F2") 1163), (.str (Str.ofString "=F3") 1167), (.str (Str.ofString "=F4") 1171), (.str (Str.ofString "=F5") 1175), (.str (Str.ofString "=F6") 1179), (.str (Str.ofString "=F7") 1183), (.str (Str.ofString "=F8") 1187), (.str (Str.ofString "=F9") 1191), (.str (Str.ofString "=FA") 1195), (.str (Str.ofString "=FB") 1199), (.str (Str.ofString "=FC") 1203), (.str (Str.ofString "=FD") 1207), (.str (Str.ofString "=FE") 1211), (.str (Str.ofString "=FF") 1215)] 0), #[]⟩
noncomputable def o55_0 (P : Params) : Obj := ⟨(.type "bytes_iterator"), none, (.fields #[.none, (.int 2 0)]), #[]⟩
noncomputable def o56_0 (P : Params) : Obj := ⟨(.type "tuple"), none, (.seq #[] 0), #[]⟩
noncomputable def o57_0 (P : Params) : Obj := ⟨(.type "StopIteration"), none, (.fields #[(.ref 56), .none, .none, .none, (.bool false), .none]), #[]⟩
noncomputable def o3_6 (P : Params) : Obj := ⟨(.type "dict"), none, (.dict #[⟨PyData.keyHash P (Str.ofString "__name__"), (.str (Str.ofString "__name__") 165), (.str (Str.ofString "cpy313.operator") 1776)⟩,
   ⟨PyData.keyHash P (Str.ofString "__doc__"), (.str (Str.ofString "__doc__") 166), .none⟩,
   ⟨PyData.keyHash P (Str.ofString "__package__"), (.str (Str.ofString "__package__") 167), .none⟩,
   ⟨PyData.keyHash P (Str.ofString "__loader__"), (.str (Str.ofString "__loader__") 168), (.builtin "__main__.__loader__#opaque")⟩,
   ⟨PyData.keyHash P (Str.ofString "__spec__"), (.str (Str.ofString "__spec__") 169), .none⟩,
   ⟨PyData.keyHash P (Str.ofString "__annotations__"), (.str (Str.ofString "__annotations__") 170), (.ref 6)⟩,
   ⟨PyData.keyHash P (Str.ofString "__builtins__"), (.str (Str.ofString "__builtins__") 171), (.ref 4)⟩,
   ⟨PyData.keyHash P (Str.ofString "__file__"), (.str (Str.ofString "__file__") 173), (.str (Str.ofString "/claim/cut.py") 172)⟩,
   ⟨PyData.keyHash P (Str.ofString "__cached__"), (.str (Str.ofString "__cached__") 174), .none⟩,
   ⟨PyData.keyHash P (Str.ofString "NL"), (.str (Str.ofString "NL") 188), (.str (Str.ofString "\n") 187)⟩,
   ⟨PyData.keyHash P (Str.ofString "_QUOPRI_MAP"), (.str (Str.ofString "_QUOPRI_MAP") 1216), (.ref 17)⟩,
   ⟨PyData.keyHash P (Str.ofString "_QUOPRI_HEADER_MAP"), (.str (Str.ofString "_QUOPRI_HEADER_MAP") 1217), (.ref 22)⟩,
   ⟨PyData.keyHash P (Str.ofString "_QUOPRI_BODY_MAP"), (.str (Str.ofString "_QUOPRI_BODY_MAP") 1218), (.ref 24)⟩,
   ⟨PyData.keyHash P (Str.ofString "ascii_lowercase"), (.str (Str.ofString "ascii_lowercase") 1220), (.str (Str.ofString "abcdefghijklmnopqrstuvwxyz") 1219)⟩,
   ⟨PyData.keyHash P (Str.ofString "ascii_uppercase"), (.str (Str.ofString "ascii_uppercase") 1222), (.str (Str.ofString "ABCDEFGHIJKLMNOPQRSTUVWXYZ") 1221)⟩,
   ⟨PyData.keyHash P (Str.ofString "ascii_letters"), (.str (Str.ofString "ascii_letters") 1224), (.str (Str.ofString "abcdefghijklmnopqrstuvwxyzABCDEFGHIJKLMNOPQRSTUVWXYZ") 1223)⟩,
   ⟨PyData.keyHash P (Str.ofString "digits"), (.str (Str.ofString "digits") 1226), (.str (Str.ofString "0123456789") 1225)⟩,
   ⟨PyData.keyHash P (Str.ofString "hexdigits"), (.str (Str.ofString "hexdigits") 1231), (.str (Str.ofString "0123456789abcdefABCDEF") 1230)⟩,
   ⟨PyData.keyHash P (Str.ofString "unquote"), (.str (Str.ofString "unquote") 1737), (.ref 37)⟩,
   ⟨PyData.keyHash P (Str.ofString "quote"), (.str (Str.ofString "quote") 1744), (.ref 44)⟩,
   ⟨PyData.keyHash P (Str.ofString "header_encode"), (.str (Str.ofString "header_encode") 1754), (.ref 52)⟩,
   ⟨PyData.keyHash P (Str.ofString "_QUOPRI_BODY_ENCODE_MAP"), (.str (Str.ofString "_QUOPRI_BODY_ENCODE_MAP") 1755), (.ref 54)⟩,
   ⟨PyData.keyHash P (Str.ofString "decode"), (.str (Str.ofString "decode") 1775), (.ref 65)⟩,
   ⟨PyData.keyHash P (Str.ofString "eq"), (.str (Str.ofString "eq") 1785), (.ref 72)⟩,
   ⟨PyData.keyHash P (Str.ofString "ne"), (.str (Str.ofString "ne") 1793), (.ref 79)⟩,
   ⟨PyData.keyHash P (Str.ofString "floordiv"), (.str (Str.ofString "floordiv") 1801), (.ref 86)⟩,
   ⟨PyData.keyHash P (Str.ofString "mod"), (.str (Str.ofString "mod") 1809), (.ref 93)⟩,
   ⟨PyData.keyHash P (Str.ofString "mul"), (.str (Str.ofString "mul") 1817), (.ref 100)⟩,
   ⟨PyData.keyHash P (Str.ofString "xor"), (.str (Str.ofString "xor") 1825), (.ref 107)⟩,
   ⟨PyData.keyHash P (Str.ofString "concat"), (.str (Str.ofString "concat") 1834), (.ref 114)⟩] 32), #[]⟩
noncomputable def o12_2 (P : Params) : Obj := ⟨.none, none, (.fields #[(.int 16 0), (.int 0 0), (.ref 36), (.int 18 0), (.int 0 0), (.ref 43), (.int 20 0), (.int 0 0), (.ref 51), (.int 29 0), (.int 0 0), (.ref 64), (.int 60 0), (.int 0 0), (.ref 71), (.int 62 0), (.int 0 0), (.ref 78), (.int 64 0), (.int 0 0), (.ref 85), (.int 66 0), (.int 0 0), (.ref 92), (.int 68 0), (.int 0 0), (.ref 99), (.int 70 0), (.int 0 0), (.ref 106), (.int 72 0), (.int 0 0), (.ref 113)]), #[]⟩
noncomputable def o58_0 (P : Params) : Obj := ⟨(.type "tuple"), none, (.seq #[(.str (Str.ofString "\n") 187)] 0), #[]⟩
noncomputable def o59_0 (P : Params) : Obj := ⟨(.type "tuple"), none, (.seq #[] 0), #[]⟩
noncomputable def o60_0 (P : Params) : Obj := ⟨.none, none, (.fields #[]), #[]⟩
noncomputable def o61_0 (P : Params) : Obj := ⟨(.type "tuple"), none, (.seq #[(.str (Str.ofString "encoded") 1766), (.str (Str.ofString "eol") 1767), (.str (Str.ofString "decoded") 1768), (.str (Str.ofString "line") 1769), (.str (Str.ofString "i") 1770), (.str (Str.ofString "n") 1771), (.str (Str.ofString "c") 1772)] 0), #[]⟩
noncomputable def o62_0 (P : Params) : Obj := ⟨(.type "tuple"), none, (.seq #[] 0), #[]⟩
noncomputable def o63_0 (P : Params) : Obj := ⟨.none, none, (.func { name := (Str.ofString "decode"), qualname := (Str.ofString "decode"), params := fdA 19, body := .stmts (fdB 19), scope := fdS 19, globals := 0, closure := [], defaults := .none, kwdefaults := .none, doc := .none, pyModule := .none, annotations := none, code := .none, closureTuple := .none, builtins := 0 }), #[]⟩
noncomputable def o64_0 (P : Params) : Obj := ⟨(.type "code"), none, (.fields #[(.str (Str.ofString "decode") 1763), (.str (Str.ofString "decode") 1764), (.str (Str.ofString "/claim/cut.py") 1765), (.int 29 0), (.int 2 0), (.int 0 0), (.int 0 0), (.int 3 0), (.ref 59), (.bool true), (.int 181 0), (.ref 60), .none, (.ref 61), (.ref 62), (.ref 63), (.int 1773 0), (.int 29 0), (.str (Str.ofString "/claim/cut.py") 1774)]), #[]⟩
noncomputable def o65_0 (P : Params) : Obj := ⟨(.type "function"), none, (.func { name := (Str.ofString "decode"), qualname := (Str.ofString "decode"), params := fdA 19, body := .stmts (fdB 19), scope := fdS 19, globals := 3, closure := [], defaults := (.ref 58), kwdefaults := .none, doc := .none, pyModule := (.str (Str.ofString "cpy313.email.quoprimime") 1232), annotations := none, code := (.ref 64), closureTuple := .none, builtins := 0 }), #[]⟩
noncomputable def o66_0 (P : Params) : Obj := ⟨(.type "tuple"), none, (.seq #[] 0), #[]⟩
noncomputable def o67_0 (P : Params) : Obj := ⟨.none, none, (.fields #[]), #[]⟩
noncomputable def o68_0 (P : Params) : Obj := ⟨(.type "tuple"), none, (.seq #[(.str (Str.ofString "a") 1781), (.str (Str.ofString "b") 1782)] 0), #[]⟩
noncomputable def o69_0 (P : Params) : Obj := ⟨(.type "tuple"), none, (.seq #[] 0), #[]⟩
noncomputable def o70_0 (P : Params) : Obj := ⟨.none, none, (.func { name := (Str.ofString "eq"), qualname := (Str.ofString "eq"), params := fdA 21, body := .stmts (fdB 21), scope := fdS 21, globals := 0, closure := [], defaults := .none, kwdefaults := .none, doc := .none, pyModule := .none, annotations := none, code := .none, closureTuple := .none, builtins := 0 }), #[]⟩
noncomputable def o71_0 (P : Params) : Obj := ⟨(.type "code"), none, (.fields #[(.str (Str.ofString "eq") 1778), (.str (Str.ofString "eq") 1779), (.str (Str.ofString "/claim/cut.py") 1780), (.int 60 0), (.int 2 0), (.int 0 0), (.int 0 0), (.int 3 0), (.ref 66), (.bool true), (.int 181 0), (.ref 67), .none, (.ref 68), (.ref 69), (.ref 70), (.int 1783 0), (.int 60 0), (.str (Str.ofString "/claim/cut.py") 1784)]), #[]⟩
noncomputable def o72_0 (P : Params) : Obj := ⟨(.type "function"), none, (.func { name := (Str.ofString "eq"), qualname := (Str.ofString "eq"), params := fdA 21, body := .stmts (fdB 21), scope := fdS 21, globals := 3, closure := [], defaults := .none, kwdefaults := .none, doc := .none, pyModule := (.str (Str.ofString "cpy313.operator") 1776), annotations := none, code := (.ref 71), closureTuple := .none, builtins := 0 }), #[]⟩
noncomputable def o73_0 (P : Params) : Obj := ⟨(.type "tuple"), none, (.seq #[] 0), #[]⟩
noncomputable def o74_0 (P : Params) : Obj := ⟨.none, none, (.fields #[]), #[]⟩
noncomputable def o75_0 (P : Params) : Obj := ⟨(.type "tuple"), none, (.seq #[(.str (Str.ofString "a") 1789), (.str (Str.ofString "b") 1790)] 0), #[]⟩
noncomputable def o76_0 (P : Params) : Obj := ⟨(.type "tuple"), none, (.seq #[] 0), #[]⟩
noncomputable def o77_0 (P : Params) : Obj := ⟨.none, none, (.func { name := (Str.ofString "ne"), qualname := (Str.ofString "ne"), params := fdA 22, body := .stmts (fdB 22), scope := fdS 22, globals := 0, closure := [], defaults := .none, kwdefaults := .none, doc := .none, pyModule := .none, annotations := none, code := .none, closureTuple := .none, builtins := 0 }), #[]⟩
noncomputable def o78_0 (P : Params) : Obj := ⟨(.type "code"), none, (.fields #[(.str (Str.ofString "ne") 1786), (.str (Str.ofString "ne") 1787), (.str (Str.ofString "/claim/cut.py") 1788), (.int 62 0), (.int 2 0), (.int 0 0), (.int 0 0), (.int 3 0), (.ref 73), (.bool true), (.int 181 0), (.ref 74), .none, (.ref 75), (.ref 76), (.ref 77), (.int 1791 0), (.int 62 0), (.str (Str.ofString "/claim/cut.py") 1792)]), #[]⟩
noncomputable def o79_0 (P : Params) : Obj := ⟨(.type "function"), none, (.func { name := (Str.ofString "ne"), qualname := (Str.ofString "ne"), params := fdA 22, body := .stmts (fdB 22), scope := fdS 22, globals := 3, closure := [], defaults := .none, kwdefaults := .none, doc := .none, pyModule := (.str (Str.ofString "cpy313.operator") 1776), annotations := none, code := (.ref 78), closureTuple := .none, builtins := 0 }), #[]⟩
noncomputable def o80_0 (P : Params) : Obj := ⟨(.type "tuple"), none, (.seq #[] 0), #[]⟩
noncomputable def o81_0 (P : Params) : Obj := ⟨.none, none, (.fields #[]), #[]⟩
noncomputable def o82_0 (P : Params) : Obj := ⟨(.type "tuple"), none, (.seq #[(.str (Str.ofString "a") 1797), (.str (Str.ofString "b") 1798)] 0), #[]⟩
noncomputable def o83_0 (P : Params) : Obj := ⟨(.type "tuple"), none, (.seq #[] 0), #[]⟩
noncomputable def o84_0 (P : Params) : Obj := ⟨.none, none, (.func { name := (Str.ofString "floordiv"), qualname := (Str.ofString "floordiv"), params := fdA 23, body := .stmts (fdB 23), scope := fdS 23, globals := 0, closure := [], defaults := .none, kwdefaults := .none, doc := .none, pyModule := .none, annotations := none, code := .none, closureTuple := .none, builtins := 0 }), #[]⟩
noncomputable def o85_0 (P : Params) : Obj := ⟨(.type "code"), none, (.fields #[(.str (Str.ofString "floordiv") 1794), (.str (Str.ofString "floordiv") 1795), (.str (Str.ofString "/claim/cut.py") 1796), (.int 64 0), (.int 2 0), (.int 0 0), (.int 0 0), (.int 3 0), (.ref 80), (.bool true), (.int 181 0), (.ref 81), .none, (.ref 82), (.ref 83), (.ref 84), (.int 1799 0), (.int 64 0), (.str (Str.ofString "/claim/cut.py") 1800)]), #[]⟩
noncomputable def o86_0 (P : Params) : Obj := ⟨(.type "function"), none, (.func { name := (Str.ofString "floordiv"), qualname := (Str.ofString "floordiv"), params := fdA 23, body := .stmts (fdB 23), scope := fdS 23, globals := 3, closure := [], defaults := .none, kwdefaults := .none, doc := .none, pyModule := (.str (Str.ofString "cpy313.operator") 1776), annotations := none, code := (.ref 85), closureTuple := .none, builtins := 0 }), #[]⟩
noncomputable def o87_0 (P : Params) : Obj := ⟨(.type "tuple"), none, (.seq #[] 0), #[]⟩
noncomputable def o88_0 (P : Params) : Obj := ⟨.none, none, (.fields #[]), #[]⟩
noncomputable def o89_0 (P : Params) : Obj := ⟨(.type "tuple"), none, (.seq #[(.str (Str.ofString "a") 1805), (.str (Str.ofString "b") 1806)] 0), #[]⟩
noncomputable def o90_0 (P : Params) : Obj := ⟨(.type "tuple"), none, (.seq #[] 0), #[]⟩
noncomputable def o91_0 (P : Params) : Obj := ⟨.none, none, (.func { name := (Str.ofString "mod"), qualname := (Str.ofString "mod"), params := fdA 24, body := .stmts (fdB 24), scope := fdS 24, globals := 0, closure := [], defaults := .none, kwdefaults := .none, doc := .none, pyModule := .none, annotations := none, code := .none, closureTuple := .none, builtins := 0 }), #[]⟩
noncomputable def o92_0 (P : Params) : Obj := ⟨(.type "code"), none, (.fields #[(.str (Str.ofString "mod") 1802), (.str (Str.ofString "mod") 1803), (.str (Str.ofString "/claim/cut.py") 1804), (.int 66 0), (.int 2 0), (.int 0 0), (.int 0 0), (.int 3 0), (.ref 87), (.bool true), (.int 181 0), (.ref 88), .none, (.ref 89), (.ref 90), (.ref 91), (.int 1807 0), (.int 66 0), (.str (Str.ofString "/claim/cut.py") 1808)]), #[]⟩
noncomputable def o93_0 (P : Params) : Obj := ⟨(.type "function"), none, (.func { name := (Str.ofString "mod"), qualname := (Str.ofString "mod"), params := fdA 24, body := .stmts (fdB 24), scope := fdS 24, globals := 3, closure := [], defaults := .none, kwdefaults := .none, doc := .none, pyModule := (.str (Str.ofString "cpy313.operator") 1776), annotations := none, code := (.ref 92), closureTuple := .none, builtins := 0 }), #[]⟩
noncomputable def o94_0 (P : Params) : Obj := ⟨(.type "tuple"), none, (.seq #[] 0), #[]⟩
noncomputable def o95_0 (P : Params) : Obj := ⟨.none, none, (.fields #[]), #[]⟩
noncomputable def o96_0 (P : Params) : Obj := ⟨(.type "tuple"), none, (.seq #[(.str (Str.ofString "a") 1813), (.str (Str.ofString "b") 1814)] 0), #[]⟩
noncomputable def o97_0 (P : Params) : Obj := ⟨(.type "tuple"), none, (.seq #[] 0), #[]⟩
noncomputable def o98_0 (P : Params) : Obj := ⟨.none, none, (.func { name := (Str.ofString "mul"), qualname := (Str.ofString "mul"), params := fdA 25, body := .stmts (fdB 25), scope := fdS 25, globals := 0, closure := [], defaults := .none, kwdefaults := .none, doc := .none, pyModule := .none, annotations := none, code := .none, closureTuple := .none, builtins := 0 }), #[]⟩
noncomputable def o99_0 (P : Params) : Obj := ⟨(.type "code"), none, (.fields #[(.str (Str.ofString "mul") 1810), (.str (Str.ofString "mul") 1811), (.str (Str.ofString "/claim/cut.py") 1812), (.int 68 0), (.int 2 0), (.int 0 0), (.int 0 0), (.int 3 0), (.ref 94), (.bool true), (.int 181 0), (.ref 95), .none, (.ref 96), (.ref 97), (.ref 98), (.int 1815 0), (.int 68 0), (.str (Str.ofString "/claim/cut.py") 1816)]), #[]⟩
noncomputable def o100_0 (P : Params) : Obj := ⟨(.type "function"), none, (.func { name := (Str.ofString "mul"), qualname := (Str.ofString "mul"), params := fdA 25, body := .stmts (fdB 25), scope := fdS 25, globals := 3, closure := [], defaults := .none, kwdefaults := .none, doc := .none, pyModule := (.str (Str.ofString "cpy313.operator") 1776), annotations := none, code := (.ref 99), closureTuple := .none, builtins := 0 }), #[]⟩
noncomputable def o101_0 (P : Params) : Obj := ⟨(.type "tuple"), none, (.seq #[] 0), #[]⟩
noncomputable def o102_0 (P : Params) : Obj := ⟨.none, none, (.fields #[]), #[]⟩
noncomputable def o103_0 (P : Params) : Obj := ⟨(.type "tuple"), none, (.seq #[(.str (Str.ofString "a") 1821), (.str (Str.ofString "b") 1822)] 0), #[]⟩
noncomputable def o104_0 (P : Params) : Obj := ⟨(.type "tuple"), none, (.seq #[] 0), #[]⟩
noncomputable def o105_0 (P : Params) : Obj := ⟨.none, none, (.func { name := (Str.ofString "xor"), qualname := (Str.ofString "xor"), params := fdA 26, body := .stmts (fdB 26), scope := fdS 26, globals := 0, closure := [], defaults := .none, kwdefaults := .none, doc := .none, pyModule := .none, annotations := none, code := .none, closureTuple := .none, builtins := 0 }), #[]⟩
noncomputable def o106_0 (P : Params) : Obj := ⟨(.type "code"), none, (.fields #[(.str (Str.ofString "xor") 1818), (.str (Str.ofString "xor") 1819), (.str (Str.ofString "/claim/cut.py") 1820), (.int 70 0), (.int 2 0), (.int 0 0), (.int 0 0), (.int 3 0), (.ref 101), (.bool true), (.int 181 0), (.ref 102), .none, (.ref 103), (.ref 104), (.ref 105), (.int 1823 0), (.int 70 0), (.str (Str.ofString "/claim/cut.py") 1824)]), #[]⟩
noncomputable def o107_0 (P : Params) : Obj := ⟨(.type "function"), none, (.func { name := (Str.ofString "xor"), qualname := (Str.ofString "xor"), params := fdA 26, body := .stmts (fdB 26), scope := fdS 26, globals := 3, closure := [], defaults := .none, kwdefaults := .none, doc := .none, pyModule := (.str (Str.ofString "cpy313.operator") 1776), annotations := none, code := (.ref 106), closureTuple := .none, builtins := 0 }), #[]⟩
noncomputable def o108_0 (P : Params) : Obj := ⟨(.type "tuple"), none, (.seq #[] 0), #[]⟩
noncomputable def o109_0 (P : Params) : Obj := ⟨.none, none, (.fields #[]), #[]⟩
noncomputable def o110_0 (P : Params) : Obj := ⟨(.type "tuple"), none, (.seq #[(.str (Str.ofString "a") 1829), (.str (Str.ofString "b") 1830), (.str (Str.ofString "msg") 1831)] 0), #[]⟩
noncomputable def o111_0 (P : Params) : Obj := ⟨(.type "tuple"), none, (.seq #[] 0), #[]⟩
noncomputable def o112_0 (P : Params) : Obj := ⟨.none, none, (.func { name := (Str.ofString "concat"), qualname := (Str.ofString "concat"), params := fdA 27, body := .stmts (fdB 27), scope := fdS 27, globals := 0, closure := [], defaults := .none, kwdefaults := .none, doc := .none, pyModule := .none, annotations := none, code := .none, closureTuple := .none, builtins := 0 }), #[]⟩
noncomputable def o113_0 (P : Params) : Obj := ⟨(.type "code"), none, (.fields #[(.str (Str.ofString "concat") 1826), (.str (Str.ofString "concat") 1827), (.str (Str.ofString "/claim/cut.py") 1828), (.int 72 0), (.int 2 0), (.int 0 0), (.int 0 0), (.int 3 0), (.ref 108), (.bool true), (.int 181 0), (.ref 109), .none, (.ref 110), (.ref 111), (.ref 112), (.int 1832 0), (.int 72 0), (.str (Str.ofString "/claim/cut.py") 1833)]), #[]⟩
noncomputable def o114_0 (P : Params) : Obj := ⟨(.type "function"), none, (.func { name := (Str.ofString "concat"), qualname := (Str.ofString "concat"), params := fdA 27, body := .stmts (fdB 27), scope := fdS 27, globals := 3, closure := [], defaults := .none, kwdefaults := .none, doc := .none, pyModule := (.str (Str.ofString "cpy313.operator") 1776), annotations := none, code := (.ref 113), closureTuple := .none, builtins := 0 }), #[]⟩
noncomputable def o3_7 (P : Params) : Obj := ⟨(.type "dict"), none, (.dict #[⟨PyData.keyHash P (Str.ofString "__name__"), (.str (Str.ofString "__name__") 165), (.str (Str.ofString "law_ku0005_01") 1853)⟩,
   ⟨PyData.keyHash P (Str.ofString "__doc__"), (.str (Str.ofString "__doc__") 166), .none⟩,
   ⟨PyData.keyHash P (Str.ofString "__package__"), (.str (Str.ofString "__package__") 167), .none⟩,
   ⟨PyData.keyHash P (Str.ofString "__loader__"), (.str (Str.ofString "__loader__") 168), (.builtin "__main__.__loader__#opaque")⟩,
   ⟨PyData.keyHash P (Str.ofString "__spec__"), (.str (Str.ofString "__spec__") 169), .none⟩,
   ⟨PyData.keyHash P (Str.ofString "__annotations__"), (.str (Str.ofString "__annotations__") 170), (.ref 6)⟩,
   ⟨PyData.keyHash P (Str.ofString "__builtins__"), (.str (Str.ofString "__builtins__") 171), (.ref 4)⟩,
   ⟨PyData.keyHash P (Str.ofString "__file__"), (.str (Str.ofString "__file__") 173), (.str (Str.ofString "/claim/cut.py") 172)⟩,
   ⟨PyData.keyHash P (Str.ofString "__cached__"), (.str (Str.ofString "__cached__") 174), .none⟩,
   ⟨PyData.keyHash P (Str.ofString "NL"), (.str (Str.ofString "NL") 188), (.str (Str.ofString "\n") 187)⟩,
   ⟨PyData.keyHash P (Str.ofString "_QUOPRI_MAP"), (.str (Str.ofString "_QUOPRI_MAP") 1216), (.ref 17)⟩,
   ⟨PyData.keyHash P (Str.ofString "_QUOPRI_HEADER_MAP"), (.str (Str.ofString "_QUOPRI_HEADER_MAP") 1217), (.ref 22)⟩,
   ⟨PyData.keyHash P (Str.ofString "_QUOPRI_BODY_MAP"), (.str (Str.ofString "_QUOPRI_BODY_MAP") 1218), (.ref 24)⟩,
   ⟨PyData.keyHash P (Str.ofString "ascii_lowercase"), (.str (Str.ofString "ascii_lowercase") 1220), (.str (Str.ofString "abcdefghijklmnopqrstuvwxyz") 1219)⟩,
   ⟨PyData.keyHash P (Str.ofString "ascii_uppercase"), (.str (Str.ofString "ascii_uppercase") 1222), (.str (Str.ofString "ABCDEFGHIJKLMNOPQRSTUVWXYZ") 1221)⟩,
   ⟨PyData.keyHash P (Str.ofString "ascii_letters"), (.str (Str.ofString "ascii_letters") 1224), (.str (Str.ofString "abcdefghijklmnopqrstuvwxyzABCDEFGHIJKLMNOPQRSTUVWXYZ") 1223)⟩,
   ⟨PyData.keyHash P (Str.ofString "digits"), (.str (Str.ofString "digits") 1226), (.str (Str.ofString "0123456789") 1225)⟩,
   ⟨PyData.keyHash P (Str.ofString "hexdigits"), (.str (Str.ofString "hexdigits") 1231), (.str (Str.ofString "0123456789abcdefABCDEF") 1230)⟩,
   ⟨PyData.keyHash P (Str.ofString "unquote"), (.str (Str.ofString "unquote") 1737), (.ref 37)⟩,
   ⟨PyData.keyHash P (Str.ofString "quote"), (.str (Str.ofString "quote") 1744), (.ref 44)⟩,
   ⟨PyData.keyHash P (Str.ofString "header_encode"), (.str (Str.ofString "header_encode") 1754), (.ref 52)⟩,
   ⟨PyData.keyHash P (Str.ofString "_QUOPRI_BODY_ENCODE_MAP"), (.str (Str.ofString "_QUOPRI_BODY_ENCODE_MAP") 1755), (.ref 54)⟩,
   ⟨PyData.keyHash P (Str.ofString "decode"), (.str (Str.ofString "decode") 1775), (.ref 65)⟩,
   ⟨PyData.keyHash P (Str.ofString "eq"), (.str (Str.ofString "eq") 1785), (.ref 72)⟩,
   ⟨PyData.keyHash P (Str.ofString "ne"), (.str (Str.ofString "ne") 1793), (.ref 79)⟩,
   ⟨PyData.keyHash P (Str.ofString "floordiv"), (.str (Str.ofString "floordiv") 1801), (.ref 86)⟩,
   ⟨PyData.keyHash P (Str.ofString "mod"), (.str (Str.ofString "mod") 1809), (.ref 93)⟩,
   ⟨PyData.keyHash P (Str.ofString "mul"), (.str (Str.ofString "mul") 1817), (.ref 100)⟩,
   ⟨PyData.keyHash P (Str.ofString "xor"), (.str (Str.ofString "xor") 1825), (.ref 107)⟩,
   ⟨PyData.keyHash P (Str.ofString "concat"), (.str (Str.ofString "concat") 1834), (.ref 114)⟩,
   ⟨PyData.keyHash P (Str.ofString "getitem"), (.str (Str.ofString "getitem") 1842), (.ref 121)⟩,
   ⟨PyData.keyHash P (Str.ofString "indexOf"), (.str (Str.ofString "indexOf") 1852), (.ref 128)⟩,
   ⟨PyData.keyHash P (Str.ofString "_law_escape"), (.str (Str.ofString "_law_escape") 1861), (.ref 135)⟩,
   ⟨PyData.keyHash P (Str.ofString "_law_code"), (.str (Str.ofString "_law_code") 1869), (.ref 142)⟩,
   ⟨PyData.keyHash P (Str.ofString "_law_word"), (.str (Str.ofString "_law_word") 1879), (.ref 149)⟩,
   ⟨PyData.keyHash P (Str.ofString "_law_quoted"), (.str (Str.ofString "_law_quoted") 1889), (.ref 156)⟩] 38), #[]⟩
noncomputable def o12_3 (P : Params) : Obj := ⟨.none, none, (.fields #[(.int 16 0), (.int 0 0), (.ref 36), (.int 18 0), (.int 0 0), (.ref 43), (.int 20 0), (.int 0 0), (.ref 51), (.int 29 0), (.int 0 0), (.ref 64), (.int 60 0), (.int 0 0), (.ref 71), (.int 62 0), (.int 0 0), (.ref 78), (.int 64 0), (.int 0 0), (.ref 85), (.int 66 0), (.int 0 0), (.ref 92), (.int 68 0), (.int 0 0), (.ref 99), (.int 70 0), (.int 0 0), (.ref 106), (.int 72 0), (.int 0 0), (.ref 113), (.int 77 0), (.int 0 0), (.ref 120), (.int 79 0), (.int 0 0), (.ref 127), (.int 86 0), (.int 0 0), (.ref 134), (.int 88 0), (.int 0 0), (.ref 141), (.int 93 0), (.int 0 0), (.ref 148), (.int 97 0), (.int 0 0), (.ref 155)]), #[]⟩
noncomputable def o115_0 (P : Params) : Obj := ⟨(.type "tuple"), none, (.seq #[] 0), #[]⟩
noncomputable def o116_0 (P : Params) : Obj := ⟨.none, none, (.fields #[]), #[]⟩
noncomputable def o117_0 (P : Params) : Obj := ⟨(.type "tuple"), none, (.seq #[(.str (Str.ofString "a") 1838), (.str (Str.ofString "b") 1839)] 0), #[]⟩
noncomputable def o118_0 (P : Params) : Obj := ⟨(.type "tuple"), none, (.seq #[] 0), #[]⟩
noncomputable def o119_0 (P : Params) : Obj := ⟨.none, none, (.func { name := (Str.ofString "getitem"), qualname := (Str.ofString "getitem"), params := fdA 28, body := .stmts (fdB 28), scope := fdS 28, globals := 0, closure := [], defaults := .none, kwdefaults := .none, doc := .none, pyModule := .none, annotations := none, code := .none, closureTuple := .none, builtins := 0 }), #[]⟩
noncomputable def o120_0 (P : Params) : Obj := ⟨(.type "code"), none, (.fields #[(.str (Str.ofString "getitem") 1835), (.str (Str.ofString "getitem") 1836), (.str (Str.ofString "/claim/cut.py") 1837), (.int 77 0), (.int 2 0), (.int 0 0), (.int 0 0), (.int 3 0), (.ref 115), (.bool true), (.int 181 0), (.ref 116), .none, (.ref 117), (.ref 118), (.ref 119), (.int 1840 0), (.int 77 0), (.str (Str.ofString "/claim/cut.py") 1841)]), #[]⟩
noncomputable def o121_0 (P : Params) : Obj := ⟨(.type "function"), none, (.func { name := (Str.ofString "getitem"), qualname := (Str.ofString "getitem"), params := fdA 28, body := .stmts (fdB 28), scope := fdS 28, globals := 3, closure := [], defaults := .none, kwdefaults := .none, doc := .none, pyModule := (.str (Str.ofString "cpy313.operator") 1776), annotations := none, code := (.ref 120), closureTuple := .none, builtins := 0 }), #[]⟩
noncomputable def o122_0 (P : Params) : Obj := ⟨(.type "tuple"), none, (.seq #[] 0), #[]⟩
noncomputable def o123_0 (P : Params) : Obj := ⟨.none, none, (.fields #[]), #[]⟩
noncomputable def o124_0 (P : Params) : Obj := ⟨(.type "tuple"), none, (.seq #[(.str (Str.ofString "a") 1846), (.str (Str.ofString "b") 1847), (.str (Str.ofString "i") 1848), (.str (Str.ofString "j") 1849)] 0), #[]⟩
noncomputable def o125_0 (P : Params) : Obj := ⟨(.type "tuple"), none, (.seq #[] 0), #[]⟩
noncomputable def o126_0 (P : Params) : Obj := ⟨.none, none, (.func { name := (Str.ofString "indexOf"), qualname := (Str.ofString "indexOf"), params := fdA 29, body := .stmts (fdB 29), scope := fdS 29, globals := 0, closure := [], defaults := .none, kwdefaults := .none, doc := .none, pyModule := .none, annotations := none, code := .none, closureTuple := .none, builtins := 0 }), #[]⟩
noncomputable def o127_0 (P : Params) : Obj := ⟨(.type "code"), none, (.fields #[(.str (Str.ofString "indexOf") 1843), (.str (Str.ofString "indexOf") 1844), (.str (Str.ofString "/claim/cut.py") 1845), (.int 79 0), (.int 2 0), (.int 0 0), (.int 0 0), (.int 3 0), (.ref 122), (.bool true), (.int 181 0), (.ref 123), .none, (.ref 124), (.ref 125), (.ref 126), (.int 1850 0), (.int 79 0), (.str (Str.ofString "/claim/cut.py") 1851)]), #[]⟩
noncomputable def o128_0 (P : Params) : Obj := ⟨(.type "function"), none, (.func { name := (Str.ofString "indexOf"), qualname := (Str.ofString "indexOf"), params := fdA 29, body := .stmts (fdB 29), scope := fdS 29, globals := 3, closure := [], defaults := .none, kwdefaults := .none, doc := .none, pyModule := (.str (Str.ofString "cpy313.operator") 1776), annotations := none, code := (.ref 127), closureTuple := .none, builtins := 0 }), #[]⟩
noncomputable def o129_0 (P : Params) : Obj := ⟨(.type "tuple"), none, (.seq #[] 0), #[]⟩
noncomputable def o130_0 (P : Params) : Obj := ⟨.none, none, (.fields #[]), #[]⟩
noncomputable def o131_0 (P : Params) : Obj := ⟨(.type "tuple"), none, (.seq #[(.str (Str.ofString "octet") 1858)] 0), #[]⟩
noncomputable def o132_0 (P : Params) : Obj := ⟨(.type "tuple"), none, (.seq #[] 0), #[]⟩
noncomputable def o133_0 (P : Params) : Obj := ⟨.none, none, (.func { name := (Str.ofString "_law_escape"), qualname := (Str.ofString "_law_escape"), params := fdA 31, body := .stmts (fdB 31), scope := fdS 31, globals := 0, closure := [], defaults := .none, kwdefaults := .none, doc := .none, pyModule := .none, annotations := none, code := .none, closureTuple := .none, builtins := 0 }), #[]⟩
noncomputable def o134_0 (P : Params) : Obj := ⟨(.type "code"), none, (.fields #[(.str (Str.ofString "_law_escape") 1855), (.str (Str.ofString "_law_escape") 1856), (.str (Str.ofString "/claim/cut.py") 1857), (.int 86 0), (.int 1 0), (.int 0 0), (.int 0 0), (.int 3 0), (.ref 129), (.bool true), (.int 181 0), (.ref 130), .none, (.ref 131), (.ref 132), (.ref 133), (.int 1859 0), (.int 86 0), (.str (Str.ofString "/claim/cut.py") 1860)]), #[]⟩
noncomputable def o135_0 (P : Params) : Obj := ⟨(.type "function"), none, (.func { name := (Str.ofString "_law_escape"), qualname := (Str.ofString "_law_escape"), params := fdA 31, body := .stmts (fdB 31), scope := fdS 31, globals := 3, closure := [], defaults := .none, kwdefaults := .none, doc := .none, pyModule := (.str (Str.ofString "law_ku0005_01") 1853), annotations := none, code := (.ref 134), closureTuple := .none, builtins := 0 }), #[]⟩
noncomputable def o136_0 (P : Params) : Obj := ⟨(.type "tuple"), none, (.seq #[] 0), #[]⟩
noncomputable def o137_0 (P : Params) : Obj := ⟨.none, none, (.fields #[]), #[]⟩
noncomputable def o138_0 (P : Params) : Obj := ⟨(.type "tuple"), none, (.seq #[(.str (Str.ofString "octet") 1865), (.str (Str.ofString "plain") 1866)] 0), #[]⟩
noncomputable def o139_0 (P : Params) : Obj := ⟨(.type "tuple"), none, (.seq #[] 0), #[]⟩
noncomputable def o140_0 (P : Params) : Obj := ⟨.none, none, (.func { name := (Str.ofString "_law_code"), qualname := (Str.ofString "_law_code"), params := fdA 32, body := .stmts (fdB 32), scope := fdS 32, globals := 0, closure := [], defaults := .none, kwdefaults := .none, doc := .none, pyModule := .none, annotations := none, code := .none, closureTuple := .none, builtins := 0 }), #[]⟩
noncomputable def o141_0 (P : Params) : Obj := ⟨(.type "code"), none, (.fields #[(.str (Str.ofString "_law_code") 1862), (.str (Str.ofString "_law_code") 1863), (.str (Str.ofString "/claim/cut.py") 1864), (.int 88 0), (.int 1 0), (.int 0 0), (.int 0 0), (.int 3 0), (.ref 136), (.bool true), (.int 181 0), (.ref 137), .none, (.ref 138), (.ref 139), (.ref 140), (.int 1867 0), (.int 88 0), (.str (Str.ofString "/claim/cut.py") 1868)]), #[]⟩
noncomputable def o142_0 (P : Params) : Obj := ⟨(.type "function"), none, (.func { name := (Str.ofString "_law_code"), qualname := (Str.ofString "_law_code"), params := fdA 32, body := .stmts (fdB 32), scope := fdS 32, globals := 3, closure := [], defaults := .none, kwdefaults := .none, doc := .none, pyModule := (.str (Str.ofString "law_ku0005_01") 1853), annotations := none, code := (.ref 141), closureTuple := .none, builtins := 0 }), #[]⟩
noncomputable def o143_0 (P : Params) : Obj := ⟨(.type "tuple"), none, (.seq #[] 0), #[]⟩
noncomputable def o144_0 (P : Params) : Obj := ⟨.none, none, (.fields #[]), #[]⟩
noncomputable def o145_0 (P : Params) : Obj := ⟨(.type "tuple"), none, (.seq #[(.str (Str.ofString "row") 1873), (.str (Str.ofString "name") 1874), (.str (Str.ofString "word") 1875), (.str (Str.ofString "framed") 1876)] 0), #[]⟩
noncomputable def o146_0 (P : Params) : Obj := ⟨(.type "tuple"), none, (.seq #[] 0), #[]⟩
noncomputable def o147_0 (P : Params) : Obj := ⟨.none, none, (.func { name := (Str.ofString "_law_word"), qualname := (Str.ofString "_law_word"), params := fdA 33, body := .stmts (fdB 33), scope := fdS 33, globals := 0, closure := [], defaults := .none, kwdefaults := .none, doc := .none, pyModule := .none, annotations := none, code := .none, closureTuple := .none, builtins := 0 }), #[]⟩
noncomputable def o148_0 (P : Params) : Obj := ⟨(.type "code"), none, (.fields #[(.str (Str.ofString "_law_word") 1870), (.str (Str.ofString "_law_word") 1871), (.str (Str.ofString "/claim/cut.py") 1872), (.int 93 0), (.int 2 0), (.int 0 0), (.int 0 0), (.int 3 0), (.ref 143), (.bool true), (.int 181 0), (.ref 144), .none, (.ref 145), (.ref 146), (.ref 147), (.int 1877 0), (.int 93 0), (.str (Str.ofString "/claim/cut.py") 1878)]), #[]⟩
noncomputable def o149_0 (P : Params) : Obj := ⟨(.type "function"), none, (.func { name := (Str.ofString "_law_word"), qualname := (Str.ofString "_law_word"), params := fdA 33, body := .stmts (fdB 33), scope := fdS 33, globals := 3, closure := [], defaults := .none, kwdefaults := .none, doc := .none, pyModule := (.str (Str.ofString "law_ku0005_01") 1853), annotations := none, code := (.ref 148), closureTuple := .none, builtins := 0 }), #[]⟩
noncomputable def o150_0 (P : Params) : Obj := ⟨(.type "tuple"), none, (.seq #[] 0), #[]⟩
noncomputable def o151_0 (P : Params) : Obj := ⟨.none, none, (.fields #[]), #[]⟩
noncomputable def o152_0 (P : Params) : Obj := ⟨(.type "tuple"), none, (.seq #[(.str (Str.ofString "row") 1883), (.str (Str.ofString "name") 1884), (.str (Str.ofString "out") 1885), (.str (Str.ofString "octet") 1886)] 0), #[]⟩
noncomputable def o153_0 (P : Params) : Obj := ⟨(.type "tuple"), none, (.seq #[] 0), #[]⟩
noncomputable def o154_0 (P : Params) : Obj := ⟨.none, none, (.func { name := (Str.ofString "_law_quoted"), qualname := (Str.ofString "_law_quoted"), params := fdA 34, body := .stmts (fdB 34), scope := fdS 34, globals := 0, closure := [], defaults := .none, kwdefaults := .none, doc := .none, pyModule := .none, annotations := none, code := .none, closureTuple := .none, builtins := 0 }), #[]⟩
noncomputable def o155_0 (P : Params) : Obj := ⟨(.type "code"), none, (.fields #[(.str (Str.ofString "_law_quoted") 1880), (.str (Str.ofString "_law_quoted") 1881), (.str (Str.ofString "/claim/cut.py") 1882), (.int 97 0), (.int 2 0), (.int 0 0), (.int 0 0), (.int 3 0), (.ref 150), (.bool true), (.int 181 0), (.ref 151), .none, (.ref 152), (.ref 153), (.ref 154), (.int 1887 0), (.int 97 0), (.str (Str.ofString "/claim/cut.py") 1888)]), #[]⟩
noncomputable def o156_0 (P : Params) : Obj := ⟨(.type "function"), none, (.func { name := (Str.ofString "_law_quoted"), qualname := (Str.ofString "_law_quoted"), params := fdA 34, body := .stmts (fdB 34), scope := fdS 34, globals := 3, closure := [], defaults := .none, kwdefaults := .none, doc := .none, pyModule := (.str (Str.ofString "law_ku0005_01") 1853), annotations := none, code := (.ref 155), closureTuple := .none, builtins := 0 }), #[]⟩
noncomputable def o3_8 (P : Params) : Obj := ⟨(.type "dict"), none, (.dict #[⟨PyData.keyHash P (Str.ofString "__name__"), (.str (Str.ofString "__name__") 165), (.str (Str.ofString "law_ku0005_01") 1853)⟩,
   ⟨PyData.keyHash P (Str.ofString "__doc__"), (.str (Str.ofString "__doc__") 166), .none⟩,
   ⟨PyData.keyHash P (Str.ofString "__package__"), (.str (Str.ofString "__package__") 167), .none⟩,
   ⟨PyData.keyHash P (Str.ofString "__loader__"), (.str (Str.ofString "__loader__") 168), (.builtin "__main__.__loader__#opaque")⟩,
   ⟨PyData.keyHash P (Str.ofString "__spec__"), (.str (Str.ofString "__spec__") 169), .none⟩,
   ⟨PyData.keyHash P (Str.ofString "__annotations__"), (.str (Str.ofString "__annotations__") 170), (.ref 6)⟩,
   ⟨PyData.keyHash P (Str.ofString "__builtins__"), (.str (Str.ofString "__builtins__") 171), (.ref 4)⟩,
   ⟨PyData.keyHash P (Str.ofString "__file__"), (.str (Str.ofString "__file__") 173), (.str (Str.ofString "/claim/cut.py") 172)⟩,
   ⟨PyData.keyHash P (Str.ofString "__cached__"), (.str (Str.ofString "__cached__") 174), .none⟩,
   ⟨PyData.keyHash P (Str.ofString "NL"), (.str (Str.ofString "NL") 188), (.str (Str.ofString "\n") 187)⟩,
   ⟨PyData.keyHash P (Str.ofString "_QUOPRI_MAP"), (.str (Str.ofString "_QUOPRI_MAP") 1216), (.ref 17)⟩,
   ⟨PyData.keyHash P (Str.ofString "_QUOPRI_HEADER_MAP"), (.str (Str.ofString "_QUOPRI_HEADER_MAP") 1217), (.ref 22)⟩,
   ⟨PyData.keyHash P (Str.ofString "_QUOPRI_BODY_MAP"), (.str (Str.ofString "_QUOPRI_BODY_MAP") 1218), (.ref 24)⟩,
   ⟨PyData.keyHash P (Str.ofString "ascii_lowercase"), (.str (Str.ofString "ascii_lowercase") 1220), (.str (Str.ofString "abcdefghijklmnopqrstuvwxyz") 1219)⟩,
   ⟨PyData.keyHash P (Str.ofString "ascii_uppercase"), (.str (Str.ofString "ascii_uppercase") 1222), (.str (Str.ofString "ABCDEFGHIJKLMNOPQRSTUVWXYZ") 1221)⟩,
   ⟨PyData.keyHash P (Str.ofString "ascii_letters"), (.str (Str.ofString "ascii_letters") 1224), (.str (Str.ofString "abcdefghijklmnopqrstuvwxyzABCDEFGHIJKLMNOPQRSTUVWXYZ") 1223)⟩,
   ⟨PyData.keyHash P (Str.ofString "digits"), (.str (Str.ofString "digits") 1226), (.str (Str.ofString "0123456789") 1225)⟩,
   ⟨PyData.keyHash P (Str.ofString "hexdigits"), (.str (Str.ofString "hexdigits") 1231), (.str (Str.ofString "0123456789abcdefABCDEF") 1230)⟩,
   ⟨PyData.keyHash P (Str.ofString "unquote"), (.str (Str.ofString "unquote") 1737), (.ref 37)⟩,
   ⟨PyData.keyHash P (Str.ofString "quote"), (.str (Str.ofString "quote") 1744), (.ref 44)⟩,
   ⟨PyData.keyHash P (Str.ofString "header_encode"), (.str (Str.ofString "header_encode") 1754), (.ref 52)⟩,
   ⟨PyData.keyHash P (Str.ofString "_QUOPRI_BODY_ENCODE_MAP"), (.str (Str.ofString "_QUOPRI_BODY_ENCODE_MAP") 1755), (.ref 54)⟩,
   ⟨PyData.keyHash P (Str.ofString "decode"), (.str (Str.ofString "decode") 1775), (.ref 65)⟩,
   ⟨PyData.keyHash P (Str.ofString "eq"), (.str (Str.ofString "eq") 1785), (.ref 72)⟩,
   ⟨PyData.keyHash P (Str.ofString "ne"), (.str (Str.ofString "ne") 1793), (.ref 79)⟩,
   ⟨PyData.keyHash P (Str.ofString "floordiv"), (.str (Str.ofString "floordiv") 1801), (.ref 86)⟩,
   ⟨PyData.keyHash P (Str.ofString "mod"), (.str (Str.ofString "mod") 1809), (.ref 93)⟩,
   ⟨PyData.keyHash P (Str.ofString "mul"), (.str (Str.ofString "mul") 1817), (.ref 100)⟩,
   ⟨PyData.keyHash P (Str.ofString "xor"), (.str (Str.ofString "xor") 1825), (.ref 107)⟩,
   ⟨PyData.keyHash P (Str.ofString "concat"), (.str (Str.ofString "concat") 1834), (.ref 114)⟩,
   ⟨PyData.keyHash P (Str.ofString "getitem"), (.str (Str.ofString "getitem") 1842), (.ref 121)⟩,
   ⟨PyData.keyHash P (Str.ofString "indexOf"), (.str (Str.ofString "indexOf") 1852), (.ref 128)⟩,
   ⟨PyData.keyHash P (Str.ofString "_law_escape"), (.str (Str.ofString "_law_escape") 1861), (.ref 135)⟩,
   ⟨PyData.keyHash P (Str.ofString "_law_code"), (.str (Str.ofString "_law_code") 1869), (.ref 142)⟩,
   ⟨PyData.keyHash P (Str.ofString "_law_word"), (.str (Str.ofString "_law_word") 1879), (.ref 149)⟩,
   ⟨PyData.keyHash P (Str.ofString "_law_quoted"), (.str (Str.ofString "_law_quoted") 1889), (.ref 156)⟩,
   ⟨PyData.keyHash P (Str.ofString "_law_root"), (.str (Str.ofString "_law_root") 1895), (.ref 161)⟩,
   ⟨PyData.keyHash P (Str.ofString "_law_common"), (.str (Str.ofString "_law_common") 1904), (.ref 168)⟩,
   ⟨PyData.keyHash P (Str.ofString "_law_due"), (.str (Str.ofString "_law_due") 1917), (.ref 175)⟩,
   ⟨PyData.keyHash P (Str.ofString "_law_first"), (.str (Str.ofString "_law_first") 1923), (.ref 180)⟩,
   ⟨PyData.keyHash P (Str.ofString "_law_kept"), (.str (Str.ofString "_law_kept") 1929), (.ref 185)⟩,
   ⟨PyData.keyHash P (Str.ofString "law"), (.str (Str.ofString "law") 1935), (.ref 190)⟩] 44), #[]⟩
noncomputable def o12_4 (P : Params) : Obj := ⟨.none, none, (.fields #[(.int 16 0), (.int 0 0), (.ref 36), (.int 18 0), (.int 0 0), (.ref 43), (.int 20 0), (.int 0 0), (.ref 51), (.int 29 0), (.int 0 0), (.ref 64), (.int 60 0), (.int 0 0), (.ref 71), (.int 62 0), (.int 0 0), (.ref 78), (.int 64 0), (.int 0 0), (.ref 85), (.int 66 0), (.int 0 0), (.ref 92), (.int 68 0), (.int 0 0), (.ref 99), (.int 70 0), (.int 0 0), (.ref 106), (.int 72 0), (.int 0 0), (.ref 113), (.int 77 0), (.int 0 0), (.ref 120), (.int 79 0), (.int 0 0), (.ref 127), (.int 86 0), (.int 0 0), (.ref 134), (.int 88 0), (.int 0 0), (.ref 141), (.int 93 0), (.int 0 0), (.ref 148), (.int 97 0), (.int 0 0), (.ref 155), (.int 102 0), (.int 0 0), (.ref 160), (.int 104 0), (.int 0 0), (.ref 167), (.int 109 0), (.int 0 0), (.ref 174), (.int 117 0), (.int 0 0), (.ref 179), (.int 122 0), (.int 0 0), (.ref 184), (.int 140 0), (.int 0 0), (.ref 189)]), #[]⟩
noncomputable def o157_0 (P : Params) : Obj := ⟨(.type "tuple"), none, (.seq #[] 0), #[]⟩
noncomputable def o158_0 (P : Params) : Obj := ⟨.none, none, (.fields #[]), #[]⟩
noncomputable def o159_0 (P : Params) : Obj := ⟨.none, none, (.func { name := (Str.ofString "_law_root"), qualname := (Str.ofString "_law_root"), params := fdA 35, body := .stmts (fdB 35), scope := fdS 35, globals := 0, closure := [], defaults := .none, kwdefaults := .none, doc := .none, pyModule := .none, annotations := none, code := .none, closureTuple := .none, builtins := 0 }), #[]⟩
noncomputable def o160_0 (P : Params) : Obj := ⟨(.type "code"), none, (.fields #[(.str (Str.ofString "_law_root") 1890), (.str (Str.ofString "_law_root") 1891), (.str (Str.ofString "/claim/cut.py") 1892), (.int 102 0), (.int 1 0), (.int 0 0), (.int 0 0), (.int 3 0), (.ref 157), (.bool true), (.int 181 0), (.ref 158), .none, .none, .none, (.ref 159), (.int 1893 0), (.int 102 0), (.str (Str.ofString "/claim/cut.py") 1894)]), #[]⟩
noncomputable def o161_0 (P : Params) : Obj := ⟨(.type "function"), none, (.func { name := (Str.ofString "_law_root"), qualname := (Str.ofString "_law_root"), params := fdA 35, body := .stmts (fdB 35), scope := fdS 35, globals := 3, closure := [], defaults := .none, kwdefaults := .none, doc := .none, pyModule := (.str (Str.ofString "law_ku0005_01") 1853), annotations := none, code := (.ref 160), closureTuple := .none, builtins := 0 }), #[]⟩
noncomputable def o162_0 (P : Params) : Obj := ⟨(.type "tuple"), none, (.seq #[] 0), #[]⟩
noncomputable def o163_0 (P : Params) : Obj := ⟨.none, none, (.fields #[]), #[]⟩
noncomputable def o164_0 (P : Params) : Obj := ⟨(.type "tuple"), none, (.seq #[(.str (Str.ofString "one") 1899), (.str (Str.ofString "two") 1900), (.str (Str.ofString "_") 1901)] 0), #[]⟩
noncomputable def o165_0 (P : Params) : Obj := ⟨(.type "tuple"), none, (.seq #[] 0), #[]⟩
noncomputable def o166_0 (P : Params) : Obj := ⟨.none, none, (.func { name := (Str.ofString "_law_common"), qualname := (Str.ofString "_law_common"), params := fdA 36, body := .stmts (fdB 36), scope := fdS 36, globals := 0, closure := [], defaults := .none, kwdefaults := .none, doc := .none, pyModule := .none, annotations := none, code := .none, closureTuple := .none, builtins := 0 }), #[]⟩
noncomputable def o167_0 (P : Params) : Obj := ⟨(.type "code"), none, (.fields #[(.str (Str.ofString "_law_common") 1896), (.str (Str.ofString "_law_common") 1897), (.str (Str.ofString "/claim/cut.py") 1898), (.int 104 0), (.int 2 0), (.int 0 0), (.int 0 0), (.int 3 0), (.ref 162), (.bool true), (.int 181 0), (.ref 163), .none, (.ref 164), (.ref 165), (.ref 166), (.int 1902 0), (.int 104 0), (.str (Str.ofString "/claim/cut.py") 1903)]), #[]⟩
noncomputable def o168_0 (P : Params) : Obj := ⟨(.type "function"), none, (.func { name := (Str.ofString "_law_common"), qualname := (Str.ofString "_law_common"), params := fdA 36, body := .stmts (fdB 36), scope := fdS 36, globals := 3, closure := [], defaults := .none, kwdefaults := .none, doc := .none, pyModule := (.str (Str.ofString "law_ku0005_01") 1853), annotations := none, code := (.ref 167), closureTuple := .none, builtins := 0 }), #[]⟩
noncomputable def o169_0 (P : Params) : Obj := ⟨(.type "tuple"), none, (.seq #[] 0), #[]⟩
noncomputable def o170_0 (P : Params) : Obj := ⟨.none, none, (.fields #[]), #[]⟩
noncomputable def o171_0 (P : Params) : Obj := ⟨(.type "tuple"), none, (.seq #[(.str (Str.ofString "left") 1908), (.str (Str.ofString "right") 1909), (.str (Str.ofString "codes") 1910), (.str (Str.ofString "ahead") 1911), (.str (Str.ofString "one") 1912), (.str (Str.ofString "two") 1913), (.str (Str.ofString "escapes") 1914)] 0), #[]⟩
noncomputable def o172_0 (P : Params) : Obj := ⟨(.type "tuple"), none, (.seq #[] 0), #[]⟩
noncomputable def o173_0 (P : Params) : Obj := ⟨.none, none, (.func { name := (Str.ofString "_law_due"), qualname := (Str.ofString "_law_due"), params := fdA 37, body := .stmts (fdB 37), scope := fdS 37, globals := 0, closure := [], defaults := .none, kwdefaults := .none, doc := .none, pyModule := .none, annotations := none, code := .none, closureTuple := .none, builtins := 0 }), #[]⟩
noncomputable def o174_0 (P : Params) : Obj := ⟨(.type "code"), none, (.fields #[(.str (Str.ofString "_law_due") 1905), (.str (Str.ofString "_law_due") 1906), (.str (Str.ofString "/claim/cut.py") 1907), (.int 109 0), (.int 3 0), (.int 0 0), (.int 0 0), (.int 3 0), (.ref 169), (.bool true), (.int 181 0), (.ref 170), .none, (.ref 171), (.ref 172), (.ref 173), (.int 1915 0), (.int 109 0), (.str (Str.ofString "/claim/cut.py") 1916)]), #[]⟩
noncomputable def o175_0 (P : Params) : Obj := ⟨(.type "function"), none, (.func { name := (Str.ofString "_law_due"), qualname := (Str.ofString "_law_due"), params := fdA 37, body := .stmts (fdB 37), scope := fdS 37, globals := 3, closure := [], defaults := .none, kwdefaults := .none, doc := .none, pyModule := (.str (Str.ofString "law_ku0005_01") 1853), annotations := none, code := (.ref 174), closureTuple := .none, builtins := 0 }), #[]⟩
noncomputable def o176_0 (P : Params) : Obj := ⟨(.type "tuple"), none, (.seq #[] 0), #[]⟩
noncomputable def o177_0 (P : Params) : Obj := ⟨.none, none, (.fields #[]), #[]⟩
noncomputable def o178_0 (P : Params) : Obj := ⟨.none, none, (.func { name := (Str.ofString "_law_first"), qualname := (Str.ofString "_law_first"), params := fdA 38, body := .stmts (fdB 38), scope := fdS 38, globals := 0, closure := [], defaults := .none, kwdefaults := .none, doc := .none, pyModule := .none, annotations := none, code := .none, closureTuple := .none, builtins := 0 }), #[]⟩
noncomputable def o179_0 (P : Params) : Obj := ⟨(.type "code"), none, (.fields #[(.str (Str.ofString "_law_first") 1918), (.str (Str.ofString "_law_first") 1919), (.str (Str.ofString "/claim/cut.py") 1920), (.int 117 0), (.int 2 0), (.int 0 0), (.int 0 0), (.int 3 0), (.ref 176), (.bool true), (.int 181 0), (.ref 177), .none, .none, .none, (.ref 178), (.int 1921 0), (.int 117 0), (.str (Str.ofString "/claim/cut.py") 1922)]), #[]⟩
noncomputable def o180_0 (P : Params) : Obj := ⟨(.type "function"), none, (.func { name := (Str.ofString "_law_first"), qualname := (Str.ofString "_law_first"), params := fdA 38, body := .stmts (fdB 38), scope := fdS 38, globals := 3, closure := [], defaults := .none, kwdefaults := .none, doc := .none, pyModule := (.str (Str.ofString "law_ku0005_01") 1853), annotations := none, code := (.ref 179), closureTuple := .none, builtins := 0 }), #[]⟩
noncomputable def o181_0 (P : Params) : Obj := ⟨(.type "tuple"), none, (.seq #[] 0), #[]⟩
noncomputable def o182_0 (P : Params) : Obj := ⟨.none, none, (.fields #[]), #[]⟩
noncomputable def o183_0 (P : Params) : Obj := ⟨.none, none, (.func { name := (Str.ofString "_law_kept"), qualname := (Str.ofString "_law_kept"), params := fdA 39, body := .stmts (fdB 39), scope := fdS 39, globals := 0, closure := [], defaults := .none, kwdefaults := .none, doc := .none, pyModule := .none, annotations := none, code := .none, closureTuple := .none, builtins := 0 }), #[]⟩
noncomputable def o184_0 (P : Params) : Obj := ⟨(.type "code"), none, (.fields #[(.str (Str.ofString "_law_kept") 1924), (.str (Str.ofString "_law_kept") 1925), (.str (Str.ofString "/claim/cut.py") 1926), (.int 122 0), (.int 4 0), (.int 0 0), (.int 0 0), (.int 3 0), (.ref 181), (.bool true), (.int 181 0), (.ref 182), .none, .none, .none, (.ref 183), (.int 1927 0), (.int 122 0), (.str (Str.ofString "/claim/cut.py") 1928)]), #[]⟩
noncomputable def o185_0 (P : Params) : Obj := ⟨(.type "function"), none, (.func { name := (Str.ofString "_law_kept"), qualname := (Str.ofString "_law_kept"), params := fdA 39, body := .stmts (fdB 39), scope := fdS 39, globals := 3, closure := [], defaults := .none, kwdefaults := .none, doc := .none, pyModule := (.str (Str.ofString "law_ku0005_01") 1853), annotations := none, code := (.ref 184), closureTuple := .none, builtins := 0 }), #[]⟩
noncomputable def o186_0 (P : Params) : Obj := ⟨(.type "tuple"), none, (.seq #[] 0), #[]⟩
noncomputable def o187_0 (P : Params) : Obj := ⟨.none, none, (.fields #[]), #[]⟩
noncomputable def o188_0 (P : Params) : Obj := ⟨.none, none, (.func { name := (Str.ofString "law"), qualname := (Str.ofString "law"), params := fdA 40, body := .stmts (fdB 40), scope := fdS 40, globals := 0, closure := [], defaults := .none, kwdefaults := .none, doc := .none, pyModule := .none, annotations := none, code := .none, closureTuple := .none, builtins := 0 }), #[]⟩
noncomputable def o189_0 (P : Params) : Obj := ⟨(.type "code"), none, (.fields #[(.str (Str.ofString "law") 1930), (.str (Str.ofString "law") 1931), (.str (Str.ofString "/claim/cut.py") 1932), (.int 140 0), (.int 1 0), (.int 0 0), (.int 0 0), (.int 3 0), (.ref 186), (.bool true), (.int 181 0), (.ref 187), .none, .none, .none, (.ref 188), (.int 1933 0), (.int 140 0), (.str (Str.ofString "/claim/cut.py") 1934)]), #[]⟩
noncomputable def o190_0 (P : Params) : Obj := ⟨(.type "function"), none, (.func { name := (Str.ofString "law"), qualname := (Str.ofString "law"), params := fdA 40, body := .stmts (fdB 40), scope := fdS 40, globals := 3, closure := [], defaults := .none, kwdefaults := .none, doc := .none, pyModule := (.str (Str.ofString "law_ku0005_01") 1853), annotations := none, code := (.ref 189), closureTuple := .none, builtins := 0 }), #[]⟩
noncomputable def tr_pre (P : Params) : BT := (.node (boot_o_0 P) (.node (boot_o_1 P) (.node (boot_o_3 P) (.node (boot_o_7 P) .nil .nil) (.node (o11_0 P) .nil .nil)) (.node (boot_o_5 P) (.node (boot_o_9 P) .nil .nil) (.node (o13_0 P) .nil .nil))) (.node (boot_o_2 P) (.node (boot_o_4 P) (.node (boot_o_8 P) .nil .nil) (.node (o12_0 P) .nil .nil)) (.node (boot_o_6 P) (.node (boot_o_10 P) .nil .nil) (.node (o14_0 P) .nil .nil))))
noncomputable def S_pre (P : Params) (os : OsState) : SharedT := ⟨tr_pre P, 15, {}, Array.mk [], {}, 187, os⟩
noncomputable def tr_p0 (P : Params) : BT := (.node (boot_o_0 P) (.node (boot_o_1 P) (.node (o3_0 P) (.node (boot_o_7 P) .nil .nil) (.node (o11_0 P) .nil .nil)) (.node (boot_o_5 P) (.node (boot_o_9 P) .nil .nil) (.node (o13_0 P) .nil .nil))) (.node (boot_o_2 P) (.node (boot_o_4 P) (.node (boot_o_8 P) .nil .nil) (.node (o12_0 P) .nil .nil)) (.node (boot_o_6 P) (.node (boot_o_10 P) .nil .nil) (.node (o14_0 P) .nil .nil))))
noncomputable def S_p0 (P : Params) (os : OsState) : SharedT := ⟨tr_p0 P, 15, {}, Array.mk [], {}, 189, os⟩
noncomputable def tr_p1 (P : Params) : BT := (.node (boot_o_0 P) (.node (boot_o_1 P) (.node (o3_1 P) (.node (boot_o_7 P) (.node (o15_0 P) .nil .nil) .nil) (.node (o11_0 P) (.node (o19_0 P) .nil .nil) .nil)) (.node (boot_o_5 P) (.node (boot_o_9 P) (.node (o17_0 P) .nil .nil) .nil) (.node (o13_0 P) .nil .nil))) (.node (boot_o_2 P) (.node (boot_o_4 P) (.node (boot_o_8 P) (.node (o16_0 P) .nil .nil) .nil) (.node (o12_0 P) (.node (o20_0 P) .nil .nil) .nil)) (.node (boot_o_6 P) (.node (boot_o_10 P) (.node (o18_0 P) .nil .nil) .nil) (.node (o14_0 P) .nil .nil))))
noncomputable def S_p1 (P : Params) (os : OsState) : SharedT := ⟨tr_p1 P, 21, {}, Array.mk [], {}, 1217, os⟩
noncomputable def tr_p9 (P : Params) : BT := (.node (boot_o_0 P) (.node (boot_o_1 P) (.node (o3_2 P) (.node (boot_o_7 P) (.node (o15_0 P) .nil .nil) (.node (o23_0 P) .nil .nil)) (.node (o11_0 P) (.node (o19_0 P) .nil .nil) .nil)) (.node (boot_o_5 P) (.node (boot_o_9 P) (.node (o17_0 P) .nil .nil) .nil) (.node (o13_0 P) (.node (o21_0 P) .nil .nil) .nil))) (.node (boot_o_2 P) (.node (boot_o_4 P) (.node (boot_o_8 P) (.node (o16_0 P) .nil .nil) (.node (o24_0 P) .nil .nil)) (.node (o12_0 P) (.node (o20_0 P) .nil .nil) .nil)) (.node (boot_o_6 P) (.node (boot_o_10 P) (.node (o18_0 P) .nil .nil) .nil) (.node (o14_0 P) (.node (o22_0 P) .nil .nil) .nil))))
noncomputable def S_p9 (P : Params) (os : OsState) : SharedT := ⟨tr_p9 P, 25, {}, Array.mk [], {}, 1234, os⟩
noncomputable def tr_p10 (P : Params) : BT := (.node (boot_o_0 P) (.node (boot_o_1 P) (.node (o3_3 P) (.node (boot_o_7 P) (.node (o15_0 P) .nil .nil) (.node (o23_0 P) .nil .nil)) (.node (o11_0 P) (.node (o19_0 P) .nil .nil) (.node (o27_0 P) .nil .nil))) (.node (boot_o_5 P) (.node (boot_o_9 P) (.node (o17_0 P) .nil .nil) (.node (o25_0 P) .nil .nil)) (.node (o13_0 P) (.node (o21_0 P) .nil .nil) .nil))) (.node (boot_o_2 P) (.node (boot_o_4 P) (.node (boot_o_8 P) (.node (o16_0 P) .nil .nil) (.node (o24_0 P) .nil .nil)) (.node (o12_0 P) (.node (o20_0 P) .nil .nil) .nil)) (.node (boot_o_6 P) (.node (boot_o_10 P) (.node (o18_0 P) .nil .nil) (.node (o26_0 P) .nil .nil)) (.node (o14_0 P) (.node (o22_1 P) .nil .nil) .nil))))
noncomputable def S_p10 (P : Params) (os : OsState) : SharedT := ⟨tr_p10 P, 28, {}, Array.mk [], {}, 1442, os⟩
noncomputable def tr_p11 (P : Params) : BT := (.node (boot_o_0 P) (.node (boot_o_1 P) (.node (o3_3 P) (.node (boot_o_7 P) (.node (o15_0 P) .nil .nil) (.node (o23_0 P) .nil .nil)) (.node (o11_0 P) (.node (o19_0 P) .nil .nil) (.node (o27_0 P) .nil .nil))) (.node (boot_o_5 P) (.node (boot_o_9 P) (.node (o17_0 P) .nil .nil) (.node (o25_0 P) .nil .nil)) (.node (o13_0 P) (.node (o21_0 P) .nil .nil) .nil))) (.node (boot_o_2 P) (.node (boot_o_4 P) (.node (boot_o_8 P) (.node (o16_0 P) .nil .nil) (.node (o24_0 P) .nil .nil)) (.node (o12_0 P) (.node (o20_0 P) .nil .nil) .nil)) (.node (boot_o_6 P) (.node (boot_o_10 P) (.node (o18_0 P) .nil .nil) (.node (o26_0 P) .nil .nil)) (.node (o14_0 P) (.node (o22_2 P) .nil .nil) .nil))))
noncomputable def S_p11 (P : Params) (os : OsState) : SharedT := ⟨tr_p11 P, 28, {}, Array.mk [], {}, 1445, os⟩
noncomputable def tr_p12 (P : Params) : BT := (.node (boot_o_0 P) (.node (boot_o_1 P) (.node (o3_4 P) (.node (boot_o_7 P) (.node (o15_0 P) .nil .nil) (.node (o23_0 P) .nil .nil)) (.node (o11_0 P) (.node (o19_0 P) .nil .nil) (.node (o27_0 P) .nil .nil))) (.node (boot_o_5 P) (.node (boot_o_9 P) (.node (o17_0 P) .nil .nil) (.node (o25_0 P) .nil .nil)) (.node (o13_0 P) (.node (o21_0 P) .nil .nil) (.node (o29_0 P) .nil .nil)))) (.node (boot_o_2 P) (.node (boot_o_4 P) (.node (boot_o_8 P) (.node (o16_0 P) .nil .nil) (.node (o24_1 P) .nil .nil)) (.node (o12_0 P) (.node (o20_0 P) .nil .nil) (.node (o28_0 P) .nil .nil))) (.node (boot_o_6 P) (.node (boot_o_10 P) (.node (o18_0 P) .nil .nil) (.node (o26_0 P) .nil .nil)) (.node (o14_0 P) (.node (o22_2 P) .nil .nil) (.node (o30_0 P) .nil .nil)))))
noncomputable def S_p12 (P : Params) (os : OsState) : SharedT := ⟨tr_p12 P, 31, {}, Array.mk [], {}, 1731, os⟩
noncomputable def tr_p18 (P : Params) : BT := (.node (boot_o_0 P) (.node (boot_o_1 P) (.node (o3_5 P) (.node (boot_o_7 P) (.node (o15_0 P) (.node (o31_0 P) .nil .nil) (.node (o47_0 P) .nil .nil)) (.node (o23_0 P) (.node (o39_0 P) .nil .nil) (.node (o55_0 P) .nil .nil))) (.node (o11_0 P) (.node (o19_0 P) (.node (o35_0 P) .nil .nil) (.node (o51_0 P) .nil .nil)) (.node (o27_0 P) (.node (o43_0 P) .nil .nil) .nil))) (.node (boot_o_5 P) (.node (boot_o_9 P) (.node (o17_0 P) (.node (o33_0 P) .nil .nil) (.node (o49_0 P) .nil .nil)) (.node (o25_0 P) (.node (o41_0 P) .nil .nil) (.node (o57_0 P) .nil .nil))) (.node (o13_0 P) (.node (o21_0 P) (.node (o37_0 P) .nil .nil) (.node (o53_0 P) .nil .nil)) (.node (o29_0 P) (.node (o45_0 P) .nil .nil) .nil)))) (.node (boot_o_2 P) (.node (boot_o_4 P) (.node (boot_o_8 P) (.node (o16_0 P) (.node (o32_0 P) .nil .nil) (.node (o48_0 P) .nil .nil)) (.node (o24_1 P) (.node (o40_0 P) .nil .nil) (.node (o56_0 P) .nil .nil))) (.node (o12_1 P) (.node (o20_0 P) (.node (o36_0 P) .nil .nil) (.node (o52_0 P) .nil .nil)) (.node (o28_0 P) (.node (o44_0 P) .nil .nil) .nil))) (.node (boot_o_6 P) (.node (boot_o_10 P) (.node (o18_0 P) (.node (o34_0 P) .nil .nil) (.node (o50_0 P) .nil .nil)) (.node (o26_0 P) (.node (o42_0 P) .nil .nil) .nil)) (.node (o14_0 P) (.node (o22_2 P) (.node (o38_0 P) .nil .nil) (.node (o54_0 P) .nil .nil)) (.node (o30_0 P) (.node (o46_0 P) .nil .nil) .nil)))))
noncomputable def S_p18 (P : Params) (os : OsState) : SharedT := ⟨tr_p18 P, 58, {}, Array.mk [], {}, 1763, os⟩
noncomputable def tr_p27 (P : Params) : BT := (.node (boot_o_0 P) (.node (boot_o_1 P) (.node (o3_6 P) (.node (boot_o_7 P) (.node (o15_0 P) (.node (o31_0 P) (.node (o63_0 P) .nil .nil) (.node (o95_0 P) .nil .nil)) (.node (o47_0 P) (.node (o79_0 P) .nil .nil) (.node (o111_0 P) .nil .nil))) (.node (o23_0 P) (.node (o39_0 P) (.node (o71_0 P) .nil .nil) (.node (o103_0 P) .nil .nil)) (.node (o55_0 P) (.node (o87_0 P) .nil .nil) .nil))) (.node (o11_0 P) (.node (o19_0 P) (.node (o35_0 P) (.node (o67_0 P) .nil .nil) (.node (o99_0 P) .nil .nil)) (.node (o51_0 P) (.node (o83_0 P) .nil .nil) .nil)) (.node (o27_0 P) (.node (o43_0 P) (.node (o75_0 P) .nil .nil) (.node (o107_0 P) .nil .nil)) (.node (o59_0 P) (.node (o91_0 P) .nil .nil) .nil)))) (.node (boot_o_5 P) (.node (boot_o_9 P) (.node (o17_0 P) (.node (o33_0 P) (.node (o65_0 P) .nil .nil) (.node (o97_0 P) .nil .nil)) (.node (o49_0 P) (.node (o81_0 P) .nil .nil) (.node (o113_0 P) .nil .nil))) (.node (o25_0 P) (.node (o41_0 P) (.node (o73_0 P) .nil .nil) (.node (o105_0 P) .nil .nil)) (.node (o57_0 P) (.node (o89_0 P) .nil .nil) .nil))) (.node (o13_0 P) (.node (o21_0 P) (.node (o37_0 P) (.node (o69_0 P) .nil .nil) (.node (o101_0 P) .nil .nil)) (.node (o53_0 P) (.node (o85_0 P) .nil .nil) .nil)) (.node (o29_0 P) (.node (o45_0 P) (.node (o77_0 P) .nil .nil) (.node (o109_0 P) .nil .nil)) (.node (o61_0 P) (.node (o93_0 P) .nil .nil) .nil))))) (.node (boot_o_2 P) (.node (boot_o_4 P) (.node (boot_o_8 P) (.node (o16_0 P) (.node (o32_0 P) (.node (o64_0 P) .nil .nil) (.node (o96_0 P) .nil .nil)) (.node (o48_0 P) (.node (o80_0 P) .nil .nil) (.node (o112_0 P) .nil .nil))) (.node (o24_1 P) (.node (o40_0 P) (.node (o72_0 P) .nil .nil) (.node (o104_0 P) .nil .nil)) (.node (o56_0 P) (.node (o88_0 P) .nil .nil) .nil))) (.node (o12_2 P) (.node (o20_0 P) (.node (o36_0 P) (.node (o68_0 P) .nil .nil) (.node (o100_0 P) .nil .nil)) (.node (o52_0 P) (.node (o84_0 P) .nil .nil) .nil)) (.node (o28_0 P) (.node (o44_0 P) (.node (o76_0 P) .nil .nil) (.node (o108_0 P) .nil .nil)) (.node (o60_0 P) (.node (o92_0 P) .nil .nil) .nil)))) (.node (boot_o_6 P) (.node (boot_o_10 P) (.node (o18_0 P) (.node (o34_0 P) (.node (o66_0 P) .nil .nil) (.node (o98_0 P) .nil .nil)) (.node (o50_0 P) (.node (o82_0 P) .nil .nil) (.node (o114_0 P) .nil .nil))) (.node (o26_0 P) (.node (o42_0 P) (.node (o74_0 P) .nil .nil) (.node (o106_0 P) .nil .nil)) (.node (o58_0 P) (.node (o90_0 P) .nil .nil) .nil))) (.node (o14_0 P) (.node (o22_2 P) (.node (o38_0 P) (.node (o70_0 P) .nil .nil) (.node (o102_0 P) .nil .nil)) (.node (o54_0 P) (.node (o86_0 P) .nil .nil) .nil)) (.node (o30_0 P) (.node (o46_0 P) (.node (o78_0 P) .nil .nil) (.node (o110_0 P) .nil .nil)) (.node (o62_0 P) (.node (o94_0 P) .nil .nil) .nil))))))
noncomputable def S_p27 (P : Params) (os : OsState) : SharedT := ⟨tr_p27 P, 115, {}, Array.mk [], {}, 1835, os⟩
noncomputable def tr_p34 (P : Params) : BT := (.node (boot_o_0 P) (.node (boot_o_1 P) (.node (o3_7 P) (.node (boot_o_7 P) (.node (o15_0 P) (.node (o31_0 P) (.node (o63_0 P) (.node (o127_0 P) .nil .nil) .nil) (.node (o95_0 P) .nil .nil)) (.node (o47_0 P) (.node (o79_0 P) (.node (o143_0 P) .nil .nil) .nil) (.node (o111_0 P) .nil .nil))) (.node (o23_0 P) (.node (o39_0 P) (.node (o71_0 P) (.node (o135_0 P) .nil .nil) .nil) (.node (o103_0 P) .nil .nil)) (.node (o55_0 P) (.node (o87_0 P) (.node (o151_0 P) .nil .nil) .nil) (.node (o119_0 P) .nil .nil)))) (.node (o11_0 P) (.node (o19_0 P) (.node (o35_0 P) (.node (o67_0 P) (.node (o131_0 P) .nil .nil) .nil) (.node (o99_0 P) .nil .nil)) (.node (o51_0 P) (.node (o83_0 P) (.node (o147_0 P) .nil .nil) .nil) (.node (o115_0 P) .nil .nil))) (.node (o27_0 P) (.node (o43_0 P) (.node (o75_0 P) (.node (o139_0 P) .nil .nil) .nil) (.node (o107_0 P) .nil .nil)) (.node (o59_0 P) (.node (o91_0 P) (.node (o155_0 P) .nil .nil) .nil) (.node (o123_0 P) .nil .nil))))) (.node (boot_o_5 P) (.node (boot_o_9 P) (.node (o17_0 P) (.node (o33_0 P) (.node (o65_0 P) (.node (o129_0 P) .nil .nil) .nil) (.node (o97_0 P) .nil .nil)) (.node (o49_0 P) (.node (o81_0 P) (.node (o145_0 P) .nil .nil) .nil) (.node (o113_0 P) .nil .nil))) (.node (o25_0 P) (.node (o41_0 P) (.node (o73_0 P) (.node (o137_0 P) .nil .nil) .nil) (.node (o105_0 P) .nil .nil)) (.node (o57_0 P) (.node (o89_0 P) (.node (o153_0 P) .nil .nil) .nil) (.node (o121_0 P) .nil .nil)))) (.node (o13_0 P) (.node (o21_0 P) (.node (o37_0 P) (.node (o69_0 P) (.node (o133_0 P) .nil .nil) .nil) (.node (o101_0 P) .nil .nil)) (.node (o53_0 P) (.node (o85_0 P) (.node (o149_0 P) .nil .nil) .nil) (.node (o117_0 P) .nil .nil))) (.node (o29_0 P) (.node (o45_0 P) (.node (o77_0 P) (.node (o141_0 P) .nil .nil) .nil) (.node (o109_0 P) .nil .nil)) (.node (o61_0 P) (.node (o93_0 P) .nil .nil) (.node (o125_0 P) .nil .nil)))))) (.node (boot_o_2 P) (.node (boot_o_4 P) (.node (boot_o_8 P) (.node (o16_0 P) (.node (o32_0 P) (.node (o64_0 P) (.node (o128_0 P) .nil .nil) .nil) (.node (o96_0 P) .nil .nil)) (.node (o48_0 P) (.node (o80_0 P) (.node (o144_0 P) .nil .nil) .nil) (.node (o112_0 P) .nil .nil))) (.node (o24_1 P) (.node (o40_0 P) (.node (o72_0 P) (.node (o136_0 P) .nil .nil) .nil) (.node (o104_0 P) .nil .nil)) (.node (o56_0 P) (.node (o88_0 P) (.node (o152_0 P) .nil .nil) .nil) (.node (o120_0 P) .nil .nil)))) (.node (o12_3 P) (.node (o20_0 P) (.node (o36_0 P) (.node (o68_0 P) (.node (o132_0 P) .nil .nil) .nil) (.node (o100_0 P) .nil .nil)) (.node (o52_0 P) (.node (o84_0 P) (.node (o148_0 P) .nil .nil) .nil) (.node (o116_0 P) .nil .nil))) (.node (o28_0 P) (.node (o44_0 P) (.node (o76_0 P) (.node (o140_0 P) .nil .nil) .nil) (.node (o108_0 P) .nil .nil)) (.node (o60_0 P) (.node (o92_0 P) (.node (o156_0 P) .nil .nil) .nil) (.node (o124_0 P) .nil .nil))))) (.node (boot_o_6 P) (.node (boot_o_10 P) (.node (o18_0 P) (.node (o34_0 P) (.node (o66_0 P) (.node (o130_0 P) .nil .nil) .nil) (.node (o98_0 P) .nil .nil)) (.node (o50_0 P) (.node (o82_0 P) (.node (o146_0 P) .nil .nil) .nil) (.node (o114_0 P) .nil .nil))) (.node (o26_0 P) (.node (o42_0 P) (.node (o74_0 P) (.node (o138_0 P) .nil .nil) .nil) (.node (o106_0 P) .nil .nil)) (.node (o58_0 P) (.node (o90_0 P) (.node (o154_0 P) .nil .nil) .nil) (.node (o122_0 P) .nil .nil)))) (.node (o14_0 P) (.node (o22_2 P) (.node (o38_0 P) (.node (o70_0 P) (.node (o134_0 P) .nil .nil) .nil) (.node (o102_0 P) .nil .nil)) (.node (o54_0 P) (.node (o86_0 P) (.node (o150_0 P) .nil .nil) .nil) (.node (o118_0 P) .nil .nil))) (.node (o30_0 P) (.node (o46_0 P) (.node (o78_0 P) (.node (o142_0 P) .nil .nil) .nil) (.node (o110_0 P) .nil .nil)) (.node (o62_0 P) (.node (o94_0 P) .nil .nil) (.node (o126_0 P) .nil .nil)))))))
noncomputable def S_p34 (P : Params) (os : OsState) : SharedT := ⟨tr_p34 P, 157, {}, Array.mk [], {}, 1890, os⟩
noncomputable def tr_p40 (P : Params) : BT := (.node (boot_o_0 P) (.node (boot_o_1 P) (.node (o3_8 P) (.node (boot_o_7 P) (.node (o15_0 P) (.node (o31_0 P) (.node (o63_0 P) (.node (o127_0 P) .nil .nil) .nil) (.node (o95_0 P) (.node (o159_0 P) .nil .nil) .nil)) (.node (o47_0 P) (.node (o79_0 P) (.node (o143_0 P) .nil .nil) .nil) (.node (o111_0 P) (.node (o175_0 P) .nil .nil) .nil))) (.node (o23_0 P) (.node (o39_0 P) (.node (o71_0 P) (.node (o135_0 P) .nil .nil) .nil) (.node (o103_0 P) (.node (o167_0 P) .nil .nil) .nil)) (.node (o55_0 P) (.node (o87_0 P) (.node (o151_0 P) .nil .nil) .nil) (.node (o119_0 P) (.node (o183_0 P) .nil .nil) .nil)))) (.node (o11_0 P) (.node (o19_0 P) (.node (o35_0 P) (.node (o67_0 P) (.node (o131_0 P) .nil .nil) .nil) (.node (o99_0 P) (.node (o163_0 P) .nil .nil) .nil)) (.node (o51_0 P) (.node (o83_0 P) (.node (o147_0 P) .nil .nil) .nil) (.node (o115_0 P) (.node (o179_0 P) .nil .nil) .nil))) (.node (o27_0 P) (.node (o43_0 P) (.node (o75_0 P) (.node (o139_0 P) .nil .nil) .nil) (.node (o107_0 P) (.node (o171_0 P) .nil .nil) .nil)) (.node (o59_0 P) (.node (o91_0 P) (.node (o155_0 P) .nil .nil) .nil) (.node (o123_0 P) (.node (o187_0 P) .nil .nil) .nil))))) (.node (boot_o_5 P) (.node (boot_o_9 P) (.node (o17_0 P) (.node (o33_0 P) (.node (o65_0 P) (.node (o129_0 P) .nil .nil) .nil) (.node (o97_0 P) (.node (o161_0 P) .nil .nil) .nil)) (.node (o49_0 P) (.node (o81_0 P) (.node (o145_0 P) .nil .nil) .nil) (.node (o113_0 P) (.node (o177_0 P) .nil .nil) .nil))) (.node (o25_0 P) (.node (o41_0 P) (.node (o73_0 P) (.node (o137_0 P) .nil .nil) .nil) (.node (o105_0 P) (.node (o169_0 P) .nil .nil) .nil)) (.node (o57_0 P) (.node (o89_0 P) (.node (o153_0 P) .nil .nil) .nil) (.node (o121_0 P) (.node (o185_0 P) .nil .nil) .nil)))) (.node (o13_0 P) (.node (o21_0 P) (.node (o37_0 P) (.node (o69_0 P) (.node (o133_0 P) .nil .nil) .nil) (.node (o101_0 P) (.node (o165_0 P) .nil .nil) .nil)) (.node (o53_0 P) (.node (o85_0 P) (.node (o149_0 P) .nil .nil) .nil) (.node (o117_0 P) (.node (o181_0 P) .nil .nil) .nil))) (.node (o29_0 P) (.node (o45_0 P) (.node (o77_0 P) (.node (o141_0 P) .nil .nil) .nil) (.node (o109_0 P) (.node (o173_0 P) .nil .nil) .nil)) (.node (o61_0 P) (.node (o93_0 P) (.node (o157_0 P) .nil .nil) .nil) (.node (o125_0 P) (.node (o189_0 P) .nil .nil) .nil)))))) (.node (boot_o_2 P) (.node (boot_o_4 P) (.node (boot_o_8 P) (.node (o16_0 P) (.node (o32_0 P) (.node (o64_0 P) (.node (o128_0 P) .nil .nil) .nil) (.node (o96_0 P) (.node (o160_0 P) .nil .nil) .nil)) (.node (o48_0 P) (.node (o80_0 P) (.node (o144_0 P) .nil .nil) .nil) (.node (o112_0 P) (.node (o176_0 P) .nil .nil) .nil))) (.node (o24_1 P) (.node (o40_0 P) (.node (o72_0 P) (.node (o136_0 P) .nil .nil) .nil) (.node (o104_0 P) (.node (o168_0 P) .nil .nil) .nil)) (.node (o56_0 P) (.node (o88_0 P) (.node (o152_0 P) .nil .nil) .nil) (.node (o120_0 P) (.node (o184_0 P) .nil .nil) .nil)))) (.node (o12_4 P) (.node (o20_0 P) (.node (o36_0 P) (.node (o68_0 P) (.node (o132_0 P) .nil .nil) .nil) (.node (o100_0 P) (.node (o164_0 P) .nil .nil) .nil)) (.node (o52_0 P) (.node (o84_0 P) (.node (o148_0 P) .nil .nil) .nil) (.node (o116_0 P) (.node (o180_0 P) .nil .nil) .nil))) (.node (o28_0 P) (.node (o44_0 P) (.node (o76_0 P) (.node (o140_0 P) .nil .nil) .nil) (.node (o108_0 P) (.node (o172_0 P) .nil .nil) .nil)) (.node (o60_0 P) (.node (o92_0 P) (.node (o156_0 P) .nil .nil) .nil) (.node (o124_0 P) (.node (o188_0 P) .nil .nil) .nil))))) (.node (boot_o_6 P) (.node (boot_o_10 P) (.node (o18_0 P) (.node (o34_0 P) (.node (o66_0 P) (.node (o130_0 P) .nil .nil) .nil) (.node (o98_0 P) (.node (o162_0 P) .nil .nil) .nil)) (.node (o50_0 P) (.node (o82_0 P) (.node (o146_0 P) .nil .nil) .nil) (.node (o114_0 P) (.node (o178_0 P) .nil .nil) .nil))) (.node (o26_0 P) (.node (o42_0 P) (.node (o74_0 P) (.node (o138_0 P) .nil .nil) .nil) (.node (o106_0 P) (.node (o170_0 P) .nil .nil) .nil)) (.node (o58_0 P) (.node (o90_0 P) (.node (o154_0 P) .nil .nil) .nil) (.node (o122_0 P) (.node (o186_0 P) .nil .nil) .nil)))) (.node (o14_0 P) (.node (o22_2 P) (.node (o38_0 P) (.node (o70_0 P) (.node (o134_0 P) .nil .nil) .nil) (.node (o102_0 P) (.node (o166_0 P) .nil .nil) .nil)) (.node (o54_0 P) (.node (o86_0 P) (.node (o150_0 P) .nil .nil) .nil) (.node (o118_0 P) (.node (o182_0 P) .nil .nil) .nil))) (.node (o30_0 P) (.node (o46_0 P) (.node (o78_0 P) (.node (o142_0 P) .nil .nil) .nil) (.node (o110_0 P) (.node (o174_0 P) .nil .nil) .nil)) (.node (o62_0 P) (.node (o94_0 P) (.node (o158_0 P) .nil .nil) .nil) (.node (o126_0 P) (.node (o190_0 P) .nil .nil) .nil)))))))
noncomputable def S_p40 (P : Params) (os : OsState) : SharedT := ⟨tr_p40 P, 191, {}, Array.mk [], {}, 1936, os⟩
noncomputable def H_pre (P : Params) : Heap := ⟨⟨[boot_o_0 P, boot_o_1 P, boot_o_2 P, boot_o_3 P, boot_o_4 P, boot_o_5 P, boot_o_6 P, boot_o_7 P, boot_o_8 P, boot_o_9 P, boot_o_10 P, o11_0 P, o12_0 P, o13_0 P, o14_0 P]⟩, {}⟩
noncomputable def H_fin (P : Params) : Heap := ⟨⟨[boot_o_0 P, boot_o_1 P, boot_o_2 P, o3_8 P, boot_o_4 P, boot_o_5 P, boot_o_6 P, boot_o_7 P, boot_o_8 P, boot_o_9 P, boot_o_10 P, o11_0 P, o12_4 P, o13_0 P, o14_0 P, o15_0 P, o16_0 P, o17_0 P, o18_0 P, o19_0 P, o20_0 P, o21_0 P, o22_2 P, o23_0 P, o24_1 P, o25_0 P, o26_0 P, o27_0 P, o28_0 P, o29_0 P, o30_0 P, o31_0 P, o32_0 P, o33_0 P, o34_0 P, o35_0 P, o36_0 P, o37_0 P, o38_0 P, o39_0 P, o40_0 P, o41_0 P, o42_0 P, o43_0 P, o44_0 P, o45_0 P, o46_0 P, o47_0 P, o48_0 P, o49_0 P, o50_0 P, o51_0 P, o52_0 P, o53_0 P, o54_0 P, o55_0 P, o56_0 P, o57_0 P, o58_0 P, o59_0 P, o60_0 P, o61_0 P, o62_0 P, o63_0 P, o64_0 P, o65_0 P, o66_0 P, o67_0 P, o68_0 P, o69_0 P, o70_0 P, o71_0 P, o72_0 P, o73_0 P, o74_0 P, o75_0 P, o76_0 P, o77_0 P, o78_0 P, o79_0 P, o80_0 P, o81_0 P, o82_0 P, o83_0 P, o84_0 P, o85_0 P, o86_0 P, o87_0 P, o88_0 P, o89_0 P, o90_0 P, o91_0 P, o92_0 P, o93_0 P, o94_0 P, o95_0 P, o96_0 P, o97_0 P, o98_0 P, o99_0 P, o100_0 P, o101_0 P, o102_0 P, o103_0 P, o104_0 P, o105_0 P, o106_0 P, o107_0 P, o108_0 P, o109_0 P, o110_0 P, o111_0 P, o112_0 P, o113_0 P, o114_0 P, o115_0 P, o116_0 P, o117_0 P, o118_0 P, o119_0 P, o120_0 P, o121_0 P, o122_0 P, o123_0 P, o124_0 P, o125_0 P, o126_0 P, o127_0 P, o128_0 P, o129_0 P, o130_0 P, o131_0 P, o132_0 P, o133_0 P, o134_0 P, o135_0 P, o136_0 P, o137_0 P, o138_0 P, o139_0 P, o140_0 P, o141_0 P, o142_0 P, o143_0 P, o144_0 P, o145_0 P, o146_0 P, o147_0 P, o148_0 P, o149_0 P, o150_0 P, o151_0 P, o152_0 P, o153_0 P, o154_0 P, o155_0 P, o156_0 P, o157_0 P, o158_0 P, o159_0 P, o160_0 P, o161_0 P, o162_0 P, o163_0 P, o164_0 P, o165_0 P, o166_0 P, o167_0 P, o168_0 P, o169_0 P, o170_0 P, o171_0 P, o172_0 P, o173_0 P, o174_0 P, o175_0 P, o176_0 P, o177_0 P, o178_0 P, o179_0 P, o180_0 P, o181_0 P, o182_0 P, o183_0 P, o184_0 P, o185_0 P, o186_0 P, o187_0 P, o188_0 P, o189_0 P, o190_0 P]⟩, {}⟩
noncomputable def trC (P : Params) (k : Nat) : BT := (.node (boot_o_0 P) (.node (boot_o_1 P) (.node (o3_0 P) (.node (boot_o_7 P) (.node (oc15) .nil .nil) .nil) (.node (o11_0 P) .nil .nil)) (.node (boot_o_5 P) (.node (boot_o_9 P) (.node (oc17 k) .nil .nil) .nil) (.node (o13_0 P) .nil .nil))) (.node (boot_o_2 P) (.node (boot_o_4 P) (.node (boot_o_8 P) (.node (oc16 k) .nil .nil) .nil) (.node (o12_0 P) .nil .nil)) (.node (boot_o_6 P) (.node (boot_o_10 P) (.node (oc18 P k) .nil .nil) .nil) (.node (o14_0 P) .nil .nil))))
noncomputable def SC (P : Params) (os : OsState) (k : Nat) : SharedT := ⟨trC P k, 19, {}, Array.mk [], {}, Nat.add 192 (Nat.mul 4 k), os⟩
noncomputable def lc : Expr := match stAt 1 bE with | .Assign _ v _ => v | _ => .Name Str.empty qpos
noncomputable def lcs : Scope := match lc with | .ListComp _ _ sc _ => sc | _ => pw.main.scope
noncomputable def cenv : Env := { scope := lcs, locals := 18, globals := 3, cells := [], code := .ref 13, frame := some 14 }
noncomputable def cd : Code := .compLoop lc 0 (.ref 16) (.ref 17) cenv
noncomputable def posC (k : Nat) : Pos := match k with | 0 => ⟨2, 36, 2, 46⟩ | _ + 1 => ⟨2, 15, 2, 26⟩
noncomputable def TC (kk : Result → Sem PySem.Fin) (k : Nat) : Thread := ⟨denote treeTable cd, cd, posC k, [.ret kk none true [.ref 18, .ref 17] bcode ⟨2, 36, 2, 46⟩ [], topFrame qpos]⟩
noncomputable def byF1 : Array UInt8 := #[45, 33, 42, 43, 47, 97, 98, 99, 100, 101, 102, 103, 104, 105, 106, 107, 108, 109, 110, 111, 112, 113, 114, 115, 116, 117, 118, 119, 120, 121, 122, 65, 66, 67, 68, 69, 70, 71, 72, 73, 74, 75, 76, 77, 78, 79, 80, 81, 82, 83, 84, 85, 86, 87, 88, 89, 90, 48, 49, 50, 51, 52, 53, 54, 55, 56, 57]
noncomputable def o3F1 (P : Params) (k : Nat) : Obj := match k with
  | 0 => o3_2 P
  | k + 1 => ⟨(.type "dict"), none, (.dict #[⟨PyData.keyHash P (Str.ofString "__name__"), (.str (Str.ofString "__name__") 165), (.str (Str.ofString "cpy313.email.quoprimime") 1232)⟩,
   ⟨PyData.keyHash P (Str.ofString "__doc__"), (.str (Str.ofString "__doc__") 166), .none⟩,
   ⟨PyData.keyHash P (Str.ofString "__package__"), (.str (Str.ofString "__package__") 167), .none⟩,
   ⟨PyData.keyHash P (Str.ofString "__loader__"), (.str (Str.ofString "__loader__") 168), (.builtin "__main__.__loader__#opaque")⟩,
   ⟨PyData.keyHash P (Str.ofString "__spec__"), (.str (Str.ofString "__spec__") 169), .none⟩,
   ⟨PyData.keyHash P (Str.ofString "__annotations__"), (.str (Str.ofString "__annotations__") 170), (.ref 6)⟩,
   ⟨PyData.keyHash P (Str.ofString "__builtins__"), (.str (Str.ofString "__builtins__") 171), (.ref 4)⟩,
   ⟨PyData.keyHash P (Str.ofString "__file__"), (.str (Str.ofString "__file__") 173), (.str (Str.ofString "/claim/cut.py") 172)⟩,
   ⟨PyData.keyHash P (Str.ofString "__cached__"), (.str (Str.ofString "__cached__") 174), .none⟩,
   ⟨PyData.keyHash P (Str.ofString "NL"), (.str (Str.ofString "NL") 188), (.str (Str.ofString "\n") 187)⟩,
   ⟨PyData.keyHash P (Str.ofString "_QUOPRI_MAP"), (.str (Str.ofString "_QUOPRI_MAP") 1216), (.ref 17)⟩,
   ⟨PyData.keyHash P (Str.ofString "_QUOPRI_HEADER_MAP"), (.str (Str.ofString "_QUOPRI_HEADER_MAP") 1217), (.ref 22)⟩,
   ⟨PyData.keyHash P (Str.ofString "_QUOPRI_BODY_MAP"), (.str (Str.ofString "_QUOPRI_BODY_MAP") 1218), (.ref 24)⟩,
   ⟨PyData.keyHash P (Str.ofString "ascii_lowercase"), (.str (Str.ofString "ascii_lowercase") 1220), (.str (Str.ofString "abcdefghijklmnopqrstuvwxyz") 1219)⟩,
   ⟨PyData.keyHash P (Str.ofString "ascii_uppercase"), (.str (Str.ofString "ascii_uppercase") 1222), (.str (Str.ofString "ABCDEFGHIJKLMNOPQRSTUVWXYZ") 1221)⟩,
   ⟨PyData.keyHash P (Str.ofString "ascii_letters"), (.str (Str.ofString "ascii_letters") 1224), (.str (Str.ofString "abcdefghijklmnopqrstuvwxyzABCDEFGHIJKLMNOPQRSTUVWXYZ") 1223)⟩,
   ⟨PyData.keyHash P (Str.ofString "digits"), (.str (Str.ofString "digits") 1226), (.str (Str.ofString "0123456789") 1225)⟩,
   ⟨PyData.keyHash P (Str.ofString "hexdigits"), (.str (Str.ofString "hexdigits") 1231), (.str (Str.ofString "0123456789abcdefABCDEF") 1230)⟩,
   ⟨PyData.keyHash P (Str.ofString "c"), .str (Str.ofString "c") 1242, .int (nat8 k byF1.toList) (Nat.add 1241 (Nat.mul 3 k))⟩] 19), #[]⟩
noncomputable def olF1 (k : Nat) : Obj := ⟨.type "list", none, .seq ⟨upd k t22⟩ 0, #[]⟩
noncomputable def oiF1 (k : Nat) : Obj := ⟨.type "bytes_iterator", none, .fields #[.bytes byF1 1240, .int (Int.ofNat k) 0], #[]⟩
noncomputable def trF1 (P : Params) (k : Nat) : BT := (.node (boot_o_0 P) (.node (boot_o_1 P) (.node (o3F1 P k) (.node (boot_o_7 P) (.node (o15_0 P) .nil .nil) (.node (o23_0 P) .nil .nil)) (.node (o11_0 P) (.node (o19_0 P) .nil .nil) .nil)) (.node (boot_o_5 P) (.node (boot_o_9 P) (.node (o17_0 P) .nil .nil) (.node (oiF1 k) .nil .nil)) (.node (o13_0 P) (.node (o21_0 P) .nil .nil) .nil))) (.node (boot_o_2 P) (.node (boot_o_4 P) (.node (boot_o_8 P) (.node (o16_0 P) .nil .nil) (.node (o24_0 P) .nil .nil)) (.node (o12_0 P) (.node (o20_0 P) .nil .nil) .nil)) (.node (boot_o_6 P) (.node (boot_o_10 P) (.node (o18_0 P) .nil .nil) .nil) (.node (o14_0 P) (.node (olF1 k) .nil .nil) .nil))))
noncomputable def SF1 (P : Params) (os : OsState) (k : Nat) : SharedT := ⟨trF1 P k, 26, {}, Array.mk [], {}, Nat.add 1241 (Nat.mul 3 k), os⟩
noncomputable def cdF1 : Code := match stAt 10 bE with | .For t _ b e _ => .forLoop t (.ref 25) b e benv | _ => bcode
noncomputable def posF1 (k : Nat) : Pos := match k with | 0 => ⟨11, 9, 11, 74⟩ | _ + 1 => ⟨12, 4, 12, 25⟩
noncomputable def TF1 (kk : Result → Sem PySem.Fin) (k : Nat) : Thread := ⟨denote treeTable cdF1, cdF1, posF1 k, [.ret kk none false [] bcode ⟨11, 9, 11, 74⟩ [], topFrame qpos]⟩
noncomputable def byF2 : Array UInt8 := #[32, 33, 34, 35, 36, 37, 38, 39, 40, 41, 42, 43, 44, 45, 46, 47, 48, 49, 50, 51, 52, 53, 54, 55, 56, 57, 58, 59, 60, 62, 63, 64, 65, 66, 67, 68, 69, 70, 71, 72, 73, 74, 75, 76, 77, 78, 79, 80, 81, 82, 83, 84, 85, 86, 87, 88, 89, 90, 91, 92, 93, 94, 95, 96, 97, 98, 99, 100, 101, 102, 103, 104, 105, 106, 107, 108, 109, 110, 111, 112, 113, 114, 115, 116, 117, 118, 119, 120, 121, 122, 123, 124, 125, 126, 9]
noncomputable def o3F2 (P : Params) (k : Nat) : Obj := match k with
  | 0 => o3_3 P
  | k + 1 => ⟨(.type "dict"), none, (.dict #[⟨PyData.keyHash P (Str.ofString "__name__"), (.str (Str.ofString "__name__") 165), (.str (Str.ofString "cpy313.email.quoprimime") 1232)⟩,
   ⟨PyData.keyHash P (Str.ofString "__doc__"), (.str (Str.ofString "__doc__") 166), .none⟩,
   ⟨PyData.keyHash P (Str.ofString "__package__"), (.str (Str.ofString "__package__") 167), .none⟩,
   ⟨PyData.keyHash P (Str.ofString "__loader__"), (.str (Str.ofString "__loader__") 168), (.builtin "__main__.__loader__#opaque")⟩,
   ⟨PyData.keyHash P (Str.ofString "__spec__"), (.str (Str.ofString "__spec__") 169), .none⟩,
   ⟨PyData.keyHash P (Str.ofString "__annotations__"), (.str (Str.ofString "__annotations__") 170), (.ref 6)⟩,
   ⟨PyData.keyHash P (Str.ofString "__builtins__"), (.str (Str.ofString "__builtins__") 171), (.ref 4)⟩,
   ⟨PyData.keyHash P (Str.ofString "__file__"), (.str (Str.ofString "__file__") 173), (.str (Str.ofString "/claim/cut.py") 172)⟩,
   ⟨PyData.keyHash P (Str.ofString "__cached__"), (.str (Str.ofString "__cached__") 174), .none⟩,
   ⟨PyData.keyHash P (Str.ofString "NL"), (.str (Str.ofString "NL") 188), (.str (Str.ofString "\n") 187)⟩,
   ⟨PyData.keyHash P (Str.ofString "_QUOPRI_MAP"), (.str (Str.ofString "_QUOPRI_MAP") 1216), (.ref 17)⟩,
   ⟨PyData.keyHash P (Str.ofString "_QUOPRI_HEADER_MAP"), (.str (Str.ofString "_QUOPRI_HEADER_MAP") 1217), (.ref 22)⟩,
   ⟨PyData.keyHash P (Str.ofString "_QUOPRI_BODY_MAP"), (.str (Str.ofString "_QUOPRI_BODY_MAP") 1218), (.ref 24)⟩,
   ⟨PyData.keyHash P (Str.ofString "ascii_lowercase"), (.str (Str.ofString "ascii_lowercase") 1220), (.str (Str.ofString "abcdefghijklmnopqrstuvwxyz") 1219)⟩,
   ⟨PyData.keyHash P (Str.ofString "ascii_uppercase"), (.str (Str.ofString "ascii_uppercase") 1222), (.str (Str.ofString "ABCDEFGHIJKLMNOPQRSTUVWXYZ") 1221)⟩,
   ⟨PyData.keyHash P (Str.ofString "ascii_letters"), (.str (Str.ofString "ascii_letters") 1224), (.str (Str.ofString "abcdefghijklmnopqrstuvwxyzABCDEFGHIJKLMNOPQRSTUVWXYZ") 1223)⟩,
   ⟨PyData.keyHash P (Str.ofString "digits"), (.str (Str.ofString "digits") 1226), (.str (Str.ofString "0123456789") 1225)⟩,
   ⟨PyData.keyHash P (Str.ofString "hexdigits"), (.str (Str.ofString "hexdigits") 1231), (.str (Str.ofString "0123456789abcdefABCDEF") 1230)⟩,
   ⟨PyData.keyHash P (Str.ofString "c"), (.str (Str.ofString "c") 1242), (.int (nat8 k byF2.toList) (Nat.add 1446 (Nat.mul 3 k)))⟩] 19), #[]⟩
noncomputable def olF2 (k : Nat) : Obj := ⟨.type "list", none, .seq ⟨upd k t24⟩ 0, #[]⟩
noncomputable def oiF2 (k : Nat) : Obj := ⟨.type "bytes_iterator", none, .fields #[.bytes byF2 1445, .int (Int.ofNat k) 0], #[]⟩
noncomputable def trF2 (P : Params) (k : Nat) : BT := (.node (boot_o_0 P) (.node (boot_o_1 P) (.node (o3F2 P k) (.node (boot_o_7 P) (.node (o15_0 P) .nil .nil) (.node (o23_0 P) .nil .nil)) (.node (o11_0 P) (.node (o19_0 P) .nil .nil) (.node (o27_0 P) .nil .nil))) (.node (boot_o_5 P) (.node (boot_o_9 P) (.node (o17_0 P) .nil .nil) (.node (o25_0 P) .nil .nil)) (.node (o13_0 P) (.node (o21_0 P) .nil .nil) .nil))) (.node (boot_o_2 P) (.node (boot_o_4 P) (.node (boot_o_8 P) (.node (o16_0 P) .nil .nil) (.node (olF2 k) .nil .nil)) (.node (o12_0 P) (.node (o20_0 P) .nil .nil) (.node (oiF2 k) .nil .nil))) (.node (boot_o_6 P) (.node (boot_o_10 P) (.node (o18_0 P) .nil .nil) (.node (o26_0 P) .nil .nil)) (.node (o14_0 P) (.node (o22_2 P) .nil .nil) .nil))))
noncomputable def SF2 (P : Params) (os : OsState) (k : Nat) : SharedT := ⟨trF2 P k, 29, {}, Array.mk [], {}, Nat.add 1446 (Nat.mul 3 k), os⟩
noncomputable def cdF2 : Code := match stAt 12 bE with | .For t _ b e _ => .forLoop t (.ref 28) b e benv | _ => bcode
noncomputable def posF2 (k : Nat) : Pos := match k with | 0 => ⟨14, 9, 14, 110⟩ | _ + 1 => ⟨15, 4, 15, 23⟩
noncomputable def TF2 (kk : Result → Sem PySem.Fin) (k : Nat) : Thread := ⟨denote treeTable cdF2, cdF2, posF2 k, [.ret kk none false [] bcode ⟨14, 9, 14, 110⟩ [], topFrame qpos]⟩
theorem g_pre (w : World) (os : OsState) : topGo treeTable pw w 11 annV 12 ⟨boot_heap w.params, Array.mk [], boot_drawn, boot_toks, os⟩ (topStub pw) = some (⟨H_pre w.params, Array.mk [], {}, 187, os⟩, ⟨denote treeTable bcode, bcode, ⟨0, 0, 0, 0⟩, bB⟩) := by kernel_rfl
theorem g_block (w : World) (os : OsState) : segRun treeTable pw w 11 annV 1 1 ⟨H_pre w.params, Array.mk [], {}, 187, os⟩ (blockOf bE benv bcode ⟨0, 0, 0, 0⟩ bB) = some (.next, (S_pre w.params os).abs, bcode, ⟨0, 0, 0, 0⟩) := by kernel_rfl
theorem g0 (w : World) : ∀ os : OsState, segRunT treeTable pw w 11 annV 1 10 (S_pre w.params os) (piecesOf (sl 0 1) benv bcode ⟨0, 0, 0, 0⟩ bB) = some (.next, S_p0 w.params os, bcode, ⟨1, 0, 1, 2⟩) := fun os => by kernel_rfl
theorem g1 (w : World) : ∀ os : OsState, segRunT treeTable pw w 11 annV 1 133 (S_p1 w.params os) (piecesOf (sl 2 8) benv bcode ⟨2, 0, 2, 11⟩ bB) = some (.next, S_p9 w.params os, bcode, ⟨10, 0, 10, 8⟩) := fun os => by kernel_rfl
theorem g2 (w : World) : ∀ os : OsState, segRunT treeTable pw w 11 annV 1 25 (S_p10 w.params os) (piecesOf (sl 11 1) benv bcode ⟨11, 9, 11, 74⟩ bB) = some (.next, S_p11 w.params os, bcode, ⟨13, 0, 13, 28⟩) := fun os => by kernel_rfl
theorem g3 : ∀ w : World, ∀ os : OsState, segRunT treeTable pw w 11 annV 1 242 (S_p12 w.params os) (piecesOf (sl 13 6) benv bcode ⟨14, 9, 14, 110⟩ bB) = some (.next, S_p18 w.params os, bcode, ⟨28, 4, 28, 5⟩) :=
  byRow2 "special-get-raises" (P := fun w => ∀ os : OsState, segRunT treeTable pw w 11 annV 1 242 (S_p12 w.params os) (piecesOf (sl 13 6) benv bcode ⟨14, 9, 14, 110⟩ bB) = some (.next, S_p18 w.params os, bcode, ⟨28, 4, 28, 5⟩)) (fun w os => by kernel_rfl) (fun w os => by kernel_rfl)
theorem g4 (w : World) : ∀ os : OsState, segRunT treeTable pw w 11 annV 1 259 (S_p18 w.params os) (piecesOf (sl 19 9) benv bcode ⟨28, 4, 28, 5⟩ bB) = some (.next, S_p27 w.params os, bcode, ⟨72, 0, 76, 16⟩) := fun os => by kernel_rfl
theorem g5 (w : World) : ∀ os : OsState, segRunT treeTable pw w 11 annV 1 195 (S_p27 w.params os) (piecesOf (sl 28 7) benv bcode ⟨72, 0, 76, 16⟩ bB) = some (.next, S_p34 w.params os, bcode, ⟨97, 0, 101, 14⟩) := fun os => by kernel_rfl
theorem g6 (w : World) : ∀ os : OsState, segRunT treeTable pw w 11 annV 1 171 (S_p34 w.params os) (piecesOf (sl 35 6) benv bcode ⟨97, 0, 101, 14⟩ bB) = some (.next, S_p40 w.params os, bcode, ⟨140, 0, 162, 96⟩) := fun os => by kernel_rfl
theorem g_fin (w : World) (os : OsState) : topRun treeTable pw w 11 annV 2 (S_p40 w.params os).abs ⟨doneF .next, bcode, ⟨140, 0, 162, 96⟩, bB⟩ = some ⟨H_fin w.params, Array.mk [], {}, 1936, os⟩ := by kernel_rfl
theorem gC_io : ∀ w : World, ∀ os : OsState, ∃ n kk, n ≤ 60 ∧ segGoT treeTable pw w 11 annV 1 n (S_p0 w.params os) (piecesOf (sl 1 1) benv bcode ⟨1, 0, 1, 2⟩ bB) = some (SC w.params os 0, TC kk 0) ∧ segRunT treeTable pw w 11 annV 1 60 (SC w.params os 256) (TC kk 256) = some (.next, S_p1 w.params os, bcode, ⟨2, 0, 2, 11⟩) :=
  byRow2 "special-get-raises" (P := fun w => ∀ os : OsState, ∃ n kk, n ≤ 60 ∧ segGoT treeTable pw w 11 annV 1 n (S_p0 w.params os) (piecesOf (sl 1 1) benv bcode ⟨1, 0, 1, 2⟩ bB) = some (SC w.params os 0, TC kk 0) ∧ segRunT treeTable pw w 11 annV 1 60 (SC w.params os 256) (TC kk 256) = some (.next, S_p1 w.params os, bcode, ⟨2, 0, 2, 11⟩))
   (byRow2 "comprehension-iter-twice" (P := fun w => (fun w : World => ∀ os : OsState, ∃ n kk, n ≤ 60 ∧ segGoT treeTable pw w 11 annV 1 n (S_p0 w.params os) (piecesOf (sl 1 1) benv bcode ⟨1, 0, 1, 2⟩ bB) = some (SC w.params os 0, TC kk 0) ∧ segRunT treeTable pw w 11 annV 1 60 (SC w.params os 256) (TC kk 256) = some (.next, S_p1 w.params os, bcode, ⟨2, 0, 2, 11⟩)) (w.withFollow "special-get-raises" false))
    (fun w os => ⟨52, kkOf (segGoT treeTable pw ((w.withFollow "comprehension-iter-twice" false).withFollow "special-get-raises" false) 11 annV 1 52 (S_p0 ((w.withFollow "comprehension-iter-twice" false).withFollow "special-get-raises" false).params os) (piecesOf (sl 1 1) benv bcode ⟨1, 0, 1, 2⟩ bB)), by decide, by kernel_rfl, by kernel_rfl⟩)
    (fun w os => ⟨42, kkOf (segGoT treeTable pw ((w.withFollow "comprehension-iter-twice" true).withFollow "special-get-raises" false) 11 annV 1 42 (S_p0 ((w.withFollow "comprehension-iter-twice" true).withFollow "special-get-raises" false).params os) (piecesOf (sl 1 1) benv bcode ⟨1, 0, 1, 2⟩ bB)), by decide, by kernel_rfl, by kernel_rfl⟩))
   (byRow2 "comprehension-iter-twice" (P := fun w => (fun w : World => ∀ os : OsState, ∃ n kk, n ≤ 60 ∧ segGoT treeTable pw w 11 annV 1 n (S_p0 w.params os) (piecesOf (sl 1 1) benv bcode ⟨1, 0, 1, 2⟩ bB) = some (SC w.params os 0, TC kk 0) ∧ segRunT treeTable pw w 11 annV 1 60 (SC w.params os 256) (TC kk 256) = some (.next, S_p1 w.params os, bcode, ⟨2, 0, 2, 11⟩)) (w.withFollow "special-get-raises" true))
    (fun w os => ⟨52, kkOf (segGoT treeTable pw ((w.withFollow "comprehension-iter-twice" false).withFollow "special-get-raises" true) 11 annV 1 52 (S_p0 ((w.withFollow "comprehension-iter-twice" false).withFollow "special-get-raises" true).params os) (piecesOf (sl 1 1) benv bcode ⟨1, 0, 1, 2⟩ bB)), by decide, by kernel_rfl, by kernel_rfl⟩)
    (fun w os => ⟨42, kkOf (segGoT treeTable pw ((w.withFollow "comprehension-iter-twice" true).withFollow "special-get-raises" true) 11 annV 1 42 (S_p0 ((w.withFollow "comprehension-iter-twice" true).withFollow "special-get-raises" true).params os) (piecesOf (sl 1 1) benv bcode ⟨1, 0, 1, 2⟩ bB)), by decide, by kernel_rfl, by kernel_rfl⟩))
theorem gC_t0 (w : World) (os : OsState) (kk : Result → Sem PySem.Fin) : segGoT treeTable pw w 11 annV 1 2368 (SC w.params os 0) (TC kk 0) = some (SC w.params os 64, TC kk 64) := by kernel_rfl
theorem gC_t64 (w : World) (os : OsState) (kk : Result → Sem PySem.Fin) : segGoT treeTable pw w 11 annV 1 2368 (SC w.params os 64) (TC kk 64) = some (SC w.params os 128, TC kk 128) := by kernel_rfl
theorem gC_t128 (w : World) (os : OsState) (kk : Result → Sem PySem.Fin) : segGoT treeTable pw w 11 annV 1 2368 (SC w.params os 128) (TC kk 128) = some (SC w.params os 192, TC kk 192) := by kernel_rfl
theorem gC_t192 (w : World) (os : OsState) (kk : Result → Sem PySem.Fin) : segGoT treeTable pw w 11 annV 1 2368 (SC w.params os 192) (TC kk 192) = some (SC w.params os 256, TC kk 256) := by kernel_rfl
theorem gC_run (w : World) (os : OsState) : ∃ n, n ≤ 9672 ∧ segRun treeTable pw w 11 annV 1 n (S_p0 w.params os).abs (piecesOf (sl 1 1) benv bcode ⟨1, 0, 1, 2⟩ bB) = some (.next, (S_p1 w.params os).abs, bcode, ⟨2, 0, 2, 11⟩) := by
  obtain ⟨n, kk, hn, h0, h1⟩ := gC_io w os
  have e := segRun_of h1
  have e := seg_go (segGo_of (gC_t192 w os kk)) e
  have e := seg_go (segGo_of (gC_t128 w os kk)) e
  have e := seg_go (segGo_of (gC_t64 w os kk)) e
  have e := seg_go (segGo_of (gC_t0 w os kk)) e
  exact ⟨_, by omega, seg_go (segGo_of h0) e⟩
theorem gF1_io : ∀ w : World, ∀ os : OsState, ∃ n kk, n ≤ 60 ∧ segGoT treeTable pw w 11 annV 1 n (S_p9 w.params os) (piecesOf (sl 10 1) benv bcode ⟨10, 0, 10, 8⟩ bB) = some (SF1 w.params os 0, TF1 kk 0) ∧ segRunT treeTable pw w 11 annV 1 60 (SF1 w.params os 67) (TF1 kk 67) = some (.next, S_p10 w.params os, bcode, ⟨11, 9, 11, 74⟩) :=
  byRow2 "special-get-raises" (P := fun w => ∀ os : OsState, ∃ n kk, n ≤ 60 ∧ segGoT treeTable pw w 11 annV 1 n (S_p9 w.params os) (piecesOf (sl 10 1) benv bcode ⟨10, 0, 10, 8⟩ bB) = some (SF1 w.params os 0, TF1 kk 0) ∧ segRunT treeTable pw w 11 annV 1 60 (SF1 w.params os 67) (TF1 kk 67) = some (.next, S_p10 w.params os, bcode, ⟨11, 9, 11, 74⟩))
   (fun w os => ⟨44, kkOf (segGoT treeTable pw (w.withFollow "special-get-raises" false) 11 annV 1 44 (S_p9 (w.withFollow "special-get-raises" false).params os) (piecesOf (sl 10 1) benv bcode ⟨10, 0, 10, 8⟩ bB)), by decide, by kernel_rfl, by kernel_rfl⟩)
   (fun w os => ⟨44, kkOf (segGoT treeTable pw (w.withFollow "special-get-raises" true) 11 annV 1 44 (S_p9 (w.withFollow "special-get-raises" true).params os) (piecesOf (sl 10 1) benv bcode ⟨10, 0, 10, 8⟩ bB)), by decide, by kernel_rfl, by kernel_rfl⟩)
theorem gF1_t0 (w : World) (os : OsState) (kk : Result → Sem PySem.Fin) : segGoT treeTable pw w 11 annV 1 1530 (SF1 w.params os 0) (TF1 kk 0) = some (SF1 w.params os 34, TF1 kk 34) := by kernel_rfl
theorem gF1_t34 (w : World) (os : OsState) (kk : Result → Sem PySem.Fin) : segGoT treeTable pw w 11 annV 1 1485 (SF1 w.params os 34) (TF1 kk 34) = some (SF1 w.params os 67, TF1 kk 67) := by kernel_rfl
theorem gF1_run (w : World) (os : OsState) : ∃ n, n ≤ 3215 ∧ segRun treeTable pw w 11 annV 1 n (S_p9 w.params os).abs (piecesOf (sl 10 1) benv bcode ⟨10, 0, 10, 8⟩ bB) = some (.next, (S_p10 w.params os).abs, bcode, ⟨11, 9, 11, 74⟩) := by
  obtain ⟨n, kk, hn, h0, h1⟩ := gF1_io w os
  have e := segRun_of h1
  have e := seg_go (segGo_of (gF1_t34 w os kk)) e
  have e := seg_go (segGo_of (gF1_t0 w os kk)) e
  exact ⟨_, by omega, seg_go (segGo_of h0) e⟩
theorem gF2_io : ∀ w : World, ∀ os : OsState, ∃ n kk, n ≤ 60 ∧ segGoT treeTable pw w 11 annV 1 n (S_p11 w.params os) (piecesOf (sl 12 1) benv bcode ⟨13, 0, 13, 28⟩ bB) = some (SF2 w.params os 0, TF2 kk 0) ∧ segRunT treeTable pw w 11 annV 1 60 (SF2 w.params os 95) (TF2 kk 95) = some (.next, S_p12 w.params os, bcode, ⟨14, 9, 14, 110⟩) :=
  byRow2 "special-get-raises" (P := fun w => ∀ os : OsState, ∃ n kk, n ≤ 60 ∧ segGoT treeTable pw w 11 annV 1 n (S_p11 w.params os) (piecesOf (sl 12 1) benv bcode ⟨13, 0, 13, 28⟩ bB) = some (SF2 w.params os 0, TF2 kk 0) ∧ segRunT treeTable pw w 11 annV 1 60 (SF2 w.params os 95) (TF2 kk 95) = some (.next, S_p12 w.params os, bcode, ⟨14, 9, 14, 110⟩))
   (fun w os => ⟨10, kkOf (segGoT treeTable pw (w.withFollow "special-get-raises" false) 11 annV 1 10 (S_p11 (w.withFollow "special-get-raises" false).params os) (piecesOf (sl 12 1) benv bcode ⟨13, 0, 13, 28⟩ bB)), by decide, by kernel_rfl, by kernel_rfl⟩)
   (fun w os => ⟨10, kkOf (segGoT treeTable pw (w.withFollow "special-get-raises" true) 11 annV 1 10 (S_p11 (w.withFollow "special-get-raises" true).params os) (piecesOf (sl 12 1) benv bcode ⟨13, 0, 13, 28⟩ bB)), by decide, by kernel_rfl, by kernel_rfl⟩)
theorem gF2_t0 (w : World) (os : OsState) (kk : Result → Sem PySem.Fin) : segGoT treeTable pw w 11 annV 1 2160 (SF2 w.params os 0) (TF2 kk 0) = some (SF2 w.params os 48, TF2 kk 48) := by kernel_rfl
theorem gF2_t48 (w : World) (os : OsState) (kk : Result → Sem PySem.Fin) : segGoT treeTable pw w 11 annV 1 2115 (SF2 w.params os 48) (TF2 kk 48) = some (SF2 w.params os 95, TF2 kk 95) := by kernel_rfl
theorem gF2_run (w : World) (os : OsState) : ∃ n, n ≤ 4475 ∧ segRun treeTable pw w 11 annV 1 n (S_p11 w.params os).abs (piecesOf (sl 12 1) benv bcode ⟨13, 0, 13, 28⟩ bB) = some (.next, (S_p12 w.params os).abs, bcode, ⟨14, 9, 14, 110⟩) := by
  obtain ⟨n, kk, hn, h0, h1⟩ := gF2_io w os
  have e := segRun_of h1
  have e := seg_go (segGo_of (gF2_t48 w os kk)) e
  have e := seg_go (segGo_of (gF2_t0 w os kk)) e
  exact ⟨_, by omega, seg_go (segGo_of h0) e⟩
theorem body_eq : bE = sl 0 1 ++ (sl 1 1 ++ (sl 2 8 ++ (sl 10 1 ++ (sl 11 1 ++ (sl 12 1 ++ (sl 13 6 ++ (sl 19 9 ++ (sl 28 7 ++ (sl 35 6 ++ []))))))))) := by kernel_rfl
theorem top_run (w : World) (os : OsState) : topRun treeTable pw w 11 annV 20000 ⟨boot_heap w.params, Array.mk [], boot_drawn, boot_toks, os⟩ (topStub pw) = some ⟨H_fin w.params, Array.mk [], {}, 1936, os⟩ := by
  obtain ⟨nC, hC, eC⟩ := gC_run w os
  obtain ⟨nF1, hF1, eF1⟩ := gF1_run w os
  obtain ⟨nF2, hF2, eF2⟩ := gF2_run w os
  have k := piece_nil (env := benv) (g_fin w os)
  have k := piece_app (segRun_of (g6 w os)) k
  have k := piece_app (segRun_of (g5 w os)) k
  have k := piece_app (segRun_of (g4 w os)) k
  have k := piece_app (segRun_of (g3 w os)) k
  have k := piece_app eF2 k
  have k := piece_app (segRun_of (g2 w os)) k
  have k := piece_app eF1 k
  have k := piece_app (segRun_of (g1 w os)) k
  have k := piece_app eC k
  have k := piece_app (segRun_of (g0 w os)) k
  rw [← body_eq] at k
  have k := piece_block (g_block w os) k
  have k := go_top (g_pre w os) k
  have h := topRun_mono (20000 - (1050 + nC + nF1 + nF2)) _ _ _ _ k
  refine Eq.trans (congrArg (fun n => topRun treeTable pw w 11 annV n _ _) ?_) h
  omega
end Mine
end
-- part Hd2
section
open PySem PySem.W PyProof.Rows
set_option maxRecDepth 100000
set_option maxHeartbeats 8000000
namespace Mine
noncomputable def K (P : Params) : Frag :=
  (nat_lit 2, boot_o_2 P) ::
  (nat_lit 3, o3_8 P) ::
  (nat_lit 17, o17_0 P) ::
  (nat_lit 22, o22_2 P) ::
  (nat_lit 31, o31_0 P) ::
  (nat_lit 33, o33_0 P) ::
  (nat_lit 34, o34_0 P) ::
  (nat_lit 36, o36_0 P) ::
  (nat_lit 37, o37_0 P) ::
  (nat_lit 38, o38_0 P) ::
  (nat_lit 40, o40_0 P) ::
  (nat_lit 41, o41_0 P) ::
  (nat_lit 43, o43_0 P) ::
  (nat_lit 44, o44_0 P) ::
  (nat_lit 45, o45_0 P) ::
  (nat_lit 46, o46_0 P) ::
  (nat_lit 48, o48_0 P) ::
  (nat_lit 49, o49_0 P) ::
  (nat_lit 51, o51_0 P) ::
  (nat_lit 52, o52_0 P) ::
  (nat_lit 58, o58_0 P) ::
  (nat_lit 59, o59_0 P) ::
  (nat_lit 61, o61_0 P) ::
  (nat_lit 62, o62_0 P) ::
  (nat_lit 64, o64_0 P) ::
  (nat_lit 65, o65_0 P) ::
  (nat_lit 66, o66_0 P) ::
  (nat_lit 68, o68_0 P) ::
  (nat_lit 69, o69_0 P) ::
  (nat_lit 71, o71_0 P) ::
  (nat_lit 72, o72_0 P) ::
  (nat_lit 73, o73_0 P) ::
  (nat_lit 75, o75_0 P) ::
  (nat_lit 76, o76_0 P) ::
  (nat_lit 78, o78_0 P) ::
  (nat_lit 79, o79_0 P) ::
  (nat_lit 80, o80_0 P) ::
  (nat_lit 82, o82_0 P) ::
  (nat_lit 83, o83_0 P) ::
  (nat_lit 85, o85_0 P) ::
  (nat_lit 86, o86_0 P) ::
  (nat_lit 87, o87_0 P) ::
  (nat_lit 89, o89_0 P) ::
  (nat_lit 90, o90_0 P) ::
  (nat_lit 92, o92_0 P) ::
  (nat_lit 93, o93_0 P) ::
  (nat_lit 94, o94_0 P) ::
  (nat_lit 96, o96_0 P) ::
  (nat_lit 97, o97_0 P) ::
  (nat_lit 99, o99_0 P) ::
  (nat_lit 100, o100_0 P) ::
  (nat_lit 101, o101_0 P) ::
  (nat_lit 103, o103_0 P) ::
  (nat_lit 104, o104_0 P) ::
  (nat_lit 106, o106_0 P) ::
  (nat_lit 107, o107_0 P) ::
  (nat_lit 108, o108_0 P) ::
  (nat_lit 110, o110_0 P) ::
  (nat_lit 111, o111_0 P) ::
  (nat_lit 113, o113_0 P) ::
  (nat_lit 114, o114_0 P) ::
  (nat_lit 115, o115_0 P) ::
  (nat_lit 117, o117_0 P) ::
  (nat_lit 118, o118_0 P) ::
  (nat_lit 120, o120_0 P) ::
  (nat_lit 121, o121_0 P) ::
  (nat_lit 122, o122_0 P) ::
  (nat_lit 124, o124_0 P) ::
  (nat_lit 125, o125_0 P) ::
  (nat_lit 127, o127_0 P) ::
  (nat_lit 128, o128_0 P) ::
  (nat_lit 129, o129_0 P) ::
  (nat_lit 131, o131_0 P) ::
  (nat_lit 132, o132_0 P) ::
  (nat_lit 134, o134_0 P) ::
  (nat_lit 135, o135_0 P) ::
  (nat_lit 136, o136_0 P) ::
  (nat_lit 138, o138_0 P) ::
  (nat_lit 139, o139_0 P) ::
  (nat_lit 141, o141_0 P) ::
  (nat_lit 142, o142_0 P) ::
  (nat_lit 143, o143_0 P) ::
  (nat_lit 145, o145_0 P) ::
  (nat_lit 146, o146_0 P) ::
  (nat_lit 148, o148_0 P) ::
  (nat_lit 149, o149_0 P) ::
  (nat_lit 150, o150_0 P) ::
  (nat_lit 152, o152_0 P) ::
  (nat_lit 153, o153_0 P) ::
  (nat_lit 155, o155_0 P) ::
  (nat_lit 156, o156_0 P) ::
  (nat_lit 157, o157_0 P) ::
  (nat_lit 160, o160_0 P) ::
  (nat_lit 161, o161_0 P) ::
  (nat_lit 162, o162_0 P) ::
  (nat_lit 164, o164_0 P) ::
  (nat_lit 165, o165_0 P) ::
  (nat_lit 167, o167_0 P) ::
  (nat_lit 168, o168_0 P) ::
  (nat_lit 169, o169_0 P) ::
  (nat_lit 171, o171_0 P) ::
  (nat_lit 172, o172_0 P) ::
  (nat_lit 174, o174_0 P) ::
  (nat_lit 175, o175_0 P) ::
  (nat_lit 176, o176_0 P) ::
  (nat_lit 179, o179_0 P) ::
  (nat_lit 180, o180_0 P) ::
  (nat_lit 181, o181_0 P) ::
  (nat_lit 184, o184_0 P) ::
  (nat_lit 185, o185_0 P) ::
  (nat_lit 186, o186_0 P) ::
  (nat_lit 189, o189_0 P) ::
  (nat_lit 190, o190_0 P) ::
  []
noncomputable def kAddrs : List Addr := [nat_lit 2, nat_lit 3, nat_lit 17, nat_lit 22, nat_lit 31, nat_lit 33, nat_lit 34, nat_lit 36, nat_lit 37, nat_lit 38, nat_lit 40, nat_lit 41, nat_lit 43, nat_lit 44, nat_lit 45, nat_lit 46, nat_lit 48, nat_lit 49, nat_lit 51, nat_lit 52, nat_lit 58, nat_lit 59, nat_lit 61, nat_lit 62, nat_lit 64, nat_lit 65, nat_lit 66, nat_lit 68, nat_lit 69, nat_lit 71, nat_lit 72, nat_lit 73, nat_lit 75, nat_lit 76, nat_lit 78, nat_lit 79, nat_lit 80, nat_lit 82, nat_lit 83, nat_lit 85, nat_lit 86, nat_lit 87, nat_lit 89, nat_lit 90, nat_lit 92, nat_lit 93, nat_lit 94, nat_lit 96, nat_lit 97, nat_lit 99, nat_lit 100, nat_lit 101, nat_lit 103, nat_lit 104, nat_lit 106, nat_lit 107, nat_lit 108, nat_lit 110, nat_lit 111, nat_lit 113, nat_lit 114, nat_lit 115, nat_lit 117, nat_lit 118, nat_lit 120, nat_lit 121, nat_lit 122, nat_lit 124, nat_lit 125, nat_lit 127, nat_lit 128, nat_lit 129, nat_lit 131, nat_lit 132, nat_lit 134, nat_lit 135, nat_lit 136, nat_lit 138, nat_lit 139, nat_lit 141, nat_lit 142, nat_lit 143, nat_lit 145, nat_lit 146, nat_lit 148, nat_lit 149, nat_lit 150, nat_lit 152, nat_lit 153, nat_lit 155, nat_lit 156, nat_lit 157, nat_lit 160, nat_lit 161, nat_lit 162, nat_lit 164, nat_lit 165, nat_lit 167, nat_lit 168, nat_lit 169, nat_lit 171, nat_lit 172, nat_lit 174, nat_lit 175, nat_lit 176, nat_lit 179, nat_lit 180, nat_lit 181, nat_lit 184, nat_lit 185, nat_lit 186, nat_lit 189, nat_lit 190]
theorem kAddrs_eq (P : Params) : kAddrs = (K P).map (·.1) := by kernel_rfl
noncomputable def qv : Program := { pw with main := { pw.main with body := [stAt 0 pw.main.body, stAt 1 pw.main.body, stAt 2 pw.main.body, stAt 3 pw.main.body, stAt 4 pw.main.body, stAt 5 pw.main.body, stAt 6 pw.main.body, stAt 7 pw.main.body, stAt 8 pw.main.body, stAt 13 pw.main.body, stAt 14 pw.main.body, stAt 16 pw.main.body, stAt 21 pw.main.body, stAt 22 pw.main.body, stAt 23 pw.main.body, stAt 24 pw.main.body, stAt 25 pw.main.body, stAt 26 pw.main.body, stAt 27 pw.main.body, stAt 28 pw.main.body, stAt 29 pw.main.body, stAt 31 pw.main.body, stAt 32 pw.main.body, stAt 33 pw.main.body, stAt 34 pw.main.body, stAt 35 pw.main.body, stAt 36 pw.main.body, stAt 37 pw.main.body, stAt 38 pw.main.body, stAt 39 pw.main.body, stAt 40 pw.main.body] } }
noncomputable def lv : List Str := [Str.ofString "_QUOPRI_MAP", Str.ofString "_QUOPRI_HEADER_MAP", Str.ofString "_QUOPRI_BODY_MAP", Str.ofString "ascii_letters", Str.ofString "hexdigits", Str.ofString "header_encode", Str.ofString "_QUOPRI_BODY_ENCODE_MAP", Str.ofString "decode"]
noncomputable def hk : Hook := kHook K kAddrs kAddrs_eq
noncomputable def xt (s : Shared) : Bool := xlAt qv [] s && recOk (RowW.records (OpenRow.toRowW PySem.Challenge.rw_ku0005_01.row)) s
theorem h_boot (w : World) : importEnds treeTable (opening pw) w 600 (start (opening pw)).1 (start (opening pw)).2 = some ⟨boot_heap w.params, Array.mk [], boot_drawn, boot_toks, (start (opening pw)).1.os⟩ := by kernel_rfl
theorem h_fence (w : World) : (fun os => (fenceModules? pw ⟨boot_heap w.params, Array.mk [], boot_drawn, boot_toks, os⟩).map (fun s => (s.heap, s.gens, s.drawn, s.toks))) = fun _ => some (boot_heap w.params, Array.mk [], boot_drawn, boot_toks) := by kernel_rfl
theorem h_open : ∀ w : World, (fencedOpening treeTable pw w 40000).map (fun s => (s.heap, s.gens, s.drawn, s.toks)) = some (boot_heap w.params, Array.mk [], boot_drawn, boot_toks) :=
  open_cut (M := 600) h_boot (by decide) h_fence
theorem h_size (w : World) : ((boot_heap w.params).isNs mainGlobals && (Array.mk [] : Array GenState).size == 0, (boot_heap w.params).objs.size, (boot_heap w.params).nsMap mainGlobals "__annotations__") = (true, 11, annV) := by kernel_rfl
noncomputable def SFin (w : World) (os : OsState) : Shared := ⟨H_fin w.params, Array.mk [], {}, 1936, os⟩
theorem l_statics (w : World) : (fun os => (staticsOk (importedModules pw.main.body) (boot_heap w.params) (H_fin w.params) && namesBound pw (H_fin w.params) && gensDone (SFin w os) && laidKept (boot_heap w.params) (H_fin w.params))) = fun _ => true := by kernel_rfl
theorem l_hook (w : World) : (fun os => hk.obs (SFin w os)) = fun _ => hk.val w := by kernel_rfl
theorem l_seen (w : World) : (fun os => openSeen qv lv (importedModules pw.main.body) xt true (SFin w os)) = fun _ => openGood qv lv := by kernel_rfl
theorem left : LeftO pw qv lv xt hk.obs hk.val 40000 true :=
  LeftO.of_pieces h_open h_size top_run (by decide) (fun w => funext fun os => looks_pair (congrFun (l_statics w) os) (looks_pair (congrFun (l_seen w) os) (congrFun (l_hook w) os)))
end Mine
end
section
open PySem PySem.W PyProof.Rows
set_option maxRecDepth 100000
namespace Mine
theorem k_filled : PySem.Challenge.rw_ku0005_01.Holds → ∀ P, K P = K P := by
  k_fill
  intro _ _
  rfl
end Mine
end
-- part R1
section
open PySem PySem.W PyProof.Rows PySem.Calls
set_option maxRecDepth 100000
namespace Mine
/-- octets -/
noncomputable def Octets (ns : List Int) : Prop := ∀ x ∈ ns, 0 ≤ x ∧ x < 256

section
variable {prog : Program} {w : World} {A : Around} {E : Value → Shared → Prop} {s : Shared} {Q : Value → Shared → Prop}

theorem chr_octet {ns : List Int} {k : Int} {t : Tok} (hm : k ∈ ns) (ho : Octets ns) (h : Q (.str ⟨#[k.toNat]⟩ s.toks) { s with toks := s.toks + 1 }) :
    wpAny (model prog w) A (call (.builtin "chr") [.int k t]) Q E s :=
  chr_of_range (ho k hm).1 (by have := (ho k hm).2; omega) h
end

/-! bytes.decode("latin1") -/
theorem forIn_pure {α β : Type} (f : α → β → Sem (ForInStep β)) (g : Nat → β) : ∀ (l : List α) (i : Nat),
    (∀ j, j < l.length → ∀ a, f a (g (i + j)) = pure (.yield (g (i + j + 1)))) → (forIn l (g i) f : Sem β) = pure (g (i + l.length))
  | [], i, _ => rfl
  | a :: l, i, h => by
    rw [List.forIn_cons]
    have h0 := h 0 (by simp) a
    rw [Nat.add_zero] at h0
    rw [h0]
    show (forIn l (g (i + 1)) f : Sem β) = _
    rw [forIn_pure f g l (i + 1) (fun j hj a => by
      have := h (j + 1) (by simp; omega) a
      rw [show i + 1 + j = i + (j + 1) by omega]
      exact this)]
    rw [List.length_cons, show i + 1 + l.length = i + (l.length + 1) by omega]

open PySem.Builtin in
theorem latin_run (id : String) (b : Array UInt8) (hb : b.size ≤ 16777216) :
    _codecs.runDecoder id _codecs.latin1Decoder none true b 0 [] = pure ((b.toList.map (·.toNat)).toArray, b.size) := by
  unfold _codecs.runDecoder
  simp only [Std.Legacy.Range.forIn_eq_forIn_range']
  have e : [:b.size].size = b.size := by simp [Std.Legacy.Range.size]
  rw [e]
  have z : ((0 : Nat), (#[] : Array Nat), ({} : _codecs.Faults)) = (fun p => (p, ((b.toList.take p).map (·.toNat)).toArray, ({} : _codecs.Faults))) 0 := by simp
  rw [z]
  refine (congrArg (fun t => Sem.bind t fun __s : Nat × Array Nat × _codecs.Faults => (Sem.pure (__s.snd.fst, __s.fst) : Sem _))
    (forIn_pure _ (fun p => (p, ((b.toList.take p).map (·.toNat)).toArray, ({} : _codecs.Faults))) (List.range' 0 b.size) 0 ?_)).trans ?_
  · intro j hj a
    rw [List.length_range'] at hj
    rw [Nat.zero_add]
    have h1 : ¬ ((List.map (fun x : UInt8 => x.toNat) (List.take j b.toList)).toArray.size > sizeLine) := by
      rw [List.size_toArray, List.length_map, List.length_take, sizeLine_eq]; omega
    have h2 : ¬ (j ≥ b.size) := by omega
    dsimp only
    rw [if_neg h1, if_neg h2]
    show (pure (ForInStep.yield (j + 1, _ ++ [(b.getD j 0).toNat].toArray, _)) : Sem _) = _
    have hlt : j < b.toList.length := by simpa using hj
    rw [List.take_add_one, List.getElem?_eq_getElem hlt]
    simp [Array.getD, hj]
  · rw [Nat.zero_add, List.length_range']
    show (Sem.pure _ : Sem _) = Sem.pure _
    rw [show b.size = b.toList.length by simp, List.take_length]
open PySem.Builtin in
theorem latin_road {id : String} {b : Array UInt8} : _codecs.decodeRoad id b (PySem.Str.ofString "latin1") none [] = (_codecs.runDecoder id _codecs.latin1Decoder none true b 0 [] >>= fun r => mkStr ⟨r.1⟩) := by kernel_rfl
open PySem.Builtin in
theorem latin_entry {c : UInt8} {cs : List UInt8} {t u : Tok} : «bytes.decode» ⟨[.bytes (c :: cs).toArray t, .str (PySem.Str.ofString "latin1") u], []⟩ = (mkStr (PySem.Str.ofString "utf-8") >>= fun _ => mkStr (PySem.Str.ofString "latin1") >>= fun e => mkStr (PySem.Str.ofString "bytes.decode") >>= fun d =>
    call (.builtin "_codecs.decode.text") [.bytes (c :: cs).toArray t, e, .none, d] >>= fun v => ret v) := by kernel_rfl

open PySem.Builtin in
theorem latin_text {b : Array UInt8} {t t1 t2 : Tok} (hb : b.size ≤ 16777216) :
    Meets («_codecs.decode.text» ⟨[.bytes b t, .str (PySem.Str.ofString "latin1") t1, .none, .str (PySem.Str.ofString "bytes.decode") t2], []⟩) (fun _ R s => R (.ok (.ret (.str ⟨(b.toList.map (·.toNat)).toArray⟩ s.toks))) { s with toks := s.toks + 1 }) := by
  refine .of_wp fun prog w A R s h => ?_
  show wpAny _ _ (Bytes.bytesLike _ (.bytes b t) >>= fun r => _) _ _ s
  refine wpAny_bind (wpAny_of_eq KBd.like_eq ?_)
  refine wpAny_bind (wpAny_of_eq KBd.held_eq ?_)
  show wpAny _ _ (_codecs.decodeRoad _ b (PySem.Str.ofString "latin1") none [] >>= fun v => _) _ _ s
  rw [latin_road, latin_run _ _ hb]
  refine wpAny_bind (wpAny_bind (wpAny_pure ?_))
  refine wpAny_mkStr (wpAny_pure ⟨_, rfl, h⟩) ?_
  rw [sizeLine_eq]
  show (List.map (fun x : UInt8 => x.toNat) b.toList).toArray.size ≤ _
  simpa using hb
open PySem.Builtin in
theorem latin_decode {prog : Program} {w : World} {A : Around} {E : Value → Shared → Prop} {s : Shared} {Q : Value → Shared → Prop} {b : Array UInt8} {t u : Tok} (h0 : 0 < b.size) (hb : b.size ≤ 16777216)
    (h : ∀ t' k, Q (.str ⟨(b.toList.map (·.toNat)).toArray⟩ t') { s with toks := k }) :
    wpAny (model prog w) A (call (.builtin "bytes.decode") [.bytes b t, .str (PySem.Str.ofString "latin1") u]) Q E s := by
  obtain ⟨l⟩ := b
  cases l with
  | nil => exact absurd h0 (by simp)
  | cons c cs =>
    have m : Meets («bytes.decode» ⟨[.bytes (c :: cs).toArray t, .str (PySem.Str.ofString "latin1") u], []⟩) (fun _ R s => ∀ t' k, R (.ok (.ret (.str ⟨((c :: cs).map (·.toNat)).toArray⟩ t'))) { s with toks := k }) := by
      refine .of_wp fun prog w A R s h => ?_
      rw [latin_entry]
      refine wpAny_bind (wpAny_mkStr ?_ (by decide))
      refine wpAny_bind (wpAny_mkStr ?_ (by decide))
      refine wpAny_bind (wpAny_mkStr ?_ (by decide))
      exact wpAny_bind (call_function_meets KBd.kind_text KBd.plain_text KBd.entry_text (KBd.args_text _ _ _ _) (latin_text hb) (wpAny_pure ⟨_, rfl, h _ _⟩))
    have ok : argsOk "bytes.decode" ⟨[.bytes (c :: cs).toArray t, .str (PySem.Str.ofString "latin1") u], []⟩ := by
      unfold argsOk
      kernel_rfl
    exact call_meets FB.slot_bytes_decode (typeIs_bytes _ _ _) FB.entry_bytes_decode ok m h
end Mine
end
-- part R2
section
open PySem PySem.W PyProof.Rows PySem.Calls
set_option maxRecDepth 100000
namespace Mine
section
variable {prog : Program} {w : World} {A : Around} {E : Value → Shared → Prop} {s : Shared}
open PySem.Builtin in
theorem wp_tableLookup {tab : Addr} {vs : Array Value} {c : Nat} {d : Str} {tk : Tok} {Q : Str.Mapped → Shared → Prop} (hl : s.heap.IsList tab vs) (hc : c < 256) (hx : vs[c]? = some (.str d tk))
    (h : Q (.text d) { s with toks := s.toks + 1 }) : wpAny (model prog w) A (Str.tableLookup (.ref tab) c) Q E s := by
  unfold Str.tableLookup
  refine wpAny_bind (wpAny_attempt (wpAny_bind (wpAny_mkInt (wpAny_getItem_list (x := .str d tk) hl (Int.natCast_nonneg c) (by omega) (by simpa using hx) ?_))))
  dsimp only
  refine wpAny_bind (wpAny_bind (wpAny_of_eq (show notAStandIn (.str d tk) = pure () from rfl) (wpAny_pure ?_)))
  exact wpAny_bind (wpAny_pure (wpAny_pure h))

/-- what is gathered so far -/
structure TrI (x : Str) (code : Nat → Str) (s₀ : Shared) (rest : List Nat) (st : List Str × Nat × Bool × List (Nat × Option Nat) × Bool) (s : Shared) : Prop where
  split : ∃ pre, x.cps.toList = pre ++ rest ∧ st.1.reverse.flatMap (fun p => p.cps.toList) = pre.flatMap (fun c => (code c).cps.toList) ∧ st.2.1 ≤ 3 * pre.length
  known : ∀ p ∈ st.2.2.2.1, ∃ d, p.2 = some d ∧ code p.1 = ⟨#[d]⟩
  kept : st.2.2.2.2 = false
  state : ∃ k, s = { s₀ with toks := k }

theorem lookup_mem {l : List (Nat × Option Nat)} {c : Nat} {a : Option Nat} (h : l.lookup c = some a) : (c, a) ∈ l := by
  induction l with
  | nil => cases h
  | cons p l ih =>
    obtain ⟨b, y⟩ := p
    rw [List.lookup_cons] at h
    cases hb : c == b with
    | true => rw [hb] at h; cases h; rw [beq_iff_eq.mp hb]; exact .head _
    | false => rw [hb] at h; exact .tail _ (ih h)

theorem one_sign {t : Str} (h : (t.length == 1 && t.cps.all fun x => decide (x < 128)) = true) : ∃ d, t = ⟨#[d]⟩ ∧ t.cps[0]? = some d := by
  have h1 := (Bool.and_eq_true_iff.mp h).1
  obtain ⟨⟨l⟩⟩ := t
  have h2 : l.length = 1 := by simpa [Str.length] using h1
  match l, h2 with
  | [d], _ => exact ⟨d, rfl, rfl⟩

theorem foldl_cps (l : List Str) : ∀ acc : Array Nat, (l.foldl (fun acc p => acc ++ p.cps) acc) = (acc.toList ++ l.flatMap fun p => p.cps.toList).toArray := by
  induction l with
  | nil => intro acc; simp
  | cons a l ih => intro acc; rw [List.foldl_cons, ih]; simp

open PySem.Builtin in
theorem trans_meets {x : Str} {tab : Addr} {t : Tok} {vs : Array Value} (code : Nat → Str) (hv : ∀ c ∈ x.cps.toList, ∃ tk, vs[c]? = some (.str (code c) tk)) (hc : ∀ c ∈ x.cps.toList, c < 256)
    (h3 : ∀ c ∈ x.cps.toList, (code c).length ≤ 3) (h0 : x.length ≠ 0) (hl : x.length ≤ 1000000) :
    Meets («str.translate» ⟨[.str x t, .ref tab], []⟩) (fun _ R s => s.heap.IsList tab vs ∧ ∀ t' k, R (.ok (.ret (.str ⟨(x.cps.toList.flatMap fun c => (code c).cps.toList).toArray⟩ t'))) { s with toks := k }) := by
  refine .of_wp fun prog w A R s h => ?_
  obtain ⟨hL, hR⟩ := h
  have hlen : x.cps.toList.length = x.length := by simp [Str.length]
  unfold «str.translate»
  have e0 : Str.strOneArg "translate" ⟨[.str x t, .ref tab], []⟩ = pure (.str x t, x, .ref tab) := rfl
  refine wpAny_bind (wpAny_of_eq e0 ?_)
  dsimp only
  have n0 : (x.length == 0) = false := by simpa using h0
  rw [n0]
  simp only [Bool.false_eq_true, if_false]
  refine wpAny_bind (MeetsSeq2.wpAny_forIn_array _ (fun rest st s' => TrI x code s rest st s') _ (fun c rest st s' hI => ?turn) (fun st s' hI => ?fin) _ _ ⟨⟨[], by simp, by simp, by simp⟩, by simp, rfl, ⟨s.toks, rfl⟩⟩)
  case fin =>
    obtain ⟨pieces, total, fast, known, ad⟩ := st
    obtain ⟨⟨pre, e1, e2, e3⟩, hk, had, ⟨k, rfl⟩⟩ := hI
    rw [List.append_nil] at e1
    dsimp only at e2 e3 ⊢
    have nt : Str.tooLong total = false := by
      unfold Str.tooLong
      have : pre.length = x.length := by rw [← e1]; exact hlen
      rw [sizeLine_eq]
      exact decide_eq_false (by omega)
    rw [nt]
    simp only [Bool.false_eq_true, if_false]
    have e5 : (List.foldl (fun acc p => acc ++ p.cps) (#[] : Array Nat) pieces.reverse) = (x.cps.toList.flatMap fun c => (code c).cps.toList).toArray := by
      rw [foldl_cps, e2, ← e1]; simp
    have fm : ∀ l : List Nat, (∀ c ∈ l, (code c).length ≤ 3) → (l.flatMap fun c => (code c).cps.toList).length ≤ 3 * l.length := by
      intro l
      induction l with
      | nil => intro _; simp
      | cons a l ih =>
        intro hh
        have h1 := hh a (.head _)
        have h2 := ih fun c hc => hh c (.tail _ hc)
        rw [List.flatMap_cons, List.length_append, List.length_cons]
        have : (code a).cps.toList.length ≤ 3 := by simpa [Str.length] using h1
        omega
    unfold retStr
    refine wpAny_bind (wpAny_mkStr (wpAny_pure ⟨_, rfl, ?_⟩) ?_)
    · rw [e5]; exact hR _ _
    · rw [e5, sizeLine_eq]
      show (List.toArray _).size ≤ _
      rw [List.size_toArray]
      have := fm x.cps.toList h3
      omega
  case turn =>
    obtain ⟨pieces, total, fast, known, ad⟩ := st
    obtain ⟨⟨pre, e1, e2, e3⟩, hk, had, ⟨k, rfl⟩⟩ := hI
    dsimp only at e2 e3 hk had ⊢
    subst had
    have hcm : c ∈ x.cps.toList := by rw [e1]; simp
    obtain ⟨tk, hx⟩ := hv c hcm
    have hpl : pre.length + (rest.length + 1) = x.length := by
      rw [← hlen, e1]; simp
    have nt : Str.tooLong total = false := by
      unfold Str.tooLong
      rw [sizeLine_eq]
      exact decide_eq_false (by omega)
    rw [nt]
    simp only [Bool.false_eq_true, if_false]
    -- what a new piece does
    have next : ∀ (t' : Str) (n : Nat) (kn : List (Nat × Option Nat)) (f : Bool) (k' : Nat), t' = code c → n ≤ 3 → (∀ p ∈ kn, ∃ d, p.2 = some d ∧ code p.1 = ⟨#[d]⟩) →
        TrI x code s rest (t' :: pieces, total + n, f, kn, false) { s with toks := k' } := by
      intro t' n kn f k' e hn hkn
      subst e
      refine ⟨⟨pre ++ [c], by rw [e1]; simp, ?_, ?_⟩, hkn, rfl, ⟨k', rfl⟩⟩
      · show ((code c) :: pieces).reverse.flatMap _ = _
        rw [List.reverse_cons, List.flatMap_append, List.flatMap_append, e2]
        simp
      · show total + n ≤ _
        rw [List.length_append, List.length_singleton]
        omega
    have hslow : ∀ (kn : List (Nat × Option Nat)) (f : Bool) (k' : Nat), (∀ p ∈ kn, ∃ d, p.2 = some d ∧ code p.1 = ⟨#[d]⟩) → TrI x code s rest (code c :: pieces, total + (code c).length, f, kn, false) { s with toks := k' } :=
      fun kn f k' hkn => next _ _ _ _ _ rfl (h3 c hcm) hkn
    cases fast with
    | false =>
      simp only [Bool.false_eq_true, if_false]
      exact wpAny_bind (wp_tableLookup hL (hc c hcm) hx (wpAny_pure (hslow _ _ _ hk)))
    | true =>
      simp only [if_true]
      cases hlk : known.lookup c with
      | some a =>
        obtain ⟨d, hd, hcd⟩ := hk _ (lookup_mem hlk)
        dsimp only at hd hcd
        subst hd
        exact wpAny_bind (wpAny_pure (wpAny_pure (next _ _ _ _ _ hcd.symm (by omega) hk)))
      | none =>
        dsimp only
        refine wpAny_bind (wp_tableLookup hL (hc c hcm) hx ?_)
        dsimp only
        by_cases hone : ((code c).length == 1 && (code c).cps.all fun x => decide (x < 128)) = true
        · obtain ⟨d, hd, hd0⟩ := one_sign hone
          rw [if_pos hone, hd0]
          refine wpAny_bind (wpAny_pure (wpAny_pure (next _ _ _ _ _ hd.symm (by omega) ?_)))
          intro p hp
          rcases List.mem_cons.mp hp with rfl | hp
          · exact ⟨d, rfl, hd⟩
          · exact hk p hp
        · rw [if_neg hone]
          refine wpAny_bind (wpAny_pure ?_)
          dsimp only
          refine wpAny_bind (wpAny_rule ?_)
          exact wpAny_bind (wp_tableLookup hL (hc c hcm) hx (wpAny_pure (hslow _ _ _ hk)))

open PySem.Builtin in
theorem translate_rule {x : Str} {tab : Addr} {t : Tok} {vs : Array Value} {Q : Value → Shared → Prop} (code : Nat → Str) (hL : s.heap.IsList tab vs) (hv : ∀ c ∈ x.cps.toList, ∃ tk, vs[c]? = some (.str (code c) tk)) (hc : ∀ c ∈ x.cps.toList, c < 256)
    (h3 : ∀ c ∈ x.cps.toList, (code c).length ≤ 3) (h0 : x.length ≠ 0) (hl : x.length ≤ 1000000)
    (h : ∀ t' k, Q (.str ⟨(x.cps.toList.flatMap fun c => (code c).cps.toList).toArray⟩ t') { s with toks := k }) :
    wpAny (model prog w) A (call (.builtin "str.translate") [.str x t, .ref tab]) Q E s :=
  call_meets F.slot_str_translate (typeIs_str _ _ _) F.entry_str_translate (F.args_str_translate_2 _ _) (trans_meets code hv hc h3 h0 hl) ⟨hL, h⟩
end
end Mine
end
-- part R3
section
open PySem PySem.W PyProof.Rows PySem.Calls PySem.NumText
set_option maxRecDepth 100000
namespace Mine
/-- a hex sign -/
noncomputable def hx (d : Nat) : Nat := if d < 10 then 48 + d else 55 + d
theorem hx_reads : ∀ a < 16, ∀ b < 16, digits? 16 [hx a, hx b] = some #[a, b] := by decide +kernel
theorem hx_drop : ∀ a < 16, ∀ b < 16, [hx a, hx b].dropWhile blank = [hx a, hx b] ∧ ([hx a, hx b].reverse.dropWhile blank).reverse = [hx a, hx b] := by decide +kernel
theorem hx_sign : ∀ a < 16, ∀ b < 16, sign [hx a, hx b] = (false, [hx a, hx b]) := by decide +kernel
theorem hx_based : ∀ a < 16, ∀ b < 16, based 16 [hx a, hx b] = (16, false, [hx a, hx b]) := by decide +kernel
theorem hx_seen : ∀ a < 16, ∀ b < 16, [hx a, hx b].takeWhile (· != 0) = [hx a, hx b] ∧ [hx a, hx b].all (· < 128) = true := by decide +kernel
theorem num16 (a b : Nat) (ha : a < 16) (hb : b < 16) : (int_private% "readNumeral") 0 16 [hx a, hx b] = (int_private% "Numeral.value") ((16 * a + b : Nat) : Int) := by
  rw [readNumeral_eq, (hx_drop a ha b hb).1, hx_sign a ha b hb]
  dsimp only
  rw [hx_based a ha b hb]
  dsimp only
  rw [(hx_drop a ha b hb).2, hx_reads a ha b hb]
  unfold judge
  simp [Nat.mul_comm]

theorem wp_text16 {M : Model} {A : Around} {E : Value → Shared → Prop} {s : Shared} {Q : Value → Shared → Prop} {v : Value} {text : List Nat} {n : Int}
    (hs : (text.takeWhile (· != 0)).length ≤ 640) (hr : (int_private% "readNumeral") 0 16 (text.takeWhile (· != 0)) = (int_private% "Numeral.value") n)
    (ha : ((text.takeWhile (· != 0)).length == text.length) = true) (h : Q (.int n s.toks) { s with toks := s.toks + 1 }) :
    wpAny M A ((int_private% "intFromText") v text 16) Q E s := by
  obtain ⟨hp, g, d, tk, os⟩ := s
  repeat (any_goals (first
    | assumption
    | (with_reducible refine wpAny_ite_true (decide_eq_true hs) ?_)
    | (with_reducible refine wpAny_ite_true (decide_eq_true ha) ?_)
    | wp_step))
  all_goals (try rw [hr])
  all_goals (try dsimp only)
  repeat (any_goals (first
    | assumption
    | (with_reducible refine wpAny_ite_true (decide_eq_true hs) ?_)
    | (with_reducible refine wpAny_ite_true (decide_eq_true ha) ?_)
    | wp_step))
set_option maxHeartbeats 4000000 in
theorem gives_int16 {a b : Nat} {u v : Tok} (ha : a < 16) (hb : b < 16) : PySem.Gives (Builtin.«int.__new__» ⟨[.type "int", .str ⟨#[hx a, hx b]⟩ u, .int 16 v], []⟩) (.int ((16 * a + b : Nat) : Int)) :=
  .of_wp fun M A E s Q h => by
    obtain ⟨hp, g, d, tk, os⟩ := s
    have f1 := F.conv_sub_int
    have f2 := F.madeHere_int
    have f3 := KIN.str_int
    have f4 := KIN.str_idx
    have f5 := KIN.str_trunc
    have f6 : typeOf (.str ⟨#[hx a, hx b]⟩ u) = pure (.type "str") := rfl
    have eT : (if ((⟨#[hx a, hx b]⟩ : PySem.Str).cps.all fun x => decide (x < 128)) = true then (⟨#[hx a, hx b]⟩ : PySem.Str).cps.toList else Unicode.numberText (⟨#[hx a, hx b]⟩ : PySem.Str).cps.toList) = [hx a, hx b] := if_pos (by
      have := (hx_seen a ha b hb).2
      simpa using this)
    have hk := KIN.Hid.mk (And.intro (num16 a b ha hb) (And.intro (hx_seen a ha b hb) eT))
    clear ha hb eT
    repeat (any_goals (first
      | assumption
      | ((with_reducible show wpAny _ _ ((int_private% "intFromText") _ _ _) _ _ _); refine wp_text16 (n := ((16 * a + b : Nat) : Int)) ?c1 ?c2 ?c3 ?c4; (case c1 => rw [hk.out.2.2, hk.out.2.1.1]; exact Nat.le_of_ble_eq_true rfl); (case c2 => rw [hk.out.2.2, hk.out.2.1.1]; exact hk.out.1); (case c3 => rw [hk.out.2.2, hk.out.2.1.1]; rfl))
      | wp_step))
    all_goals first | exact ⟨_, rfl, h⟩ | skip

theorem args_init3 (a b c : Value) : argsOk "object.__init__" ⟨[a, b, c], []⟩ := by
  unfold argsOk
  kernel_rfl
theorem typeCall_int_2 (a b : Value) : checkTypeCall "int" ⟨[a, b], []⟩ = pure () := by kernel_rfl
theorem newCall_int_2 (a b : Value) : checkBuiltinCall "int.__new__" ⟨[.type "int", a, b], []⟩ = pure () := by kernel_rfl
theorem call_int16 {prog : Program} {w : World} {A : Around} {E : Value → Shared → Prop} {s : Shared} {Q : Value → Shared → Prop} {a b : Nat} {u v : Tok} (ha : a < 16) (hb : b < 16)
    (h : Q (.int ((16 * a + b : Nat) : Int) s.toks) { s with toks := s.toks + 1 }) : wpAny (model prog w) A (call (.type "int") [.str ⟨#[hx a, hx b]⟩ u, .int 16 v]) Q E s :=
  callType_new F.called_int F.newNe_int (typeCall_int_2 _ _) (newCall_int_2 _ _) (fun obj => args_init3 obj _ _) F.entry_int_new (gives_int16 ha hb).meets
    (show (Made.int _).post _ s from ⟨rfl, h⟩)
end Mine
end
-- part Ct
section
open PySem PySem.W PyProof.Rows
set_option maxRecDepth 100000
set_option maxHeartbeats 8000000
namespace Mine
noncomputable abbrev MTok := Tok
noncomputable abbrev topA (dp un : Nat) (gd : Option (List Code)) (env : Env) (outer : List Env) : Around := { handled := none, depth := dp, frames := some (env :: outer), guards := gd, units := un }
/-- what a call of f upon vs gives, wherever it stands: a value that is no object -/
noncomputable def GivesV (w : World) (p : Program) (loose : List Str) (mean : ExcName → Option Value) (mg mb : Str → Option Value) (need : Nat) (f : Addr) (vs : List Value) (news : List (Addr × Obj)) (R : Tok → Value) : Prop :=
  ∀ (dp un : Nat) (gd : Option (List Code)) (env : Env) (outer : List Env) (A₀ : Around) (base h₀ : Heap) (L : Addr) (m : Str → Option Value) (s : Shared) (Q E : Value → Shared → Prop),
    Below A₀ base outer h₀ → Fr h₀ L s.heap m → (K w.params).In h₀ → News h₀ L s.heap news → Top p loose mean mg mb h₀ → env.frame = some L → env.scope.kind = .function →
    dp + need < recursionLimit → un + 8 * need < cLine → CbRet h₀ L m news s Q R →
      wpAny (model PySem.Challenge.pw_ku0005_01 w) (topA dp un gd env outer) (call (.ref f) vs) Q E s
/-- the same, with objects made -/
noncomputable def GivesO (w : World) (p : Program) (loose : List Str) (mean : ExcName → Option Value) (mg mb : Str → Option Value) (need : Nat) (f : Addr) (vs : List Value) (news : List (Addr × Obj)) (Out : Value → List (Addr × Obj) → Prop) : Prop :=
  ∀ (dp un : Nat) (gd : Option (List Code)) (env : Env) (outer : List Env) (A₀ : Around) (base h₀ : Heap) (L : Addr) (m : Str → Option Value) (s : Shared) (Q E : Value → Shared → Prop),
    Below A₀ base outer h₀ → Fr h₀ L s.heap m → (K w.params).In h₀ → News h₀ L s.heap news → Top p loose mean mg mb h₀ → env.frame = some L → env.scope.kind = .function →
    dp + need < recursionLimit → un + 8 * need < cLine →
    (∀ r new h' tk', Fr h₀ L h' m → News h₀ L h' (new ++ news) → (∀ p ∈ news, ∀ q ∈ new, p.1 < q.1) → Out r new → Q r { s with heap := h', toks := tk' }) →
      wpAny (model PySem.Challenge.pw_ku0005_01 w) (topA dp un gd env outer) (call (.ref f) vs) Q E s
section
variable {w : World} {p : Program} {loose : List Str} {mean : ExcName → Option Value} {mg mb : Str → Option Value} {need : Nat} {f : Addr} {vs : List Value} {news : List (Addr × Obj)}
  {dp un : Nat} {gd : Option (List Code)} {env : Env} {outer : List Env} {A₀ : Around} {base h₀ : Heap} {L : Addr} {m : Str → Option Value} {s : Shared} {Q E : Value → Shared → Prop}
theorem GivesV.use {R : Tok → Value} (G : GivesV w p loose mean mg mb need f vs news R) (B : Below A₀ base outer h₀) (F : Fr h₀ L s.heap m) (X : (K w.params).In h₀) (N : News h₀ L s.heap news) (T : Top p loose mean mg mb h₀)
    (hf : env.frame = some L) (hk : env.scope.kind = .function) (hd : dp + need < recursionLimit) (hu : un + 8 * need < cLine) (ret : CbRet h₀ L m news s Q R) :
    wpAny (model PySem.Challenge.pw_ku0005_01 w) (topA dp un gd env outer) (call (.ref f) vs) Q E s := G _ _ _ _ _ _ _ _ _ _ _ _ _ B F X N T hf hk hd hu ret
theorem GivesO.use {Out : Value → List (Addr × Obj) → Prop} (G : GivesO w p loose mean mg mb need f vs news Out) (B : Below A₀ base outer h₀) (F : Fr h₀ L s.heap m) (X : (K w.params).In h₀) (N : News h₀ L s.heap news) (T : Top p loose mean mg mb h₀)
    (hf : env.frame = some L) (hk : env.scope.kind = .function) (hd : dp + need < recursionLimit) (hu : un + 8 * need < cLine)
    (ret : ∀ r new h' tk', Fr h₀ L h' m → News h₀ L h' (new ++ news) → (∀ p ∈ news, ∀ q ∈ new, p.1 < q.1) → Out r new → Q r { s with heap := h', toks := tk' }) :
    wpAny (model PySem.Challenge.pw_ku0005_01 w) (topA dp un gd env outer) (call (.ref f) vs) Q E s := G _ _ _ _ _ _ _ _ _ _ _ _ _ B F X N T hf hk hd hu ret
end
/-- an octet -/
noncomputable def Oct (i : Int) : Prop := 0 ≤ i ∧ i < 256
theorem oct_at {ns : List Int} {k : Int} (hm : k ∈ ns) (ho : Octets ns) : Oct k := ho k hm
theorem Oct.nat {i : Int} (h : Oct i) : ∃ n : Nat, n < 256 ∧ i = (n : Int) := ⟨i.toNat, by have := h.1; have := h.2; omega, by have := h.1; omega⟩
noncomputable def escS (i : Int) : Str := ⟨#[61, hx (i / 16).toNat, hx (i % 16).toNat]⟩
noncomputable def plainI (i : Int) : Bool := i == 33 || i == 42 || i == 43 || i == 45 || i == 47 || (48 ≤ i && i ≤ 57) || (65 ≤ i && i ≤ 90) || (97 ≤ i && i ≤ 122)
noncomputable def codeS (i : Int) : Str := if i = 32 then ⟨#[95]⟩ else if plainI i then ⟨#[i.toNat]⟩ else escS i
theorem of_table {α : Type} (f g : Nat → α) (n : Nat) (hn : n < 256) (h : ∀ m, m < 256 → f m = g m) : f n = g n := h n hn
theorem esc_eq : ∀ n : Nat, n < 256 → (Str.ofString "=" ++ Txt.item (Str.ofString "0123456789ABCDEF") ((n : Int).fdiv 16) ++ Txt.item (Str.ofString "0123456789ABCDEF") ((n : Int).fmod 16)) = escS (n : Int) := by decide +kernel
theorem code_32 : Str.ofString "_" = codeS 32 := by decide +kernel
noncomputable abbrev plainLit : Str := Str.ofString "-!*+/0123456789ABCDEFGHIJKLMNOPQRSTUVWXYZabcdefghijklmnopqrstuvwxyz"
noncomputable def plainA : Str := ⟨#[45, 33, 42, 43, 47, 48, 49, 50, 51, 52, 53, 54, 55, 56, 57, 65, 66, 67, 68, 69, 70, 71, 72, 73, 74, 75, 76, 77, 78, 79, 80, 81, 82, 83, 84, 85, 86, 87, 88, 89, 90, 97, 98, 99, 100, 101, 102, 103, 104, 105, 106, 107, 108, 109, 110, 111, 112, 113, 114, 115, 116, 117, 118, 119, 120, 121, 122]⟩
theorem plainA_eq : Str.ofString "-!*+/0123456789ABCDEFGHIJKLMNOPQRSTUVWXYZabcdefghijklmnopqrstuvwxyz" = plainA := by decide +kernel
theorem plain_mem : ∀ n : Nat, n < 256 → decide (n ∈ plainA.cps.toList) = plainI (n : Int) := by decide +kernel
theorem plain_eqA (n : Nat) (h : n < 256) : (Builtin.Str.occurrences plainA ⟨#[n]⟩ 0 plainA.length 1).isEmpty = !plainI (n : Int) := by
  rw [← plain_mem n h, ← PySem.StrLaws.found_one, Bool.not_not]
theorem plain_eq : ∀ n : Nat, n < 256 → (Builtin.Str.occurrences (Str.ofString "-!*+/0123456789ABCDEFGHIJKLMNOPQRSTUVWXYZabcdefghijklmnopqrstuvwxyz") ⟨#[(n : Int).toNat]⟩ 0 (Str.ofString "-!*+/0123456789ABCDEFGHIJKLMNOPQRSTUVWXYZabcdefghijklmnopqrstuvwxyz").length 1).isEmpty = !plainI (n : Int) := by rw [plainA_eq]; exact plain_eqA
theorem code_of_32 {n : Nat} (h : (n : Int) = 32) : Str.ofString "_" = codeS (n : Int) := by rw [h]; exact code_32
theorem code_of_esc {n : Nat} (hn : n < 256) (h : (n : Int) ≠ 32) (e : (Builtin.Str.occurrences (Str.ofString "-!*+/0123456789ABCDEFGHIJKLMNOPQRSTUVWXYZabcdefghijklmnopqrstuvwxyz") ⟨#[(n : Int).toNat]⟩ 0 (Str.ofString "-!*+/0123456789ABCDEFGHIJKLMNOPQRSTUVWXYZabcdefghijklmnopqrstuvwxyz").length 1).isEmpty = true) : escS (n : Int) = codeS (n : Int) := by
  rw [plain_eq n hn] at e
  have e' : plainI (n : Int) = false := by simpa using e
  unfold codeS
  rw [if_neg h, e']
  rfl
theorem code_of_plain {n : Nat} (hn : n < 256) (h : (n : Int) ≠ 32) (e : (Builtin.Str.occurrences (Str.ofString "-!*+/0123456789ABCDEFGHIJKLMNOPQRSTUVWXYZabcdefghijklmnopqrstuvwxyz") ⟨#[(n : Int).toNat]⟩ 0 (Str.ofString "-!*+/0123456789ABCDEFGHIJKLMNOPQRSTUVWXYZabcdefghijklmnopqrstuvwxyz").length 1).isEmpty = false) : (⟨#[(n : Int).toNat]⟩ : Str) = codeS (n : Int) := by
  rw [plain_eq n hn] at e
  have e' : plainI (n : Int) = true := by simpa using e
  unfold codeS
  rw [if_neg h, e']
  rfl
theorem room_a {d n m : Nat} (h : d + m < recursionLimit) (e : Nat.ble n m = true) : d + n < recursionLimit := Nat.lt_of_le_of_lt (Nat.add_le_add_left (Nat.le_of_ble_eq_true e) d) h
theorem room_b {d a n m : Nat} (h : d + m < recursionLimit) (e : Nat.ble (a + n) m = true) : d + a + n < recursionLimit := by rw [Nat.add_assoc]; exact room_a h e
theorem room_z {d m : Nat} (h : d + m < recursionLimit) : d < recursionLimit := Nat.lt_of_le_of_lt (Nat.le_add_right d m) h
theorem units_a {u n m : Nat} (h : u + 8 * m < cLine) (e : Nat.ble n (8 * m) = true) : u + n < cLine := Nat.lt_of_le_of_lt (Nat.add_le_add_left (Nat.le_of_ble_eq_true e) u) h
theorem units_b {u a n m : Nat} (h : u + 8 * m < cLine) (e : Nat.ble (a + n) (8 * m) = true) : u + a + n < cLine := by rw [Nat.add_assoc]; exact units_a h e
end Mine
end
namespace Mine
section
open PySem PySem.W PyProof.Rows
set_option maxRecDepth 100000
local macro_rules | `(tactic| k_room) => `(tactic| ktr_room)
local macro_rules | `(tactic| k_units) => `(tactic| ktr_units)
local macro_rules | `(tactic| ktr_rel) => `(tactic| first | assumption | exact oct_at (by assumption) (by assumption))
local macro_rules | `(tactic| cell_enter) => `(tactic| first
  | (refine' code_def ?k1 ?k2 ?k3 ?k4 ?k5 ?kA ?kF ?kK ?k6 ?k7 ?k8 ?k9 ?kB ?_ ?c2 ?c3 ?c4 ?c5; (case kA => exact rfl); (case kF => assumption); (case kK => assumption); (case k1 => k_asm); (case k2 => k_asm); (case k3 => k_asm); (case k4 => k_asm); (case k5 => k_asm); (case k6 => k_is); (case k7 => k_is); (case k8 => ktr_room); (case k9 => first | exact BindsTo.of_eq rfl | exact binds_K (by k_in) rfl (by k_is) rfl rfl rfl); (case c5 => decide); (case kB => exact locs rfl); (case c2 => exact rfl); (case c3 => exact rfl); (case c4 => exact rfl); k_whole; intro g' L' h' FG' F' N' B' X' T'; (try dsimp only); (try k_lift B'); (try k_fold))
  | (refine' code_defC ?k1 ?k2 ?k3 ?k4 ?k5 ?kA ?kF ?kK ?k6 ?k7 ?k8 ?k9 ?kB ?kD ?_ ?c2 ?c3 ?c4; (case kA => exact rfl); (case kF => assumption); (case kK => assumption); (case k1 => k_asm); (case k2 => k_asm); (case k3 => k_asm); (case k4 => k_asm); (case k5 => k_asm); (case k6 => k_is); (case k7 => k_is); (case k8 => ktr_room); (case k9 => first | exact BindsTo.of_eq rfl | exact binds_K (by k_in) rfl (by k_is) rfl rfl rfl | fail "k_enter: no rule for these arguments"); (case kB => exact rfl); (case kD => decide +kernel); (case c2 => exact rfl); (case c3 => exact rfl); (case c4 => exact rfl); k_whole; intro g' L' h' tk' cells' FG' F' N' Y' B' X' T' l1; (try k_lt l1); k_cells Y'; (try simp only [List.cons_append, List.nil_append] at N'); (try dsimp only); (try k_lift B'); (try k_fold)))
local macro_rules | `(tactic| ktr_room) => `(tactic| first | exact room_b (by assumption) (by rfl) | exact room_a (by assumption) (by rfl) | exact room_z (by assumption))
local macro_rules | `(tactic| ktr_units) => `(tactic| first | exact units_b (by assumption) (by rfl) | exact units_a (by assumption) (by rfl))
local macro_rules | `(tactic| units_room) => `(tactic| ktr_units)
-- part R4
section
open PySem PySem.W PyProof.Rows PySem.Calls
set_option maxRecDepth 100000
open PySem.Builtin.Str in
theorem idx_neg_lo (i : Int) (u : Option Int) (n : Nat) (h : i < 0) (h2 : 0 ≤ i + n) : strSliceIndices (some i) u 1 n = strSliceIndices (some (i + n)) u 1 n := by
  unfold strSliceIndices
  simp only [if_pos h, if_neg (Int.not_lt.mpr h2)]
open PySem.Builtin.Str in
theorem idx_neg_hi (l : Option Int) (i : Int) (n : Nat) (h : i < 0) (h2 : 0 ≤ i + n) : strSliceIndices l (some i) 1 n = strSliceIndices l (some (i + n)) 1 n := by
  unfold strSliceIndices
  simp only [if_pos h, if_neg (Int.not_lt.mpr h2)]
theorem slice_neg_lo {x : Str} {i : Int} {u : Option Int} (h : i < 0) (h2 : 0 ≤ i + x.length) : Txt.slice x (some i) u = Txt.slice x (some (i + x.length)) u := by
  unfold Txt.slice
  rw [idx_neg_lo i u x.length h h2]
theorem slice_neg_hi {x : Str} {i : Int} {l : Option Int} (h : i < 0) (h2 : 0 ≤ i + x.length) : Txt.slice x l (some i) = Txt.slice x l (some (i + x.length)) := by
  unfold Txt.slice
  rw [idx_neg_hi l i x.length h h2]
theorem slice_to {x : Str} {j : Int} (h0 : 0 ≤ j) (h2 : j ≤ x.length) : Txt.slice x none (some j) = ⟨(x.cps.toList.take j.toNat).toArray⟩ := by
  have := beq_iff_eq.mp (slice_closes_toL h0 h2)
  rw [this]
  simp
theorem slice_from {x : Str} {i : Int} (h0 : 0 ≤ i) (h2 : i ≤ x.length) : Txt.slice x (some i) none = ⟨(x.cps.toList.drop i.toNat).toArray⟩ := by
  have := beq_iff_eq.mp (slice_closes_fromL (b := x.length) h0 h2 rfl)
  rw [this]
  have e : x.length = x.cps.toList.length := by simp [Str.length]
  congr 2
  apply List.take_of_length_le
  rw [List.length_drop]; omega
theorem slice_mid {x : Str} {i j : Int} (h0 : 0 ≤ i) (h1 : i ≤ j) (h2 : j ≤ x.length) : Txt.slice x (some i) (some j) = ⟨((x.cps.toList.drop i.toNat).take (j - i).toNat).toArray⟩ :=
  beq_iff_eq.mp (slice_closesL h0 h1 h2)
theorem cps_append (a b : Str) : (a ++ b).cps.toList = a.cps.toList ++ b.cps.toList := by
  rw [Str.cps_append]; simp
theorem len_cps (x : Str) : x.cps.toList.length = x.length := by simp [Str.length]
/-- the three parts of a text in three -/
theorem slice_head3 (a b c : Str) : Txt.slice (a ++ (b ++ c)) none (some (a.length : Int)) = a := by
  rw [slice_to (by omega) (by rw [Str.length_append]; omega), cps_append, Int.toNat_natCast, ← len_cps a, List.take_left]
theorem slice_tail3 (a b c : Str) : Txt.slice (a ++ (b ++ c)) (some ((a.length : Int) + b.length)) none = c := by
  rw [slice_from (by omega) (by rw [Str.length_append, Str.length_append]; omega), cps_append, cps_append]
  have e : ((a.length : Int) + b.length).toNat = (a.cps.toList ++ b.cps.toList).length := by rw [List.length_append, len_cps, len_cps]; omega
  rw [e, ← List.append_assoc, List.drop_left]
theorem slice_mid3 (a b c : Str) : Txt.slice (a ++ (b ++ c)) (some (a.length : Int)) (some ((a.length : Int) + b.length)) = b := by
  rw [slice_mid (by omega) (by omega) (by rw [Str.length_append, Str.length_append]; omega), cps_append, cps_append, Int.toNat_natCast, ← len_cps a, List.drop_left]
  have e : ((a.cps.toList.length : Int) + (b.length : Int) - (a.cps.toList.length : Int)).toNat = b.cps.toList.length := by rw [len_cps b]; omega
  rw [e, List.take_left]
end
-- part G1
section
open PySem PySem.W PyProof.Rows PySem.Calls
set_option maxRecDepth 100000
section
variable {prog : Program} {w : World} {A : Around} {h₀ : Heap} {L : Addr} {m : Str → Option Value} {env : Env} {ct elt : Expr} {x : Str} {scope : Scope} {cl : List (Str × Addr)} {s : Shared} {S : List (Addr × Obj) → Prop} {P : Nat → Value → Prop} {Fin : List Value → List (Addr × Obj) → Prop} {news : List (Addr × Obj)}
/-- a comprehension by an invariant of its turns -/
theorem comp_inv {n : Nat} (J : Nat → List Value → List (Addr × Obj) → Prop) (h0 : J 0 [] news) (fin : ∀ ys nw, J n ys nw → Fin ys nw)
    (turn : ∀ i v I oI C oC D m₂ ys nw h tk (E' : Value → Shared → Prop), i < n → P i v → J i ys nw → LCg.NsObj oC m₂ → m₂ x = some v → Fr h₀ L h m → News h₀ L h ((I, oI) :: (C, oC) :: (D, LCg.lst ys) :: nw) → LCg.Off3 I C D nw → ((@Ne Nat I C) ∧ (@Ne Nat I D) ∧ (@Ne Nat C D)) →
      wpAny (model prog w) A (eval elt (compEnvC scope cl C env)) (LCg.CompEnd h₀ L m { s with heap := h, toks := tk } I oI C oC D (LCg.lst ys) S (fun y nw' => J (i + 1) (ys ++ [y]) nw')) E' { s with heap := h, toks := tk }) :
    LCg.CompRest prog w A h₀ L m env elt x scope cl s S P Fin n 0 [] news := by
  have key : ∀ (j i : Nat) (ys : List Value) (nw : List (Addr × Obj)), i + j = n → J i ys nw → LCg.CompRest prog w A h₀ L m env elt x scope cl s S P Fin j i ys nw := by
    intro j
    induction j with
    | zero =>
      intro i ys nw hi hJ
      obtain rfl : i = n := by omega
      exact LCg.CompRest.zero (fin ys nw hJ)
    | succ j ih =>
      intro i ys nw hi hJ
      refine LCg.CompRest.succ ?_
      intro v I oI C oC D m₂ h tk E' hv hC hx F N off ne
      refine wpAny_mono (turn i v I oI C oC D m₂ ys nw h tk E' (by omega) hv hJ hC hx F N off ne) (fun y s₂ hq => ?_) fun _ _ e => e
      obtain ⟨h', tk', nw', e, F', N', off', hS, hr⟩ := hq
      exact ⟨h', tk', nw', e, F', N', off', hS, ih (i + 1) _ _ (by omega) hr⟩
  exact key n 0 [] news (by omega) h0
/-- the same, of a comprehension with a test -/
theorem compT_inv {n : Nat} (J : Nat → List Value → List (Addr × Obj) → Prop) (h0 : J 0 [] news) (fin : ∀ ys nw, J n ys nw → Fin ys nw)
    (turn : ∀ i v I oI C oC D m₂ ys nw h tk (E' : Value → Shared → Prop), i < n → P i v → J i ys nw → LCg.NsObj oC m₂ → m₂ x = some v → Fr h₀ L h m → News h₀ L h ((I, oI) :: (C, oC) :: (D, LCg.lst ys) :: nw) → LCg.Off3 I C D nw → ((@Ne Nat I C) ∧ (@Ne Nat I D) ∧ (@Ne Nat C D)) →
      wpAny (model prog w) A (isTrue ct (compEnvC scope cl C env) (eval ct (compEnvC scope cl C env))) (fun b s' => if b = true then wpAny (model prog w) A (eval elt (compEnvC scope cl C env)) (LCg.CompEnd h₀ L m { s with heap := h, toks := tk } I oI C oC D (LCg.lst ys) S (fun y nw' => J (i + 1) (ys ++ [y]) nw')) E' s'
        else LCg.CompEnd h₀ L m { s with heap := h, toks := tk } I oI C oC D (LCg.lst ys) S (fun _ nw' => J (i + 1) ys nw') Value.none s') E' { s with heap := h, toks := tk }) :
    LCt.CompRestT prog w A h₀ L m env ct elt x scope cl s S P Fin n 0 [] news := by
  have key : ∀ (j i : Nat) (ys : List Value) (nw : List (Addr × Obj)), i + j = n → J i ys nw → LCt.CompRestT prog w A h₀ L m env ct elt x scope cl s S P Fin j i ys nw := by
    intro j
    induction j with
    | zero =>
      intro i ys nw hi hJ
      obtain rfl : i = n := by omega
      exact LCt.CompRestT.zero (fin ys nw hJ)
    | succ j ih =>
      intro i ys nw hi hJ
      refine LCt.CompRestT.succ ?_
      intro v I oI C oC D m₂ h tk E' hv hC hx F N off ne
      refine wpAny_mono (turn i v I oI C oC D m₂ ys nw h tk E' (by omega) hv hJ hC hx F N off ne) (fun b s₂ hq => ?_) fun _ _ e => e
      cases b with
      | true =>
        simp only [if_true] at hq ⊢
        refine wpAny_mono hq (fun y s₃ hr => ?_) fun _ _ e => e
        obtain ⟨h', tk', nw', e, F', N', off', hS, hr⟩ := hr
        exact ⟨h', tk', nw', e, F', N', off', hS, ih (i + 1) _ _ (by omega) hr⟩
      | false =>
        simp only [Bool.false_eq_true, if_false] at hq ⊢
        obtain ⟨h', tk', nw', e, F', N', off', hS, hr⟩ := hq
        exact ⟨h', tk', nw', e, F', N', off', hS, ih (i + 1) _ _ (by omega) hr⟩
  exact key n 0 [] news (by omega) h0
/-- a turn's end that keeps one object -/
theorem end_keep {I C D : Addr} {s₁ : Shared} {oI oC oD : Obj} {rest : Value → List (Addr × Obj) → Prop} {y : Value} {h' : Heap} {tk : Nat} {all nw : List (Addr × Obj)} {a : Addr} {o : Obj} (F : Fr h₀ L h' m) (N : News h₀ L h' all)
    (hp : (a, o) ∈ all) (sub : ∀ p ∈ (I, oI) :: (C, oC) :: (D, oD) :: nw, p ∈ all) (ne : a ≠ I ∧ a ≠ C ∧ a ≠ D) (off : LCg.Off3 I C D nw) (hS : S ((a, o) :: nw)) (r : rest y ((a, o) :: nw)) :
    LCg.CompEnd h₀ L m s₁ I oI C oC D oD S rest y { s₁ with heap := h', toks := tk } :=
  LCg.CompEnd.intro F N ((a, o) :: nw) (fun p hm => by
    simp only [List.mem_cons] at hm
    rcases hm with e | e | e | e | e
    · exact sub p (e ▸ .head _)
    · exact sub p (e ▸ .tail _ (.head _))
    · exact sub p (e ▸ .tail _ (.tail _ (.head _)))
    · exact e ▸ hp
    · exact sub p (.tail _ (.tail _ (.tail _ e)))) (LCg.Off3.of fun p hm => by
    rcases List.mem_cons.mp hm with e | e
    · subst e; exact ⟨ne.1, ne.2.1, ne.2.2⟩
    · exact LCg.Off3.mem off p e) hS r
/-- a turn's end that keeps none -/
theorem end_none {I C D : Addr} {s₁ : Shared} {oI oC oD : Obj} {rest : Value → List (Addr × Obj) → Prop} {y : Value} {h' : Heap} {tk : Nat} {all nw : List (Addr × Obj)} (F : Fr h₀ L h' m) (N : News h₀ L h' all)
    (sub : ∀ p ∈ (I, oI) :: (C, oC) :: (D, oD) :: nw, p ∈ all) (off : LCg.Off3 I C D nw) (hS : S nw) (r : rest y nw) :
    LCg.CompEnd h₀ L m s₁ I oI C oC D oD S rest y { s₁ with heap := h', toks := tk } := LCg.CompEnd.intro F N nw sub off hS r
end
end
-- part G2
section
open PySem PySem.W PyProof.Rows PySem.Calls
set_option maxRecDepth 100000
section
variable {prog : Program} {w : World} {A : Around} {E : Value → Shared → Prop} {s : Shared} {env : Env} {h₀ : Heap} {m : Str → Option Value} {news : List (Addr × Obj)}
/-- a for over a zip of two lists that lie in the ledger, by an invariant -/
theorem zip_led {α₁ α₂ : Type} {K₁ : ItemKind α₁} {K₂ : ItemKind α₂} {as : List α₁} {bs : List α₂} {vs₁ vs₂ : List Value} {l1 l2 : Addr} {xi xc : Str} {body : List Stmt} {Q : Flow → Shared → Prop} {n1 n2 : Nat}
    (J : Nat → (Str → Option Value) → List (Addr × Obj) → Prop) (hh : A.handled = none)
    (hA₁ : AreOf K₁ vs₁ as) (hA₂ : AreOf K₂ vs₂ bs) (F : Fr h₀ env.locals s.heap m) (N : News h₀ env.locals s.heap news)
    (hm1 : (l1, listOf vs₁.toArray n1) ∈ news) (hm2 : (l2, listOf vs₂.toArray n2) ∈ news) (h0 : J 0 m news)
    (step : ∀ (i : Nat) a b va vb m₁ news₁ s₁ own, (∃ h tk, s₁ = { s with heap := h, toks := tk }) → as[i]? = some a → bs[i]? = some b → K₁.is a va → K₂.is b vb → J i m₁ news₁ → news₁.map (·.1) = news.map (·.1) →
      Fr h₀ env.locals s₁.heap (fun y => if y = xc then some vb else if y = xi then some va else m₁ y) → News h₀ env.locals s₁.heap (own ++ news₁) →
      wpAny (model prog w) A (execs body env) (LoopStep3 h₀ env.locals own news₁ (J (i + 1)) s₁ (fun v s' => Q (.ret v) s') fun s' => Q .next s') E s₁)
    (done : ∀ h' tk m' news', Fr h₀ env.locals h' m' → News h₀ env.locals h' news' → news'.map (·.1) = news.map (·.1) → J (as.zip bs).length m' news' → Q .next { s with heap := h', toks := tk }) :
    wpAny (model prog w) A (call (.type "zip") [.ref l1, .ref l2]) (fun xv s₁ => wpAny (model prog w) A (pyIter xv) (fun it s₂ => PairAt3 prog w A h₀ env xi xc body Q E it s₂) E s₁) E s := by
  have hls1 : s.heap.IsList l1 vs₁.toArray := News.isList N hm1
  have hls2 : s.heap.IsList l2 vs₂.toArray := News.isList N hm2
  have a1 : l1 < s.heap.objs.size := Heap.lt_size (N _ hm1).1
  have a2 : l2 < s.heap.objs.size := Heap.lt_size (N _ hm2).1
  have hLs : env.locals < s.heap.objs.size := F.ns.lt
  have hab : h₀.objs.size ≤ env.locals := F.above
  have e1 : l1 ≠ env.locals := (N _ hm1).2.1
  have e2 : l2 ≠ env.locals := (N _ hm2).2.1
  refine call_zip_2 hls1 hls2 fun h' hz hTI hTO hit1 hit2 hsz hk => ?_
  have F' : Fr h₀ env.locals h' m := ⟨F.ns.keeps hk, fun b o e => hk b o (F.keep b o e), F.above⟩
  have N' : News h₀ env.locals h' news := fun p hp => ⟨hk _ _ (N p hp).1, (N p hp).2⟩
  have hnews : ∀ q ∈ news, q.1 < s.heap.objs.size ∧ h₀.get? q.1 = none := fun q hq => ⟨Heap.lt_size (N q hq).1, (N q hq).2.2⟩
  have W := WalksT.zip2 (prog := prog) (w := w) hh _ _ _ _ _ l1 l2 (zipApart_new a1 a2) vs₁.toArray vs₂.toArray
  have hst : IsZip h' (s.heap.objs.size + 4) (s.heap.objs.size + 2) (s.heap.objs.size + 3) .none ∧ IsPair h' (s.heap.objs.size + 2) (.ref s.heap.objs.size) (.ref (s.heap.objs.size + 1)) ∧ (∃ a b, IsPair h' (s.heap.objs.size + 3) a b) ∧ h'.IsListIter s.heap.objs.size l1 0 ∧ h'.IsListIter (s.heap.objs.size + 1) l2 0 ∧ h'.IsList l1 vs₁.toArray ∧ h'.IsList l2 vs₂.toArray :=
    ⟨hz, hTI, ⟨_, _, hTO⟩, hit1, hit2, hls1.at fun o e => hk l1 o e, hls2.at fun o e => hk l2 o e⟩
  refine W.self 0 _ _ _ hst ?_
  have hn : min vs₁.toArray.size vs₂.toArray.size = (as.zip bs).length := by simp [hA₁.length, hA₂.length]
  refine ⟨s.heap.objs.size + 4, _, _, _, _, _, _, (fun i v0 v1 => ∃ a b, as[i]? = some a ∧ bs[i]? = some b ∧ K₁.is a v0 ∧ K₂.is b v1), m, news, J, rfl, W, ?_, ?_, ?_, ?_, hst, F', N', h0, ?_, ?_⟩
  · rintro i vals ⟨x, y, hx, hy, rfl⟩
    obtain ⟨a, ha, ka⟩ := hA₁.get i x (by simpa using hx)
    obtain ⟨b, hb, kb⟩ := hA₂.get i y (by simpa using hy)
    exact ⟨x, y, rfl, a, b, ha, hb, ka, kb⟩
  · intro hm
    simp only [List.mem_cons, List.not_mem_nil, or_false] at hm
    have up : ∀ k, env.locals ≠ s.heap.objs.size + k := fun k e => Nat.ne_of_lt (Nat.lt_of_lt_of_le hLs (Nat.le_add_right _ k)) e
    rcases hm with e | e | e | e | e | e | e
    · exact up 4 e
    · exact up 2 e
    · exact up 3 e
    · exact up 0 e
    · exact up 1 e
    · exact e1 e.symm
    · exact e2 e.symm
  · intro b hb
    simp only [List.mem_cons, List.not_mem_nil, or_false] at hb
    have nw : ∀ k, h₀.get? (s.heap.objs.size + k) = none := fun k => Heap.get?_none_of_le (Nat.le_trans hab (Nat.le_trans (Nat.le_of_lt hLs) (Nat.le_add_right _ k)))
    rcases hb with rfl | rfl | rfl | rfl
    · exact nw 4
    · exact nw 3
    · exact nw 0
    · exact nw 1
  · intro p hp hm
    have hq1 := (hnews p hp).1
    simp only [List.mem_cons, List.not_mem_nil, or_false] at hm
    have dn : ∀ k, p.1 ≠ s.heap.objs.size + k := fun k e => Nat.ne_of_lt (Nat.lt_of_lt_of_le hq1 (Nat.le_add_right _ k)) e
    rcases hm with e | e | e | e
    · exact dn 4 e
    · exact dn 3 e
    · exact dn 0 e
    · exact dn 1 e
  · rintro i v0 v1 m₁ news₁ s₁ own hs₁ _ ⟨a, b, ha, hb, ka, kb⟩ hJ hmap hsub F₁ N₁
    exact step i a b v0 v1 m₁ news₁ s₁ own (by obtain ⟨h, tk, e⟩ := hs₁; exact ⟨h, tk, e⟩) ha hb ka kb hJ hmap F₁ N₁
  · exact hn ▸ done
end
end
-- part C8
section
open PySem PySem.W PyProof.Rows
set_option maxRecDepth 100000
set_option maxHeartbeats 8000000
variable {w : World} {p : Program} {loose : List Str} {mean : ExcName → Option Value} {mg mb : Str → Option Value}

/-- the dict of the octets' codes -/
noncomputable def CodesIn (w : World) (o : Obj) (c : Int → Str) (ns : List Int) : Prop := ∃ kvs, o.IsDictOf (intKind PySem.Challenge.pw_ku0005_01 w) kvs ∧ ∀ i ∈ ns, (c i).length ≤ 3 ∧ ∃ t, valueAt kvs i = some (.str (c i) t)
theorem code_at {A : Around} {E : Value → Shared → Prop} {s : Shared} {h₀ : Heap} {L d : Addr} {news : List (Addr × Obj)} {o : Obj} {c : Int → Str} {ns : List Int} {x : Int} {t : MTok} {Q : Value → Shared → Prop} {value slice : PySem.Expr} (N : News h₀ L s.heap news) (hp : (d, o) ∈ news) (hc : CodesIn w o c ns) (hx : x ∈ ns)
    (hs : subscripted slice false (.ref d) (.int x t) = operate [.ref d, .int x t] (getItem (.ref d) (.int x t))) (h : ∀ t', Q (.str (c x) t') { s with toks := s.toks + 1 }) :
    wpAny (model PySem.Challenge.pw_ku0005_01 w) A (subscriptTail value slice (.ref d) (.int x t)) Q E s := by
  obtain ⟨kvs, hd, hv⟩ := hc
  obtain ⟨_, t', hv⟩ := hv x hx
  exact kdt_tail N hp hd (kdt_getItem N hp hd (intKind_is _ _ _ _) hv (h t')) hs
noncomputable def aheadC (c : Int → Str) (ns : List Int) : Int := (((ns.map fun i => (c i).length).sum : Nat) : Int)
noncomputable def dueMap (m₀ u : Str → Option Value) (v : Int) (t : MTok) : Str → Option Value := fun z => if z = Str.ofString "ahead" then some (.int v t) else if z = Str.ofString "one" ∨ z = Str.ofString "two" then u z else m₀ z
noncomputable def DueJ (c : Int → Str) (ns ms : List Int) (m₀ : Str → Option Value) (news : List (Addr × Obj)) (i : Nat) (m : Str → Option Value) (nw : List (Addr × Obj)) : Prop :=
  nw = news ∧ ns.take i = ms.take i ∧ ∃ u t, m = dueMap m₀ u (aheadC c (ns.take i)) t
theorem due_start {c : Int → Str} {ns ms : List Int} {m : Str → Option Value} {news : List (Addr × Obj)} {t : MTok} (h : m (Str.ofString "ahead") = some (.int 0 t)) : DueJ c ns ms m news 0 m news := by
  refine ⟨rfl, rfl, m, t, ?_⟩
  funext z
  unfold dueMap
  by_cases hz : z = Str.ofString "ahead"
  · rw [if_pos hz, hz, h]; rfl
  · rw [if_neg hz]
    by_cases hz2 : z = Str.ofString "one" ∨ z = Str.ofString "two"
    · rw [if_pos hz2]
    · rw [if_neg hz2]
theorem due_map {m₀ u : Str → Option Value} {v : Int} {t : MTok} {A B : Option Value} :
    (fun y => if y = Str.ofString "two" then B else if y = Str.ofString "one" then A else dueMap m₀ u v t y) = fun y => if y = Str.ofString "two" then B else if y = Str.ofString "one" then A else if y = Str.ofString "ahead" then some (.int v t) else m₀ y := by
  funext y
  by_cases h1 : y = Str.ofString "two"
  · rw [if_pos h1, if_pos h1]
  · rw [if_neg h1, if_neg h1]
    by_cases h2 : y = Str.ofString "one"
    · rw [if_pos h2, if_pos h2]
    · rw [if_neg h2, if_neg h2]
      unfold dueMap
      rw [if_neg (c := y = Str.ofString "one" ∨ y = Str.ofString "two") (by rintro (h | h); exact h2 h; exact h1 h)]
theorem due_led {h₀ : Heap} {L : Addr} {h : Heap} {own news : List (Addr × Obj)} {a b d : Addr} {oa ob od : Obj} (N : News h₀ L h (own ++ (a, oa) :: (b, ob) :: (d, od) :: news)) : News h₀ L h ((a, oa) :: (b, ob) :: (d, od) :: (own ++ news)) :=
  kst_newsOf N (by intro p hp; simp only [List.mem_append, List.mem_cons] at hp ⊢; rcases hp with h | h | h | h | h <;> simp [h])
theorem due_back {h₀ : Heap} {L : Addr} {h : Heap} {own news : List (Addr × Obj)} {a b d : Addr} {oa ob od : Obj} (N : News h₀ L h ((a, oa) :: (b, ob) :: (d, od) :: (own ++ news))) : News h₀ L h (own ++ (a, oa) :: (b, ob) :: (d, od) :: news) :=
  kst_newsOf N (by intro p hp; simp only [List.mem_append, List.mem_cons] at hp ⊢; rcases hp with h | h | h | h | h <;> simp [h])
/-- where the first parting lies, as the octets say -/
noncomputable def partE (c : Int → Str) (a b : Int) : Int := if ¬(((c a).length : Int) = 3 ∧ ((c b).length : Int) = 3) then 0 else if Builtin.bitXor a b < 16 then 2 else 1
noncomputable def dueI (c : Int → Str) : List Int → List Int → Int → Option Int
  | a :: l, b :: r, acc => if a = b then dueI c l r (acc + ((c a).length : Int)) else some (acc + partE c a b)
  | _, _, _ => none
theorem dueI_at {c : Int → Str} : ∀ {ns ms : List Int} {i : Nat} {a b acc : Int}, ns.take i = ms.take i → ns[i]? = some a → ms[i]? = some b → a ≠ b → dueI c ns ms acc = some (acc + aheadC c (ns.take i) + partE c a b)
  | [], _, i, a, b, acc, _, h, _, _ => by simp at h
  | _ :: _, [], i, a, b, acc, _, _, h, _ => by simp at h
  | x :: ns, y :: ms, 0, a, b, acc, _, h1, h2, h3 => by
    simp only [List.getElem?_cons_zero, Option.some.injEq] at h1 h2
    subst h1; subst h2
    unfold dueI
    rw [if_neg h3]
    simp [aheadC]
  | x :: ns, y :: ms, i + 1, a, b, acc, ht, h1, h2, h3 => by
    simp only [List.take_succ_cons, List.cons.injEq] at ht
    obtain ⟨rfl, ht⟩ := ht
    unfold dueI
    rw [if_pos rfl, dueI_at ht (by simpa using h1) (by simpa using h2) h3]
    simp only [List.take_succ_cons, aheadC, List.map_cons, List.sum_cons]
    congr 1
    omega
theorem dueI_none {c : Int → Str} : ∀ {ns ms : List Int} {acc : Int}, ns.take (ns.zip ms).length = ms.take (ns.zip ms).length → dueI c ns ms acc = none
  | [], _, _, _ => by simp [dueI]
  | _ :: _, [], _, _ => by simp [dueI]
  | x :: ns, y :: ms, acc, h => by
    simp only [List.zip_cons_cons, List.length_cons, List.take_succ_cons, List.cons.injEq] at h
    obtain ⟨rfl, h⟩ := h
    unfold dueI
    rw [if_pos rfl]
    exact dueI_none h
noncomputable def dueV (c : Int → Str) (ns ms : List Int) (t : MTok) : Value := match dueI c ns ms 0 with
  | some k => .int k t
  | none => .str (Str.ofString "sequence.index(x): x not in sequence") t
theorem due_next {c : Int → Str} {ns ms : List Int} {m₀ : Str → Option Value} {news : List (Addr × Obj)} {i : Nat} {a : Int} {t t' : MTok} {A B : Option Value} {k : Int} (ht : ns.take i = ms.take i) (ha : ns[i]? = some a) (hb : ms[i]? = some a) (hk : k = aheadC c (ns.take i) + ((c a).length : Int)) :
    DueJ c ns ms m₀ news (i + 1) (fun y => if y = Str.ofString "ahead" then some (.int k t') else if y = Str.ofString "two" then B else if y = Str.ofString "one" then A else if y = Str.ofString "ahead" then some (.int (aheadC c (ns.take i)) t) else m₀ y) news := by
  refine ⟨rfl, ?_, (fun y => if y = Str.ofString "two" then B else A), t', ?_⟩
  · rw [List.take_add_one, List.take_add_one, ht, ha, hb]
  · have e : aheadC c (ns.take (i + 1)) = k := by
      rw [hk, List.take_add_one, ha]
      simp [aheadC]
    funext y
    unfold dueMap
    rw [e]
    by_cases h1 : y = Str.ofString "ahead"
    · simp [h1]
    · by_cases h2 : y = Str.ofString "two"
      · simp [h2]
      · by_cases h3 : y = Str.ofString "one"
        · simp [h3]
        · simp [h1, h2, h3]
theorem due_zip {prog : Program} {A : Around} {E : Value → Shared → Prop} {s : Shared} {env : Env} {h₀ : Heap} {m : Str → Option Value} {us vs : List Value} {n k : Nat} {ns ms : List Int} {a b d : Addr} {o : Obj} {c : Int → Str} {news : List (Addr × Obj)} {body : List Stmt} {Q : Flow → Shared → Prop} {t₀ : MTok}
    (hh : A.handled = none) (hi : IntsAre us ns) (hj : IntsAre vs ms) (hc : CodesIn w o c (ns ++ ms)) (F : Fr h₀ env.locals s.heap m) (N : News h₀ env.locals s.heap ((a, listOf us.toArray n) :: (b, listOf vs.toArray k) :: (d, o) :: news)) (h0 : m (Str.ofString "ahead") = some (.int 0 t₀))
    (step : ∀ (i : Nat) x y tx ty t own h tk, ns.take i = ms.take i → ns[i]? = some x → ms[i]? = some y → x ∈ ns ++ ms → y ∈ ns ++ ms → (c x).length ≤ 3 → (c y).length ≤ 3 →
      Fr h₀ env.locals h (fun z => if z = Str.ofString "two" then some (.int y ty) else if z = Str.ofString "one" then some (.int x tx) else if z = Str.ofString "ahead" then some (.int (aheadC c (ns.take i)) t) else m z) →
      News h₀ env.locals h ((a, listOf us.toArray n) :: (b, listOf vs.toArray k) :: (d, o) :: (own ++ news)) →
      wpAny (model prog w) A (execs body env) (LoopStep3 h₀ env.locals own ((a, listOf us.toArray n) :: (b, listOf vs.toArray k) :: (d, o) :: news) (DueJ c ns ms m ((a, listOf us.toArray n) :: (b, listOf vs.toArray k) :: (d, o) :: news) (i + 1)) { s with heap := h, toks := tk } (fun v s' => Q (.ret v) s') fun s' => Q .next s') E { s with heap := h, toks := tk })
    (done : ∀ h' tk m', Fr h₀ env.locals h' m' → News h₀ env.locals h' ((a, listOf us.toArray n) :: (b, listOf vs.toArray k) :: (d, o) :: news) → ns.take (ns.zip ms).length = ms.take (ns.zip ms).length → Q .next { s with heap := h', toks := tk }) :
    wpAny (model prog w) A (call (.type "zip") [.ref a, .ref b]) (fun xv s₁ => wpAny (model prog w) A (pyIter xv) (fun it s₂ => PairAt3 prog w A h₀ env (Str.ofString "one") (Str.ofString "two") body Q E it s₂) E s₁) E s := by
  refine zip_led (K₁ := ItemKind.int) (K₂ := ItemKind.int) (DueJ c ns ms m ((a, listOf us.toArray n) :: (b, listOf vs.toArray k) :: (d, o) :: news)) hh hi.areOf hj.areOf F N (.head _) (.tail _ (.head _)) (due_start h0) ?_ ?_
  · rintro i x y vx vy m₁ nw s₁ own ⟨h, tk, rfl⟩ hx hy ⟨tx, rfl⟩ ⟨ty, rfl⟩ ⟨rfl, ht, u, t, rfl⟩ _ F₁ N₁
    rw [due_map] at F₁
    have px := List.mem_append_left ms (List.mem_of_getElem? hx)
    have py := List.mem_append_right ns (List.mem_of_getElem? hy)
    obtain ⟨_, _, hv⟩ := hc
    exact step i x y tx ty t own h tk ht hx hy px py (hv x px).1 (hv y py).1 F₁ (due_led N₁)
  · rintro h' tk m' nw F₁ N₁ _ ⟨rfl, ht, _, _, rfl⟩
    exact done h' tk _ F₁ N₁ ht
theorem due_end0 {s : Shared} {h₀ : Heap} {L : Addr} {m : Str → Option Value} {news : List (Addr × Obj)} {Q : Value → Shared → Prop} {c : Int → Str} {ns ms : List Int} {h : Heap} {t : MTok} {k : Nat} (hret : CbRet h₀ L m news s Q (dueV c ns ms)) (ht : ns.take (ns.zip ms).length = ms.take (ns.zip ms).length) (F : Fr h₀ L h m) (N : News h₀ L h news) :
    Q (.str (Str.ofString "sequence.index(x): x not in sequence") t) { s with heap := h, toks := k } := by
  have e := hret t h k F N
  unfold dueV at e
  rw [dueI_none ht] at e
  exact e
theorem due_end1 {s : Shared} {h₀ : Heap} {L : Addr} {m : Str → Option Value} {news own : List (Addr × Obj)} {Q : Value → Shared → Prop} {c : Int → Str} {ns ms : List Int} {h : Heap} {t : MTok} {k : Nat} {i : Nat} {x y v : Int} {a b d : Addr} {oa ob od : Obj} (hret : CbRet h₀ L m ((a, oa) :: (b, ob) :: (d, od) :: news) s Q (dueV c ns ms)) (ht : ns.take i = ms.take i) (hx : ns[i]? = some x) (hy : ms[i]? = some y) (hne : x ≠ y) (hv : v = aheadC c (ns.take i) + partE c x y)
    (F : Fr h₀ L h m) (N : News h₀ L h ((a, oa) :: (b, ob) :: (d, od) :: (own ++ news))) : Q (.int v t) { s with heap := h, toks := k } := by
  have e := hret t h k F (kst_newsOf N (by intro p hp; simp only [List.mem_append, List.mem_cons] at hp ⊢; rcases hp with h | h | h | h <;> simp [h]))
  unfold dueV at e
  rw [dueI_at ht hx hy hne] at e
  rw [hv]
  simpa using e
theorem due_step {s₁ : Shared} {h₀ : Heap} {L : Addr} {m₀ : Str → Option Value} {news own : List (Addr × Obj)} {c : Int → Str} {ns ms : List Int} {h : Heap} {t t' : MTok} {q : Nat} {i : Nat} {x y k : Int} {a b d : Addr} {oa ob od : Obj} {A B : Option Value} {Qr : Value → Shared → Prop} {Qb : Shared → Prop} (ht : ns.take i = ms.take i) (hx : ns[i]? = some x) (hy : ms[i]? = some y) (hxy : x = y) (hk : k = aheadC c (ns.take i) + ((c x).length : Int))
    (F : Fr h₀ L h (fun z => if z = Str.ofString "ahead" then some (.int k t') else if z = Str.ofString "two" then B else if z = Str.ofString "one" then A else if z = Str.ofString "ahead" then some (.int (aheadC c (ns.take i)) t) else m₀ z)) (N : News h₀ L h ((a, oa) :: (b, ob) :: (d, od) :: (own ++ news))) :
    LoopStep3 h₀ L own ((a, oa) :: (b, ob) :: (d, od) :: news) (DueJ c ns ms m₀ ((a, oa) :: (b, ob) :: (d, od) :: news) (i + 1)) s₁ Qr Qb .next { s₁ with heap := h, toks := q } := by
  subst hxy
  exact LoopStep3.next (LoopStep2.intro F (due_back N) rfl (due_next ht hx hy hk))

theorem due_gives (a b d : Addr) (us vs : List Value) (n k : Nat) (ns ms : List Int) (hi : IntsAre us ns) (hj : IntsAre vs ms) (o : Obj) (c : Int → Str) (hc : CodesIn w o c (ns ++ ms)) (news) : GivesV w p loose mean mg mb 2 175 [.ref a, .ref b, .ref d] ((a, listOf us.toArray n) :: (b, listOf vs.toArray k) :: (d, o) :: news) (dueV c ns ms) := by
  intro dp un gd env outer A₀ base h₀ L m s Q E B F X N T hf hk hd hu hret
  refine wpAny_call ?_
  k_dflt cell_enter
  repeat' (first
    | ((with_reducible show wpAny _ _ (PySem.exec _ _) _ _ _); k_fold)
    | ((with_reducible show wpAny _ _ (PySem.execs _ _) _ _ _); k_fold)
    | ((with_reducible show wpAny _ _ (PySem.execs _ _) _ _ _); dsimp only)
    | ((with_reducible show wpAny _ _ (subscriptTail (PySem.Expr.Name _ _) (PySem.Expr.Name _ _) (Value.ref _) (Value.int _ _)) _ _ _); first | with_reducible ((refine' code_at ?ka8 ?km8 ?kc8 ?kx8 ?ks8 ?_); (case kc8 => assumption); (case kx8 => assumption); (case ka8 => k_asm); (case km8 => with_unfolding_all k_mem); (case ks8 => with_unfolding_all rfl); intro t9; (try dsimp only)) | ((refine' code_at ?ka8 ?km8 ?kc8 ?kx8 ?ks8 ?_); (case kc8 => assumption); (case kx8 => assumption); (case ka8 => k_asm); (case km8 => with_unfolding_all k_mem); (case ks8 => with_unfolding_all rfl); intro t9; (try dsimp only)))
    | ((with_reducible show LoopStep3 _ _ _ _ _ _ _ _ _ _); first | with_reducible ((refine' due_step ?ke1 ?ke2 ?ke3 ?ke4 ?ke5 ?keF ?keN); (case ke1 => assumption); (case ke2 => assumption); (case ke3 => assumption); (case ke4 => assumption); (case keF => (rename Fr _ _ _ _ => kF9; with_unfolding_all exact kF9)); (case keN => (rename News _ _ _ _ => kN9; with_unfolding_all exact kN9)); (case ke5 => rfl)) | ((refine' due_step ?ke1 ?ke2 ?ke3 ?ke4 ?ke5 ?keF ?keN); (case ke1 => assumption); (case ke2 => assumption); (case ke3 => assumption); (case ke4 => assumption); (case keF => (rename Fr _ _ _ _ => kF9; with_unfolding_all exact kF9)); (case keN => (rename News _ _ _ _ => kN9; with_unfolding_all exact kN9)); (case ke5 => rfl)))
    | ((with_reducible show wpAny _ _ (PySem.call (Value.type "zip") _) _ _ _); first | with_reducible ((refine' due_zip ?zh ?zi ?zj ?zc ?zF ?zN ?z0 ?_ ?_); (case zh => with_unfolding_all rfl); (case zc => assumption); (case zi => assumption); (case zj => assumption); (case zF => (rename Fr _ _ _ _ => kF9; with_unfolding_all exact kF9)); (case zN => (rename News _ _ _ _ => kN9; with_unfolding_all exact kN9)); (case z0 => with_unfolding_all rfl); (intro i9 x9 y9 tx9 ty9 t9 own9 h9 tk9 ht9 hx9 hy9 hm9 hn9 hu9 hv9 F9 N9); rotate_left; (intro h9 tk9 m9 F9 N9 ht9)) | ((refine' due_zip ?zh ?zi ?zj ?zc ?zF ?zN ?z0 ?_ ?_); (case zh => with_unfolding_all rfl); (case zc => assumption); (case zi => assumption); (case zj => assumption); (case zF => (rename Fr _ _ _ _ => kF9; with_unfolding_all exact kF9)); (case zN => (rename News _ _ _ _ => kN9; with_unfolding_all exact kN9)); (case z0 => with_unfolding_all rfl); (intro i9 x9 y9 tx9 ty9 t9 own9 h9 tk9 ht9 hx9 hy9 hm9 hn9 hu9 hv9 F9 N9); rotate_left; (intro h9 tk9 m9 F9 N9 ht9)))
    | (k_unfold; (try dsimp only)) | (k_end; wrow_close) | walk1 | (dsimp only; walk1) | (leave1; try dsimp only) | fail "no step")
  all_goals (first
    | exact due_end0 hret (by assumption) (by k_asm) (by k_asm)
    | (refine due_end1 hret (by assumption) (by assumption) (by assumption) (by assumption) ?_ (by k_asm) (by k_asm); unfold partE; split <;> (try split) <;> first | rfl | omega | (exfalso; omega)))
end
-- part C1
section
open PySem PySem.W PyProof.Rows
set_option maxRecDepth 100000
set_option maxHeartbeats 8000000
variable {w : World} {p : Program} {loose : List Str} {mean : ExcName → Option Value} {mg mb : Str → Option Value}

theorem esc_slice (n : Nat) (hn : n < 256) : Txt.slice (escS (n : Int)) (some 1) (some 3) = ⟨#[hx (n / 16), hx (n % 16)]⟩ := by
  have h : ∀ m : Nat, m < 256 → Txt.slice (escS (m : Int)) (some 1) (some 3) = ⟨#[hx (m / 16), hx (m % 16)]⟩ := by decide +kernel
  exact h n hn
theorem int_esc {w : World} {A : Around} {E : Value → Shared → Prop} {s : Shared} {Q : Value → Shared → Prop} {n : Nat} {u v : MTok} (hn : n < 256)
    (h : Q (.int ((n : Nat) : Int) s.toks) { s with toks := s.toks + 1 }) : wpAny (model PySem.Challenge.pw_ku0005_01 w) A (call (.type "int") [.str (Txt.slice (escS (n : Int)) (some 1) (some 3)) u, .int 16 v]) Q E s := by
  rw [esc_slice n hn]
  refine call_int16 (by omega) (by omega) ?_
  rw [show 16 * (n / 16) + n % 16 = n by omega]
  exact h
theorem quote_tab (vs : List Str) (h : ∀ m : Nat, m < 256 → vs.getD ((((m : Int).toNat : Nat) : Int).toNat) Str.empty = escS (m : Int)) (n : Nat) (hn : n < 256) : vs.getD ((((n : Int).toNat : Nat) : Int).toNat) Str.empty = escS (n : Int) := h n hn
theorem hx_back (n : Nat) (hn : n < 256) : (⟨#[((n : Nat) : Int).toNat]⟩ : Str) = ⟨#[((n : Nat) : Int).toNat]⟩ := rfl

theorem escape_gives (i : Int) (h : Oct i) (t : MTok) (news) : GivesV w p loose mean mg mb 2 135 [.int i t] news (fun t => .str (escS i) t) := by
  obtain ⟨n, hn, rfl⟩ := h.nat
  intro dp un gd env outer A₀ base h₀ L m s Q E B F X N T hf hk hd hu hret
  refine wpAny_call ?_
  k_dflt cell_enter
  repeat' (first
    | ((with_reducible show wpAny _ _ (PySem.exec _ _) _ _ _); k_fold)
    | ((with_reducible show wpAny _ _ (PySem.execs _ _) _ _ _); k_fold)
    | ((with_reducible show wpAny _ _ (PySem.execs _ _) _ _ _); dsimp only)
    | ((with_reducible show wpAny _ _ (PySem.call (Value.builtin "chr") _) _ _ _); first | with_reducible ((refine chr_of_range (by omega) (by omega) ?_)) | ((refine chr_of_range (by omega) (by omega) ?_)))
    | ((with_reducible show wpAny _ _ (call (Value.type "int") [Value.str (Txt.slice (escS _) _ _) _, _]) _ _ _); first | with_reducible ((refine int_esc (by assumption) ?_)) | ((refine int_esc (by assumption) ?_)))
    | (k_unfold; (try dsimp only)) | (k_end; wrow_close) | walk1 | (dsimp only; walk1) | (leave1; try dsimp only) | fail "no step")
  exact cb_retS hret (esc_eq n hn) (by k_asm) (by k_asm)

theorem code_gives (i : Int) (h : Oct i) (t : MTok) (news) : GivesV w p loose mean mg mb 3 142 [.int i t] news (fun t => .str (codeS i) t) := by
  obtain ⟨n, hn, rfl⟩ := h.nat
  intro dp un gd env outer A₀ base h₀ L m s Q E B F X N T hf hk hd hu hret
  refine wpAny_call ?_
  k_dflt cell_enter
  repeat' (first
    | ((with_reducible show wpAny _ _ (PySem.exec _ _) _ _ _); k_fold)
    | ((with_reducible show wpAny _ _ (PySem.execs _ _) _ _ _); k_fold)
    | ((with_reducible show wpAny _ _ (PySem.execs _ _) _ _ _); dsimp only)
    | ((with_reducible show wpAny _ _ (call (Value.ref 135) _) _ _ _); first | with_reducible (k_dflt (refine' GivesV.use (escape_gives _ ?ko _ _) ?k1 ?k2 ?k3 ?k4 ?k5 ?kf ?kK ?kd ?ku ?kR; (case ko => ktr_rel); (case k1 => k_asm); (case k2 => k_asm); (case k3 => k_asm); (case k4 => k_asm); (case k5 => k_asm); (case kf => first | exact rfl | assumption); (case kK => first | exact rfl | assumption); (case kd => ktr_room); (case ku => ktr_units); k_whole); intro t9 h9 tk9 F9 N9; (try dsimp only); (try k_fold)) | (k_dflt (refine' GivesV.use (escape_gives _ ?ko _ _) ?k1 ?k2 ?k3 ?k4 ?k5 ?kf ?kK ?kd ?ku ?kR; (case ko => ktr_rel); (case k1 => k_asm); (case k2 => k_asm); (case k3 => k_asm); (case k4 => k_asm); (case k5 => k_asm); (case kf => first | exact rfl | assumption); (case kK => first | exact rfl | assumption); (case kd => ktr_room); (case ku => ktr_units); k_whole); intro t9 h9 tk9 F9 N9; (try dsimp only); (try k_fold)))
    | ((with_reducible show wpAny _ _ (PySem.call (Value.builtin "chr") _) _ _ _); first | with_reducible ((refine chr_of_range (by omega) (by omega) ?_)) | ((refine chr_of_range (by omega) (by omega) ?_)))
    | ((with_reducible show wpAny _ _ (call (Value.type "int") [Value.str (Txt.slice (escS _) _ _) _, _]) _ _ _); first | with_reducible ((refine int_esc (by assumption) ?_)) | ((refine int_esc (by assumption) ?_)))
    | (k_unfold; (try dsimp only)) | (k_end; wrow_close) | walk1 | (dsimp only; walk1) | (leave1; try dsimp only) | fail "no step")
  all_goals first
    | exact cb_retS hret (code_of_32 (by assumption)) (by k_asm) (by k_asm)
    | exact cb_retS hret (code_of_esc hn (by assumption) (by assumption)) (by k_asm) (by k_asm)
    | exact cb_retS hret (code_of_plain hn (by assumption) (by assumption)) (by k_asm) (by k_asm)
theorem quote_gives (i : Int) (h : Oct i) (t : MTok) (news) : GivesV w p loose mean mg mb 1 44 [.str ⟨#[i.toNat]⟩ t] news (fun t => .str (escS i) t) := by
  obtain ⟨n, hn, rfl⟩ := h.nat
  intro dp un gd env outer A₀ base h₀ L m s Q E B F X N T hf hk hd hu hret
  refine wpAny_call ?_
  k_dflt cell_enter
  repeat' (first
    | ((with_reducible show wpAny _ _ (PySem.exec _ _) _ _ _); k_fold)
    | ((with_reducible show wpAny _ _ (PySem.execs _ _) _ _ _); k_fold)
    | ((with_reducible show wpAny _ _ (PySem.execs _ _) _ _ _); dsimp only)
    | ((with_reducible show wpAny _ _ (call (Value.ref 135) _) _ _ _); first | with_reducible (k_dflt (refine' GivesV.use (escape_gives _ ?ko _ _) ?k1 ?k2 ?k3 ?k4 ?k5 ?kf ?kK ?kd ?ku ?kR; (case ko => ktr_rel); (case k1 => k_asm); (case k2 => k_asm); (case k3 => k_asm); (case k4 => k_asm); (case k5 => k_asm); (case kf => first | exact rfl | assumption); (case kK => first | exact rfl | assumption); (case kd => ktr_room); (case ku => ktr_units); k_whole); intro t9 h9 tk9 F9 N9; (try dsimp only); (try k_fold)) | (k_dflt (refine' GivesV.use (escape_gives _ ?ko _ _) ?k1 ?k2 ?k3 ?k4 ?k5 ?kf ?kK ?kd ?ku ?kR; (case ko => ktr_rel); (case k1 => k_asm); (case k2 => k_asm); (case k3 => k_asm); (case k4 => k_asm); (case k5 => k_asm); (case kf => first | exact rfl | assumption); (case kK => first | exact rfl | assumption); (case kd => ktr_room); (case ku => ktr_units); k_whole); intro t9 h9 tk9 F9 N9; (try dsimp only); (try k_fold)))
    | ((with_reducible show wpAny _ _ (PySem.call (Value.builtin "chr") _) _ _ _); first | with_reducible ((refine chr_of_range (by omega) (by omega) ?_)) | ((refine chr_of_range (by omega) (by omega) ?_)))
    | ((with_reducible show wpAny _ _ (call (Value.type "int") [Value.str (Txt.slice (escS _) _ _) _, _]) _ _ _); first | with_reducible ((refine int_esc (by assumption) ?_)) | ((refine int_esc (by assumption) ?_)))
    | (k_unfold; (try dsimp only)) | (k_end; wrow_close) | walk1 | (dsimp only; walk1) | (leave1; try dsimp only) | fail "no step")
  refine cb_retS hret (quote_tab _ ?_ n hn) (by k_asm) (by k_asm)
  decide +kernel
theorem unquote_gives (i : Int) (h : Oct i) (t : MTok) (news) : GivesV w p loose mean mg mb 1 37 [.str (escS i) t] news (fun t => .str ⟨#[i.toNat]⟩ t) := by
  obtain ⟨n, hn, rfl⟩ := h.nat
  intro dp un gd env outer A₀ base h₀ L m s Q E B F X N T hf hk hd hu hret
  refine wpAny_call ?_
  k_dflt cell_enter
  repeat' (first
    | ((with_reducible show wpAny _ _ (PySem.exec _ _) _ _ _); k_fold)
    | ((with_reducible show wpAny _ _ (PySem.execs _ _) _ _ _); k_fold)
    | ((with_reducible show wpAny _ _ (PySem.execs _ _) _ _ _); dsimp only)
    | ((with_reducible show wpAny _ _ (call (Value.ref 135) _) _ _ _); first | with_reducible (k_dflt (refine' GivesV.use (escape_gives _ ?ko _ _) ?k1 ?k2 ?k3 ?k4 ?k5 ?kf ?kK ?kd ?ku ?kR; (case ko => ktr_rel); (case k1 => k_asm); (case k2 => k_asm); (case k3 => k_asm); (case k4 => k_asm); (case k5 => k_asm); (case kf => first | exact rfl | assumption); (case kK => first | exact rfl | assumption); (case kd => ktr_room); (case ku => ktr_units); k_whole); intro t9 h9 tk9 F9 N9; (try dsimp only); (try k_fold)) | (k_dflt (refine' GivesV.use (escape_gives _ ?ko _ _) ?k1 ?k2 ?k3 ?k4 ?k5 ?kf ?kK ?kd ?ku ?kR; (case ko => ktr_rel); (case k1 => k_asm); (case k2 => k_asm); (case k3 => k_asm); (case k4 => k_asm); (case k5 => k_asm); (case kf => first | exact rfl | assumption); (case kK => first | exact rfl | assumption); (case kd => ktr_room); (case ku => ktr_units); k_whole); intro t9 h9 tk9 F9 N9; (try dsimp only); (try k_fold)))
    | ((with_reducible show wpAny _ _ (PySem.call (Value.builtin "chr") _) _ _ _); first | with_reducible ((refine chr_of_range (by omega) (by omega) ?_)) | ((refine chr_of_range (by omega) (by omega) ?_)))
    | ((with_reducible show wpAny _ _ (call (Value.type "int") [Value.str (Txt.slice (escS _) _ _) _, _]) _ _ _); first | with_reducible ((refine int_esc (by assumption) ?_)) | ((refine int_esc (by assumption) ?_)))
    | (k_unfold; (try dsimp only)) | (k_end; wrow_close) | walk1 | (dsimp only; walk1) | (leave1; try dsimp only) | fail "no step")
  exact cb_retS hret (hx_back n hn) (by k_asm) (by k_asm)
end
-- part C2
section
open PySem PySem.W PyProof.Rows
set_option maxRecDepth 100000
set_option maxHeartbeats 8000000
variable {w : World} {p : Program} {loose : List Str} {mean : ExcName → Option Value} {mg mb : Str → Option Value}

noncomputable def P0 : Params := { strHash := fun _ => 0, shareClass := fun _ => 0, mergeTok := fun t => t, idOf := fun _ => 0, idOfShared := fun _ _ => 0, followText := fun _ => false, idOfImm := fun _ => 0 }
noncomputable def hvals : Array Value := match (K P0).lookup 22 with
  | some ⟨_, _, .seq xs _, _⟩ => xs
  | _ => #[]
theorem tab22 (P : Params) : (K P).lookup 22 = some { cls := .type "list", data := .seq hvals } := by kernel_rfl
theorem hvals_ok : ∀ n : Nat, n < 256 → (match hvals[n]? with | some (.str d _) => d == codeS (n : Int) | _ => false) = true := by decide +kernel
theorem code_len : ∀ n : Nat, n < 256 → (codeS (n : Int)).length ≤ 3 := by decide +kernel
theorem hvals_at (n : Nat) (hn : n < 256) : ∃ tk, hvals[n]? = some (.str (codeS (n : Int)) tk) := by
  have h := hvals_ok n hn
  split at h
  · rename_i d tk e
    exact ⟨tk, by rw [e, beq_iff_eq.mp h]⟩
  · cases h
/-- a row in the header's code -/
noncomputable def codeW (l : List Nat) : Str := ⟨(l.flatMap fun (c : Nat) => (codeS (c : Int)).cps.toList).toArray⟩
noncomputable def natsOf (b : Array UInt8) : List Nat := b.toList.map (·.toNat)
theorem natsOf_lt {b : Array UInt8} : ∀ c ∈ natsOf b, c < 256 := by
  intro c hc
  obtain ⟨x, _, rfl⟩ := List.mem_map.mp hc
  exact x.toNat_lt
theorem codeW_length : ∀ l : List Nat, (∀ c ∈ l, c < 256) → (codeW l).length ≤ 3 * l.length := by
  intro l
  show _ → (List.toArray _).size ≤ _
  rw [List.size_toArray]
  induction l with
  | nil => intro _; simp
  | cons a l ih =>
    intro hh
    have h1 := code_len a (hh a (.head _))
    have h2 := ih fun c hc => hh c (.tail _ hc)
    rw [List.flatMap_cons, List.length_append, List.length_cons]
    have : (codeS (a : Int)).cps.toList.length ≤ 3 := by simpa [Str.length] using h1
    omega
theorem codeW_fits {b : Array UInt8} (hb2 : b.size < 1000) : (codeW (natsOf b)).length ≤ 3000 := by
  have h := codeW_length (natsOf b) natsOf_lt
  have e : (natsOf b).length = b.size := by simp [natsOf]
  omega
theorem head_trans {w : World} {A : Around} {E : Value → Shared → Prop} {s : Shared} {Q : Value → Shared → Prop} {h₀ : Heap} {L : Addr} {m : Str → Option Value} {b : Array UInt8} {t : MTok} (X : (K w.params).In h₀) (F : Fr h₀ L s.heap m) (hb : 0 < b.size) (hb2 : b.size < 1000)
    (h : ∀ t' k, Q (.str (codeW (natsOf b)) t') { s with toks := k }) : wpAny (model PySem.Challenge.pw_ku0005_01 w) A (call (.builtin "str.translate") [.str ⟨(b.toList.map (·.toNat)).toArray⟩ t, .ref 22]) Q E s := by
  have hx : (⟨(b.toList.map (·.toNat)).toArray⟩ : Str).cps.toList = natsOf b := rfl
  have hlen : (⟨(b.toList.map (·.toNat)).toArray⟩ : Str).length = b.size := by
    show (List.toArray _).size = _
    simp
  refine translate_rule (fun (c : Nat) => codeS (c : Int)) (vs := hvals) ⟨_, (X.keeps F.keep) _ _ (tab22 _), rfl, _, rfl⟩ (fun c hc => hvals_at c (natsOf_lt c (hx ▸ hc))) (fun c hc => natsOf_lt c (hx ▸ hc)) (fun c hc => code_len c (natsOf_lt c (hx ▸ hc))) (by rw [hlen]; omega) (by rw [hlen]; omega) ?_
  rw [hx]
  exact h
theorem noRefS {x : Str} {t : MTok} {s : Shared} : ∀ a, Value.str x t = .ref a → ∃ o, s.heap.get? a = some o ∧ o.dict = none := fun _ e => nomatch e
theorem ty_str {x : Str} {t : MTok} {s : Shared} : s.TypeIs (.str x t) "str" := typeIs_str _ _ _
theorem meth_translate {M : Model} {A : Around} {E : Value → Shared → Prop} {s : Shared} {pl : Sem Bool} {x : Str} {t : MTok} {Q : Value × List Value → Shared → Prop} (h : Q (.builtin "str.translate", [.str x t]) s) : wpAny M A (getMethod (.str x t) (Str.ofString "translate") pl) Q E s :=
  getMethod_builtin (T := "str") (id := "str.translate") (name := Str.ofString "translate") (v := .str x t) ty_str F.plainAttrs_str F.slot_str_translate F.type_str_translate noRefS h
/-- a header's word -/
noncomputable def wordS (x : Str) (l : List Nat) : Str := Str.ofString "=?" ++ (x ++ (Str.ofString "?q?" ++ (codeW l ++ Str.ofString "?=")))
theorem header_gives (b : Array UInt8) (hb : 0 < b.size) (hb2 : b.size < 1000) (x : Str) (hx : x.length < 20) (t u : MTok) (news) : GivesV w p loose mean mg mb 1 52 [.bytes b t, .str x u] news (fun t => .str (wordS x (natsOf b)) t) := by
  have hcw := codeW_fits hb2
  intro dp un gd env outer A₀ base h₀ L m s Q E B F X N T hf hk hd hu hret
  refine wpAny_call ?_
  k_dflt cell_enter
  repeat' (first
    | ((with_reducible show wpAny _ _ (PySem.exec _ _) _ _ _); k_fold)
    | ((with_reducible show wpAny _ _ (PySem.execs _ _) _ _ _); k_fold)
    | ((with_reducible show wpAny _ _ (PySem.execs _ _) _ _ _); dsimp only)
    | ((with_reducible show wpAny _ _ (PySem.getMethod (Value.str _ _) _ _) _ _ _); first | with_reducible ((with_reducible refine meth_translate ?_)) | ((with_reducible refine meth_translate ?_)))
    | ((with_reducible show wpAny _ _ (PySem.call (Value.builtin "str.translate") _) _ _ _); first | with_reducible ((refine head_trans (by assumption) (by assumption) (by assumption) (by assumption) ?_); intro _ _) | ((refine head_trans (by assumption) (by assumption) (by assumption) (by assumption) ?_); intro _ _))
    | ((with_reducible show wpAny _ _ (PySem.call (Value.builtin "bytes.decode") _) _ _ _); first | with_reducible ((refine latin_decode (by assumption) (by omega) ?_); intro _ _) | ((refine latin_decode (by assumption) (by omega) ?_); intro _ _))
    | (k_unfold; (try dsimp only)) | (k_end; wrow_close) | walk1 | (dsimp only; walk1) | (leave1; try dsimp only) | fail "no step")
  all_goals first
    | (exfalso; clear hret; omega)
    | exact cb_retS hret (by first | (simp only [wordS, Str.append_assoc]; done) | (simp only [wordS, ← Str.append_assoc]; rfl) | (simp only [wordS, Str.append_assoc]; rfl)) (by k_asm) (by k_asm)
theorem header_gives1 (b : Array UInt8) (hb : 0 < b.size) (hb2 : b.size < 1000) (t : MTok) (news) : GivesV w p loose mean mg mb 1 52 [.bytes b t] news (fun t => .str (wordS (Str.ofString "iso-8859-1") (natsOf b)) t) := by
  have hcw := codeW_fits hb2
  intro dp un gd env outer A₀ base h₀ L m s Q E B F X N T hf hk hd hu hret
  refine wpAny_call ?_
  k_dflt cell_enter
  repeat' (first
    | ((with_reducible show wpAny _ _ (PySem.exec _ _) _ _ _); k_fold)
    | ((with_reducible show wpAny _ _ (PySem.execs _ _) _ _ _); k_fold)
    | ((with_reducible show wpAny _ _ (PySem.execs _ _) _ _ _); dsimp only)
    | ((with_reducible show wpAny _ _ (PySem.getMethod (Value.str _ _) _ _) _ _ _); first | with_reducible ((with_reducible refine meth_translate ?_)) | ((with_reducible refine meth_translate ?_)))
    | ((with_reducible show wpAny _ _ (PySem.call (Value.builtin "str.translate") _) _ _ _); first | with_reducible ((refine head_trans (by assumption) (by assumption) (by assumption) (by assumption) ?_); intro _ _) | ((refine head_trans (by assumption) (by assumption) (by assumption) (by assumption) ?_); intro _ _))
    | ((with_reducible show wpAny _ _ (PySem.call (Value.builtin "bytes.decode") _) _ _ _); first | with_reducible ((refine latin_decode (by assumption) (by omega) ?_); intro _ _) | ((refine latin_decode (by assumption) (by omega) ?_); intro _ _))
    | (k_unfold; (try dsimp only)) | (k_end; wrow_close) | walk1 | (dsimp only; walk1) | (leave1; try dsimp only) | fail "no step")
  all_goals first
    | (exfalso; clear hret; omega)
    | exact cb_retS hret (by first | (simp only [wordS, Str.append_assoc]; done) | (simp only [wordS, ← Str.append_assoc]; rfl) | (simp only [wordS, Str.append_assoc]; rfl)) (by k_asm) (by k_asm)
end
-- part C3
section
open PySem PySem.W PyProof.Rows
set_option maxRecDepth 100000
set_option maxHeartbeats 8000000
variable {w : World} {p : Program} {loose : List Str} {mean : ExcName → Option Value} {mg mb : Str → Option Value}

theorem wordS_parts (x : Str) (l : List Nat) : wordS x l = (Str.ofString "=?" ++ x ++ Str.ofString "?q?") ++ (codeW l ++ Str.ofString "?=") := by
  simp only [wordS, Str.append_assoc]
theorem headS_len (x : Str) : (Str.ofString "=?" ++ x ++ Str.ofString "?q?").length = x.length + 5 := by
  have e1 : (Str.ofString "=?").length = 2 := by decide +kernel
  have e2 : (Str.ofString "?q?").length = 3 := by decide +kernel
  simp only [Str.length_append, e1, e2]
  omega
theorem word_cut1 {x : Str} {l : List Nat} {j : Int} (hj : j = (x.length : Int) + 5) : Txt.slice (wordS x l) none (some j) = Str.ofString "=?" ++ x ++ Str.ofString "?q?" := by
  rw [wordS_parts, show j = ((Str.ofString "=?" ++ x ++ Str.ofString "?q?").length : Int) by rw [headS_len]; omega]
  exact slice_head3 _ _ _
theorem word_len (x : Str) (l : List Nat) : (wordS x l).length = x.length + 5 + ((codeW l).length + 2) := by
  have e3 : (Str.ofString "?=").length = 2 := by decide +kernel
  rw [wordS_parts, Str.length_append, headS_len, Str.length_append, e3]
theorem word_cut2 {x : Str} {l : List Nat} : Txt.slice (wordS x l) (some (-2)) none = Str.ofString "?=" := by
  rw [slice_neg_lo (by decide) (by rw [word_len]; omega), word_len, wordS_parts]
  rw [show (-2 : Int) + ((x.length + 5 + ((codeW l).length + 2) : Nat) : Int) = ((Str.ofString "=?" ++ x ++ Str.ofString "?q?").length : Int) + ((codeW l).length : Int) by rw [headS_len]; omega]
  exact slice_tail3 _ _ _
theorem word_cut3 {x : Str} {l : List Nat} {j : Int} (hj : j = (x.length : Int) + 5) : Txt.slice (wordS x l) (some j) (some (-2)) = codeW l := by
  rw [slice_neg_hi (by decide) (by rw [word_len]; omega), word_len, wordS_parts]
  rw [show (-2 : Int) + ((x.length + 5 + ((codeW l).length + 2) : Nat) : Int) = ((Str.ofString "=?" ++ x ++ Str.ofString "?q?").length : Int) + ((codeW l).length : Int) by rw [headS_len]; omega,
    show j = ((Str.ofString "=?" ++ x ++ Str.ofString "?q?").length : Int) by rw [headS_len]; omega]
  exact slice_mid3 _ _ _
section
variable {prog : Program} {w : World} {A : Around} {E : Value → Shared → Prop} {s : Shared} {Q : Value → Shared → Prop} {x y z : Str} {l : List Nat} {t u : MTok} {j : Int}
theorem cmp_true (e : y = z) (h : Q (.bool true) s) : wpAny (model prog w) A (compareOp .Eq (.str y t) (.str z u)) Q E s := eq_str (by rw [e, beq_self_eq_true]; exact h)
theorem cmp_word1 (hj : j = (x.length : Int) + 5) (h : Q (.bool true) s) : wpAny (model prog w) A (compareOp .Eq (.str (Txt.slice (wordS x l) none (some j)) t) (.str (Str.ofString "=?" ++ x ++ Str.ofString "?q?") u)) Q E s := cmp_true (word_cut1 hj) h
theorem cmp_word2 (h : Q (.bool true) s) : wpAny (model prog w) A (compareOp .Eq (.str (Txt.slice (wordS x l) (some (-2)) none) t) (.str (Str.ofString "?=") u)) Q E s := cmp_true word_cut2 h
end

theorem byteArr_sz (ns : List Int) : (byteArr ns).size = ns.length := by simp [byteArr]
theorem wordS_length (x : Str) (l : List Nat) : (wordS x l).length = x.length + (codeW l).length + 7 := by
  have e1 : (Str.ofString "=?").length = 2 := by decide +kernel
  have e2 : (Str.ofString "?q?").length = 3 := by decide +kernel
  have e3 : (Str.ofString "?=").length = 2 := by decide +kernel
  unfold wordS
  simp only [Str.length_append, e1, e2, e3]
  omega
theorem byteArr_fits {ns : List Int} (h : ns.length < 1000) : (codeW (natsOf (byteArr ns))).length ≤ 3000 := codeW_fits (by rw [byteArr_sz]; exact h)
theorem wordS_fits (x : Str) (hx : x.length < 20) {l : List Nat} (h : (codeW l).length ≤ 3000) : (wordS x l).length ≤ 4000 := by
  rw [wordS_length]; omega
theorem byteArr_nats {ns : List Int} (h : Octets ns) : natsOf (byteArr ns) = ns.map Int.toNat := by
  induction ns with
  | nil => rfl
  | cons n ns ih =>
    have h1 := h n (.head _)
    have h2 := ih fun x hx => h x (.tail _ hx)
    simp only [natsOf, byteArr] at h2 ⊢
    simp only [List.map_cons, List.cons.injEq]
    refine ⟨?_, h2⟩
    have : n.toNat < 256 := by omega
    simp; omega
theorem header_gives1x (b : Array UInt8) (hb : 0 < b.size) (hb2 : b.size < 1000) (x : Str) (he : (x == Str.ofString "iso-8859-1") = true) (t : MTok) (news) : GivesV w p loose mean mg mb 1 52 [.bytes b t] news (fun t => .str (wordS x (natsOf b)) t) := by
  have e : x = Str.ofString "iso-8859-1" := beq_iff_eq.mp he
  subst e
  exact header_gives1 b hb hb2 t news
theorem word_size {x : Str} {ns : List Int} (hx : x.length < 20) (hl : ns.length < 100) : (wordS x (natsOf (byteArr ns))).length ≤ sizeLine := by
  have := wordS_fits x hx (byteArr_fits (ns := ns) (by omega))
  rw [sizeLine_eq]; omega

theorem word_givesA (l : Addr) (vs : List Value) (n : Nat) (ns : List Int) (hi : IntsAre vs ns) (ho : Octets ns) (h0 : 0 < ns.length) (hl : ns.length < 100) (x : Str) (hx : x.length < 20) (hne : (x == Str.ofString "iso-8859-1") = false) (t : MTok) (news) : GivesV w p loose mean mg mb 3 149 [.ref l, .str x t] ((l, listOf vs.toArray n) :: news) (fun t => .str (codeW (ns.map Int.toNat)) t) := by
  intro dp un gd env outer A₀ base h₀ L m s Q E B F X N T hf hk hd hu hret
  refine wpAny_call ?_
  k_dflt cell_enter
  repeat' (first
    | ((with_reducible show wpAny _ _ (PySem.exec _ _) _ _ _); k_fold)
    | ((with_reducible show wpAny _ _ (PySem.execs _ _) _ _ _); k_fold)
    | ((with_reducible show wpAny _ _ (PySem.execs _ _) _ _ _); dsimp only)
    | ((with_reducible show wpAny _ _ (call (Value.ref 52) [Value.bytes _ _]) _ _ _); first | with_reducible (k_dflt (refine' GivesV.use (header_gives1x _ ?kb ?kc _ ?ke _ _) ?k1 ?k2 ?k3 ?k4 ?k5 ?kf ?kK ?kd ?ku ?_; (case ke => assumption); (case kb => (rw [byteArr_sz]; omega)); (case kc => (rw [byteArr_sz]; omega)); (case k1 => k_asm); (case k2 => k_asm); (case k3 => k_asm); (case k4 => k_asm); (case k5 => k_asm); (case kf => first | exact rfl | assumption); (case kK => first | exact rfl | assumption); (case kd => ktr_room); (case ku => ktr_units); k_whole); intro t9 h9 tk9 F9 N9; (try dsimp only); (try k_fold)) | (k_dflt (refine' GivesV.use (header_gives1x _ ?kb ?kc _ ?ke _ _) ?k1 ?k2 ?k3 ?k4 ?k5 ?kf ?kK ?kd ?ku ?_; (case ke => assumption); (case kb => (rw [byteArr_sz]; omega)); (case kc => (rw [byteArr_sz]; omega)); (case k1 => k_asm); (case k2 => k_asm); (case k3 => k_asm); (case k4 => k_asm); (case k5 => k_asm); (case kf => first | exact rfl | assumption); (case kK => first | exact rfl | assumption); (case kd => ktr_room); (case ku => ktr_units); k_whole); intro t9 h9 tk9 F9 N9; (try dsimp only); (try k_fold)))
    | ((with_reducible show wpAny _ _ (call (Value.ref 52) [Value.bytes _ _, Value.str _ _]) _ _ _); first | with_reducible (k_dflt (refine' GivesV.use (header_gives _ ?kb ?kc _ ?kx _ _ _) ?k1 ?k2 ?k3 ?k4 ?k5 ?kf ?kK ?kd ?ku ?_; (case kb => (rw [byteArr_sz]; omega)); (case kc => (rw [byteArr_sz]; omega)); (case kx => first | assumption | omega); (case k1 => k_asm); (case k2 => k_asm); (case k3 => k_asm); (case k4 => k_asm); (case k5 => k_asm); (case kf => first | exact rfl | assumption); (case kK => first | exact rfl | assumption); (case kd => ktr_room); (case ku => ktr_units); k_whole); intro t9 h9 tk9 F9 N9; (try dsimp only); (try k_fold)) | (k_dflt (refine' GivesV.use (header_gives _ ?kb ?kc _ ?kx _ _ _) ?k1 ?k2 ?k3 ?k4 ?k5 ?kf ?kK ?kd ?ku ?_; (case kb => (rw [byteArr_sz]; omega)); (case kc => (rw [byteArr_sz]; omega)); (case kx => first | assumption | omega); (case k1 => k_asm); (case k2 => k_asm); (case k3 => k_asm); (case k4 => k_asm); (case k5 => k_asm); (case kf => first | exact rfl | assumption); (case kK => first | exact rfl | assumption); (case kd => ktr_room); (case ku => ktr_units); k_whole); intro t9 h9 tk9 F9 N9; (try dsimp only); (try k_fold)))
    | ((with_reducible show wpAny _ _ (PySem.compareOp .Eq (Value.str _ _) (Value.str _ _)) _ _ _); with_reducible (first | (refine cmp_word1 (by first | rfl | omega) ?_) | (refine cmp_word2 ?_)))
    | ((with_reducible show wpAny _ _ (subscriptTail _ (Expr.Slice (some _) (some _) none _) (Value.str (wordS _ _) _) _) _ _ _); first | with_reducible ((with_reducible rename Fr _ _ _ _ => F'); (with_reducible rename News _ _ _ _ => N'); (refine slice_strN_ss (hsz := ?hsz) (s := ⟨_, _, _, _, _⟩) F' N' ?_); (case hsz => exact word_size (by assumption) (by assumption)); intro _ _ _ _ _) | ((with_reducible rename Fr _ _ _ _ => F'); (with_reducible rename News _ _ _ _ => N'); (refine slice_strN_ss (hsz := ?hsz) (s := ⟨_, _, _, _, _⟩) F' N' ?_); (case hsz => exact word_size (by assumption) (by assumption)); intro _ _ _ _ _))
    | ((with_reducible show wpAny _ _ (subscriptTail _ (Expr.Slice (some _) none none _) (Value.str (wordS _ _) _) _) _ _ _); first | with_reducible ((with_reducible rename Fr _ _ _ _ => F'); (with_reducible rename News _ _ _ _ => N'); (refine slice_strN_sn (hsz := ?hsz) (s := ⟨_, _, _, _, _⟩) F' N' ?_); (case hsz => exact word_size (by assumption) (by assumption)); intro _ _ _ _ _) | ((with_reducible rename Fr _ _ _ _ => F'); (with_reducible rename News _ _ _ _ => N'); (refine slice_strN_sn (hsz := ?hsz) (s := ⟨_, _, _, _, _⟩) F' N' ?_); (case hsz => exact word_size (by assumption) (by assumption)); intro _ _ _ _ _))
    | ((with_reducible show wpAny _ _ (subscriptTail _ (Expr.Slice none (some _) none _) (Value.str (wordS _ _) _) _) _ _ _); first | with_reducible ((with_reducible rename Fr _ _ _ _ => F'); (with_reducible rename News _ _ _ _ => N'); (refine slice_strN_ns (hsz := ?hsz) (s := ⟨_, _, _, _, _⟩) F' N' ?_); (case hsz => exact word_size (by assumption) (by assumption)); intro _ _ _ _ _) | ((with_reducible rename Fr _ _ _ _ => F'); (with_reducible rename News _ _ _ _ => N'); (refine slice_strN_ns (hsz := ?hsz) (s := ⟨_, _, _, _, _⟩) F' N' ?_); (case hsz => exact word_size (by assumption) (by assumption)); intro _ _ _ _ _))
    | ((with_reducible show wpAny _ _ (PySem.execs (List.cons (PySem.Stmt.Return _ _) List.nil) _) _ _ _); first | with_reducible ((with_reducible refine wpAny_execs_cons ?_); try dsimp only) | ((with_reducible refine wpAny_execs_cons ?_); try dsimp only))
    | (k_unfold; (try dsimp only)) | (k_end; wrow_close) | walk1 | (dsimp only; walk1) | (leave1; try dsimp only) | fail "no step")
  all_goals (refine' cb_retS hret ?e1 ?e2 ?e3; (case e2 => k_asm); (case e3 => k_asm); (case e1 => (rw [word_cut3 (by first | rfl | omega), byteArr_nats ho])))
theorem word_givesB (l : Addr) (vs : List Value) (n : Nat) (ns : List Int) (hi : IntsAre vs ns) (ho : Octets ns) (h0 : 0 < ns.length) (hl : ns.length < 100) (x : Str) (hx : x.length < 20) (he : (x == Str.ofString "iso-8859-1") = true) (t : MTok) (news) : GivesV w p loose mean mg mb 3 149 [.ref l, .str x t] ((l, listOf vs.toArray n) :: news) (fun t => .str (codeW (ns.map Int.toNat)) t) := by
  intro dp un gd env outer A₀ base h₀ L m s Q E B F X N T hf hk hd hu hret
  refine wpAny_call ?_
  k_dflt cell_enter
  repeat' (first
    | ((with_reducible show wpAny _ _ (PySem.exec _ _) _ _ _); k_fold)
    | ((with_reducible show wpAny _ _ (PySem.execs _ _) _ _ _); k_fold)
    | ((with_reducible show wpAny _ _ (PySem.execs _ _) _ _ _); dsimp only)
    | ((with_reducible show wpAny _ _ (call (Value.ref 52) [Value.bytes _ _]) _ _ _); first | with_reducible (k_dflt (refine' GivesV.use (header_gives1x _ ?kb ?kc _ ?ke _ _) ?k1 ?k2 ?k3 ?k4 ?k5 ?kf ?kK ?kd ?ku ?_; (case ke => assumption); (case kb => (rw [byteArr_sz]; omega)); (case kc => (rw [byteArr_sz]; omega)); (case k1 => k_asm); (case k2 => k_asm); (case k3 => k_asm); (case k4 => k_asm); (case k5 => k_asm); (case kf => first | exact rfl | assumption); (case kK => first | exact rfl | assumption); (case kd => ktr_room); (case ku => ktr_units); k_whole); intro t9 h9 tk9 F9 N9; (try dsimp only); (try k_fold)) | (k_dflt (refine' GivesV.use (header_gives1x _ ?kb ?kc _ ?ke _ _) ?k1 ?k2 ?k3 ?k4 ?k5 ?kf ?kK ?kd ?ku ?_; (case ke => assumption); (case kb => (rw [byteArr_sz]; omega)); (case kc => (rw [byteArr_sz]; omega)); (case k1 => k_asm); (case k2 => k_asm); (case k3 => k_asm); (case k4 => k_asm); (case k5 => k_asm); (case kf => first | exact rfl | assumption); (case kK => first | exact rfl | assumption); (case kd => ktr_room); (case ku => ktr_units); k_whole); intro t9 h9 tk9 F9 N9; (try dsimp only); (try k_fold)))
    | ((with_reducible show wpAny _ _ (call (Value.ref 52) [Value.bytes _ _, Value.str _ _]) _ _ _); first | with_reducible (k_dflt (refine' GivesV.use (header_gives _ ?kb ?kc _ ?kx _ _ _) ?k1 ?k2 ?k3 ?k4 ?k5 ?kf ?kK ?kd ?ku ?_; (case kb => (rw [byteArr_sz]; omega)); (case kc => (rw [byteArr_sz]; omega)); (case kx => first | assumption | omega); (case k1 => k_asm); (case k2 => k_asm); (case k3 => k_asm); (case k4 => k_asm); (case k5 => k_asm); (case kf => first | exact rfl | assumption); (case kK => first | exact rfl | assumption); (case kd => ktr_room); (case ku => ktr_units); k_whole); intro t9 h9 tk9 F9 N9; (try dsimp only); (try k_fold)) | (k_dflt (refine' GivesV.use (header_gives _ ?kb ?kc _ ?kx _ _ _) ?k1 ?k2 ?k3 ?k4 ?k5 ?kf ?kK ?kd ?ku ?_; (case kb => (rw [byteArr_sz]; omega)); (case kc => (rw [byteArr_sz]; omega)); (case kx => first | assumption | omega); (case k1 => k_asm); (case k2 => k_asm); (case k3 => k_asm); (case k4 => k_asm); (case k5 => k_asm); (case kf => first | exact rfl | assumption); (case kK => first | exact rfl | assumption); (case kd => ktr_room); (case ku => ktr_units); k_whole); intro t9 h9 tk9 F9 N9; (try dsimp only); (try k_fold)))
    | ((with_reducible show wpAny _ _ (PySem.compareOp .Eq (Value.str _ _) (Value.str _ _)) _ _ _); with_reducible (first | (refine cmp_word1 (by first | rfl | omega) ?_) | (refine cmp_word2 ?_)))
    | ((with_reducible show wpAny _ _ (subscriptTail _ (Expr.Slice (some _) (some _) none _) (Value.str (wordS _ _) _) _) _ _ _); first | with_reducible ((with_reducible rename Fr _ _ _ _ => F'); (with_reducible rename News _ _ _ _ => N'); (refine slice_strN_ss (hsz := ?hsz) (s := ⟨_, _, _, _, _⟩) F' N' ?_); (case hsz => exact word_size (by assumption) (by assumption)); intro _ _ _ _ _) | ((with_reducible rename Fr _ _ _ _ => F'); (with_reducible rename News _ _ _ _ => N'); (refine slice_strN_ss (hsz := ?hsz) (s := ⟨_, _, _, _, _⟩) F' N' ?_); (case hsz => exact word_size (by assumption) (by assumption)); intro _ _ _ _ _))
    | ((with_reducible show wpAny _ _ (subscriptTail _ (Expr.Slice (some _) none none _) (Value.str (wordS _ _) _) _) _ _ _); first | with_reducible ((with_reducible rename Fr _ _ _ _ => F'); (with_reducible rename News _ _ _ _ => N'); (refine slice_strN_sn (hsz := ?hsz) (s := ⟨_, _, _, _, _⟩) F' N' ?_); (case hsz => exact word_size (by assumption) (by assumption)); intro _ _ _ _ _) | ((with_reducible rename Fr _ _ _ _ => F'); (with_reducible rename News _ _ _ _ => N'); (refine slice_strN_sn (hsz := ?hsz) (s := ⟨_, _, _, _, _⟩) F' N' ?_); (case hsz => exact word_size (by assumption) (by assumption)); intro _ _ _ _ _))
    | ((with_reducible show wpAny _ _ (subscriptTail _ (Expr.Slice none (some _) none _) (Value.str (wordS _ _) _) _) _ _ _); first | with_reducible ((with_reducible rename Fr _ _ _ _ => F'); (with_reducible rename News _ _ _ _ => N'); (refine slice_strN_ns (hsz := ?hsz) (s := ⟨_, _, _, _, _⟩) F' N' ?_); (case hsz => exact word_size (by assumption) (by assumption)); intro _ _ _ _ _) | ((with_reducible rename Fr _ _ _ _ => F'); (with_reducible rename News _ _ _ _ => N'); (refine slice_strN_ns (hsz := ?hsz) (s := ⟨_, _, _, _, _⟩) F' N' ?_); (case hsz => exact word_size (by assumption) (by assumption)); intro _ _ _ _ _))
    | ((with_reducible show wpAny _ _ (PySem.execs (List.cons (PySem.Stmt.Return _ _) List.nil) _) _ _ _); first | with_reducible ((with_reducible refine wpAny_execs_cons ?_); try dsimp only) | ((with_reducible refine wpAny_execs_cons ?_); try dsimp only))
    | (k_unfold; (try dsimp only)) | (k_end; wrow_close) | walk1 | (dsimp only; walk1) | (leave1; try dsimp only) | fail "no step")
  all_goals (refine' cb_retS hret ?e1 ?e2 ?e3; (case e2 => k_asm); (case e3 => k_asm); (case e1 => (rw [word_cut3 (by first | rfl | omega), byteArr_nats ho])))
theorem word_gives (l : Addr) (vs : List Value) (n : Nat) (ns : List Int) (hi : IntsAre vs ns) (ho : Octets ns) (h0 : 0 < ns.length) (hl : ns.length < 100) (x : Str) (hx : x.length < 20) (t : MTok) (news) : GivesV w p loose mean mg mb 3 149 [.ref l, .str x t] ((l, listOf vs.toArray n) :: news) (fun t => .str (codeW (ns.map Int.toNat)) t) := by
  cases h : (x == Str.ofString "iso-8859-1") with
  | false => exact word_givesA l vs n ns hi ho h0 hl x hx h t news
  | true => exact word_givesB l vs n ns hi ho h0 hl x hx h t news
end
-- part R7
section
open PySem PySem.W PyProof.Rows PySem.Calls PySem.Builtin
set_option maxRecDepth 100000

theorem kind_hasattr : builtinKind "hasattr" = none := by decide +kernel
theorem plain_hasattr : plainId "hasattr" = true := by decide +kernel
theorem entry_hasattr : entryFor table "hasattr" = some Builtin.«hasattr» := entryFor_of_tree (by kernel_rfl)
theorem args_hasattr_2 (a b : Value) : argsOk "hasattr" ⟨[a, b], []⟩ := by unfold argsOk; kernel_rfl
noncomputable def contOf {α : Type} : Sem α → Result → Sem α
  | .call _ _ _ _ k => k
  | _ => fun _ => .unsupported ""
noncomputable def liveOf {α : Type} : Sem α → List Value
  | .call _ _ _ l _ => l
  | _ => []
noncomputable def liveG {α : Type} : Sem α → Bool
  | .call _ _ g _ _ => g
  | _ => false
noncomputable def allocK {α : Type} : Sem α → Addr → Sem α
  | .alloc _ k => k
  | _ => fun _ => .unsupported ""
noncomputable def ruleK {α : Type} : Sem α → Sem α
  | .rule _ k => k ()
  | _ => .unsupported ""
noncomputable def ruleS {α : Type} : Sem α → String
  | .rule x _ => x
  | _ => ""
noncomputable def loadK {α : Type} : Sem α → Obj → Sem α
  | .load _ _ k => k
  | _ => fun _ => .unsupported ""
noncomputable def loadQ {α : Type} : Sem α → Option Value
  | .load _ q _ => q
  | _ => none
noncomputable abbrev mwOf (id : String) (v : Value) : Obj := { cls := .type "method-wrapper", data := .fields #[.builtin id, v] }
theorem x_allocR {α : Type} {prog : Program} {w : World} {A : Around} {E : Value → Shared → Prop} {s : Shared} {Q : α → Shared → Prop} {o : Obj} {k : Addr → Sem α} (h : wpAny (model prog w) A (k s.heap.objs.size) Q E { s with heap := s.heap.push o }) :
    wpAny (model prog w) A (.alloc o k) Q E s := wpAny_bind (m := alloc o) (f := k) (wpAny_alloc h)

theorem lk_wrapper_descriptor_get : typeLookup (.type "wrapper_descriptor") "__get__" = pure (some (.builtin "wrapper_descriptor.__get__")) := by rw [typeLookup_type, builtinLookup_eq_fast]; kernel_rfl
theorem slot_wrapper_descriptor_get : Slot "wrapper_descriptor" "__get__" "wrapper_descriptor.__get__" :=
  .of (owner := "wrapper_descriptor") (n := "__get__") lk_wrapper_descriptor_get (by decide +kernel) (by decide +kernel) (by decide +kernel)
    (by first | exact .inl (by decide +kernel) | exact .inr (by decide +kernel)) (by rw [isSubtype_type]; kernel_rfl)
theorem entry_wrapper_descriptor_get : entryFor table "wrapper_descriptor.__get__" = some Builtin.«wrapper_descriptor.__get__» := entryFor_of_tree (by kernel_rfl)
theorem args_wrapper_descriptor_get (a b c : Value) : argsOk "wrapper_descriptor.__get__" ⟨[a, b, c], []⟩ := by unfold argsOk; kernel_rfl

theorem own_str : (".".intercalate ("str.__getitem__".cutAt '.').dropLast) = "str" := by decide +kernel
theorem ty_str_gi : typeOf (.builtin "str.__getitem__") = pure (.type "wrapper_descriptor") := by show builtinType _ = _; rw [builtinType_eq_fast]; kernel_rfl
section
variable {prog : Program} {w : World} {A : Around} {E : Value → Shared → Prop} {s : Shared} {x : Str} {u : Tok} {tk : Tok}
noncomputable abbrev gT_str (x : Str) (u : Tok) : Sem PySem.Fin := Builtin.«wrapper_descriptor.__get__» ⟨[.builtin "str.__getitem__", (.str x u), .type "str"], []⟩
noncomputable abbrev aT_str (x : Str) (u : Tok) (tk : Tok) : Sem PySem.Fin := Builtin.«object.__getattribute__» ⟨[(.str x u), .str "__getitem__" tk], []⟩
noncomputable abbrev hT_str (x : Str) (u : Tok) (tk : Tok) : Sem PySem.Fin := Builtin.«hasattr» ⟨[(.str x u), .str "__getitem__" tk], []⟩

theorem gT_eq_str : gT_str x u = .alloc (mwOf "str.__getitem__" (.str x u)) (allocK (gT_str x u)) := by kernel_rfl!
theorem gT_end_str (n : Nat) : allocK (gT_str x u) n = .pure (.done (.ret (.ref n))) := by kernel_rfl!
theorem aT_eq_str : ruleK (aT_str x u tk) = .call (.call (.builtin "wrapper_descriptor.__get__") ⟨[.builtin "str.__getitem__", (.str x u), .type "str"], []⟩) none (liveG (ruleK (aT_str x u tk))) (liveOf (ruleK (aT_str x u tk))) (contOf (ruleK (aT_str x u tk))) := by kernel_rfl!
theorem aT_rule_str : aT_str x u tk = .rule (ruleS (aT_str x u tk)) (fun _ => ruleK (aT_str x u tk)) := by kernel_rfl!
theorem aT_end_str (n : Nat) : contOf (ruleK (aT_str x u tk)) (.ok (.ret (.ref n))) = .pure (.done (.ret (.ref n))) := by kernel_rfl!
theorem hT_eq_str : hT_str x u tk = .call (.call (.builtin "object.__getattribute__") ⟨[(.str x u), .str "__getitem__" tk], []⟩) none (liveG (hT_str x u tk)) (liveOf (hT_str x u tk)) (contOf (hT_str x u tk)) := by kernel_rfl!
theorem hT_end_str (n : Nat) : contOf (hT_str x u tk) (.ok (.ret (.ref n))) = .pure (.done (.ret (.bool true))) := by kernel_rfl!

theorem gi_get_str  {R : Result → Shared → Prop} (hq : R (.ok (.ret (.ref s.heap.objs.size))) { s with heap := s.heap.push (mwOf "str.__getitem__" (.str x u)) }) :
    codeAny (model prog w) A (.call (.builtin "wrapper_descriptor.__get__") ⟨[.builtin "str.__getitem__", (.str x u), .type "str"], []⟩) R s := by
  have hT5 : s.TypeIs (.builtin "str.__getitem__") "wrapper_descriptor" := ty_str_gi
  refine codeAny_call_builtin slot_wrapper_descriptor_get.plain entry_wrapper_descriptor_get (slot_wrapper_descriptor_get.check _ _ _ _ _ _ _ _ hT5 (args_wrapper_descriptor_get _ _ _) ?_)
  show wpAny (model prog w) _ (gT_str x u) _ _ _
  rw [gT_eq_str]
  refine x_allocR ?_
  rw [gT_end_str]
  exact X.x_pure hq
theorem gi_call_str  {R : Result → Shared → Prop} (hq : R (.ok (.ret (.ref s.heap.objs.size))) { s with heap := s.heap.push (mwOf "str.__getitem__" (.str x u)) }) :
    codeAny (model prog w) A (.call (.builtin "object.__getattribute__") ⟨[(.str x u), .str "__getitem__" tk], []⟩) R s := by
  have hT : s.TypeIs (.str x u) "str" := rfl
  refine codeAny_call_builtin F.slot_str_getattribute.plain F.entry_object_getattribute (F.slot_str_getattribute.check _ _ _ _ _ _ _ _ hT (F.args_object_getattribute_2 _ _) ?_)
  show wpAny (model prog w) _ (aT_str x u tk) _ _ _
  rw [aT_rule_str]
  refine X.x_rule ?_
  rw [aT_eq_str]
  refine X.x_call (gi_get_str  ?_) (by simp)
  rw [aT_end_str]
  exact X.x_pure hq
theorem hasattr_str  {Q : Value → Shared → Prop} (hq : Q (.bool true) { s with heap := s.heap.push (mwOf "str.__getitem__" (.str x u)) }) :
    wpAny (model prog w) A (call (.builtin "hasattr") [(.str x u), .str "__getitem__" tk]) Q E s := by
  refine Calls.call_function_entry kind_hasattr plain_hasattr entry_hasattr (args_hasattr_2 _ _) ?_
  show wpAny (model prog w) _ (hT_str x u tk) _ _ _
  rw [hT_eq_str]
  refine X.x_call (gi_call_str  ?_) (by simp)
  rw [hT_end_str]
  exact X.x_pure ⟨_, rfl, hq⟩
end
noncomputable abbrev biOf (id : String) (v : Value) : Obj := { cls := .type "builtin_function_or_method", data := .fields #[.builtin id, v] }

theorem lk_method_descriptor_get : typeLookup (.type "method_descriptor") "__get__" = pure (some (.builtin "method_descriptor.__get__")) := by rw [typeLookup_type, builtinLookup_eq_fast]; kernel_rfl
theorem slot_method_descriptor_get : Slot "method_descriptor" "__get__" "method_descriptor.__get__" :=
  .of (owner := "method_descriptor") (n := "__get__") lk_method_descriptor_get (by decide +kernel) (by decide +kernel) (by decide +kernel)
    (by first | exact .inl (by decide +kernel) | exact .inr (by decide +kernel)) (by rw [isSubtype_type]; kernel_rfl)
theorem entry_method_descriptor_get : entryFor table "method_descriptor.__get__" = some Builtin.«method_descriptor.__get__» := entryFor_of_tree (by kernel_rfl)
theorem args_method_descriptor_get (a b c : Value) : argsOk "method_descriptor.__get__" ⟨[a, b, c], []⟩ := by unfold argsOk; kernel_rfl

theorem own_list : (".".intercalate ("list.__getitem__".cutAt '.').dropLast) = "list" := by decide +kernel
theorem ty_list_gi : typeOf (.builtin "list.__getitem__") = pure (.type "method_descriptor") := by show builtinType _ = _; rw [builtinType_eq_fast]; kernel_rfl
section
variable {prog : Program} {w : World} {A : Around} {E : Value → Shared → Prop} {s : Shared} {a : Addr} {xs : Array Value} {n : Nat} {tk : Tok}
noncomputable abbrev gT_list (a : Addr) : Sem PySem.Fin := Builtin.«method_descriptor.__get__» ⟨[.builtin "list.__getitem__", (.ref a), .type "list"], []⟩
noncomputable abbrev aT_list (a : Addr) (tk : Tok) : Sem PySem.Fin := Builtin.«object.__getattribute__» ⟨[(.ref a), .str "__getitem__" tk], []⟩
noncomputable abbrev hT_list (a : Addr) (tk : Tok) : Sem PySem.Fin := Builtin.«hasattr» ⟨[(.ref a), .str "__getitem__" tk], []⟩

noncomputable abbrev lO (vs : Array Value) (n : Nat) : Obj := { cls := .type "list", data := .seq vs n }
theorem gT_eq_list : loadK (gT_list a) (lO xs n) = .alloc (biOf "list.__getitem__" (.ref a)) (allocK (loadK (gT_list a) (lO xs n))) := by kernel_rfl!
theorem gT_ld_list : gT_list a = .load a (loadQ (gT_list a)) (loadK (gT_list a)) := by kernel_rfl!
theorem gT_end_list (m : Nat) : allocK (loadK (gT_list a) (lO xs n)) m = .pure (.done (.ret (.ref m))) := by kernel_rfl!
noncomputable abbrev aT1 (a : Addr) (xs : Array Value) (n : Nat) (tk : Tok) := loadK (aT_list a tk) (lO xs n)
noncomputable abbrev aT2 (a : Addr) (xs : Array Value) (n : Nat) (tk : Tok) := loadK (aT1 a xs n tk) (lO xs n)
noncomputable abbrev aT3 (a : Addr) (xs : Array Value) (n : Nat) (tk : Tok) := ruleK (loadK (aT2 a xs n tk) (lO xs n))
theorem aT_0 : aT_list a tk = .load a (loadQ (aT_list a tk)) (loadK (aT_list a tk)) := by kernel_rfl!
theorem aT_1 : aT1 a xs n tk = .load a (loadQ (aT1 a xs n tk)) (loadK (aT1 a xs n tk)) := by kernel_rfl!
theorem aT_2 : aT2 a xs n tk = .load a (loadQ (aT2 a xs n tk)) (loadK (aT2 a xs n tk)) := by kernel_rfl!
theorem aT_3 : loadK (aT2 a xs n tk) (lO xs n) = .rule (ruleS (loadK (aT2 a xs n tk) (lO xs n))) (fun _ => aT3 a xs n tk) := by kernel_rfl!
theorem aT_eq_list : aT3 a xs n tk = .call (.call (.builtin "method_descriptor.__get__") ⟨[.builtin "list.__getitem__", (.ref a), .type "list"], []⟩) none (liveG (aT3 a xs n tk)) (liveOf (aT3 a xs n tk)) (contOf (aT3 a xs n tk)) := by kernel_rfl!
theorem aT_end_list (m : Nat) : contOf (aT3 a xs n tk) (.ok (.ret (.ref m))) = .pure (.done (.ret (.ref m))) := by kernel_rfl!
noncomputable abbrev hT1 (a : Addr) (xs : Array Value) (n : Nat) (tk : Tok) := loadK (hT_list a tk) (lO xs n)
noncomputable abbrev hT2 (a : Addr) (xs : Array Value) (n : Nat) (tk : Tok) := loadK (hT1 a xs n tk) (lO xs n)
noncomputable abbrev hT3 (a : Addr) (xs : Array Value) (n : Nat) (tk : Tok) := loadK (hT2 a xs n tk) (lO xs n)
theorem hT_0 : hT_list a tk = .load a (loadQ (hT_list a tk)) (loadK (hT_list a tk)) := by kernel_rfl!
theorem hT_1 : hT1 a xs n tk = .load a (loadQ (hT1 a xs n tk)) (loadK (hT1 a xs n tk)) := by kernel_rfl!
theorem hT_2 : hT2 a xs n tk = .load a (loadQ (hT2 a xs n tk)) (loadK (hT2 a xs n tk)) := by kernel_rfl!
theorem hT_eq_list : hT3 a xs n tk = .call (.call (.builtin "list.__getattribute__") ⟨[(.ref a), .str "__getitem__" tk], []⟩) none (liveG (hT3 a xs n tk)) (liveOf (hT3 a xs n tk)) (contOf (hT3 a xs n tk)) := by kernel_rfl!
theorem hT_end_list (m : Nat) : contOf (hT3 a xs n tk) (.ok (.ret (.ref m))) = .pure (.done (.ret (.bool true))) := by kernel_rfl!

theorem gi_get_list (hx : s.heap.get? a = some (lO xs n)) {R : Result → Shared → Prop} (hq : R (.ok (.ret (.ref s.heap.objs.size))) { s with heap := s.heap.push (biOf "list.__getitem__" (.ref a)) }) :
    codeAny (model prog w) A (.call (.builtin "method_descriptor.__get__") ⟨[.builtin "list.__getitem__", (.ref a), .type "list"], []⟩) R s := by
  have hT5 : s.TypeIs (.builtin "list.__getitem__") "method_descriptor" := ty_list_gi
  refine codeAny_call_builtin slot_method_descriptor_get.plain entry_method_descriptor_get (slot_method_descriptor_get.check _ _ _ _ _ _ _ _ hT5 (args_method_descriptor_get _ _ _) ?_)
  show wpAny (model prog w) _ (gT_list a) _ _ _
  rw [gT_ld_list]
  refine X.x_load hx ?_
  rw [gT_eq_list (xs := xs) (n := n)]
  refine x_allocR ?_
  rw [gT_end_list]
  exact X.x_pure hq
theorem gi_call_list (hx : s.heap.get? a = some (lO xs n)) {R : Result → Shared → Prop} (hq : R (.ok (.ret (.ref s.heap.objs.size))) { s with heap := s.heap.push (biOf "list.__getitem__" (.ref a)) }) :
    codeAny (model prog w) A (.call (.builtin "list.__getattribute__") ⟨[(.ref a), .str "__getitem__" tk], []⟩) R s := by
  have hT : s.TypeIs (.ref a) "list" := ⟨_, hx, rfl⟩
  refine codeAny_call_builtin F.slot_list_getattribute.plain F.entry_list_ga (F.slot_list_getattribute.check _ _ _ _ _ _ _ _ hT (F.args_list_getattribute_2 _ _) ?_)
  show wpAny (model prog w) _ (aT_list a tk) _ _ _
  rw [aT_0]; refine X.x_load hx ?_
  show wpAny (model prog w) _ (aT1 a xs n tk) _ _ _
  rw [aT_1]; refine X.x_load hx ?_
  show wpAny (model prog w) _ (aT2 a xs n tk) _ _ _
  rw [aT_2]; refine X.x_load hx ?_
  rw [aT_3]
  refine X.x_rule ?_
  rw [aT_eq_list]
  refine X.x_call (gi_get_list hx ?_) (by simp)
  rw [aT_end_list]
  exact X.x_pure hq
theorem hasattr_list (hx : s.heap.get? a = some (lO xs n)) {Q : Value → Shared → Prop} (hq : Q (.bool true) { s with heap := s.heap.push (biOf "list.__getitem__" (.ref a)) }) :
    wpAny (model prog w) A (call (.builtin "hasattr") [(.ref a), .str "__getitem__" tk]) Q E s := by
  refine Calls.call_function_entry kind_hasattr plain_hasattr entry_hasattr (args_hasattr_2 _ _) ?_
  show wpAny (model prog w) _ (hT_list a tk) _ _ _
  rw [hT_0]; refine X.x_load hx ?_
  show wpAny (model prog w) _ (hT1 a xs n tk) _ _ _
  rw [hT_1]; refine X.x_load hx ?_
  show wpAny (model prog w) _ (hT2 a xs n tk) _ _ _
  rw [hT_2]; refine X.x_load hx ?_
  show wpAny (model prog w) _ (hT3 a xs n tk) _ _ _
  rw [hT_eq_list]
  refine X.x_call (gi_call_list hx ?_) (by simp)
  rw [hT_end_list]
  exact X.x_pure ⟨_, rfl, hq⟩
end
end
-- part R8
section
open PySem PySem.W PyProof.Rows PySem.Calls
set_option maxRecDepth 100000
section
variable {prog : Program} {w : World} {A : Around} {E : Value → Shared → Prop} {s : Shared} {Q : Value → Shared → Prop} {h₀ : Heap} {L : Addr} {m : Str → Option Value} {news : List (Addr × Obj)}
theorem hasattr_str_k {x : Str} {u tk : Tok} (F : Fr h₀ L s.heap m) (N : News h₀ L s.heap news) (hq : ∀ h', Fr h₀ L h' m → News h₀ L h' news → Q (.bool true) { s with heap := h' }) :
    wpAny (model prog w) A (call (.builtin "hasattr") [.str x u, .str (Str.ofString "__getitem__") tk]) Q E s :=
  hasattr_str (hq _ (F.push _) fun p hp => News.push F N (mwOf "str.__getitem__" (.str x u)) rfl p (.tail _ hp))
theorem hasattr_list_k {a : Addr} {xs : Array Value} {n : Nat} {tk : Tok} (hx : s.heap.get? a = some (lO xs n)) (F : Fr h₀ L s.heap m) (N : News h₀ L s.heap news) (hq : ∀ h', Fr h₀ L h' m → News h₀ L h' news → Q (.bool true) { s with heap := h' }) :
    wpAny (model prog w) A (call (.builtin "hasattr") [.ref a, .str (Str.ofString "__getitem__") tk]) Q E s :=
  hasattr_list hx (hq _ (F.push _) fun p hp => News.push F N (biOf "list.__getitem__" (.ref a)) rfl p (.tail _ hp))
end
end
-- part C4
section
open PySem PySem.W PyProof.Rows
set_option maxRecDepth 100000
set_option maxHeartbeats 8000000
variable {w : World} {p : Program} {loose : List Str} {mean : ExcName → Option Value} {mg mb : Str → Option Value}

noncomputable def escAll (ns : List Int) : Str := ⟨(ns.flatMap fun i => (escS i).cps.toList).toArray⟩
theorem escAll_nil : escAll [] = Str.ofString "" := by decide +kernel
theorem escAll_snoc (ns : List Int) (i : Int) : escAll (ns ++ [i]) = escAll ns ++ escS i := by
  apply Str.ext'
  simp [escAll, Str.cps_append]
theorem escAll_length (ns : List Int) : (escAll ns).length = 3 * ns.length := by
  show (List.toArray _).size = _
  rw [List.size_toArray]
  induction ns with
  | nil => rfl
  | cons a l ih => rw [List.flatMap_cons, List.length_append, ih, List.length_cons]; simp [escS]; omega
theorem add_esc {prog : Program} {w : World} {A : Around} {E : Value → Shared → Prop} {s : Shared} {Q : Value → Shared → Prop} {x : Str} {pre post ns : List Int} {k : Int} {t u : MTok} (h : x = escAll pre) (hl : ns.length < 100) (he : ns = pre ++ k :: post)
    (hq : ∀ t' tk, Q (.str (escAll (pre ++ [k])) t') { s with toks := tk }) : wpAny (model prog w) A (binaryOp .Add (.str x t) (.str (escS k) u)) Q E s := by
  subst h
  rw [escAll_snoc] at hq
  refine add_str hq ?_
  have e : (escS k).length = 3 := rfl
  have hl' : pre.length < 100 := by rw [he, List.length_append] at hl; omega
  rw [escAll_length, e]
  size_fits

theorem quoted_gives (l : Addr) (vs : List Value) (n : Nat) (ns : List Int) (hi : IntsAre vs ns) (ho : Octets ns) (h0 : 0 < ns.length) (hl : ns.length < 100) (x : Str) (t : MTok) (news) : GivesV w p loose mean mg mb 3 156 [.ref l, .str x t] ((l, listOf vs.toArray n) :: news) (fun t => .str (escAll ns) t) := by
  k_with "pyIter ref" => k_state (fun pre out => out = escAll pre) "out"
  k_with "state" => (first | exact escAll_nil.symm | rfl)
  intro dp un gd env outer A₀ base h₀ L m s Q E B F X N T hf hk hd hu hret
  refine wpAny_call ?_
  k_dflt cell_enter
  repeat' (first
    | ((with_reducible show wpAny _ _ (PySem.exec _ _) _ _ _); k_fold)
    | ((with_reducible show wpAny _ _ (PySem.execs _ _) _ _ _); k_fold)
    | ((with_reducible show wpAny _ _ (PySem.execs _ _) _ _ _); dsimp only)
    | ((with_reducible show wpAny _ _ (PySem.binaryOp .Add (Value.str _ _) (Value.str _ _)) _ _ _); first | with_reducible ((refine add_esc (by assumption) (by assumption) (by assumption) ?_); intro _ _) | ((refine add_esc (by assumption) (by assumption) (by assumption) ?_); intro _ _))
    | ((with_reducible show wpAny _ _ (PySem.call (Value.builtin "hasattr") _) _ _ _); first | with_reducible ((refine' hasattr_str_k ?k1 ?k2 ?_; (case k1 => k_asm); (case k2 => k_asm); k_whole); intro h9 F9 N9; (try dsimp only)) | ((refine' hasattr_str_k ?k1 ?k2 ?_; (case k1 => k_asm); (case k2 => k_asm); k_whole); intro h9 F9 N9; (try dsimp only)))
    | ((with_reducible show wpAny _ _ (call (Value.ref 44) _) _ _ _); first | with_reducible (k_dflt (refine' GivesV.use (quote_gives _ ?ko _ _) ?k1 ?k2 ?k3 ?k4 ?k5 ?kf ?kK ?kd ?ku ?_; (case ko => ktr_rel); (case k1 => k_asm); (case k2 => k_asm); (case k3 => k_asm); (case k4 => k_asm); (case k5 => k_asm); (case kf => first | exact rfl | assumption); (case kK => first | exact rfl | assumption); (case kd => ktr_room); (case ku => ktr_units); k_whole); intro t9 h9 tk9 F9 N9; (try dsimp only); (try k_fold)) | (k_dflt (refine' GivesV.use (quote_gives _ ?ko _ _) ?k1 ?k2 ?k3 ?k4 ?k5 ?kf ?kK ?kd ?ku ?_; (case ko => ktr_rel); (case k1 => k_asm); (case k2 => k_asm); (case k3 => k_asm); (case k4 => k_asm); (case k5 => k_asm); (case kf => first | exact rfl | assumption); (case kK => first | exact rfl | assumption); (case kd => ktr_room); (case ku => ktr_units); k_whole); intro t9 h9 tk9 F9 N9; (try dsimp only); (try k_fold)))
    | ((with_reducible show wpAny _ _ (PySem.call (Value.builtin "chr") _) _ _ _); first | with_reducible ((refine chr_octet (by assumption) (by assumption) ?_)) | ((refine chr_octet (by assumption) (by assumption) ?_)))
    | (k_unfold; (try dsimp only)) | (k_end; wrow_close) | walk1 | (dsimp only; walk1) | (leave1; try dsimp only) | fail "no step")
  all_goals (refine' cb_retS hret ?e1 ?e2 ?e3; (case e2 => k_asm); (case e3 => k_asm); (case e1 => (assumption)))
end
-- part C5
section
open PySem PySem.W PyProof.Rows
set_option maxRecDepth 100000
set_option maxHeartbeats 8000000
variable {w : World} {p : Program} {loose : List Str} {mean : ExcName → Option Value} {mg mb : Str → Option Value}

/-- Euclid's rule, twelve turns at most -/
noncomputable def comm12 (i j : Int) : Int := (List.foldl (fun (p : Int × Int) (_ : Int) => (if ¬p.snd = 0 then p.snd else p.fst, if ¬p.snd = 0 then p.fst.fmod p.snd else p.snd)) (i, j) (rangeKs 0 12)).fst
theorem common_gives (i j : Int) (hi : 0 ≤ i) (hj : 0 ≤ j) (hi2 : i < 1000) (hj2 : j < 1000) (t u : MTok) (news) : GivesV w p loose mean mg mb 3 168 [.int i t, .int j u] news (fun t => .int (comm12 i j) t) := by
  intro dp un gd env outer A₀ base h₀ L m s Q E B F X N T hf hk hd hu hret
  refine wpAny_call ?_
  k_dflt cell_enter
  repeat' (first
    | ((with_reducible show wpAny _ _ (PySem.exec _ _) _ _ _); k_fold)
    | ((with_reducible show wpAny _ _ (PySem.execs _ _) _ _ _); k_fold)
    | ((with_reducible show wpAny _ _ (PySem.execs _ _) _ _ _); dsimp only)
    | (k_unfold; (try dsimp only)) | (k_end; wrow_close) | walk1 | (dsimp only; walk1) | (leave1; try dsimp only) | fail "no step")
  exact cb_retI hret (by rfl) (by k_asm) (by k_asm)
end
-- part D1
section
open PySem PySem.W PyProof.Rows
set_option maxRecDepth 100000
/-- a sign of a word -/
noncomputable def signC (c : Nat) : Bool := c == 61 || c == 33 || c == 42 || c == 43 || c == 45 || c == 47 || (48 ≤ c && c ≤ 57) || (65 ≤ c && c ≤ 90) || (97 ≤ c && c ≤ 122)
noncomputable def pieceL (p : Bool × Int) : List Nat := if p.1 then [p.2.toNat] else [61, hx (p.2 / 16).toNat, hx (p.2 % 16).toNat]
noncomputable def encL (ps : List (Bool × Int)) : List Nat := ps.flatMap pieceL
noncomputable def enc (ps : List (Bool × Int)) : Str := ⟨(encL ps).toArray⟩
noncomputable def decT (ps : List (Bool × Int)) : Str := ⟨(ps.map fun p => p.2.toNat).toArray⟩
noncomputable def PsOk (ps : List (Bool × Int)) : Prop := ∀ p ∈ ps, Oct p.2 ∧ (p.1 = true → plainI p.2 = true)
theorem plain_sign : ∀ n : Nat, n < 256 → plainI (n : Int) = true → signC n = true ∧ n ≠ 61 := by decide +kernel
theorem hx_sign' : ∀ n : Nat, n < 16 → signC (hx n) = true ∧ hx n ≠ 61 := by decide +kernel
theorem sign_no : ∀ c : Nat, c < 123 → signC c = true → Unicode.isLineBreak c = false ∧ Unicode.isSpace c = false ∧ c ≠ 10 ∧ c ≠ 13 := by decide +kernel
theorem sign_lt {c : Nat} (h : signC c = true) : c < 123 := by
  simp only [signC, Bool.or_eq_true, Bool.and_eq_true, beq_iff_eq, decide_eq_true_eq] at h
  omega
theorem piece_signs {p : Bool × Int} (h : Oct p.2 ∧ (p.1 = true → plainI p.2 = true)) : ∀ c ∈ pieceL p, signC c = true := by
  intro c hc
  obtain ⟨b, i⟩ := p
  obtain ⟨n, hn, rfl⟩ := h.1.nat
  cases b with
  | true =>
    rw [pieceL, if_pos rfl, List.mem_singleton] at hc
    rw [hc]
    exact (plain_sign n hn (h.2 rfl)).1
  | false =>
    have e1 : ((n : Int) / 16).toNat < 16 := by omega
    have e2 : ((n : Int) % 16).toNat < 16 := by omega
    rw [pieceL, if_neg (by simp)] at hc
    simp only [List.mem_cons, List.not_mem_nil, or_false] at hc
    rcases hc with rfl | rfl | rfl
    · decide
    · exact (hx_sign' _ e1).1
    · exact (hx_sign' _ e2).1
theorem enc_signs {ps : List (Bool × Int)} (h : PsOk ps) : ∀ c ∈ encL ps, signC c = true := by
  intro c hc
  obtain ⟨p, hp, hc⟩ := List.mem_flatMap.mp hc
  exact piece_signs (h p hp) c hc
theorem forIn_still {α β : Type} (f : α → β → Id (ForInStep β)) (s : β) : ∀ (l : List α), (∀ a ∈ l, f a s = pure (.yield s)) → (forIn l s f : Id β) = pure s
  | [], _ => rfl
  | a :: l, h => by
    rw [List.forIn_cons, h a (.head _)]
    exact forIn_still f s l fun b hb => h b (.tail _ hb)
open Builtin.Str in
theorem cuts_one {x : Str} (h0 : 0 < x.length) (h : ∀ c ∈ x.cps.toList, Unicode.isLineBreak c = false) : lineCuts x = [(0, x.length)] := by
  have key : lineSpans x = [(0, x.length, x.length)] := by
    unfold lineSpans
    simp only [Std.Legacy.Range.forIn_eq_forIn_range', Id.run]
    have e := forIn_still (fun (i : Nat) (__s : Array (Nat × Nat × Nat) × Nat) =>
            if (decide (__s.snd ≤ i) && Unicode.isLineBreak (x.cps.getD i 0)) = true then
              (pure
                (ForInStep.yield
                  (__s.fst.push
                      (__s.snd, i, if (x.cps.getD i 0 == 13 && x.cps[i + 1]? == some 10) = true then i + 2 else i + 1),
                    if (x.cps.getD i 0 == 13 && x.cps[i + 1]? == some 10) = true then i + 2 else i + 1)) : Id _)
            else pure (ForInStep.yield (__s.fst, __s.snd))) (#[], 0) (List.range' 0 x.length) ?_
    · rw [show [:x.length].size = x.length by simp [Std.Legacy.Range.size]]
      refine (congrArg (fun t : Id (Array (Nat × Nat × Nat) × Nat) => (bind t fun __s => (pure (if __s.snd < x.length then __s.fst.push (__s.snd, x.length, x.length) else __s.fst).toList : Id _) : Id _)) e).trans ?_
      show (if 0 < x.length then #[].push (0, x.length, x.length) else #[]).toList = _
      rw [if_pos h0]
      rfl
    · intro i hi
      rw [List.mem_range'_1] at hi
      have hb : Unicode.isLineBreak (x.cps.getD i 0) = false := by
        refine h _ ?_
        have hlt : i < x.cps.size := by have := hi.2; simpa [Str.length] using this
        rw [Array.getD, dif_pos hlt]
        simp
      show (if (decide (0 ≤ i) && Unicode.isLineBreak (x.cps.getD i 0)) = true then _ else _) = _
      rw [hb]
      simp
  unfold lineCuts
  rw [key]
  rfl
end
-- part D2
section
open PySem PySem.W PyProof.Rows PySem.Builtin.Str
set_option maxRecDepth 100000
theorem enc_list (ps : List (Bool × Int)) : (enc ps).cps.toList = encL ps := rfl
theorem enc_length (ps : List (Bool × Int)) : (enc ps).length = (encL ps).length := by show (List.toArray _).size = _; rw [List.size_toArray]
theorem piece_len (p : Bool × Int) : 1 ≤ (pieceL p).length ∧ (pieceL p).length ≤ 3 := by unfold pieceL; split <;> simp
theorem encL_len (ps : List (Bool × Int)) : ps.length ≤ (encL ps).length ∧ (encL ps).length ≤ 3 * ps.length := by
  induction ps with
  | nil => exact ⟨Nat.le_refl _, Nat.le_refl _⟩
  | cons p ps ih =>
    have h := piece_len p
    unfold encL at *
    rw [List.flatMap_cons, List.length_append, List.length_cons]
    omega
theorem strSub_whole (x : PySem.Str) : strSub x 0 x.length = x := by
  apply PySem.Str.ext'
  simp [strSub, PySem.Str.length]
theorem rstrip_same {x : PySem.Str} (h : ∀ c ∈ x.cps.toList, Unicode.isSpace c = false) : Txt.rstrip x = x := by
  obtain ⟨_, h0, h1, h2⟩ := hi_facts Unicode.isSpace x 0 (Nat.zero_le _)
  have e : stripHi Unicode.isSpace true x 0 = x.length := by
    refine Nat.le_antisymm h0 (Nat.le_of_not_lt fun hlt => ?_)
    have h3 := h1 _ (Nat.le_refl _) hlt
    have hlt' : stripHi Unicode.isSpace true x 0 < x.cps.size := hlt
    rw [h _ (by rw [Array.getD, dif_pos hlt']; simp)] at h3
    cases h3
  have e2 : Txt.rstrip x = strSub x 0 (stripHi Unicode.isSpace true x 0) := by unfold Txt.rstrip; rw [PyProof.Rows.stripBy_eq]; rfl
  rw [e2, e, strSub_whole]
noncomputable def off (ps : List (Bool × Int)) (k : Nat) : Nat := (encL (ps.take k)).length
theorem off_zero (ps : List (Bool × Int)) : off ps 0 = 0 := rfl
theorem off_all (ps : List (Bool × Int)) : off ps ps.length = (enc ps).length := by rw [off, List.take_length, enc_length]
theorem off_succ (ps : List (Bool × Int)) (k : Nat) (h : k < ps.length) : off ps (k + 1) = off ps k + (pieceL ps[k]).length := by
  unfold off
  rw [List.take_succ_eq_append_getElem h]
  unfold encL
  rw [List.flatMap_append, List.length_append]
  simp
theorem enc_split (ps : List (Bool × Int)) (k : Nat) (h : k < ps.length) : encL ps = encL (ps.take k) ++ (pieceL ps[k] ++ encL (ps.drop (k + 1))) := by
  conv => lhs; rw [← List.take_append_drop k ps, List.drop_eq_getElem_cons h]
  unfold encL
  rw [List.flatMap_append, List.flatMap_cons]
theorem off_le (ps : List (Bool × Int)) (k : Nat) (h : k < ps.length) : off ps k + (pieceL ps[k]).length ≤ (enc ps).length := by
  rw [enc_length, enc_split ps k h]
  simp only [List.length_append, off]
  omega
theorem off_end (ps : List (Bool × Int)) (k : Nat) (h : k ≤ ps.length) (e : ¬ off ps k < (enc ps).length) : k = ps.length := by
  refine Nat.le_antisymm h (Nat.le_of_not_lt fun hk => e ?_)
  have := off_le ps k hk
  have := (piece_len ps[k]).1
  omega
theorem off_last (ps : List (Bool × Int)) (k : Nat) (h : k ≤ ps.length) : off ps k = (enc ps).length ↔ k = ps.length :=
  ⟨fun e => off_end ps k h (by omega), fun e => by rw [e, off_all]⟩
theorem item_at {x : PySem.Str} {i : Int} (h0 : 0 ≤ i) (h : i.toNat < x.length) : Txt.item x i = ⟨#[x.cps.toList.getD i.toNat 0]⟩ := by
  have e : seqIndex? i x.length = some i.toNat := by
    have e1 : (if i < 0 then i + (x.length : Int) else i) = i := if_neg (by omega)
    have e2 : (decide (0 ≤ i) && decide (i < (x.length : Int))) = true := by simp only [Bool.and_eq_true, decide_eq_true_eq]; omega
    unfold seqIndex?
    rw [e1]
    exact if_pos e2
  unfold Txt.item Txt.charAt
  rw [e, Option.bind_some, List.getD_eq_getElem?_getD, Array.getElem?_toList]
theorem item_enc (ps : List (Bool × Int)) (k j : Nat) (h : k < ps.length) (hj : j < (pieceL ps[k]).length) {i : Int} (hi : i = (off ps k : Int) + j) : Txt.item (enc ps) i = ⟨#[(pieceL ps[k]).getD j 0]⟩ := by
  have h1 := off_le ps k h
  rw [item_at (by omega) (by omega), enc_list, enc_split ps k h]
  have e : i.toNat = (encL (ps.take k)).length + j := by unfold off at hi; omega
  rw [e]
  simp only [List.getD_eq_getElem?_getD]
  rw [List.getElem?_append_right (by omega), Nat.add_sub_cancel_left, List.getElem?_append_left hj]
theorem item_last {x : PySem.Str} (h : 0 < x.length) : Txt.item x (-1) = ⟨#[x.cps.toList.getD (x.length - 1) 0]⟩ := by
  have e : seqIndex? (-1) x.length = some (x.length - 1) := by
    have e1 : (if (-1 : Int) < 0 then -1 + (x.length : Int) else -1) = -1 + (x.length : Int) := if_pos (by omega)
    have e2 : (decide (0 ≤ -1 + (x.length : Int)) && decide (-1 + (x.length : Int) < (x.length : Int))) = true := by simp only [Bool.and_eq_true, decide_eq_true_eq]; omega
    unfold seqIndex?
    rw [e1]
    refine (if_pos e2).trans ?_
    congr 1
    omega
  unfold Txt.item Txt.charAt
  rw [e, Option.bind_some, List.getD_eq_getElem?_getD, Array.getElem?_toList]
theorem last_sign {ps : List (Bool × Int)} (h : PsOk ps) (h0 : 0 < (enc ps).length) : ∃ c, Txt.item (enc ps) (-1) = ⟨#[c]⟩ ∧ signC c = true := by
  refine ⟨_, item_last h0, enc_signs h _ ?_⟩
  rw [enc_list, List.getD_eq_getElem?_getD]
  have hlt : (enc ps).length - 1 < (encL ps).length := by rw [enc_length] at *; omega
  rw [List.getElem?_eq_getElem hlt]
  exact List.getElem_mem hlt
theorem not_eol : ∀ c : Nat, c < 123 → signC c = true → (Builtin.Str.occurrences (PySem.Str.ofString "\x0d\n") ⟨#[c]⟩ 0 (PySem.Str.ofString "\x0d\n").length 1).isEmpty = true := by decide +kernel
theorem hex_in : ∀ a : Nat, a < 16 → (Builtin.Str.occurrences (PySem.Str.ofString "0123456789abcdefABCDEF") ⟨#[hx a]⟩ 0 (PySem.Str.ofString "0123456789abcdefABCDEF").length 1).isEmpty = false := by decide +kernel
noncomputable def decK (ps : List (Bool × Int)) (k : Nat) : PySem.Str := if k = ps.length then decT ps ++ PySem.Str.ofString "\n" else decT (ps.take k)
theorem decT_succ (ps : List (Bool × Int)) (k : Nat) (h : k < ps.length) : decT (ps.take k) ++ ⟨#[(ps[k]).2.toNat]⟩ = decT (ps.take (k + 1)) := by
  apply PySem.Str.ext'
  rw [List.take_succ_eq_append_getElem h]
  apply Array.toList_inj.mp
  rw [cps_append]
  simp only [decT, List.map_append, List.map_cons, List.map_nil]
theorem decT_length (ps : List (Bool × Int)) : (decT ps).length = ps.length := by
  show (List.toArray _).size = _
  rw [List.size_toArray, List.length_map]
noncomputable def DecAt (ps : List (Bool × Int)) (i : Int) (d : PySem.Str) : Prop := ∃ k : Nat, k ≤ ps.length ∧ i = (off ps k : Int) ∧ d = decK ps k
theorem DecAt.start {ps : List (Bool × Int)} (h0 : 0 < ps.length) : DecAt ps 0 (PySem.Str.ofString "") := by
  refine ⟨0, Nat.zero_le _, rfl, ?_⟩
  unfold decK
  rw [if_neg (by omega), List.take_zero]
  decide +kernel
theorem DecAt.len {ps : List (Bool × Int)} {i : Int} {d : PySem.Str} (h : DecAt ps i d) (hl : ps.length < 100) : d.length ≤ 101 ∧ 0 ≤ i ∧ i ≤ 300 := by
  obtain ⟨k, hk, rfl, rfl⟩ := h
  refine ⟨?_, by omega, ?_⟩
  · unfold decK
    split
    · rw [PySem.Str.length_append, decT_length]
      have : (PySem.Str.ofString "\n").length = 1 := by decide +kernel
      omega
    · rw [decT_length, List.length_take]
      omega
  · have h1 : off ps k ≤ (enc ps).length := by
      rcases Nat.lt_or_ge k ps.length with hlt | hge
      · have := off_le ps k hlt; omega
      · rw [show k = ps.length by omega, off_all]; exact Nat.le_refl _
    have := encL_len ps
    rw [enc_length] at h1
    omega
/-- a plain turn -/
theorem DecAt.plain {ps : List (Bool × Int)} {i : Int} {d : PySem.Str} (h : DecAt ps i d) (ok : PsOk ps) (hlt : i < ((enc ps).length : Int)) (hc : Txt.item (enc ps) i ≠ PySem.Str.ofString "=") :
    (i + 1 = ((enc ps).length : Int) → DecAt ps (i + 1) (d ++ Txt.item (enc ps) i ++ PySem.Str.ofString "\n")) ∧ (i + 1 ≠ ((enc ps).length : Int) → DecAt ps (i + 1) (d ++ Txt.item (enc ps) i)) := by
  obtain ⟨k, hk, rfl, rfl⟩ := h
  have hk' : k < ps.length := by
    refine Nat.lt_of_le_of_ne hk fun e => ?_
    rw [e, off_all] at hlt
    omega
  have hp : (ps[k]).1 = true := by
    cases hb : (ps[k]).1 with
    | true => rfl
    | false =>
      refine absurd ?_ hc
      have e : pieceL ps[k] = [61, hx ((ps[k]).2 / 16).toNat, hx ((ps[k]).2 % 16).toNat] := by unfold pieceL; rw [hb, if_neg (by simp)]
      rw [item_enc ps k 0 hk' (by rw [e]; simp) (by simp), e]
      exact (by decide +kernel : (⟨#[61]⟩ : PySem.Str) = PySem.Str.ofString "=")
  have e : pieceL ps[k] = [(ps[k]).2.toNat] := by unfold pieceL; rw [hp, if_pos rfl]
  have ei : Txt.item (enc ps) (off ps k : Int) = ⟨#[(ps[k]).2.toNat]⟩ := by rw [item_enc ps k 0 hk' (by rw [e]; simp) (by simp), e]; rfl
  have eo : off ps (k + 1) = off ps k + 1 := by rw [off_succ ps k hk', e]; rfl
  have ed : decK ps k = decT (ps.take k) := if_neg (by omega)
  rw [ei, ed, decT_succ ps k hk']
  refine ⟨fun e1 => ⟨k + 1, hk', by omega, ?_⟩, fun e1 => ⟨k + 1, hk', by omega, ?_⟩⟩
  · have e2 : k + 1 = ps.length := (off_last ps (k + 1) hk').mp (by omega)
    unfold decK
    rw [if_pos e2, e2, List.take_length]
  · unfold decK
    rw [if_neg fun e2 => e1 (by have := (off_last ps (k + 1) hk').mpr e2; omega)]
/-- an escape's turn -/
theorem DecAt.esc {ps : List (Bool × Int)} {i : Int} {d : PySem.Str} (h : DecAt ps i d) (ok : PsOk ps) (hlt : i < ((enc ps).length : Int)) (hc : Txt.item (enc ps) i = PySem.Str.ofString "=") :
    i + 1 < ((enc ps).length : Int) ∧ i + 2 < ((enc ps).length : Int) ∧ ∃ o : Int, Oct o ∧ Txt.item (enc ps) (i + 1) = ⟨#[hx (o / 16).toNat]⟩ ∧ Txt.item (enc ps) (i + 2) = ⟨#[hx (o % 16).toNat]⟩ ∧ (o / 16).toNat < 16 ∧ (o % 16).toNat < 16 ∧
      Txt.slice (enc ps) (some i) (some (i + 3)) = escS o ∧
      (i + 3 = ((enc ps).length : Int) → DecAt ps (i + 3) (d ++ ⟨#[o.toNat]⟩ ++ PySem.Str.ofString "\n")) ∧ (i + 3 ≠ ((enc ps).length : Int) → DecAt ps (i + 3) (d ++ ⟨#[o.toNat]⟩)) := by
  obtain ⟨k, hk, rfl, rfl⟩ := h
  have hk' : k < ps.length := by
    refine Nat.lt_of_le_of_ne hk fun e => ?_
    rw [e, off_all] at hlt
    omega
  have hoct := ok ps[k] (List.getElem_mem hk')
  have hp : (ps[k]).1 = false := by
    cases hb : (ps[k]).1 with
    | false => rfl
    | true =>
      exfalso
      have e : pieceL ps[k] = [(ps[k]).2.toNat] := by unfold pieceL; rw [hb, if_pos rfl]
      rw [item_enc ps k 0 hk' (by rw [e]; simp) (by simp), e] at hc
      obtain ⟨n, hn, en⟩ := hoct.1.nat
      have h1 := (plain_sign n hn (by rw [← en]; exact hoct.2 hb)).2
      rw [en] at hc
      refine h1 ?_
      have := congrArg (fun y : PySem.Str => y.cps.toList) hc
      have e3 : (PySem.Str.ofString "=").cps.toList = [61] := by decide +kernel
      rw [e3] at this
      simpa using this
  have e : pieceL ps[k] = [61, hx ((ps[k]).2 / 16).toNat, hx ((ps[k]).2 % 16).toNat] := by unfold pieceL; rw [hp, if_neg (by simp)]
  have hle := off_le ps k hk'
  rw [e] at hle
  simp only [List.length_cons, List.length_nil] at hle
  have eo : off ps (k + 1) = off ps k + 3 := by rw [off_succ ps k hk', e]; rfl
  have ed : decK ps k = decT (ps.take k) := if_neg (by omega)
  obtain ⟨n, hn, en⟩ := hoct.1.nat
  refine ⟨by omega, by omega, (ps[k]).2, hoct.1, ?_, ?_, by omega, by omega, ?_, ?_, ?_⟩
  · rw [item_enc ps k 1 hk' (by rw [e]; simp) (by simp), e]; rfl
  · rw [item_enc ps k 2 hk' (by rw [e]; simp) (by simp), e]; rfl
  · rw [slice_mid (by omega) (by omega) (by omega), enc_list, enc_split ps k hk']
    rw [show ((off ps k : Int)).toNat = (encL (ps.take k)).length from rfl, List.drop_left', show ((off ps k : Int) + 3 - (off ps k : Int)).toNat = (pieceL ps[k]).length by rw [e]; simp; omega, List.take_left', e]
    · rfl
    · rfl
    · rfl
  · intro e1
    have e2 : k + 1 = ps.length := (off_last ps (k + 1) hk').mp (by omega)
    rw [ed, decT_succ ps k hk']
    exact ⟨k + 1, hk', by omega, by unfold decK; rw [if_pos e2, e2, List.take_length]⟩
  · intro e1
    rw [ed, decT_succ ps k hk']
    exact ⟨k + 1, hk', by omega, by unfold decK; rw [if_neg fun e2 => e1 (by have := (off_last ps (k + 1) hk').mpr e2; omega)]⟩
/-- the loop's end -/
theorem DecAt.done {ps : List (Bool × Int)} {i : Int} {d : PySem.Str} (h : DecAt ps i d) (hlt : ¬ i < ((enc ps).length : Int)) : d = decT ps ++ PySem.Str.ofString "\n" := by
  obtain ⟨k, hk, rfl, rfl⟩ := h
  have e := off_end ps k hk (by omega)
  unfold decK
  rw [if_pos e]
end
-- part C6
section
open PySem PySem.W PyProof.Rows
set_option maxRecDepth 100000
set_option maxHeartbeats 8000000
variable {w : World} {p : Program} {loose : List Str} {mean : ExcName → Option Value} {mg mb : Str → Option Value}
theorem splitlines_one {prog : Program} {A : Around} {E : Value → Shared → Prop} {s : Shared} {Q : Value → Shared → Prop} {h₀ : Heap} {L : Addr} {m : Str → Option Value} {news : List (Addr × Obj)} {x : Str} {t : MTok} (Fm : Fr h₀ L s.heap m) (N : News h₀ L s.heap news) (hc : lineCuts x = [(0, x.length)])
    (h : ∀ a h' k, Fr h₀ L h' m → News h₀ L h' ((a, listOf (#[.str x t]) 0) :: news) → (∀ p ∈ news, p.1 < a) → Q (.ref a) { s with heap := h', toks := k }) (hz : x.length ≤ sizeLine) :
    wpAny (model prog w) A (call (.builtin "str.splitlines") [.str x t]) Q E s := by
  refine call_meets F.slot_str_splitlines (typeIs_str _ _ _) F.entry_str_splitlines (F.args_str_splitlines_1 _) (meets_str_splitlines x t hz (by rw [hc]; size_fits)) ?_
  rw [if_pos (by rw [hc]; exact beq_self_eq_true _)]
  exact h _ _ s.toks (Fm.push _) (News.push Fm N _ rfl) fun p hp => Heap.lt_size (N p hp).1
theorem rstrip_one {prog : Program} {A : Around} {E : Value → Shared → Prop} {s : Shared} {Q : Value → Shared → Prop} {x : Str} {t : MTok} (hx : Txt.rstrip x = x) (hz : x.length ≤ 300)
    (h : ∀ t' k, Q (.str x t') { s with toks := k }) : wpAny (model prog w) A (call (.builtin "str.rstrip") [.str x t]) Q E s :=
  call_gives F.slot_str_rstrip (typeIs_str _ _ _) F.entry_str_rstrip (F.args_str_rstrip_1 _) (gives_str_rstrip x t) (post_val_or_made (fun _ => fits_stripped _ _ _ (by size_fits)) (by rw [show (if stripSame Unicode.isSpace false true x = true then x else PySem.stripped Unicode.isSpace false true x) = x from hx]; exact h))
theorem truthy_one {prog : Program} {A : Around} {E : Value → Shared → Prop} {s : Shared} {Q : Bool → Shared → Prop} {x : Str} {t : MTok} (hp : 0 < x.length) (hz : x.length ≤ 300) (h : ∀ k, Q true { s with toks := k }) : wpAny (model prog w) A (PySem.truthy (.str x t)) Q E s :=
  KXt.truthy_pos (K := 300) hp hz (by decide) h
theorem or_turn {a b c : Prop} (h : a ∨ b ∨ c) : b ∨ a ∨ c := h.elim (fun x => .inr (.inl x)) fun x => x.elim .inl fun y => .inr (.inr y)
section
variable {prog : Program} {A : Around} {E : Value → Shared → Prop} {s : Shared} {Q : Value → Shared → Prop} {ps : List (Bool × Int)} {i : Int} {d : Str} {t u : MTok}
noncomputable abbrev PlainK (ps : List (Bool × Int)) (i : Int) (d : Str) : Prop := (i + 1 = ((enc ps).length : Int) → DecAt ps (i + 1) (d ++ Txt.item (enc ps) i ++ Str.ofString "\n")) ∧ (i + 1 ≠ ((enc ps).length : Int) → DecAt ps (i + 1) (d ++ Txt.item (enc ps) i))
noncomputable abbrev EscK (ps : List (Bool × Int)) (i : Int) (d : Str) : Prop := i + 1 < ((enc ps).length : Int) ∧ i + 2 < ((enc ps).length : Int) ∧ ∃ o : Int, Oct o ∧ Txt.item (enc ps) (i + 1) = ⟨#[hx (o / 16).toNat]⟩ ∧ Txt.item (enc ps) (i + 2) = ⟨#[hx (o % 16).toNat]⟩ ∧ (o / 16).toNat < 16 ∧ (o % 16).toNat < 16 ∧
      Txt.slice (enc ps) (some i) (some (i + 3)) = escS o ∧
      (i + 3 = ((enc ps).length : Int) → DecAt ps (i + 3) (d ++ ⟨#[o.toNat]⟩ ++ Str.ofString "\n")) ∧ (i + 3 ≠ ((enc ps).length : Int) → DecAt ps (i + 3) (d ++ ⟨#[o.toNat]⟩))
theorem dec_split (D : DecAt ps i d) (ok : PsOk ps) (hlt : i < ((enc ps).length : Int)) (q1 : PlainK ps i d → Q (.bool true) s) (q2 : EscK ps i d → Q (.bool false) s) :
    wpAny (model prog w) A (compareOp .NotEq (.str (Txt.item (enc ps) i) t) (.str (Str.ofString "=") u)) Q E s := by
  refine ne_str ?_
  by_cases hc : Txt.item (enc ps) i = Str.ofString "="
  · rw [hc, bne_self_eq_false]
    exact q2 (D.esc ok hlt hc)
  · rw [bne_iff_ne.mpr hc]
    exact q1 (D.plain ok hlt hc)
theorem eq_int_no {a b : Int} (h : a ≠ b) (q : Q (.bool false) s) : wpAny (model prog w) A (compareOp .Eq (.int a t) (.int b u)) Q E s :=
  eq_int (by rw [beq_eq_false_iff_ne.mpr h]; exact q)
theorem lt_int_yes {a b : Int} (h : a < b) (q : Q (.bool true) s) : wpAny (model prog w) A (compareOp .Lt (.int a t) (.int b u)) Q E s :=
  lt_int (by rw [decide_eq_true h]; exact q)
theorem in_hex {x : Str} {a : Nat} (e : x = ⟨#[hx a]⟩) (ha : a < 16) (q : Q (.bool true) s) : wpAny (model prog w) A (compareOp .In (.str x t) (.str (Str.ofString "0123456789abcdefABCDEF") u)) Q E s :=
  in_str (by subst e; rw [hex_in a ha]; exact q)
theorem notin_eol (ok : PsOk ps) (h0 : 0 < (enc ps).length) (q : Q (.bool true) s) : wpAny (model prog w) A (compareOp .NotIn (.str (Txt.item (enc ps) (-1)) t) (.str (Str.ofString "\x0d\n") u)) Q E s :=
  notIn_str (by
    obtain ⟨c, e, hc⟩ := last_sign ok h0
    rw [e, not_eol c (sign_lt hc) hc]
    exact q)
end
theorem ends_nl {x : Str} (e : d = x ++ Str.ofString "\n") (q : Q (.bool true) s) : wpAny (model prog w) A (call (.builtin "str.endswith") [.str d t, .str (Str.ofString "\n") u]) Q E s := by
  refine SC.endswith ?_
  have h : Txt.endswith d (Str.ofString "\n") = true := by
    subst e
    have e1 : (Str.ofString "\n").length = 1 := by decide +kernel
    have e2 : (x ++ Str.ofString "\n").length = x.length + 1 := by rw [Str.length_append, e1]
    unfold Txt.endswith
    rw [e1, e2, Bool.and_eq_true]
    refine ⟨decide_eq_true (by omega), ?_⟩
    unfold Builtin.Str.subAt
    rw [e1, Nat.add_sub_cancel, beq_iff_eq]
    apply Array.toList_inj.mp
    rw [Array.toList_extract, cps_append, List.extract_eq_take_drop, List.drop_left' (len_cps x)]
    rw [Nat.add_sub_cancel_left]
    exact List.take_of_length_le (by rw [len_cps, e1]; exact Nat.le_refl _)
  rw [h]
  exact q
theorem cut_nl {x d : Str} {j : Int} (e : d = x ++ Str.ofString "\n") (hj : j = -1) : Txt.slice d none (some j) = x := by
  subst e hj
  have e1 : (Str.ofString "\n").length = 1 := by decide +kernel
  have e2 : (x ++ Str.ofString "\n").length = x.length + 1 := by rw [Str.length_append, e1]
  rw [slice_neg_hi (by decide) (by rw [e2]; omega), slice_to (by rw [e2]; omega) (by omega)]
  rw [e2, show ((-1 : Int) + ((x.length + 1 : Nat) : Int)).toNat = x.length by omega, cps_append, List.take_left' (len_cps x)]
theorem unquote_of (o : Int) (h : Oct o) (x : Str) (e : x = escS o) (t : MTok) (news) : GivesV w p loose mean mg mb 1 37 [.str x t] news (fun t => .str ⟨#[o.toNat]⟩ t) := by subst e; exact unquote_gives o h t news

theorem decode_gives (ps : List (Bool × Int)) (h : PsOk ps) (h0 : 0 < ps.length) (hl : ps.length < 100) (t : MTok) (news) : GivesV w p loose mean mg mb 2 65 [.str (enc ps) t] news (fun t => .str (decT ps) t) := by
  have hz : (enc ps).length ≤ 300 := by have := encL_len ps; rw [enc_length]; omega
  have hz0 : 0 < (enc ps).length := by have := encL_len ps; rw [enc_length]; omega
  have hcut : lineCuts (enc ps) = [(0, (enc ps).length)] := cuts_one hz0 fun c hc => (sign_no c (sign_lt (enc_signs h c hc)) (enc_signs h c hc)).1
  have hstrip : Txt.rstrip (enc ps) = enc ps := rstrip_same fun c hc => (sign_no c (sign_lt (enc_signs h c hc)) (enc_signs h c hc)).2.1
  k_with "exec While Compare cons nil" => k_while (fun _ i dec => DecAt ps i dec) (fun _ i _ => (300 - i).toNat) "i" "decoded"
  k_with "state" => (first | exact DecAt.start (by assumption) | (rename (_ = _ → DecAt _ _ _) => hA1; exact hA1 (by assumption)) | (rename (_ ≠ _ → DecAt _ _ _) => hA1; exact hA1 (by assumption)))
  intro dp un gd env outer A₀ base h₀ L m s Q E B F X N T hf hk hd hu hret
  refine wpAny_call ?_
  k_dflt cell_enter
  repeat' (first
    | ((with_reducible show wpAny _ _ (PySem.exec _ _) _ _ _); k_fold)
    | ((with_reducible show wpAny _ _ (PySem.execs _ _) _ _ _); k_fold)
    | ((with_reducible show wpAny _ _ (PySem.execs _ _) _ _ _); dsimp only)
    | ((with_reducible show wpAny _ _ (call (Value.ref 37) _) _ _ _); first | with_reducible (k_dflt (refine' GivesV.use (unquote_of _ ?ko _ ?ke _ _) ?k1 ?k2 ?k3 ?k4 ?k5 ?kf ?kK ?kd ?ku ?_; (case ko => assumption); (case ke => assumption); (case k1 => k_asm); (case k2 => k_asm); (case k3 => k_asm); (case k4 => k_asm); (case k5 => k_asm); (case kf => first | exact rfl | assumption); (case kK => first | exact rfl | assumption); (case kd => ktr_room); (case ku => ktr_units); k_whole); intro t9 h9 tk9 F9 N9; (try dsimp only); (try k_fold)) | (k_dflt (refine' GivesV.use (unquote_of _ ?ko _ ?ke _ _) ?k1 ?k2 ?k3 ?k4 ?k5 ?kf ?kK ?kd ?ku ?_; (case ko => assumption); (case ke => assumption); (case k1 => k_asm); (case k2 => k_asm); (case k3 => k_asm); (case k4 => k_asm); (case k5 => k_asm); (case kf => first | exact rfl | assumption); (case kK => first | exact rfl | assumption); (case kd => ktr_room); (case ku => ktr_units); k_whole); intro t9 h9 tk9 F9 N9; (try dsimp only); (try k_fold)))
    | ((with_reducible show wpAny _ _ (PySem.call (Value.builtin "str.endswith") _) _ _ _); first | with_reducible ((refine ends_nl (by assumption) ?_)) | ((refine ends_nl (by assumption) ?_)))
    | ((with_reducible show LoopStep3 _ _ _ _ _ _ _ _ _ _); first | with_reducible ((have hdn := DecAt.done (by assumption) (by assumption)); (with_unfolding_all refine LoopStep3.next (LoopStep2.intro (by k_asm) (kst_newsOf (by k_asm) ?kn) (by rfl) ?_)); (case kn => (intro _ hp; simp only [List.mem_append, List.mem_cons] at hp ⊢; exact or_turn hp)); (obtain ⟨hd1, _, _⟩ := DecAt.len (by assumption) (by assumption))) | ((have hdn := DecAt.done (by assumption) (by assumption)); (with_unfolding_all refine LoopStep3.next (LoopStep2.intro (by k_asm) (kst_newsOf (by k_asm) ?kn) (by rfl) ?_)); (case kn => (intro _ hp; simp only [List.mem_append, List.mem_cons] at hp ⊢; exact or_turn hp)); (obtain ⟨hd1, _, _⟩ := DecAt.len (by assumption) (by assumption))))
    | ((with_reducible show wpAny _ _ (PySem.compareOp .NotIn (Value.str _ _) (Value.str _ _)) _ _ _); first | with_reducible ((refine notin_eol (by assumption) (by assumption) ?_)) | ((refine notin_eol (by assumption) (by assumption) ?_)))
    | ((with_reducible show wpAny _ _ (PySem.compareOp .In (Value.str _ _) (Value.str _ _)) _ _ _); first | with_reducible ((refine in_hex (by assumption) (by assumption) ?_)) | ((refine in_hex (by assumption) (by assumption) ?_)))
    | ((with_reducible show wpAny _ _ (PySem.compareOp .Lt (Value.int _ _) (Value.int _ _)) _ _ _); first | with_reducible ((refine lt_int_yes (by omega) ?_)) | ((refine lt_int_yes (by omega) ?_)))
    | ((with_reducible show wpAny _ _ (PySem.compareOp .Eq (Value.int _ _) (Value.int _ _)) _ _ _); first | with_reducible ((refine eq_int_no (by omega) ?_)) | ((refine eq_int_no (by omega) ?_)))
    | ((with_reducible show wpAny _ _ (subscriptTail (PySem.Expr.Name _ _) (PySem.Expr.BinOp _ _ _ _) (Value.str _ _) (Value.int _ _)) _ _ _); first | with_reducible ((refine item_str (fitsSsize_of (N := 9223372036854775808) (by omega) (by omega) (Int.le_refl _)) (by omega) (by omega) ?_); intro _) | ((refine item_str (fitsSsize_of (N := 9223372036854775808) (by omega) (by omega) (Int.le_refl _)) (by omega) (by omega) ?_); intro _))
    | ((with_reducible show wpAny _ _ (subscriptTail (PySem.Expr.Name _ _) (PySem.Expr.Name _ _) (Value.str _ _) (Value.int _ _)) _ _ _); first | with_reducible ((obtain ⟨hd1, hd2, hd3⟩ := DecAt.len (by assumption) (by assumption)); (refine item_str (fitsSsize_of (N := 9223372036854775808) (by omega) (by omega) (Int.le_refl _)) (by omega) (by omega) ?_); intro _) | ((obtain ⟨hd1, hd2, hd3⟩ := DecAt.len (by assumption) (by assumption)); (refine item_str (fitsSsize_of (N := 9223372036854775808) (by omega) (by omega) (Int.le_refl _)) (by omega) (by omega) ?_); intro _))
    | ((with_reducible show wpAny _ _ (PySem.compareOp .NotEq (Value.str _ _) (Value.str _ _)) _ _ _); first | with_reducible ((refine dec_split (by assumption) (by assumption) (by assumption) ?_ ?_); all_goals (intro hK; (try obtain ⟨e1, e2, o, ho, e3, e4, e5, e6, e7, e8, e9⟩ := hK); (try obtain ⟨e1, e2⟩ := hK))) | ((refine dec_split (by assumption) (by assumption) (by assumption) ?_ ?_); all_goals (intro hK; (try obtain ⟨e1, e2, o, ho, e3, e4, e5, e6, e7, e8, e9⟩ := hK); (try obtain ⟨e1, e2⟩ := hK))))
    | ((with_reducible show wpAny _ _ (PySem.truthy (Value.str _ _)) _ _ _); first | with_reducible ((refine truthy_one (by assumption) (by assumption) ?_); intro _; (try dsimp only)) | ((refine truthy_one (by assumption) (by assumption) ?_); intro _; (try dsimp only)))
    | ((with_reducible show wpAny _ _ (PySem.call (Value.builtin "str.rstrip") _) _ _ _); first | with_reducible ((refine rstrip_one (by assumption) (by assumption) ?_); intro _ _; (try dsimp only)) | ((refine rstrip_one (by assumption) (by assumption) ?_); intro _ _; (try dsimp only)))
    | ((with_reducible show wpAny _ _ (PySem.pyIter (Value.ref _)) _ _ _); first | with_reducible ((refine' Iter_list_unr ?kh ?kt ?kF ?kN ?kL ?_; (case kF => k_asm); (case kN => k_asm); (case kh => rfl); (case kt => exact News.isList (by k_asm) (by news_mem)); (case kL => exact News.ne_locals (by k_asm) (by news_mem)); k_whole)) | ((refine' Iter_list_unr ?kh ?kt ?kF ?kN ?kL ?_; (case kF => k_asm); (case kN => k_asm); (case kh => rfl); (case kt => exact News.isList (by k_asm) (by news_mem)); (case kL => exact News.ne_locals (by k_asm) (by news_mem)); k_whole)))
    | ((with_reducible show wpAny _ _ (PySem.exec (PySem.Stmt.For (PySem.Expr.Name _ _) (PySem.Expr.Call _ _ _ _) _ _ _) _) _ _ _); first | with_reducible ((with_unfolding_all refine' For_unrF (by k_asm) ?_ ?ks); (case ks => (intro _; with_unfolding_all rfl))) | ((with_unfolding_all refine' For_unrF (by k_asm) ?_ ?ks); (case ks => (intro _; with_unfolding_all rfl))))
    | ((with_reducible show wpAny _ _ (PySem.call (Value.builtin "str.splitlines") _) _ _ _); first | with_reducible ((refine' splitlines_one ?k1 ?k2 ?k3 ?_ ?kz; (case k1 => k_asm); (case k2 => k_asm); (case k3 => assumption); (case kz => size_fits); k_whole); intro a9 h9 tk9 F9 N9 l9; (try dsimp only)) | ((refine' splitlines_one ?k1 ?k2 ?k3 ?_ ?kz; (case k1 => k_asm); (case k2 => k_asm); (case k3 => assumption); (case kz => size_fits); k_whole); intro a9 h9 tk9 F9 N9 l9; (try dsimp only)))
    | (k_unfold; (try dsimp only)) | (k_end; wrow_close) | walk1 | (dsimp only; walk1) | (leave1; try dsimp only) | fail "no step")
  all_goals (refine' cb_retS hret ?e1 ?e2 ?e3; (case e2 => k_asm); (case e3 => exact kst_newsOf (by k_asm) fun _ hp => .tail _ hp); (case e1 => exact cut_nl (by assumption) (by first | rfl | decide)))
end
-- part C7
section
open PySem PySem.W PyProof.Rows
set_option maxRecDepth 100000
set_option maxHeartbeats 8000000
variable {w : World} {p : Program} {loose : List Str} {mean : ExcName → Option Value} {mg mb : Str → Option Value}

noncomputable def goodS (ns : List Int) (k : Nat) : Prop := (List.replicate ((ns.length : Int).fdiv (k : Int)).toNat (ns.take k)).flatten = ns
noncomputable def FirstGood (ns : List Int) (k : Nat) : Prop := 1 ≤ k ∧ k ≤ ns.length ∧ goodS ns k ∧ ∀ j, 1 ≤ j → j < k → ¬ goodS ns j
noncomputable def RootJ (ns : List Int) (base : List (Addr × Obj)) (i : Nat) (ys : List Value) (nw : List (Addr × Obj)) : Prop :=
  (nw = base ∧ ys = [] ∧ ∀ j, 1 ≤ j → j ≤ i → ¬ goodS ns j) ∨
  (∃ k a rest ws z, ys = .ref a :: rest ∧ nw = (a, listOf ws.toArray z) :: base ∧ IntsAre ws (ns.take k) ∧ FirstGood ns k ∧ (∀ p ∈ base, p.1 < a))
theorem goodS_all (ns : List Int) (h : 0 < ns.length) : goodS ns ns.length := by
  unfold goodS
  rw [Int.fdiv_self (by omega)]
  simp
theorem root_small {n i : Nat} (h : i < ((n : Int) + 1 - 1).toNat) (hn : n < 100) : (1 + (i : Int)).natAbs < 1073741824 := by omega
theorem RootJ.start {ns : List Int} {vs : List Value} {base : List (Addr × Obj)} (_ : IntsAre vs ns) : RootJ ns base 0 [] base := .inl ⟨rfl, rfl, fun j h1 h2 => by omega⟩
theorem RootJ.done {ns : List Int} {base nw : List (Addr × Obj)} {ys : List Value} {n : Nat} (h0 : 0 < ns.length) (hn : n = ns.length) (h : RootJ ns base n ys nw) :
    ∃ k a rest ws z, ys = .ref a :: rest ∧ nw = (a, listOf ws.toArray z) :: base ∧ IntsAre ws (ns.take k) ∧ FirstGood ns k ∧ (∀ p ∈ base, p.1 < a) := by
  rcases h with ⟨_, _, h3⟩ | h
  · exact absurd (goodS_all ns h0) (h3 _ h0 (by omega))
  · exact h
theorem fdiv_small {n : Nat} {k : Int} (hk : 1 ≤ k) : 0 ≤ (n : Int).fdiv k ∧ (n : Int).fdiv k ≤ n := by
  obtain ⟨m, rfl⟩ : ∃ m : Nat, k = m := ⟨k.toNat, by omega⟩
  rw [Int.fdiv_eq_ediv_of_nonneg _ (by omega)]
  have h := Nat.div_le_self n m
  rw [← Int.natCast_ediv]
  generalize n / m = q at *
  omega
theorem RootJ.hit {ns : List Int} {base : List (Addr × Obj)} {i : Nat} {a : Addr} {ws : List Value} {z : Nat} (hi : i < ((ns.length : Int) + 1 - 1).toNat) (hno : ∀ j, 1 ≤ j → j ≤ i → ¬ goodS ns j)
    (he : (List.replicate ((ns.length : Int).fdiv (1 + (i : Int))).toNat (ns.take (1 + (i : Int)).toNat)).flatten = ns) (hw : IntsAre ws (ns.take (1 + (i : Int)).toNat)) (hlt : ∀ p ∈ base, p.1 < a) :
    RootJ ns base (i + 1) [.ref a] ((a, listOf ws.toArray z) :: base) := by
  have e : (1 + (i : Int)).toNat = i + 1 := by omega
  rw [e] at he hw
  refine .inr ⟨i + 1, a, [], ws, z, rfl, rfl, hw, ⟨by omega, by omega, ?_, fun j h1 h2 => hno j h1 (by omega)⟩, hlt⟩
  unfold goodS
  rw [show ((i + 1 : Nat) : Int) = 1 + (i : Int) by omega]
  exact he
theorem RootJ.miss {ns : List Int} {base : List (Addr × Obj)} {i : Nat} (hno : ∀ j, 1 ≤ j → j ≤ i → ¬ goodS ns j)
    (he : (List.replicate ((ns.length : Int).fdiv (1 + (i : Int))).toNat (ns.take (1 + (i : Int)).toNat)).flatten ≠ ns) : RootJ ns base (i + 1) [] base := by
  refine .inl ⟨rfl, rfl, fun j h1 h2 => ?_⟩
  by_cases h : j ≤ i
  · exact hno j h1 h
  · obtain rfl : j = i + 1 := by omega
    intro hg
    refine he ?_
    unfold goodS at hg
    rw [show (1 + (i : Int)).toNat = i + 1 by omega, show (1 + (i : Int)) = ((i + 1 : Nat) : Int) by omega]
    exact hg
theorem RootJ.later {ns : List Int} {base : List (Addr × Obj)} {i : Nat} {k : Nat} {a : Addr} {rest more ws : List Value} {z : Nat} (hw : IntsAre ws (ns.take k)) (hk : FirstGood ns k) (hlt : ∀ p ∈ base, p.1 < a) :
    RootJ ns base (i + 1) (.ref a :: (rest ++ more)) ((a, listOf ws.toArray z) :: base) := .inr ⟨k, a, rest ++ more, ws, z, rfl, rfl, hw, hk, hlt⟩
theorem RootJ.still {ns : List Int} {base : List (Addr × Obj)} {i : Nat} {k : Nat} {a : Addr} {rest ws : List Value} {z : Nat} (hw : IntsAre ws (ns.take k)) (hk : FirstGood ns k) (hlt : ∀ p ∈ base, p.1 < a) :
    RootJ ns base (i + 1) (.ref a :: rest) ((a, listOf ws.toArray z) :: base) := .inr ⟨k, a, rest, ws, z, rfl, rfl, hw, hk, hlt⟩
theorem eq_two {prog : Program} {w : World} {A : Around} {E : Value → Shared → Prop} {s : Shared} {a b : Addr} {vs us : List Value} {ns ms : List Int} {Q : Value → Shared → Prop} (hl : s.heap.IsList a vs.toArray) (hi : IntsAre vs ns) (hl' : s.heap.IsList b us.toArray) (hi' : IntsAre us ms) (hu : A.units + 64 < cLine)
    (q1 : ns = ms → Q (.bool true) s) (q2 : ns ≠ ms → Q (.bool false) s) : wpAny (model prog w) A (compareOp .Eq (.ref a) (.ref b)) Q E s := by
  refine eq_intsK hl hi hl' hi' hu ?_
  by_cases h : ns = ms
  · rw [decide_eq_true h]; exact q1 h
  · rw [decide_eq_false h]; exact q2 h
theorem root_end {s : Shared} {h₀ : Heap} {L : Addr} {m : Str → Option Value} {news : List (Addr × Obj)} {Q : Value → Shared → Prop} {ns : List Int} {a D c l : Addr} {oD oc ol : Obj} {ws : List Value} {z k : Nat} {h' : Heap} {tk' : Nat}
    (hret : ∀ r new h' tk', Fr h₀ L h' m → News h₀ L h' (new ++ (l, ol) :: news) → (∀ p ∈ (l, ol) :: news, ∀ q ∈ new, p.1 < q.1) → (∃ a ws z k, r = .ref a ∧ new = [(a, listOf ws.toArray z)] ∧ IntsAre ws (ns.take k) ∧ FirstGood ns k) → Q r { s with heap := h', toks := tk' })
    (F : Fr h₀ L h' m) (N : News h₀ L h' ((D, oD) :: (a, listOf ws.toArray z) :: (c, oc) :: (l, ol) :: news)) (hlt : ∀ p ∈ (c, oc) :: (l, ol) :: news, p.1 < a) (hw : IntsAre ws (ns.take k)) (hk : FirstGood ns k) :
    Q (.ref a) { s with heap := h', toks := tk' } :=
  hret (.ref a) [(a, listOf ws.toArray z)] h' tk' F (fun p hp => N p (by
    simp only [List.cons_append, List.nil_append, List.mem_cons] at hp ⊢
    rcases hp with h | h | h
    · exact .inr (.inl h)
    · exact .inr (.inr (.inr (.inl h)))
    · exact .inr (.inr (.inr (.inr h))))) (fun p hp q hq => by
      rw [List.mem_singleton] at hq
      subst hq
      exact hlt p (.tail _ hp)) ⟨a, ws, z, k, rfl, rfl, hw, hk⟩
theorem root_mul {prog : Program} {w : World} {A : Around} {E : Value → Shared → Prop} {s : Shared} {h₀ : Heap} {L : Addr} {m : Str → Option Value} {news : List (Addr × Obj)} {l : Addr} {vs : List Value} {ns : List Int} {k : Int} {u : MTok} {Q : Value → Shared → Prop}
    (Fm : Fr h₀ L s.heap m) (N : News h₀ L s.heap news) (hl : s.heap.IsList l vs.toArray) (hi : IntsAre vs (ns.take k.toNat)) (hk : 1 ≤ k) (hn : ns.length < 100)
    (h : ∀ D h' ws, Fr h₀ L h' m → News h₀ L h' ((D, listOf ws.toArray 0) :: news) → (∀ p ∈ news, p.1 < D) → IntsAre ws (List.replicate ((ns.length : Int).fdiv k).toNat (ns.take k.toNat)).flatten → Q (.ref D) { s with heap := h' }) :
    wpAny (model prog w) A (binaryOp .Mult (.ref l) (.int ((ns.length : Int).fdiv k) u)) Q E s := by
  have b := fdiv_small (n := ns.length) hk
  refine KM.mul Fm N hl hi (by omega) (by omega) ?_ fun D h' F' N' l1 i1 _ _ _ _ _ => h D h' _ F' N' l1 i1
  rw [hi.length]
  have h1 : (ns.take k.toNat).length ≤ 100 := by rw [List.length_take]; omega
  have h2 : ((ns.length : Int).fdiv k).toNat ≤ 100 := by omega
  exact Nat.le_trans (Nat.mul_le_mul h1 h2) (by decide)

theorem root_gives (l : Addr) (vs : List Value) (n : Nat) (ns : List Int) (hi : IntsAre vs ns) (ho : Octets ns) (h0 : 0 < ns.length) (hl : ns.length < 100) (news) : GivesO w p loose mean mg mb 12 161 [.ref l] ((l, listOf vs.toArray n) :: news) (fun r new => ∃ a ws z k, r = .ref a ∧ new = [(a, listOf ws.toArray z)] ∧ IntsAre ws (ns.take k) ∧ FirstGood ns k) := by
  intro dp un gd env outer A₀ base h₀ L m s Q E B F X N T hf hk hd hu hret
  refine wpAny_call ?_
  k_dflt cell_enter
  repeat' (first
    | ((with_reducible show wpAny _ _ (PySem.exec _ _) _ _ _); k_fold)
    | ((with_reducible show wpAny _ _ (PySem.execs _ _) _ _ _); k_fold)
    | ((with_reducible show wpAny _ _ (PySem.execs _ _) _ _ _); dsimp only)
    | ((with_reducible show LCg.CompEnd _ _ _ _ _ _ _ _ _ _ _ _ _ _); first | with_reducible ((refine' end_none ?Fn ?Nn ?subn ?offn True.intro ?rn); (case offn => assumption); (case rn => (first | exact RootJ.miss (by assumption) (by assumption) | exact RootJ.later (by assumption) (by assumption) (by assumption) | exact RootJ.still (by assumption) (by assumption) (by assumption))); (case Fn => k_asm); (case Nn => k_asm); (case subn => kcf_all)) | ((refine' end_none ?Fn ?Nn ?subn ?offn True.intro ?rn); (case offn => assumption); (case rn => (first | exact RootJ.miss (by assumption) (by assumption) | exact RootJ.later (by assumption) (by assumption) (by assumption) | exact RootJ.still (by assumption) (by assumption) (by assumption))); (case Fn => k_asm); (case Nn => k_asm); (case subn => kcf_all)))
    | ((with_reducible show LCg.CompEnd _ _ _ _ _ _ _ _ _ _ _ _ _ _); (first | ((refine' end_keep ?Fh2 ?Nh2 ?hph2 ?subh2 ?neh2 ?offh2 True.intro ?rkh2); (case offh2 => assumption); (case' rkh2 => refine' RootJ.hit (by assumption) (by assumption) (by assumption) (by assumption) ?lth2); (case Fh2 => k_asm); (case Nh2 => k_asm); (case hph2 => k_mem); (case subh2 => kcf_all); (case neh2 => (rename (_ < _ ∧ _ < _ ∧ _ < _ ∧ _ < _ ∧ _ < _ ∧ _ < _ ∧ _ < _ ∧ AllLt _ _) => q9; obtain ⟨_, _, qI, qC, qD, qb, ql, qn⟩ := q9; first | exact ⟨Nat.ne_of_gt qI, Nat.ne_of_gt qC, Nat.ne_of_gt qD⟩ | exact List.forall_mem_cons.mpr ⟨qb, List.forall_mem_cons.mpr ⟨ql, kst_ltOf qn⟩⟩)); (case lth2 => (rename (_ < _ ∧ _ < _ ∧ _ < _ ∧ _ < _ ∧ _ < _ ∧ _ < _ ∧ _ < _ ∧ AllLt _ _) => q9; obtain ⟨_, _, qI, qC, qD, qb, ql, qn⟩ := q9; first | exact ⟨Nat.ne_of_gt qI, Nat.ne_of_gt qC, Nat.ne_of_gt qD⟩ | exact List.forall_mem_cons.mpr ⟨qb, List.forall_mem_cons.mpr ⟨ql, kst_ltOf qn⟩⟩)))))
    | ((with_reducible show wpAny _ _ (PySem.binaryOp .Mult (Value.ref _) (Value.int _ _)) _ _ _); first | with_reducible ((refine root_mul (by k_asm) (by k_asm) (by is_list) (by assumption) (by omega) (by assumption) ?_); (intro D' h' ws' F' N' l1 i1); (try k_lt l1)) | ((refine root_mul (by k_asm) (by k_asm) (by is_list) (by assumption) (by omega) (by assumption) ?_); (intro D' h' ws' F' N' l1 i1); (try k_lt l1)))
    | ((with_reducible show LCt.CompSrcT _ _ _ _ _ _ _ _ _ _ _ _ _ _ _); (k_dflt (refine LCt.CompSrcT.range (by rfl) (by k_asm) (by k_asm) (by assumption) (by first | decide | exact small_one (by l_bnd) (by l_bnd) (by l_bnd) (by l_bnd)) (by first | exact rangeSize_nat _ _ | rfl) (by first | exact Nat.le_of_ble_eq_true rfl | (rw [PySem.sizeLine_eq]; first | omega | ((have hb9 := len_ints_list (by lay_of)); omega)) | size_fits) ?_; intro g'); (refine' compT_inv (RootJ _ _) (RootJ.start (by assumption)) ?finh1 ?turnh1); (case' finh1 => (intro ys9 nw9 hJ9; obtain ⟨k9, a9, rest9, ws9, z9, e9, f9, hw9, hk9, hlt9⟩ := RootJ.done (by assumption) (by omega) hJ9; subst e9; subst f9)); (case' turnh1 => (intro i9 v9 I9 oI9 C9 oC9 D9 m9 ys9 nw9 h9 tk9 E9 hin9 hv9 hJ9 hC9 hx9 F9 N9 off9 ne9; obtain ⟨t9, g9⟩ := hv9; subst g9; unfold RootJ at hJ9; rcases hJ9 with ⟨e9, f9, hno9⟩ | ⟨k9, a9, rest9, ws9, z9, f9, e9, hw9, hk9, hlt9⟩; all_goals (subst e9; subst f9; have off8 := off9; have hs9 := root_small hin9 (by assumption)))); (all_goals (try (simp only [LCg.Off3, and_true] at off9)))))
    | ((with_reducible show wpAny _ _ (PySem.eval (PySem.Expr.ListComp _ _ _ _) _) _ _ _); (k_dflt (refine LCt.ListComp_T (F₀ := by k_asm) (by with_unfolding_all rfl) (by decide) (by rfl) (by decide) (by rfl) ?_)))
    | (k_unfold; (try dsimp only)) | (k_end; wrow_close) | walk1 | (dsimp only; walk1) | (leave1; try dsimp only) | fail "no step")
  all_goals (exact root_end hret (by k_asm) (by k_asm) (by assumption) (by assumption) (by assumption))
end
-- part G3
section
open PySem PySem.W PyProof.Rows PySem.Calls
set_option maxRecDepth 100000
set_option maxHeartbeats 2000000
/-- the places of a zip of any two sources lie apart -/
structure ZA (z TI TO i1 i2 : Addr) (fp1 fp2 : List Addr) : Prop where
  TIz : TI ≠ z
  TOz : TO ≠ z
  i1z : i1 ≠ z
  i2z : i2 ≠ z
  TITO : TI ≠ TO
  TIi1 : TI ≠ i1
  TIi2 : TI ≠ i2
  TOi1 : TO ≠ i1
  TOi2 : TO ≠ i2
  i12 : i1 ≠ i2
  zf1 : z ∉ fp1
  zf2 : z ∉ fp2
  tf1 : TO ∉ fp1
  tf2 : TO ∉ fp2
  if1 : i2 ∉ fp1
  if2 : i1 ∉ fp2
  m1 : i1 ∈ fp1
  m2 : i2 ∈ fp2
section
variable {prog : Program} {w : World} {A : Around} {E : Value → Shared → Prop} {s : Shared} {z TI TO i1 i2 : Addr} {fp1 fp2 : List Addr} {n1 n2 k : Nat} {P1 P2 : Nat → Value → Prop} {S1 S2 : Nat → Heap → Prop}
theorem drawsBut {it : Addr} {fp : List Addr} {n k : Nat} {P : Nat → Value → Prop} {S : Nat → Heap → Prop} (D : Draws prog w A it fp n P S) {h h' : Heap} {c : Addr} (st : S k h) (hc : c ∉ fp) (hs : Heap.SameBut c h h') : S k h' :=
  D.frame _ _ _ st fun b hb o e => hs.extBut b o (fun q => hc (q ▸ hb)) e
theorem zipD_item {a b : Value} {Q : Value → Shared → Prop} (Z : ZA z TI TO i1 i2 fp1 fp2) (D1 : Draws prog w A i1 fp1 n1 P1 S1) (D2 : Draws prog w A i2 fp2 n2 P2 S2) (l1 : k < n1) (l2 : k < n2)
    (hz : IsZip s.heap z TI TO .none) (hTI : IsPair s.heap TI (.ref i1) (.ref i2)) (hTO : IsPair s.heap TO a b) (h1 : S1 k s.heap) (h2 : S2 k s.heap)
    (hQ : ∀ x y h' tk, P1 k x → P2 k y → IsZip h' z TI TO (rawInt s.heap.objs.size) → IsPair h' TO x y → S1 (k + 1) h' → S2 (k + 1) h' → IsPair h' s.heap.objs.size x y → h'.objs.size = s.heap.objs.size + 1 →
      (∀ c o, c ≠ z → c ≠ TO → c ≠ i1 → c ≠ i2 → s.heap.get? c = some o → h'.get? c = some o) → Q (.ref s.heap.objs.size) { s with heap := h', toks := tk }) :
    wpAny (model prog w) A (Builtin.«zip.__next__» ⟨[.ref z], []⟩) (fun fin s' => ∃ v, fin = .done (.ret v) ∧ Q v s') E s := by
  obtain ⟨hp, g, d, tk₀, os⟩ := s
  show wpAny _ _ (field (.ref z) 2 >>= _) _ _ _
  refine wpAny_bind (wpAny_field hz rfl (x := .bool false) rfl ?_)
  show wpAny _ _ (field (.ref z) 3 >>= _) _ _ _
  refine wpAny_bind (wpAny_field hz rfl (x := .ref TI) rfl ?_)
  refine wpAny_bind (wpAny_seqItems hTI rfl ?_)
  show wpAny _ _ (Builtin.SmallTypes.ownedTupleIsFree (.ref z) >>= _) _ _ _
  refine wpAny_bind ?_
  unfold Builtin.SmallTypes.ownedTupleIsFree
  refine wpAny_bind (wpAny_field hz rfl (x := .none) rfl (wpAny_pure ?_))
  simp only [if_true]
  refine wpAny_bind (wpAny_rule ?_)
  refine wpAny_bind (wpAny_field hz rfl (x := .ref TO) rfl ?_)
  refine wpAny_bind (wpAny_setField_rec hz (by simp) fun h₁ hz₁ hs₁ => ?_)
  replace hz₁ : IsZip h₁ z TI TO .ellipsis := hz₁
  replace hs₁ : Heap.SameBut z hp h₁ := hs₁
  refine wpAny_bind ?_
  simp only [List.zipIdx_cons, List.zipIdx_nil, List.forIn_cons, List.forIn_nil]
  have a1 : S1 k h₁ := drawsBut D1 h1 Z.zf1 hs₁
  have a2 : S2 k h₁ := drawsBut D2 h2 Z.zf2 hs₁
  have aO : IsPair h₁ TO a b := hs₁.extBut _ _ Z.TOz hTO
  refine wpAny_bind (wpAny_bind (wpAny_onRaise ?_))
  show wpAny _ _ (Builtin.SmallTypes.nextOf (.ref i1) >>= _) _ _ ⟨h₁, g, d, tk₀, os⟩
  refine wpAny_bind (D1.item k _ _ _ l1 a1 fun x h₂ tk₂ px b1 hs₂ => wpAny_pure ?_)
  replace hs₂ : Heap.SameBut i1 h₁ h₂ := hs₂
  have b2 : S2 k h₂ := drawsBut D2 a2 Z.if2 hs₂
  have bO : IsPair h₂ TO a b := hs₂.extBut _ _ Z.TOi1 aO
  refine wpAny_bind (wpAny_seqItems (s := ⟨h₂, g, d, tk₂, os⟩) bO rfl ?_)
  refine wpAny_bind (wpAny_updateSeq_pair (s := ⟨h₂, g, d, tk₂, os⟩) bO fun h₃ cO hs₃ => ?_)
  replace cO : IsPair h₃ TO x b := cO
  replace hs₃ : Heap.SameBut TO h₂ h₃ := hs₃
  refine wpAny_bind (wpAny_letGo (wpAny_pure ?_))
  have c1 : S1 (k + 1) h₃ := drawsBut D1 b1 Z.tf1 hs₃
  have c2 : S2 k h₃ := drawsBut D2 b2 Z.tf2 hs₃
  refine wpAny_bind (wpAny_bind (wpAny_onRaise ?_))
  show wpAny _ _ (Builtin.SmallTypes.nextOf (.ref i2) >>= _) _ _ ⟨h₃, g, d, tk₂, os⟩
  refine wpAny_bind (D2.item k _ _ _ l2 c2 fun y h₄ tk₄ py d2 hs₄ => wpAny_pure ?_)
  replace hs₄ : Heap.SameBut i2 h₃ h₄ := hs₄
  have d1 : S1 (k + 1) h₄ := drawsBut D1 c1 Z.if1 hs₄
  have dO : IsPair h₄ TO x b := hs₄.extBut _ _ Z.TOi2 cO
  refine wpAny_bind (wpAny_seqItems (s := ⟨h₄, g, d, tk₄, os⟩) dO rfl ?_)
  refine wpAny_bind (wpAny_updateSeq_pair (s := ⟨h₄, g, d, tk₄, os⟩) dO fun h₅ eO hs₅ => ?_)
  replace eO : IsPair h₅ TO x y := eO
  replace hs₅ : Heap.SameBut TO h₄ h₅ := hs₅
  refine wpAny_bind (wpAny_letGo (wpAny_pure (wpAny_pure ?_)))
  have e1 : S1 (k + 1) h₅ := drawsBut D1 d1 Z.tf1 hs₅
  have e2 : S2 (k + 1) h₅ := drawsBut D2 d2 Z.tf2 hs₅
  refine wpAny_bind (wpAny_seqItems (s := ⟨h₅, g, d, tk₄, os⟩) eO rfl ?_)
  refine wpAny_bind (wpAny_newTuple ?_)
  have hsz : h₅.objs.size = hp.objs.size := by rw [hs₅.1, hs₄.1, hs₃.1, hs₂.1, hs₁.1]
  have hz₅ : IsZip h₅ z TI TO .ellipsis := hs₅.extBut _ _ Z.TOz.symm (hs₄.extBut _ _ Z.i2z.symm (hs₃.extBut _ _ Z.TOz.symm (hs₂.extBut _ _ Z.i1z.symm hz₁)))
  have hk₅ : ∀ c o, c ≠ z → c ≠ TO → c ≠ i1 → c ≠ i2 → hp.get? c = some o → h₅.get? c = some o := fun c o q1 q2 q3 q4 e =>
    hs₅.extBut _ _ q2 (hs₄.extBut _ _ q4 (hs₃.extBut _ _ q2 (hs₂.extBut _ _ q3 (hs₁.extBut _ _ q1 e))))
  have hzlt : z < h₅.objs.size := Heap.lt_size hz₅
  show wpAny _ _ (Builtin.SmallTypes.ownedTupleHandOut (.ref z) (.ref h₅.objs.size) >>= _) _ _ ⟨_, g, d, tk₄, os⟩
  refine wpAny_bind ?_
  unfold Builtin.SmallTypes.ownedTupleHandOut
  have hz₆ : IsZip (h₅.push { cls := .type "tuple", data := .seq #[x, y] }) z TI TO .ellipsis := Heap.get?_push_of_some _ hz₅
  refine wpAny_bind (wpAny_setField_rec hz₆ (by simp) fun h₇ hz₇ hs₇ => ?_)
  replace hz₇ : IsZip h₇ z TI TO (rawInt h₅.objs.size) := hz₇
  refine wpAny_setField_rec hz₇ (by simp) fun h₈ hz₈ hs₈ => ?_
  replace hz₈ : IsZip h₈ z TI TO (rawInt h₅.objs.size) := hz₈
  have up : ∀ c o, c ≠ z → h₅.get? c = some o → h₈.get? c = some o := fun c o c1 e => hs₈.extBut _ _ c1 (hs₇.extBut _ _ c1 (Heap.get?_push_of_some _ e))
  have hT₈ : IsPair h₈ h₅.objs.size x y := hs₈.extBut _ _ (Nat.ne_of_gt hzlt) (hs₇.extBut _ _ (Nat.ne_of_gt hzlt) (Heap.get?_push_size _ rfl))
  have hz8 : h₈.objs.size = h₅.objs.size + 1 := by rw [hs₈.1, hs₇.1, Heap.size_push]
  rw [hsz] at hz₈ hT₈ hz8
  refine wpAny_pure ⟨_, rfl, ?_⟩
  show Q (.ref h₅.objs.size) _
  rw [hsz]
  exact hQ x y h₈ tk₄ px py hz₈ (up _ _ Z.TOz eO) (D1.frame _ _ _ e1 fun c hc o e => up c o (fun q => Z.zf1 (q ▸ hc)) e) (D2.frame _ _ _ e2 fun c hc o e => up c o (fun q => Z.zf2 (q ▸ hc)) e) hT₈ hz8
    fun c o q1 q2 q3 q4 e => up c o q1 (hk₅ c o q1 q2 q3 q4 e)
theorem zipD_end {a b : Value} {Q : Fin → Shared → Prop} (Z : ZA z TI TO i1 i2 fp1 fp2) (D1 : Draws prog w A i1 fp1 n1 P1 S1)
    (hz : IsZip s.heap z TI TO .none) (hTI : IsPair s.heap TI (.ref i1) (.ref i2)) (hTO : IsPair s.heap TO a b) (h1 : S1 n1 s.heap)
    (hE : ∀ h' e, (∀ c o, c ≠ z → c ≠ TO → c ≠ i1 → c ≠ i2 → s.heap.get? c = some o → h'.get? c = some o) → (∃ o, h'.get? e = some o ∧ o.cls = .type "StopIteration") → E (.ref e) { s with heap := h' }) :
    wpAny (model prog w) A (Builtin.«zip.__next__» ⟨[.ref z], []⟩) Q E s := by
  obtain ⟨hp, g, d, tk₀, os⟩ := s
  show wpAny _ _ (field (.ref z) 2 >>= _) _ _ _
  refine wpAny_bind (wpAny_field hz rfl (x := .bool false) rfl ?_)
  show wpAny _ _ (field (.ref z) 3 >>= _) _ _ _
  refine wpAny_bind (wpAny_field hz rfl (x := .ref TI) rfl ?_)
  refine wpAny_bind (wpAny_seqItems hTI rfl ?_)
  show wpAny _ _ (Builtin.SmallTypes.ownedTupleIsFree (.ref z) >>= _) _ _ _
  refine wpAny_bind ?_
  unfold Builtin.SmallTypes.ownedTupleIsFree
  refine wpAny_bind (wpAny_field hz rfl (x := .none) rfl (wpAny_pure ?_))
  simp only [if_true]
  refine wpAny_bind (wpAny_rule ?_)
  refine wpAny_bind (wpAny_field hz rfl (x := .ref TO) rfl ?_)
  refine wpAny_bind (wpAny_setField_rec hz (by simp) fun h₁ hz₁ hs₁ => ?_)
  replace hz₁ : IsZip h₁ z TI TO .ellipsis := hz₁
  replace hs₁ : Heap.SameBut z hp h₁ := hs₁
  refine wpAny_bind ?_
  simp only [List.zipIdx_cons, List.zipIdx_nil, List.forIn_cons, List.forIn_nil]
  refine wpAny_bind (wpAny_bind (wpAny_onRaise ?_))
  show wpAny _ _ (Builtin.SmallTypes.nextOf (.ref i1) >>= _) _ _ ⟨h₁, g, d, tk₀, os⟩
  refine wpAny_bind (D1.done _ _ _ (drawsBut D1 h1 Z.zf1 hs₁) fun h₂ e hs₂ he => ?_)
  obtain ⟨oe, hoe, hce⟩ := he
  have hz₂ : IsZip h₂ z TI TO .ellipsis := hs₂ _ _ Z.i1z.symm hz₁
  have hez : e ≠ z := fun x => by subst x; rw [hz₂] at hoe; cases hoe; simp at hce
  refine wpAny_setField_rec hz₂ (by simp) fun h₃ _ hs₃ => hE h₃ e (fun c o c1 _ c3 _ x => hs₃.extBut _ _ c1 (hs₂ _ _ c3 (hs₁.extBut _ _ c1 x))) ⟨oe, hs₃.extBut _ _ hez hoe, hce⟩
theorem WalksT.zipD (Z : ZA z TI TO i1 i2 fp1 fp2) (hh : A.handled = none) {n : Nat} (D1 : Draws prog w A.in1 i1 fp1 n P1 S1) (D2 : Draws prog w A.in1 i2 fp2 n P2 S2) (hTI1 : TI ∉ fp1) (hTI2 : TI ∉ fp2) :
    WalksT prog w A z (z :: TI :: TO :: (fp1 ++ fp2)) [z, TO, i1, i2] n
      (fun i vals => ∃ x y, P1 i x ∧ P2 i y ∧ vals = #[x, y])
      (fun i h => IsZip h z TI TO .none ∧ IsPair h TI (.ref i1) (.ref i2) ∧ (∃ a b, IsPair h TO a b) ∧ S1 i h ∧ S2 i h)
      (fun i T h => IsZip h z TI TO (rawInt T) ∧ IsPair h TI (.ref i1) (.ref i2) ∧ (∃ a b, IsPair h TO a b) ∧ S1 (i + 1) h ∧ S2 (i + 1) h ∧ T ≠ z ∧ T ≠ TO ∧ T ≠ i1 ∧ T ≠ i2) where
  sub := fun c hc => by
    simp only [List.mem_cons, List.not_mem_nil, or_false] at hc
    simp only [List.mem_cons, List.mem_append]
    rcases hc with rfl | rfl | rfl | rfl
    · simp
    · simp
    · simp [Z.m1]
    · simp [Z.m2]
  frame := fun i h h' hst hk => by
    obtain ⟨hz, hTI, ⟨a, b, hTO⟩, h1, h2⟩ := hst
    exact ⟨hk z (by simp) _ hz, hk TI (by simp) _ hTI, ⟨a, b, hk TO (by simp) _ hTO⟩, D1.frame _ _ _ h1 fun b hb o e => hk b (by simp [hb]) o e, D2.frame _ _ _ h2 fun b hb o e => hk b (by simp [hb]) o e⟩
  item := fun i s Q E hi hst hQ => by
    obtain ⟨hz, hTI, ⟨a, b, hTO⟩, h1, h2⟩ := hst
    have hT : s.TypeIs (.ref z) "zip" := ⟨_, hz, rfl⟩
    have lt : ∀ {c o}, s.heap.get? c = some o → s.heap.objs.size ≠ c := fun e => Nat.ne_of_gt (Heap.lt_size e)
    unfold pyNext
    refine wpAny_bind (wpAny_attempt (wpAny_callSpecial?_slot (name := Str.ofString "__next__") hT F.slot_zip_next
      (wpAny_call_entry F.slot_zip_next hT F.entry_zip_next (zipD_item Z D1 D2 hi hi hz hTI hTO h1 h2 fun x y h' tk px py a1 a2 a3 a4 a5 a6 hk => wpAny_pure ?_) (F.args_zip_next_1 _))))
    exact hQ s.heap.objs.size #[x, y] h' tk ⟨x, y, px, py, rfl⟩ (Nat.le_refl _) ⟨_, a5, rfl, _, rfl⟩
      ⟨a1, hk _ _ Z.TIz Z.TITO Z.TIi1 Z.TIi2 hTI, ⟨_, _, a2⟩, a3, a4, lt hz, lt hTO, (by obtain ⟨_, e⟩ := D1.live _ _ h1; exact lt e), (by obtain ⟨_, e⟩ := D2.live _ _ h2; exact lt e)⟩
      fun c o hc e => hk c o (fun x => hc (by simp [x])) (fun x => hc (by simp [x])) (fun x => hc (by simp [x])) (fun x => hc (by simp [x])) e
  go := fun elts k pos i T s Q E hm hQ => by
    obtain ⟨hz, hTI, ⟨a, b, hTO⟩, h1, h2, _⟩ := hm
    refine wpAny_letOwnedTupleGo_zip hz fun h' hz' hs' => hQ h' ⟨hz', hs'.extBut _ _ Z.TIz hTI, ⟨a, b, hs'.extBut _ _ Z.TOz hTO⟩, drawsBut D1 h1 Z.zf1 hs', drawsBut D2 h2 Z.zf2 hs'⟩ fun c o hc e => hs'.extBut _ _ (fun x => hc (by simp [x])) e
  apart := fun i T h hm hT => by
    obtain ⟨_, _, _, _, _, t1, t2, t3, t4⟩ := hm
    simp only [List.mem_cons, List.not_mem_nil, or_false] at hT
    rcases hT with rfl | rfl | rfl | rfl
    · exact t1 rfl
    · exact t2 rfl
    · exact t3 rfl
    · exact t4 rfl
  done := fun s Q E hst hQ => by
    obtain ⟨hz, hTI, ⟨a, b, hTO⟩, h1, h2⟩ := hst
    have hT : s.TypeIs (.ref z) "zip" := ⟨_, hz, rfl⟩
    unfold pyNext
    refine wpAny_bind (wpAny_attempt (wpAny_callSpecial?_slot (name := Str.ofString "__next__") hT F.slot_zip_next
      (wpAny_call_entry F.slot_zip_next hT F.entry_zip_next (zipD_end Z D1 hz hTI hTO h1 fun h' e hk he => ?_) (F.args_zip_next_1 _))))
    obtain ⟨o, ho, hc⟩ := he
    refine wpAny_bind (wpAny_isInstance (T := "StopIteration") (b := true) ⟨o, ho, hc⟩ isSubtype_stop ?_)
    exact wpAny_pure (hQ _ _ fun c o hc e => hk c o (fun x => hc (by simp [x])) (fun x => hc (by simp [x])) (fun x => hc (by simp [x])) (fun x => hc (by simp [x])) e)
  self := fun i s Q E hst hQ => wpAny_pyIter_zip hst.1 hQ
end
section
open LCg LCp
variable {prog : Program} {w : World} {A : Around} {E : Value → Shared → Prop} {h₀ : Heap} {L : Addr} {m : Str → Option Value} {env : Env}
/-- the objects of a footprint, as they lie -/
noncomputable def ownAt (h : Heap) (I : Addr) (fp : List Addr) : List (Addr × Obj) := (fp.filter fun b => decide (b ≠ I)).filterMap fun b => (h.get? b).map fun o => (b, o)
theorem mem_ownAt {h : Heap} {I : Addr} {fp : List Addr} {p : Addr × Obj} : p ∈ ownAt h I fp ↔ p.1 ∈ fp ∧ p.1 ≠ I ∧ h.get? p.1 = some p.2 := by
  unfold ownAt
  rw [List.mem_filterMap]
  constructor
  · rintro ⟨b, hb, he⟩
    obtain ⟨o, ho, rfl⟩ := Option.map_eq_some_iff.mp he
    rw [List.mem_filter] at hb
    exact ⟨hb.1, of_decide_eq_true hb.2, ho⟩
  · rintro ⟨h1, h2, h3⟩
    exact ⟨p.1, List.mem_filter.mpr ⟨h1, decide_eq_true h2⟩, by rw [h3]; rfl⟩
/-- a comprehension over a source of pairs, by an invariant of its turns that keeps no object -/
theorem block_T {elt iter : Expr} {x x₂ : Str} {px px₂ tp : Pos} {tk} {scope : Scope} {cl : List (Str × Addr)} {pos : Pos} {s₂ : Shared} {I : Addr} {fp wr : List Addr} {n : Nat} {Pt : Nat → Array Value → Prop} {P2 : Nat → Value → Value → Prop} {St : Nat → Heap → Prop} {Mid : Nat → Addr → Heap → Prop} {news : List (Addr × Obj)}
    {RR : Value → Addr → Result → Shared → Prop} (J : Nat → List Value → Prop)
    (W : WalksT prog w A I fp wr n Pt St Mid) (hI : I ∈ fp) (hPt : ∀ i vals, Pt i vals → ∃ v0 v1, vals = #[v0, v1] ∧ P2 i v0 v1) (hsz : n ≤ sizeLine) (hlive : ∀ i h, St i h → ∃ o, h.get? I = some o)
    (hcell : ∀ y ∈ scope.names, y.2 ≠ .cell) (hkind : scope.kind = .function) (hx : scope.names.lookup x = some .local) (hx₂ : scope.names.lookup x₂ = some .local) (hxx : x ≠ x₂) (hh : A.handled = none) (hst : St 0 s₂.heap) (hfp : ∀ b ∈ fp, b < s₂.heap.objs.size)
    (F : Fr h₀ L s₂.heap m) (N : News h₀ L s₂.heap news) (hLf : L ∉ fp) (hnew : ∀ b ∈ fp, h₀.get? b = none) (off : ∀ p ∈ news, p.1 ∉ wr) (offI : ∀ p ∈ news, p.1 ≠ I)
    (h0 : J 0 [])
    (turn : ∀ i v0 v1 oI C oC D m₂ ys own h tk (E' : Value → Shared → Prop), i < n → P2 i v0 v1 → J i ys → NsObj oC m₂ → m₂ x = some v0 → m₂ x₂ = some v1 → Fr h₀ L h m → News h₀ L h ((I, oI) :: (C, oC) :: (D, lst ys) :: (own ++ news)) → Off3 I C D (own ++ news) → ((@Ne Nat I C) ∧ (@Ne Nat I D) ∧ (@Ne Nat C D)) →
      wpAny (model prog w) A (eval elt (compEnvC scope cl C env)) (CompEnd h₀ L m { s₂ with heap := h, toks := tk } I oI C oC D (lst ys) (fun nw => ∀ p ∈ own ++ news, p ∈ nw) (fun y _ => J (i + 1) (ys ++ [y]))) E' { s₂ with heap := h, toks := tk })
    (hRR : ∀ D C h tk m' ys, Fr h₀ L h m → News h₀ L h ((D, lst ys) :: news) → Off1 D news → h.Ns C m' → h₀.get? C = none → h₀.get? D = none → C ≠ L → D ≠ L → C ≠ D → (∀ p ∈ news, p.1 ≠ C) → ys.length = n → J n ys → RR (.ref D) C (.ok .next) { s₂ with heap := h, toks := tk }) :
    wpAny (model prog w) A (newList []) (fun acc s₃ => wpAny (model prog w) A (newFunctionEnv scope env.globals cl [] env.qual none .none (some env)) (fun cenv s₄ =>
      codeAny (model prog w) A (.compStart (.ListComp elt [⟨.Tuple [.Name x px, .Name x₂ px₂] tk tp, iter, [], 0⟩] scope pos) 0 (.ref I) acc { cenv with scope := relabel scope env }) (RR acc cenv.locals) s₄) E s₃) E s₂ := by
  refine wpAny_newObj_type (wpAny_newFunctionEnv hcell (by intro y hy; simp at hy) (fun h₁ hns₁ hsb₁ => ?_) hkind)
  dsimp only at hns₁ hsb₁ ⊢
  generalize hH2 : s₂.heap.push { cls := .type "list", dict := none, data := .seq ([] : List Value).toArray } = H2 at hns₁ hsb₁ ⊢
  have hC : H2.objs.size = s₂.heap.objs.size + 1 := by rw [← hH2, Heap.size_push]
  have hDC : s₂.heap.objs.size ≠ H2.objs.size := by rw [hC]; exact Nat.ne_of_lt (Nat.lt_succ_self _)
  have below : ∀ b, b < s₂.heap.objs.size → b ≠ H2.objs.size ∧ b ≠ s₂.heap.objs.size := fun b hb => ⟨by rw [hC]; exact Nat.ne_of_lt (Nat.lt_succ_of_lt hb), Nat.ne_of_lt hb⟩
  have hDf : s₂.heap.objs.size ∉ fp := fun hm => Nat.lt_irrefl _ (hfp _ hm)
  have hCf : H2.objs.size ∉ fp := fun hm => by have := hfp _ hm; rw [hC] at this; exact Nat.lt_irrefl _ (Nat.lt_of_succ_lt this)
  have hIlt : I < s₂.heap.objs.size := hfp I hI
  have old : ∀ b o, s₂.heap.get? b = some o → h₁.get? b = some o := fun b o e => hsb₁.extBut b o (below b (Heap.lt_size e)).1 (Heap.get?_push_of_some _ (hH2 ▸ Heap.get?_push_of_some _ e))
  have hacc : h₁.get? s₂.heap.objs.size = some (lst []) := hsb₁.extBut _ _ hDC (Heap.get?_push_of_some _ (hH2 ▸ Heap.get?_push_size _ rfl))
  have hst₁ : St 0 h₁ := W.frame _ _ _ hst fun b _ o e => old b o e
  have fresh : ∀ a, s₂.heap.objs.size ≤ a → s₂.heap.get? a = none := fun a ha => by
    cases e : s₂.heap.get? a with
    | none => rfl
    | some o' => exact absurd (Heap.lt_size e) (Nat.not_lt.mpr ha)
  have fresh₀ : ∀ a, s₂.heap.objs.size ≤ a → h₀.get? a = none := fun a ha => by
    cases e : h₀.get? a with
    | none => rfl
    | some o' => have := F.keep a o' e; rw [fresh a ha] at this; cases this
  have hD₀ : h₀.get? s₂.heap.objs.size = none := fresh₀ _ (Nat.le_refl _)
  have hC₀ : h₀.get? H2.objs.size = none := fresh₀ _ (by rw [hC]; exact Nat.le_succ _)
  have hLlt : L < s₂.heap.objs.size := F.ns.lt
  have hDL : s₂.heap.objs.size ≠ L := Ne.symm (below L hLlt).2
  have hCL : H2.objs.size ≠ L := Ne.symm (below L hLlt).1
  have hCI : I ≠ H2.objs.size := (below I hIlt).1
  have hDI : I ≠ s₂.heap.objs.size := (below I hIlt).2
  have hLw : L ∉ wr := fun h => hLf (W.sub _ h)
  have hwr : ∀ b ∈ wr, h₀.get? b = none := fun b hb => hnew b (W.sub _ hb)
  have hnb : ∀ p ∈ news, p.1 ≠ H2.objs.size ∧ p.1 ≠ s₂.heap.objs.size := fun p hp => below _ (Heap.lt_size (N p hp).1)
  have frw : ∀ {h h' : Heap}, Fr h₀ L h m → (∀ b o, b ∉ wr → h.get? b = some o → h'.get? b = some o) → Fr h₀ L h' m := fun F' hk =>
    ⟨F'.ns.at' fun o e => hk L o hLw e, fun b o e => hk b o (fun hm => by rw [hwr b hm] at e; cases e) (F'.keep b o e), F'.above⟩
  have loop : ∀ s₃ : Shared, s₃ = { s₂ with heap := h₁, toks := s₂.toks + ([] : List (Str × Value)).length } →
      codeAny (model prog w) A (.compLoop (.ListComp elt [⟨.Tuple [.Name x px, .Name x₂ px₂] tk tp, iter, [], 0⟩] scope pos) 0 (.ref I) (.ref s₂.heap.objs.size) (compEnvC scope cl H2.objs.size env))
        (RR (.ref s₂.heap.objs.size) H2.objs.size) s₃ := by
    rintro s₃ rfl
    refine codeAny_compLoop_pair
      (fun k s' => ∃ h' tk i ys m', s' = { s₂ with heap := h', toks := tk } ∧ i ≤ n ∧ k = n + 1 - i ∧ ys.length = i ∧ St i h' ∧ Fr h₀ L h' m ∧ h'.Ns H2.objs.size m' ∧ News h₀ L h' ((s₂.heap.objs.size, lst ys) :: news) ∧ J i ys) ?_ (n + 1)
      ⟨h₁, _, 0, [], _, rfl, Nat.zero_le _, rfl, rfl, hst₁, F.keeps old, hns₁, fun p hp => ?_, h0⟩
    · rintro k s' ⟨h', tk, i, ys, m', rfl, hi, rfl, hyl, hst', F', hn', N', hJ⟩
      have nwr : ∀ {h h' : Heap}, (∀ b o, b ∉ wr → h.get? b = some o → h'.get? b = some o) → News h₀ L h ((s₂.heap.objs.size, lst ys) :: news) → News h₀ L h' ((s₂.heap.objs.size, lst ys) :: news) := fun hk N₁ p hp => by
        refine ⟨hk _ _ ?_ (N₁ p hp).1, (N₁ p hp).2⟩
        rcases List.mem_cons.mp hp with rfl | hp
        · exact fun hm => hDf (W.sub _ hm)
        · exact off p hp
      by_cases hlt : i < n
      · refine W.item i _ _ _ hlt hst' fun T vals h₂ tk₂ hPv hTs hT hmid hk₂ => ?_
        obtain ⟨v0, v1, rfl, hP⟩ := hPt _ _ hPv
        refine W.go _ _ _ _ _ _ _ _ hmid fun h₄ hst₄ hk₄ => ?_
        have ht₄ : IsTup h₄ T #[v0, v1] := by
          obtain ⟨o, ho, hc, hd⟩ := hT
          exact ⟨o, hk₄ _ _ (W.apart _ _ _ hmid) ho, hc, hd⟩
        have F₄ := frw (frw F' hk₂) hk₄
        have N₄ := nwr hk₄ (nwr hk₂ N')
        have hn₄ : h₄.Ns H2.objs.size m' := (hn'.at' fun o e => hk₂ _ o (fun hm => hCf (W.sub _ hm)) e).at' fun o e => hk₄ _ o (fun hm => hCf (W.sub _ hm)) e
        refine assign_Tuple_tuple hh ht₄ rfl rfl fun h₅ he => ?_
        have he' : ∀ b o, h₄.get? b = some o → h₅.get? b = some o := fun b o e => he b o (Nat.ne_of_lt (Heap.lt_size e)) e
        refine assignInOrder_cons (wpAny_assign_Name (wpAny_storeName_local (lookup_relabel_local hx) (hn₄.at' fun o e => he' _ o e) (fun h₆ hn₆ hs₆ => ?_) (by simp [compEnvC, relabel, hkind])))
        refine assignInOrder_cons (wpAny_assign_Name (wpAny_storeName_local (lookup_relabel_local hx₂) hn₆ (fun h₃ hn₃ hs₃ => ?_) (by simp [compEnvC, relabel, hkind])))
        refine assignInOrder_nil ?_
        have old3 : ∀ b o, b ≠ H2.objs.size → h₄.get? b = some o → h₃.get? b = some o := fun b o hb e => hs₃.extBut b o hb (hs₆.extBut b o hb (he' b o e))
        have hst₃ : St (i + 1) h₃ := W.frame _ _ _ hst₄ fun b hb o e => old3 b o (fun q => hCf (by rw [← q]; exact hb)) e
        obtain ⟨oI, heI⟩ := hlive _ _ hst₃
        obtain ⟨oC, heC, hoC⟩ := ns_obj hn₃
        have F₃ : Fr h₀ L h₃ m := ((F₄.keeps he').change hs₆ hCL hC₀).change hs₃ hCL hC₀
        have N₃ : News h₀ L h₃ ((I, oI) :: (H2.objs.size, oC) :: (s₂.heap.objs.size, lst ys) :: (ownAt h₃ I fp ++ news)) := fun p hp => by
          rcases List.mem_cons.mp hp with rfl | hp
          · exact ⟨heI, fun q => hLf (q ▸ hI), hnew _ hI⟩
          rcases List.mem_cons.mp hp with rfl | hp
          · exact ⟨heC, hCL, hC₀⟩
          rcases List.mem_cons.mp hp with rfl | hp
          · have zz := N₄ _ (List.mem_cons_self ..)
            exact ⟨old3 _ _ hDC zz.1, zz.2⟩
          rcases List.mem_append.mp hp with hp | hp
          · obtain ⟨q1, _, q3⟩ := mem_ownAt.mp hp
            exact ⟨q3, fun q => hLf (q ▸ q1), hnew _ q1⟩
          · have zz := N₄ p (List.mem_cons_of_mem _ hp)
            exact ⟨old3 _ _ (hnb p hp).1 zz.1, zz.2⟩
        have off₃ : Off3 I H2.objs.size s₂.heap.objs.size (ownAt h₃ I fp ++ news) := Off3.of fun p hp => by
          rcases List.mem_append.mp hp with hp | hp
          · obtain ⟨q1, q2, _⟩ := mem_ownAt.mp hp
            exact ⟨q2, (below _ (hfp _ q1)).1, (below _ (hfp _ q1)).2⟩
          · exact ⟨offI p hp, hnb p hp⟩
        refine wpAny_mono (turn i v0 v1 oI H2.objs.size oC s₂.heap.objs.size _ ys _ h₃ _ _ hlt hP hJ hoC (by simp [hxx]) (by simp) F₃ N₃ off₃ ⟨hCI, hDI, Ne.symm hDC⟩) (fun y s₄ h₄' => ?_) fun _ _ e => e
        obtain ⟨h₇, tk₇, news₇, rfl, F₇, N₇, off₇, hS₇, hJ₇⟩ := h₄'
        have zC := (N₇ (H2.objs.size, oC) (List.mem_cons_of_mem _ List.mem_cons_self)).1
        have zD := (N₇ (s₂.heap.objs.size, lst ys) (List.mem_cons_of_mem _ (List.mem_cons_of_mem _ List.mem_cons_self))).1
        have zI := (N₇ (I, oI) List.mem_cons_self).1
        have in7 : ∀ p ∈ ownAt h₃ I fp ++ news, h₇.get? p.1 = some p.2 ∧ p.1 ≠ L ∧ h₀.get? p.1 = none := fun p hp => N₇ p (List.mem_cons_of_mem _ (List.mem_cons_of_mem _ (List.mem_cons_of_mem _ (hS₇ p hp))))
        have hst₇ : St (i + 1) h₇ := W.frame _ _ _ hst₃ fun b hb o e => by
          by_cases hbI : b = I
          · subst hbI
            rw [heI] at e
            exact e ▸ zI
          · exact (in7 (b, o) (List.mem_append_left _ (mem_ownAt.mpr ⟨hb, hbI, e⟩))).1
        refine append_at (hsz := by show ys.toArray.size ≤ sizeLine; rw [List.size_toArray, hyl]; exact Nat.le_trans hi hsz) zD fun h₈ hs₈ hD₈ => ?_
        refine ⟨n + 1 - (i + 1), by omega, h₈, tk₇, i + 1, ys ++ [y], _, rfl, hlt, rfl, by rw [List.length_append, List.length_singleton, hyl], W.frame _ _ _ hst₇ fun b hb o e => hs₈.extBut b o (fun q => hDf (q ▸ hb)) e, F₇.change hs₈ hDL hD₀,
          (hoC.ns zC).sameBut hs₈ (Ne.symm hDC), fun p hp => ?_, hJ₇⟩
        rcases List.mem_cons.mp hp with rfl | hp
        · exact ⟨hD₈.trans (congrArg some (lst_snoc ys y)), hDL, hD₀⟩
        · have q := in7 p (List.mem_append_right _ hp)
          exact ⟨hs₈.extBut _ _ (hnb p hp).2 q.1, q.2⟩
      · obtain rfl : i = n := Nat.le_antisymm hi (Nat.not_lt.mp hlt)
        refine W.done _ _ _ hst' fun h₂ tk₂ hk₂ => ?_
        exact hRR _ _ h₂ tk₂ _ ys (frw F' hk₂) (nwr hk₂ N') (Off3.one (Off3.of (I := I) (C := H2.objs.size) fun p hp => ⟨offI p hp, hnb p hp⟩)) (hn'.at' fun o e => hk₂ _ o (fun hm => hCf (W.sub _ hm)) e) hC₀ hD₀ hCL hDL (Ne.symm hDC) (fun p hp => (hnb p hp).1) hyl hJ
    · rcases List.mem_cons.mp hp with rfl | hp
      · exact ⟨hacc, hDL, hD₀⟩
      · exact ⟨old _ _ (N p hp).1, (N p hp).2⟩
  exact codeAny_compStart_list (loop _ rfl) (W.self 0 _ _ _ hst₁ (loop _ rfl))
end
end
-- part G4
section
open PySem PySem.W PyProof.Rows PySem.Calls
set_option maxRecDepth 100000
set_option maxHeartbeats 2000000
open LCg LCp
section
variable {prog : Program} {w : World} {A : Around} {E : Value → Shared → Prop} {s : Shared} {h₀ : Heap} {L : Addr} {m : Str → Option Value} {env : Env}
/-- what a zip of two rows of texts must bring to a comprehension over it -/
inductive SrcZ (prog : Program) (w : World) (A : Around) (h₀ : Heap) (L : Addr) (m : Str → Option Value) (env : Env) (elt : Expr) (x x₂ : Str) (scope : Scope) (cl : List (Str × Addr)) (Q : Value → Shared → Prop) (xv : Value) (s₁ : Shared) : Prop
  | intro (I : Addr) (fp wr : List Addr) (n : Nat) (Pt : Nat → Array Value → Prop) (P2 : Nat → Value → Value → Prop) (St : Nat → Heap → Prop) (Mid : Nat → Addr → Heap → Prop) (news : List (Addr × Obj)) (J : Nat → List Value → Prop) (_ : xv = .ref I) (_ : WalksT prog w A I fp wr n Pt St Mid) (_ : I ∈ fp) (_ : ∀ i vals, Pt i vals → ∃ v0 v1, vals = #[v0, v1] ∧ P2 i v0 v1) (_ : n ≤ sizeLine) (_ : ∀ i h, St i h → ∃ o, h.get? I = some o) (_ : A.handled = none) (_ : St 0 s₁.heap) (_ : ∀ b ∈ fp, b < s₁.heap.objs.size) (_ : Fr h₀ L s₁.heap m) (_ : News h₀ L s₁.heap news) (_ : L ∉ fp) (_ : ∀ b ∈ fp, h₀.get? b = none) (_ : ∀ p ∈ news, p.1 ∉ wr) (_ : ∀ p ∈ news, p.1 ≠ I) (_ : J 0 []) (_ : ∀ i v0 v1 oI C oC D m₂ ys own h tk (E' : Value → Shared → Prop), i < n → P2 i v0 v1 → J i ys → NsObj oC m₂ → m₂ x = some v0 → m₂ x₂ = some v1 → Fr h₀ L h m → News h₀ L h ((I, oI) :: (C, oC) :: (D, lst ys) :: (own ++ news)) → Off3 I C D (own ++ news) → ((@Ne Nat I C) ∧ (@Ne Nat I D) ∧ (@Ne Nat C D)) → wpAny (model prog w) A (eval elt (compEnvC scope cl C env)) (CompEnd h₀ L m { s₁ with heap := h, toks := tk } I oI C oC D (lst ys) (fun nw => ∀ p ∈ own ++ news, p ∈ nw) (fun y _ => J (i + 1) (ys ++ [y]))) E' { s₁ with heap := h, toks := tk }) (_ : ∀ ys, ys.length = n → J n ys → FinE h₀ L m s₁ Q ys news) : SrcZ prog w A h₀ L m env elt x x₂ scope cl Q xv s₁
theorem ListComp_Z {elt iter : Expr} {x x₂ : Str} {px px₂ tp : Pos} {tk} {scope : Scope} {cl : List (Str × Addr)} {pos : Pos} {Q : Value → Shared → Prop} (_ : Fr h₀ L s.heap m)
    (hclos : closureFor scope env = pure cl) (hcell : ∀ y ∈ scope.names, y.2 ≠ .cell) (hkind : scope.kind = .function)
    (hnames : ∀ y ∈ scope.names, y.2 = .local → scope.names.lookup y.1 = some .local) (hx : scope.names.lookup x = some .local) (hx₂ : scope.names.lookup x₂ = some .local) (hxx : x ≠ x₂)
    (h : wpAny (model prog w) A (eval iter env) (SrcZ prog w A h₀ L m env elt x x₂ scope cl Q) E s)
    (hs : ∀ x, foldedSetIterable iter env x = pure x) :
    wpAny (model prog w) A (eval (.ListComp elt [⟨.Tuple [.Name x px, .Name x₂ px₂] tk tp, iter, [], 0⟩] scope pos) env) Q E s := by
  rw [eval_ListComp]
  refine wpAny_comprehension_free (use := none) rfl hs hclos hkind hnames (wpAny_mono h (fun xv s₁ h₁ => ?_) fun _ _ e => e)
  obtain ⟨I, fp, wr, n, Pt, P2, St, Mid, news, J, rfl, W, hI, hPt, hsz, hlive, hh, hst, hfp, F, N, hLf, hnew, off, offI, h0, turn, fin⟩ := h₁
  refine W.self 0 _ _ _ hst ?_
  refine block_T J W hI hPt hsz hlive hcell hkind hx hx₂ hxx hh hst hfp F N hLf hnew off offI h0 turn ?_
  intro D C h' tk m' ys F' N' o1 hn hC₀ hD₀ hCL hDL hCD offC hyl hJ
  refine ⟨m', hn, fun h'' hs'' => fin ys hyl hJ D h'' tk (F'.change hs'' hCL hC₀) (fun p hp => ?_) o1⟩
  refine ⟨hs''.extBut _ _ ?_ (N' p hp).1, (N' p hp).2⟩
  rcases List.mem_cons.mp hp with rfl | hp
  · exact Ne.symm hCD
  · exact offC p hp
/-- the results of the turns, by what each pair gives -/
noncomputable def ZipJ (f : Str → Str → Value) (as bs : List Str) (i : Nat) (ys : List Value) : Prop := ys = ((as.zip bs).take i).map fun p => f p.1 p.2
theorem ZipJ.next {f : Str → Str → Value} {as bs : List Str} {i : Nat} {ys : List Value} {a b : Str} {y : Value} (h : ZipJ f as bs i ys) (ha : as[i]? = some a) (hb : bs[i]? = some b) (hy : y = f a b) : ZipJ f as bs (i + 1) (ys ++ [y]) := by
  unfold ZipJ at *
  rw [h, List.take_add_one, zip_get ha hb, hy]
  simp
theorem zip_any {f : Str → Str → Value} {as bs : List Str} {I TI TO i1 i2 : Addr} {fp1 fp2 : List Addr} {n : Nat} {P1 P2 : Nat → Value → Prop} {S1 S2 : Nat → Heap → Prop} {news : List (Addr × Obj)} {elt : Expr} {x x₂ : Str} {scope : Scope} {cl : List (Str × Addr)} {Q : Value → Shared → Prop}
    (Z : ZA I TI TO i1 i2 fp1 fp2) (hh : A.handled = none) (D1 : Draws prog w A.in1 i1 fp1 n P1 S1) (D2 : Draws prog w A.in1 i2 fp2 n P2 S2) (t1 : TI ∉ fp1) (t2 : TI ∉ fp2)
    (p1 : ∀ i v, P1 i v → ∃ a t, as[i]? = some a ∧ v = .str a t) (p2 : ∀ i v, P2 i v → ∃ a t, bs[i]? = some a ∧ v = .str a t) (hn : n = as.length) (hab : as.length = bs.length) (hsz : n ≤ sizeLine)
    (hz : IsZip s.heap I TI TO .none) (hTI : IsPair s.heap TI (.ref i1) (.ref i2)) (hTO : ∃ a b, IsPair s.heap TO a b) (s1 : S1 0 s.heap) (s2 : S2 0 s.heap)
    (hfp : ∀ b ∈ fp1 ++ fp2, b < s.heap.objs.size) (F : Fr h₀ L s.heap m) (N : News h₀ L s.heap news) (hL : ∀ b ∈ I :: TI :: TO :: (fp1 ++ fp2), b ≠ L ∧ h₀.get? b = none) (off : ∀ p ∈ news, p.1 ≠ I ∧ p.1 ≠ TO ∧ p.1 ≠ i1 ∧ p.1 ≠ i2)
    (turn : ∀ (i : Nat) a b ta tb oI C oC D m₂ ys own h tk (E' : Value → Shared → Prop), as[i]? = some a → bs[i]? = some b → NsObj oC m₂ → m₂ x = some (.str a ta) → m₂ x₂ = some (.str b tb) → Fr h₀ L h m → News h₀ L h ((I, oI) :: (C, oC) :: (D, lst ys) :: (own ++ news)) → Off3 I C D (own ++ news) → ((@Ne Nat I C) ∧ (@Ne Nat I D) ∧ (@Ne Nat C D)) →
      wpAny (model prog w) A (eval elt (compEnvC scope cl C env)) (CompEnd h₀ L m { s with heap := h, toks := tk } I oI C oC D (lst ys) (fun nw => ∀ p ∈ own ++ news, p ∈ nw) (fun y _ => y = f a b)) E' { s with heap := h, toks := tk })
    (fin : FinE h₀ L m s Q ((as.zip bs).map fun p => f p.1 p.2) news) : SrcZ prog w A h₀ L m env elt x x₂ scope cl Q (.ref I) s := by
  refine ⟨I, _, _, n, _, (fun i v0 v1 => ∃ a b ta tb, as[i]? = some a ∧ bs[i]? = some b ∧ v0 = .str a ta ∧ v1 = .str b tb), _, _, news, ZipJ f as bs, rfl, WalksT.zipD Z hh D1 D2 t1 t2, List.mem_cons_self .., ?_, hsz, fun i h st => ⟨_, st.1⟩, hh, ⟨hz, hTI, hTO, s1, s2⟩, ?_, F, N,
    fun hm => (hL _ hm).1 rfl, fun b hb => (hL b hb).2, ?_, fun p hp => (off p hp).1, rfl, ?_, ?_⟩
  · rintro i vals ⟨v0, v1, q1, q2, rfl⟩
    obtain ⟨a, ta, ha, rfl⟩ := p1 _ _ q1
    obtain ⟨b, tb, hb, rfl⟩ := p2 _ _ q2
    exact ⟨_, _, rfl, a, b, ta, tb, ha, hb, rfl, rfl⟩
  · intro b hb
    rcases List.mem_cons.mp hb with rfl | hb
    · exact Heap.lt_size hz
    rcases List.mem_cons.mp hb with rfl | hb
    · exact Heap.lt_size hTI
    rcases List.mem_cons.mp hb with rfl | hb
    · obtain ⟨_, _, e⟩ := hTO; exact Heap.lt_size e
    · exact hfp b hb
  · intro p hp hm
    simp only [List.mem_cons, List.not_mem_nil, or_false] at hm
    have := off p hp
    rcases hm with e | e | e | e
    · exact this.1 e
    · exact this.2.1 e
    · exact this.2.2.1 e
    · exact this.2.2.2 e
  · rintro i v0 v1 oI C oC D m₂ ys own h tk E' hi ⟨a, b, ta, tb, ha, hb, rfl, rfl⟩ hJ hC h1 h2 F' N' off' ne
    refine wpAny_mono (turn i a b ta tb oI C oC D m₂ ys own h tk E' ha hb hC h1 h2 F' N' off' ne) (fun y s₂ hq => ?_) fun _ _ e => e
    obtain ⟨h', tk', nw', e, F₂, N₂, o₂, hS, hy⟩ := hq
    exact ⟨h', tk', nw', e, F₂, N₂, o₂, hS, hJ.next ha hb hy⟩
  · intro ys _ hJ
    have : (as.zip bs).take n = as.zip bs := List.take_of_length_le (by simp [hn, ← hab])
    unfold ZipJ at hJ
    rw [this] at hJ
    exact hJ ▸ fin
noncomputable abbrev itS (x : Str) (t : Tok) : Obj := { cls := .type "str_ascii_iterator", data := .fields #[.str x t, .int 0 0] }
noncomputable abbrev zsH1 (h : Heap) (x : Str) (t : Tok) : Heap := h.push (itS x t)
noncomputable abbrev zsH2 (h : Heap) (x y : Str) (t u : Tok) : Heap := (zsH1 h x t).push (itS y u)
noncomputable abbrev zsH3 (h : Heap) (x y : Str) (t u : Tok) : Heap := (zsH2 h x y t u).push { cls := .type "tuple", data := .seq #[.ref h.objs.size, .ref (zsH1 h x t).objs.size] }
noncomputable abbrev zsH4 (h : Heap) (x y : Str) (t u : Tok) : Heap := (zsH3 h x y t u).push { cls := .type "tuple", data := .seq #[.none, .none] }
noncomputable abbrev zsH5 (h : Heap) (x y : Str) (t u : Tok) : Heap := (zsH4 h x y t u).push { cls := .type "zip", data := .fields #[.none, .bool false, .bool false, .ref (zsH2 h x y t u).objs.size, .ref (zsH3 h x y t u).objs.size] }
theorem meets_zip_strs (x y : Str) (t u : Tok) (hx : x.cps.all (· < 128) = true) (hy : y.cps.all (· < 128) = true) :
    Meets (Builtin.«zip.__new__» ⟨[.type "zip", .str x t, .str y u], []⟩) (fun _ R s => R (.ok (.ret (.ref (zsH4 s.heap x y t u).objs.size))) { s with heap := zsH5 s.heap x y t u }) :=
  .of_wp fun prog w A R s h => by
    obtain ⟨hp, g, d, tk, os⟩ := s
    have hsub := sub_zip
    wp_walk using wpAny_pyIter_ascii hx, wpAny_pyIter_ascii hy
    exact ⟨_, rfl, h⟩
theorem call_zip_strs {x y : Str} {t u : Tok} {Q : Value → Shared → Prop} (hx : x.cps.all (· < 128) = true) (hy : y.cps.all (· < 128) = true)
    (h : ∀ h', IsZip h' (s.heap.objs.size + 4) (s.heap.objs.size + 2) (s.heap.objs.size + 3) .none → IsPair h' (s.heap.objs.size + 2) (.ref s.heap.objs.size) (.ref (s.heap.objs.size + 1)) →
      IsPair h' (s.heap.objs.size + 3) .none .none → h'.IsStrIter s.heap.objs.size "str_ascii_iterator" x t 0 → h'.IsStrIter (s.heap.objs.size + 1) "str_ascii_iterator" y u 0 → h'.objs.size = s.heap.objs.size + 5 →
      (∀ c o, s.heap.get? c = some o → h'.get? c = some o) → Q (.ref (s.heap.objs.size + 4)) { s with heap := h' }) :
    wpAny (model prog w) A (call (.type "zip") [.str x t, .str y u]) Q E s := by
  refine callType_new F.called_zip (by decide) (F.typeCall_zip_2 _ _) (F.newCall_zip_2 _ _) (fun obj => F.args_object_init_3 obj _ _) F.entry_zip_new
    (meets_zip_strs x y t u hx hy) ?_
  have z1 : (zsH1 s.heap x t).objs.size = s.heap.objs.size + 1 := Heap.size_push ..
  have z2 : (zsH2 s.heap x y t u).objs.size = s.heap.objs.size + 2 := by rw [Heap.size_push, z1]
  have z3 : (zsH3 s.heap x y t u).objs.size = s.heap.objs.size + 3 := by rw [Heap.size_push, z2]
  have z4 : (zsH4 s.heap x y t u).objs.size = s.heap.objs.size + 4 := by rw [Heap.size_push, z3]
  have z5 : (zsH5 s.heap x y t u).objs.size = s.heap.objs.size + 5 := by rw [Heap.size_push, z4]
  have g5 : (zsH5 s.heap x y t u).get? (zsH4 s.heap x y t u).objs.size = some _ := Heap.get?_push_size _ rfl
  have g4 : (zsH5 s.heap x y t u).get? (zsH3 s.heap x y t u).objs.size = some _ := Heap.get?_push_of_some _ (Heap.get?_push_size _ rfl)
  have g3 : (zsH5 s.heap x y t u).get? (zsH2 s.heap x y t u).objs.size = some _ := Heap.get?_push_of_some _ (Heap.get?_push_of_some _ (Heap.get?_push_size _ rfl))
  have g2 : (zsH5 s.heap x y t u).get? (zsH1 s.heap x t).objs.size = some _ := Heap.get?_push_of_some _ (Heap.get?_push_of_some _ (Heap.get?_push_of_some _ (Heap.get?_push_size _ rfl)))
  have g1 : (zsH5 s.heap x y t u).get? s.heap.objs.size = some _ := Heap.get?_push_of_some _ (Heap.get?_push_of_some _ (Heap.get?_push_of_some _ (Heap.get?_push_of_some _ (Heap.get?_push_size _ rfl))))
  show _ ∧ _
  rw [z2, z3, z4] at g5
  rw [z1, z2] at g3
  rw [z3] at g4
  rw [z1] at g2
  rw [z4]
  exact ⟨⟨_, g5, rfl⟩, h _ g5 g3 g4 ⟨_, g1, rfl, rfl⟩ ⟨_, g2, rfl, rfl⟩ z5 fun c o x =>
    Heap.get?_push_of_some _ (Heap.get?_push_of_some _ (Heap.get?_push_of_some _ (Heap.get?_push_of_some _ (Heap.get?_push_of_some _ x))))⟩
end
end
-- part G5
section
open PySem PySem.W PyProof.Rows PySem.Calls
set_option maxRecDepth 100000
set_option maxHeartbeats 2000000
open LCg LCp
/-- the signs of a text, each a text -/
noncomputable def signs (x : Str) : List Str := x.cps.toList.map fun c => ⟨#[c]⟩
theorem signs_len (x : Str) : (signs x).length = x.length := by simp [signs, Str.length]
theorem signs_get {x : Str} {i c : Nat} (h : x.cps[i]? = some c) : (signs x)[i]? = some ⟨#[c]⟩ := by
  unfold signs
  rw [List.getElem?_map, Array.getElem?_toList, h]
  rfl
section
variable {prog : Program} {w : World} {A : Around} {E : Value → Shared → Prop} {s : Shared} {h₀ : Heap} {L : Addr} {m : Str → Option Value} {env : Env}
noncomputable abbrev ZTurn (prog : Program) (w : World) (A : Around) (s : Shared) (h₀ : Heap) (L : Addr) (m : Str → Option Value) (env : Env) (elt : Expr) (x x₂ : Str) (scope : Scope) (cl : List (Str × Addr)) (f : Str → Str → Value) (as bs : List Str) (news : List (Addr × Obj)) : Prop :=
  ∀ (i : Nat) a b ta tb I oI C oC D m₂ ys own h tk (E' : Value → Shared → Prop), as[i]? = some a → bs[i]? = some b → NsObj oC m₂ → m₂ x = some (.str a ta) → m₂ x₂ = some (.str b tb) → Fr h₀ L h m → News h₀ L h ((I, oI) :: (C, oC) :: (D, lst ys) :: (own ++ news)) → Off3 I C D (own ++ news) → ((@Ne Nat I C) ∧ (@Ne Nat I D) ∧ (@Ne Nat C D)) →
      wpAny (model prog w) A (eval elt (compEnvC scope cl C env)) (CompEnd h₀ L m { s with heap := h, toks := tk } I oI C oC D (lst ys) (fun nw => ∀ p ∈ own ++ news, p ∈ nw) (fun y _ => y = f a b)) E' { s with heap := h, toks := tk }
theorem zipS {f : Str → Str → Value} {x y : Str} {t u : Tok} {xa xb : Str} {elt : Expr} {scope : Scope} {cl : List (Str × Addr)} {Q : Value → Shared → Prop} {news : List (Addr × Obj)} (hh : A.handled = none) (hx : x.cps.all (· < 128) = true) (hy : y.cps.all (· < 128) = true) (hl : x.length = y.length) (hz : x.length ≤ 300)
    (F : Fr h₀ L s.heap m) (N : News h₀ L s.heap news) (turn : ZTurn prog w A s h₀ L m env elt xa xb scope cl f (signs x) (signs y) news) (fin : FinE h₀ L m s Q (((signs x).zip (signs y)).map fun p => f p.1 p.2) news) :
    wpAny (model prog w) A (call (.type "zip") [.str x t, .str y u]) (SrcZ prog w A h₀ L m env elt xa xb scope cl Q) E s := by
  refine call_zip_strs hx hy fun h' hz' hTI hTO hit1 hit2 hsz hk => ?_
  have hLs : L < s.heap.objs.size := F.ns.lt
  have hab : h₀.objs.size ≤ L := F.above
  have nw : ∀ k, h₀.get? (s.heap.objs.size + k) = none := fun k => Heap.get?_none_of_le (Nat.le_trans hab (Nat.le_trans (Nat.le_of_lt hLs) (Nat.le_add_right _ k)))
  have up : ∀ k, s.heap.objs.size + k ≠ L := fun k e => Nat.ne_of_lt (Nat.lt_of_lt_of_le hLs (Nat.le_add_right _ k)) e.symm
  have F' : Fr h₀ L h' m := ⟨F.ns.keeps hk, fun b o e => hk b o (F.keep b o e), F.above⟩
  have N' : News h₀ L h' news := fun p hp => ⟨hk _ _ (N p hp).1, (N p hp).2⟩
  have ne : ∀ {j k : Nat}, j ≠ k → s.heap.objs.size + j ≠ s.heap.objs.size + k := fun h e => h (Nat.add_left_cancel e)
  have ne0 : ∀ {k : Nat}, k ≠ 0 → s.heap.objs.size + k ≠ s.heap.objs.size := fun h e => h (Nat.add_left_cancel (e.trans (Nat.add_zero _).symm))
  have Z : ZA (s.heap.objs.size + 4) (s.heap.objs.size + 2) (s.heap.objs.size + 3) s.heap.objs.size (s.heap.objs.size + 1) [s.heap.objs.size] [s.heap.objs.size + 1] :=
    ⟨ne (by decide), ne (by decide), (ne0 (by decide)).symm, ne (by decide), ne (by decide), ne0 (by decide), ne (by decide), ne0 (by decide), ne (by decide), (ne0 (by decide)).symm,
      by rw [List.mem_singleton]; exact ne0 (by decide), by rw [List.mem_singleton]; exact ne (by decide), by rw [List.mem_singleton]; exact ne0 (by decide), by rw [List.mem_singleton]; exact ne (by decide), by rw [List.mem_singleton]; exact ne0 (by decide), by rw [List.mem_singleton]; exact (ne0 (by decide)).symm, List.mem_singleton.mpr rfl, List.mem_singleton.mpr rfl⟩
  have hn : x.cps.size = x.length := rfl
  have hn2 : y.cps.size = x.length := hl.symm
  refine zip_any (f := f) (as := signs x) (bs := signs y) (s := { s with heap := h' }) Z hh (Draws.strAscii (A := A.in1) hh s.heap.objs.size x t) (hn2.trans hn.symm ▸ Draws.strAscii (A := A.in1) hh (s.heap.objs.size + 1) y u) (by rw [List.mem_singleton]; exact ne0 (by decide)) (by rw [List.mem_singleton]; exact ne (by decide))
    ?_ ?_ (signs_len x).symm (by rw [signs_len, signs_len, hl]) (by rw [hn]; exact Nat.le_trans hz (by decide)) hz' hTI ⟨_, _, hTO⟩ hit1 hit2 ?_ F' N' ?_ ?_ ?_ ?_
  · rintro i v ⟨c, tv, hc, rfl⟩
    exact ⟨_, _, signs_get hc, rfl⟩
  · rintro i v ⟨c, tv, hc, rfl⟩
    exact ⟨_, _, signs_get hc, rfl⟩
  · intro b hb
    simp only [List.singleton_append, List.mem_cons, List.not_mem_nil, or_false] at hb
    show b < h'.objs.size
    rw [hsz]
    rcases hb with rfl | rfl
    · exact Nat.lt_add_of_pos_right (by decide)
    · exact Nat.add_lt_add_left (by decide) _
  · intro b hb
    simp only [List.singleton_append, List.mem_cons, List.not_mem_nil, or_false] at hb
    rcases hb with rfl | rfl | rfl | rfl | rfl
    · exact ⟨up 4, nw 4⟩
    · exact ⟨up 2, nw 2⟩
    · exact ⟨up 3, nw 3⟩
    · exact ⟨up 0, nw 0⟩
    · exact ⟨up 1, nw 1⟩
  · intro p hp
    have hq := Heap.lt_size (N p hp).1
    have dn : ∀ k, p.1 ≠ s.heap.objs.size + k := fun k e => Nat.ne_of_lt (Nat.lt_of_lt_of_le hq (Nat.le_add_right _ k)) e
    exact ⟨dn 4, dn 3, dn 0, dn 1⟩
  · intro i a b ta tb oI C oC D m₂ ys own h tk E' ha hb hC h1 h2 F₂ N₂ o₂ ne₂
    exact turn i a b ta tb _ oI C oC D m₂ ys own h tk E' ha hb hC h1 h2 F₂ N₂ o₂ ne₂
  · exact fin
theorem zipL {f : Str → Str → Value} {l1 l2 : Addr} {vs₁ vs₂ : List Value} {k1 k2 : Nat} {as bs : List Str} {xa xb : Str} {elt : Expr} {scope : Scope} {cl : List (Str × Addr)} {Q : Value → Shared → Prop} {news : List (Addr × Obj)} (hh : A.handled = none) (h1 : AreOf ItemKind.str vs₁ as) (h2 : AreOf ItemKind.str vs₂ bs) (hl : as.length = bs.length) (hz : as.length ≤ 300)
    (F : Fr h₀ L s.heap m) (N : News h₀ L s.heap news) (m1 : (l1, listOf vs₁.toArray k1) ∈ news) (m2 : (l2, listOf vs₂.toArray k2) ∈ news) (turn : ZTurn prog w A s h₀ L m env elt xa xb scope cl f as bs news) (fin : FinE h₀ L m s Q ((as.zip bs).map fun p => f p.1 p.2) news) :
    wpAny (model prog w) A (call (.type "zip") [.ref l1, .ref l2]) (SrcZ prog w A h₀ L m env elt xa xb scope cl Q) E s := by
  have hls1 : s.heap.IsList l1 vs₁.toArray := News.isList N m1
  have hls2 : s.heap.IsList l2 vs₂.toArray := News.isList N m2
  have a1 : l1 < s.heap.objs.size := Heap.lt_size (N _ m1).1
  have a2 : l2 < s.heap.objs.size := Heap.lt_size (N _ m2).1
  have e1 := (N _ m1).2
  have e2 := (N _ m2).2
  refine call_zip_2 hls1 hls2 fun h' hz' hTI hTO hit1 hit2 hsz hk => ?_
  have hLs : L < s.heap.objs.size := F.ns.lt
  have hab : h₀.objs.size ≤ L := F.above
  have nw : ∀ k, h₀.get? (s.heap.objs.size + k) = none := fun k => Heap.get?_none_of_le (Nat.le_trans hab (Nat.le_trans (Nat.le_of_lt hLs) (Nat.le_add_right _ k)))
  have up : ∀ k, s.heap.objs.size + k ≠ L := fun k e => Nat.ne_of_lt (Nat.lt_of_lt_of_le hLs (Nat.le_add_right _ k)) e.symm
  have F' : Fr h₀ L h' m := ⟨F.ns.keeps hk, fun b o e => hk b o (F.keep b o e), F.above⟩
  have N' : News h₀ L h' news := fun p hp => ⟨hk _ _ (N p hp).1, (N p hp).2⟩
  have ne : ∀ {j k : Nat}, j ≠ k → s.heap.objs.size + j ≠ s.heap.objs.size + k := fun h e => h (Nat.add_left_cancel e)
  have ne0 : ∀ {k : Nat}, k ≠ 0 → s.heap.objs.size + k ≠ s.heap.objs.size := fun h e => h (Nat.add_left_cancel (e.trans (Nat.add_zero _).symm))
  have n1 : ∀ k, s.heap.objs.size + k ≠ l1 := fun k e => Nat.ne_of_lt (Nat.lt_of_lt_of_le a1 (Nat.le_add_right _ k)) e.symm
  have n2 : ∀ k, s.heap.objs.size + k ≠ l2 := fun k e => Nat.ne_of_lt (Nat.lt_of_lt_of_le a2 (Nat.le_add_right _ k)) e.symm
  have nm : ∀ {b c d : Addr}, b ≠ c → b ≠ d → b ∉ [c, d] := fun h1 h2 hm => by
    simp only [List.mem_cons, List.not_mem_nil, or_false] at hm
    exact hm.elim h1 h2
  have Z : ZA (s.heap.objs.size + 4) (s.heap.objs.size + 2) (s.heap.objs.size + 3) s.heap.objs.size (s.heap.objs.size + 1) [s.heap.objs.size, l1] [s.heap.objs.size + 1, l2] :=
    ⟨ne (by decide), ne (by decide), (ne0 (by decide)).symm, ne (by decide), ne (by decide), ne0 (by decide), ne (by decide), ne0 (by decide), ne (by decide), (ne0 (by decide)).symm,
      nm (ne0 (by decide)) (n1 4), nm (ne (by decide)) (n2 4), nm (ne0 (by decide)) (n1 3), nm (ne (by decide)) (n2 3), nm (ne0 (by decide)) (n1 1), nm (ne0 (by decide)).symm (n2 0), List.mem_cons_self .., List.mem_cons_self ..⟩
  have s1 : vs₁.toArray.size = as.length := by simp [h1.length]
  have s2 : vs₂.toArray.size = vs₁.toArray.size := by simp [h1.length, h2.length, hl]
  refine zip_any (f := f) (as := as) (bs := bs) (s := { s with heap := h' }) Z hh (Draws.list (A := A.in1) hh s.heap.objs.size l1 (n1 0).symm vs₁.toArray) (s2 ▸ Draws.list (A := A.in1) hh (s.heap.objs.size + 1) l2 (n2 1).symm vs₂.toArray) (nm (ne0 (by decide)) (n1 2)) (nm (ne (by decide)) (n2 2))
    ?_ ?_ s1 hl (by rw [s1]; exact Nat.le_trans hz (by decide)) hz' hTI ⟨_, _, hTO⟩ ⟨hit1, hls1.at fun o e => hk _ o e⟩ ⟨hit2, hls2.at fun o e => hk _ o e⟩ ?_ F' N' ?_ ?_ ?_ ?_
  · intro i v hv
    obtain ⟨a, ha, ka⟩ := h1.get i v (by simpa using hv)
    obtain ⟨ta, rfl⟩ := ItemKind.str_is ka
    exact ⟨a, ta, ha, rfl⟩
  · intro i v hv
    obtain ⟨a, ha, ka⟩ := h2.get i v (by simpa using hv)
    obtain ⟨ta, rfl⟩ := ItemKind.str_is ka
    exact ⟨a, ta, ha, rfl⟩
  · intro b hb
    simp only [List.cons_append, List.nil_append, List.mem_cons, List.not_mem_nil, or_false] at hb
    show b < h'.objs.size
    rw [hsz]
    rcases hb with rfl | rfl | rfl | rfl
    · exact Nat.lt_add_of_pos_right (by decide)
    · exact Nat.lt_of_lt_of_le a1 (Nat.le_add_right _ _)
    · exact Nat.add_lt_add_left (by decide) _
    · exact Nat.lt_of_lt_of_le a2 (Nat.le_add_right _ _)
  · intro b hb
    simp only [List.cons_append, List.nil_append, List.mem_cons, List.not_mem_nil, or_false] at hb
    rcases hb with rfl | rfl | rfl | rfl | rfl | rfl | rfl
    · exact ⟨up 4, nw 4⟩
    · exact ⟨up 2, nw 2⟩
    · exact ⟨up 3, nw 3⟩
    · exact ⟨up 0, nw 0⟩
    · exact e1
    · exact ⟨up 1, nw 1⟩
    · exact e2
  · intro p hp
    have hq := Heap.lt_size (N p hp).1
    have dn : ∀ k, p.1 ≠ s.heap.objs.size + k := fun k e => Nat.ne_of_lt (Nat.lt_of_lt_of_le hq (Nat.le_add_right _ k)) e
    exact ⟨dn 4, dn 3, dn 0, dn 1⟩
  · intro i a b ta tb oI C oC D m₂ ys own h tk E' ha hb hC h1 h2 F₂ N₂ o₂ ne₂
    exact turn i a b ta tb _ oI C oC D m₂ ys own h tk E' ha hb hC h1 h2 F₂ N₂ o₂ ne₂
  · exact fin
/-- at which places two rows of texts part -/
noncomputable def parts (as bs : List Str) : List Bool := (as.zip bs).map fun p => p.1 != p.2
noncomputable abbrev ZTurnB (prog : Program) (w : World) (A : Around) (s : Shared) (h₀ : Heap) (L : Addr) (m : Str → Option Value) (env : Env) (elt : Expr) (x x₂ : Str) (scope : Scope) (cl : List (Str × Addr)) (as bs : List Str) (news : List (Addr × Obj)) : Prop :=
  ∀ (i : Nat) a b ta tb I oI C oC D m₂ ys own h tk (E' : Value → Shared → Prop), as[i]? = some a → bs[i]? = some b → a.length ≤ 300 → b.length ≤ 300 → NsObj oC m₂ → m₂ x = some (.str a ta) → m₂ x₂ = some (.str b tb) → Fr h₀ L h m → News h₀ L h ((I, oI) :: (C, oC) :: (D, lst ys) :: (own ++ news)) → Off3 I C D (own ++ news) → ((@Ne Nat I C) ∧ (@Ne Nat I D) ∧ (@Ne Nat C D)) →
      wpAny (model prog w) A (eval elt (compEnvC scope cl C env)) (CompEnd h₀ L m { s with heap := h, toks := tk } I oI C oC D (lst ys) (fun nw => ∀ p ∈ own ++ news, p ∈ nw) (fun y _ => y = .bool ((a != b) == true))) E' { s with heap := h, toks := tk }
/-- the list that is made, told with its length -/
noncomputable abbrev FinB (h₀ : Heap) (L : Addr) (m : Str → Option Value) (s : Shared) (Q : Value → Shared → Prop) (bs : List Bool) (news : List (Addr × Obj)) : Prop :=
  ∀ D h tk k, Fr h₀ L h m → News h₀ L h ((D, listOf (bs.map Value.bool).toArray k) :: news) → Off1 D news → bs.length ≤ 300 → Q (.ref D) { s with heap := h, toks := tk }
theorem finB_finE {Q : Value → Shared → Prop} {bs : List Bool} {news : List (Addr × Obj)} (h : FinB h₀ L m s Q bs news) (hl : bs.length ≤ 300) : FinE h₀ L m s Q (bs.map Value.bool) news := fun D g tk F N o => h D g tk _ F N o hl
theorem parts_len {as bs : List Str} : (parts as bs).length ≤ as.length := by simp only [parts, List.length_map, List.length_zip]; exact Nat.min_le_left ..
theorem zipSB {x y : Str} {t u : Tok} {xa xb : Str} {elt : Expr} {scope : Scope} {cl : List (Str × Addr)} {Q : Value → Shared → Prop} {news : List (Addr × Obj)} (hh : A.handled = none) (hx : x.cps.all (· < 128) = true) (hy : y.cps.all (· < 128) = true) (hl : x.length = y.length) (hz : x.length ≤ 300)
    (F : Fr h₀ L s.heap m) (N : News h₀ L s.heap news) (turn : ZTurnB prog w A s h₀ L m env elt xa xb scope cl (signs x) (signs y) news) (fin : FinB h₀ L m s Q (parts (signs x) (signs y)) news) :
    wpAny (model prog w) A (call (.type "zip") [.str x t, .str y u]) (SrcZ prog w A h₀ L m env elt xa xb scope cl Q) E s := by
  refine zipS (f := fun a b => .bool ((a != b) == true)) hh hx hy hl hz F N (fun i a b ta tb I oI C oC D m₂ ys own h tk E' ha hb => turn i a b ta tb I oI C oC D m₂ ys own h tk E' ha hb ?_ ?_) ?_
  · have := List.mem_of_getElem? ha
    simp only [signs, List.mem_map] at this
    obtain ⟨c, _, rfl⟩ := this
    exact Nat.le_of_ble_eq_true rfl
  · have := List.mem_of_getElem? hb
    simp only [signs, List.mem_map] at this
    obtain ⟨c, _, rfl⟩ := this
    exact Nat.le_of_ble_eq_true rfl
  · have e := finB_finE fin (Nat.le_trans parts_len (by rw [signs_len]; exact hz))
    simpa only [parts, List.map_map, Function.comp_def, beq_true] using e
theorem zipLB {l1 l2 : Addr} {vs₁ vs₂ : List Value} {k1 k2 : Nat} {as bs : List Str} {xa xb : Str} {elt : Expr} {scope : Scope} {cl : List (Str × Addr)} {Q : Value → Shared → Prop} {news : List (Addr × Obj)} (hh : A.handled = none) (h1 : AreOf ItemKind.str vs₁ as) (h2 : AreOf ItemKind.str vs₂ bs) (hl : as.length = bs.length) (hz : as.length ≤ 300) (ha1 : ∀ a ∈ as, a.length ≤ 300) (hb1 : ∀ a ∈ bs, a.length ≤ 300)
    (F : Fr h₀ L s.heap m) (N : News h₀ L s.heap news) (m1 : (l1, listOf vs₁.toArray k1) ∈ news) (m2 : (l2, listOf vs₂.toArray k2) ∈ news) (turn : ZTurnB prog w A s h₀ L m env elt xa xb scope cl as bs news) (fin : FinB h₀ L m s Q (parts as bs) news) :
    wpAny (model prog w) A (call (.type "zip") [.ref l1, .ref l2]) (SrcZ prog w A h₀ L m env elt xa xb scope cl Q) E s := by
  refine zipL (f := fun a b => .bool ((a != b) == true)) hh h1 h2 hl hz F N m1 m2 (fun i a b ta tb I oI C oC D m₂ ys own h tk E' ha hb => turn i a b ta tb I oI C oC D m₂ ys own h tk E' ha hb (ha1 a (List.mem_of_getElem? ha)) (hb1 b (List.mem_of_getElem? hb))) ?_
  have e := finB_finE fin (Nat.le_trans parts_len hz)
  simpa only [parts, List.map_map, Function.comp_def, beq_true] using e
end
end
-- part G6
section
open PySem PySem.W PyProof.Rows PySem.Calls
set_option maxRecDepth 100000
set_option maxHeartbeats 2000000
section
variable {prog : Program} {w : World} {A : Around} {s : Shared} {env : Env} {h₀ : Heap}
/-- a source of pairs for a for with an else, by an invariant of the names -/
inductive PairElse (prog : Program) (w : World) (A : Around) (h₀ : Heap) (env : Env) (xi xj : Str) (body orelse : List Stmt) (Q : Flow → Shared → Prop) (E : Value → Shared → Prop) (it : Value) (s : Shared) : Prop
  | intro (I : Addr) (fp wr : List Addr) (n : Nat) (Pt : Nat → Array Value → Prop) (St : Nat → Heap → Prop) (Mid : Nat → Addr → Heap → Prop) (P2 : Nat → Value → Value → Prop) (m : Str → Option Value) (news : List (Addr × Obj)) (J : Nat → (Str → Option Value) → Prop) (_ : it = .ref I) (_ : WalksT prog w A I fp wr n Pt St Mid) (_ : ∀ i vals, Pt i vals → ∃ v0 v1, vals = #[v0, v1] ∧ P2 i v0 v1) (_ : env.locals ∉ fp) (_ : ∀ b ∈ wr, h₀.get? b = none) (_ : ∀ p ∈ news, p.1 ∉ wr) (_ : St 0 s.heap) (_ : Fr h₀ env.locals s.heap m) (_ : News h₀ env.locals s.heap news) (_ : J 0 m) (_ : ∀ i v0 v1 m₁ own h tk, i < n → P2 i v0 v1 → J i m₁ → Fr h₀ env.locals h (fun y => if y = xj then some v1 else if y = xi then some v0 else m₁ y) → News h₀ env.locals h (own ++ news) → wpAny (model prog w) A (execs body env) (LoopStep3 h₀ env.locals own news (fun m' nw => nw = news ∧ J (i + 1) m') { s with heap := h, toks := tk } (fun v s' => Q (.ret v) s') fun s' => Q .next s') E { s with heap := h, toks := tk }) (_ : ∀ h' tk m', Fr h₀ env.locals h' m' → News h₀ env.locals h' news → J n m' → wpAny (model prog w) A (execs orelse env) Q E { s with heap := h', toks := tk }) : PairElse prog w A h₀ env xi xj body orelse Q E it s
theorem For_pairElse {E : Value → Shared → Prop} {Q : Flow → Shared → Prop} {xi xj : Str} {pk pv pt pos : Pos} {x1 : Nat} {iter : Expr} {body orelse : List Stmt} {h₀ : Heap} {m₀ : Str → Option Value} (_ : Fr h₀ env.locals s.heap m₀) (hh : A.handled = none)
    (hxi : env.kindOf xi = some .local) (hxc : env.kindOf xj = some .local)
    (hp : (env.scope.kind == .class || (env.scope.kind == .module && env.locals != env.globals)) = false)
    (h : wpAny (model prog w) A (eval iter env) (fun xv s₁ => wpAny (model prog w) A (pyIter xv) (fun it s₂ => PairElse prog w A h₀ env xi xj body orelse Q E it s₂) E s₁) E s)
    (hs : ∀ x, foldedSetIterable iter env x = pure x)
    (hE : PassesOwn (model prog w) A env E) :
    wpAny (model prog w) A (exec (.For (.Tuple [.Name xi pk, .Name xj pv] x1 pt) iter body orelse pos) env) Q E s := by
  refine wpAny_For (wpAny_mono h (fun xv s₁ h₁ => wpAny_mono h₁ (fun it s₂ h₂ => ?_) fun _ _ e => e) fun _ _ e => e) hs
  clear h
  obtain ⟨I, fp, wr, n, Pt, St, Mid, P2, m, news, J, rfl, W, h2, hLf, hwr, hnw, hst, F, N, h0, step, done⟩ := h₂
  have hLw : env.locals ∉ wr := fun h => hLf (W.sub _ h)
  have old : ∀ b o, h₀.get? b = some o → b ∉ wr := fun b o e hb => by rw [hwr b hb] at e; cases e
  refine codeAny_forLoop_any
    (fun k s' => ∃ h' tk m' i, s' = { s₂ with heap := h', toks := tk } ∧ St i h' ∧ Fr h₀ env.locals h' m' ∧ News h₀ env.locals h' news ∧ J i m' ∧ i ≤ n ∧ k = n + 1 - i) ?_ (n + 1)
    ⟨s₂.heap, s₂.toks, m, 0, rfl, hst, F, N, h0, Nat.zero_le _, rfl⟩
  rintro k s' ⟨H, tk, m', i, rfl, hst', F', N', hJ, hi, rfl⟩
  have next : ∀ h₁ : Heap, (∀ b o, b ∉ wr → H.get? b = some o → h₁.get? b = some o) → Fr h₀ env.locals h₁ m' ∧ News h₀ env.locals h₁ news := fun h₁ hk₁ =>
    ⟨⟨F'.ns.at' fun o e => hk₁ _ o hLw e, fun b o e => hk₁ b o (old b o e) (F'.keep b o e), F'.above⟩, fun p hp => ⟨hk₁ _ _ (hnw p hp) (N' p hp).1, (N' p hp).2⟩⟩
  by_cases hlt : i < n
  · refine W.item i _ _ _ hlt hst' fun T vals h₁ tk₁ hPt _ hT hMid hk₁ => ?_
    obtain ⟨v0, v1, rfl, hP2⟩ := h2 i vals hPt
    refine W.go _ x1 pt i T _ _ _ hMid fun h₂ hst₂ hk₂ => ?_
    have ht₂ : h₂.IsTuple T #[v0, v1] := hT.at fun o e => hk₂ T o (W.apart i T h₁ hMid) e
    refine wpAny_assign_Tuple hh ht₂ rfl rfl fun h₃ hx₃ => ?_
    replace hx₃ : Heap.ExtBut h₂.objs.size h₂ h₃ := hx₃
    have up₃ : ∀ b o, h₂.get? b = some o → h₃.get? b = some o := fun b o x => hx₃ b o (Nat.ne_of_lt (Heap.lt_size x)) x
    obtain ⟨F₃, N₃⟩ := next h₃ fun b o hb x => up₃ b o (hk₂ b o hb (hk₁ b o hb x))
    show wpAny _ A (do holding [v1] (assign (.Name xi pk) env v0); do holding [] (assign (.Name xj pv) env v1); pure ()) _ _ _
    refine wpAny_bind (wpAny_holding (wpAny_assign_Name (wpAny_storeName_local hxi F₃.ns (fun h₄ hn₄ hs₄ => ?_) hp)))
    replace hs₄ : Heap.SameBut env.locals h₃ h₄ := hs₄
    have F₄ := F₃.set hn₄ hs₄
    refine wpAny_bind (wpAny_holding (wpAny_assign_Name (wpAny_storeName_local hxc F₄.ns (fun h₅ hn₅ hs₅ => wpAny_pure ?_) hp)))
    replace hs₅ : Heap.SameBut env.locals h₄ h₅ := hs₅
    have F₅ := F₄.set hn₅ hs₅
    have N₅ : News h₀ env.locals h₅ news := (N₃.set hs₄).set hs₅
    have hst₅ : St (i + 1) h₅ := W.frame _ _ _ hst₂ fun b hb o e => hs₅.extBut b o (fun q => hLf (q ▸ hb)) (hs₄.extBut b o (fun q => hLf (q ▸ hb)) (up₃ b o e))
    have again : ∀ h₆ m₂, Fr h₀ env.locals h₆ m₂ → News h₀ env.locals h₆ (ownOf h₀ fp h₅ ++ news) → St (i + 1) h₆ := fun h₆ m₂ F₆ N₆ => W.frame _ _ _ hst₅ fun b hb o e => by
      cases hn : h₀.get? b with
      | some o₀ =>
        have : o₀ = o := by have q := F₅.keep b o₀ hn; rw [e] at q; exact (Option.some.inj q).symm
        exact this ▸ F₆.keep b o₀ hn
      | none => exact (N₆ _ (List.mem_append_left _ (mem_ownOf hb hn e))).1
    refine wpAny_passesOwn hE (wpAny_mono (step i v0 v1 m' (ownOf h₀ fp h₅) h₅ _ hlt hP2 hJ F₅ ((news_ownOf hLf).append N₅)) (fun f s₃ h₆ => ?_) fun _ _ e => e)
    cases f with
    | ret v => exact h₆
    | brk => exact h₆
    | cont =>
      obtain ⟨_, h₆', tk₆, m₂, news₂, rfl, F₆, N₆, _, rfl, hJ₆⟩ := h₆
      exact ⟨n + 1 - (i + 1), by omega, h₆', tk₆, m₂, i + 1, rfl, again _ _ F₆ N₆, F₆, N₆.right, hJ₆, hlt, rfl⟩
    | next =>
      obtain ⟨_, h₆', tk₆, m₂, news₂, rfl, F₆, N₆, _, rfl, hJ₆⟩ := h₆
      exact ⟨n + 1 - (i + 1), by omega, h₆', tk₆, m₂, i + 1, rfl, again _ _ F₆ N₆, F₆, N₆.right, hJ₆, hlt, rfl⟩
  · have hin : i = n := by omega
    subst hin
    refine W.done _ _ _ hst' fun h₁ tk₁ hk₁ => ?_
    obtain ⟨F₁, N₁⟩ := next h₁ hk₁
    exact wpAny_passesOwn hE (done h₁ tk₁ m' F₁ N₁ hJ)
/-- what the search knows behind i turns: no True so far -/
noncomputable def SeekJ (bs : List Bool) (m₀ : Str → Option Value) (i : Nat) (m : Str → Option Value) : Prop :=
  (∀ b ∈ bs.take i, b = false) ∧ ∃ u : Str → Option Value, m = fun z => if z = Str.ofString "i" ∨ z = Str.ofString "j" then u z else m₀ z
theorem SeekJ.start {bs : List Bool} {m : Str → Option Value} : SeekJ bs m 0 m := ⟨fun b hb => by simp at hb, m, by funext z; simp⟩
theorem seek_map {m₀ u : Str → Option Value} {A B : Option Value} :
    (fun y => if y = Str.ofString "j" then B else if y = Str.ofString "i" then A else (fun z => if z = Str.ofString "i" ∨ z = Str.ofString "j" then u z else m₀ z) y) = fun y => if y = Str.ofString "j" then B else if y = Str.ofString "i" then A else m₀ y := by
  funext y
  by_cases h1 : y = Str.ofString "j"
  · simp [h1]
  · by_cases h2 : y = Str.ofString "i"
    · simp [h2]
    · simp [h1, h2]
theorem seek_next {bs : List Bool} {m₀ : Str → Option Value} {i : Nat} {A B : Option Value} (h : ∀ b ∈ bs.take i, b = false) (hb : bs[i]? = some false) :
    SeekJ bs m₀ (i + 1) (fun y => if y = Str.ofString "j" then B else if y = Str.ofString "i" then A else m₀ y) := by
  refine ⟨?_, (fun y => if y = Str.ofString "j" then B else A), ?_⟩
  · intro b hm
    rw [List.take_add_one, hb, List.mem_append] at hm
    rcases hm with hm | hm
    · exact h b hm
    · simpa using hm
  · funext y
    by_cases h1 : y = Str.ofString "j"
    · simp [h1]
    · by_cases h2 : y = Str.ofString "i"
      · simp [h2]
      · simp [h1, h2]
/-- an enumerate of a list of truth values that lies in the ledger -/
theorem seek_enum {bs : List Bool} {l : Addr} {k : Nat} {m : Str → Option Value} {news : List (Addr × Obj)} {body orelse : List Stmt} {Q : Flow → Shared → Prop} {E : Value → Shared → Prop} (hh : A.handled = none)
    (F : Fr h₀ env.locals s.heap m) (N : News h₀ env.locals s.heap news) (hm : (l, listOf (bs.map Value.bool).toArray k) ∈ news)
    (step : ∀ (i : Nat) b t own h tk, bs[i]? = some b → (∀ b ∈ bs.take i, b = false) → Fr h₀ env.locals h (fun y => if y = Str.ofString "j" then some (.bool b) else if y = Str.ofString "i" then some (.int i t) else m y) → News h₀ env.locals h (own ++ news) →
      wpAny (model prog w) A (execs body env) (LoopStep3 h₀ env.locals own news (fun m' nw => nw = news ∧ SeekJ bs m (i + 1) m') { s with heap := h, toks := tk } (fun v s' => Q (.ret v) s') fun s' => Q .next s') E { s with heap := h, toks := tk })
    (done : ∀ h' tk m', Fr h₀ env.locals h' m' → News h₀ env.locals h' news → (∀ b ∈ bs, b = false) → SeekJ bs m bs.length m' → wpAny (model prog w) A (execs orelse env) Q E { s with heap := h', toks := tk }) :
    wpAny (model prog w) A (call (.type "enumerate") [.ref l]) (fun xv s₁ => wpAny (model prog w) A (pyIter xv) (fun it s₂ => PairElse prog w A h₀ env (Str.ofString "i") (Str.ofString "j") body orelse Q E it s₂) E s₁) E s := by
  have hl : s.heap.IsList l (bs.map Value.bool).toArray := News.isList N hm
  have a1 : l < s.heap.objs.size := Heap.lt_size (N _ hm).1
  have hLs : env.locals < s.heap.objs.size := F.ns.lt
  have hab : h₀.objs.size ≤ env.locals := F.above
  refine call_enumerate_list hl fun h' he hit hsz hk => ?_
  have F' : Fr h₀ env.locals h' m := ⟨F.ns.keeps hk, fun b o e => hk b o (F.keep b o e), F.above⟩
  have N' : News h₀ env.locals h' news := fun p hp => ⟨hk _ _ (N p hp).1, (N p hp).2⟩
  have nw : ∀ k, h₀.get? (s.heap.objs.size + k) = none := fun k => Heap.get?_none_of_le (Nat.le_trans hab (Nat.le_trans (Nat.le_of_lt hLs) (Nat.le_add_right _ k)))
  have up : ∀ k, env.locals ≠ s.heap.objs.size + k := fun k e => Nat.ne_of_lt (Nat.lt_of_lt_of_le hLs (Nat.le_add_right _ k)) e
  have W := WalksT.enumerate (prog := prog) (w := w) hh (s.heap.objs.size + 1) s.heap.objs.size l (Nat.succ_ne_self _) (Nat.ne_of_lt (Nat.lt_succ_of_lt a1)) (Nat.ne_of_lt a1) (bs.map Value.bool).toArray
  have hst : (∃ old, IsEnum h' (s.heap.objs.size + 1) s.heap.objs.size ((0 : Nat) : Int) old) ∧ h'.IsListIter s.heap.objs.size l 0 ∧ h'.IsList l (bs.map Value.bool).toArray := ⟨⟨_, he⟩, hit, hl.at fun o e => hk l o e⟩
  refine W.self 0 _ _ _ hst ?_
  have hn : (bs.map Value.bool).toArray.size = bs.length := by simp
  refine ⟨s.heap.objs.size + 1, _, _, _, _, _, _, (fun i v0 v1 => ∃ b t, bs[i]? = some b ∧ v0 = .int i t ∧ v1 = .bool b), m, news, SeekJ bs m, rfl, W, ?_, ?_, ?_, ?_, hst, F', N', SeekJ.start, ?_, ?_⟩
  · rintro i vals ⟨t, x, hx, rfl⟩
    simp only [List.getElem?_toArray, List.getElem?_map, Option.map_eq_some_iff] at hx
    obtain ⟨b, hb, rfl⟩ := hx
    exact ⟨_, _, rfl, b, t, hb, rfl, rfl⟩
  · intro hm'
    simp only [List.mem_cons, List.not_mem_nil, or_false] at hm'
    rcases hm' with e | e | e
    · exact up 1 e
    · exact up 0 e
    · exact (N _ hm).2.1 e.symm
  · intro b hb
    simp only [List.mem_cons, List.not_mem_nil, or_false] at hb
    rcases hb with rfl | rfl
    · exact nw 1
    · exact nw 0
  · intro p hp hm'
    have hq := Heap.lt_size (N p hp).1
    have dn : ∀ k, p.1 ≠ s.heap.objs.size + k := fun k e => Nat.ne_of_lt (Nat.lt_of_lt_of_le hq (Nat.le_add_right _ k)) e
    simp only [List.mem_cons, List.not_mem_nil, or_false] at hm'
    rcases hm' with e | e
    · exact dn 1 e
    · exact dn 0 e
  · rintro i v0 v1 m₁ own h tk hi ⟨b, t, hb, rfl, rfl⟩ ⟨hf, u, rfl⟩ F₁ N₁
    rw [seek_map] at F₁
    exact step i b t own h tk hb hf F₁ N₁
  · intro h₂ tk m' F₂ N₂ hJ
    rw [hn] at hJ
    refine done h₂ tk m' F₂ N₂ ?_ hJ
    have := hJ.1
    rwa [List.take_length] at this
end
end
-- part G7
section
open PySem PySem.W PyProof.Rows PySem.Calls
set_option maxRecDepth 100000
set_option maxHeartbeats 2000000
section
variable {prog : Program} {w : World} {A₀ A : Around} {s : Shared} {base h₀ g₀ : Heap} {outer : List Env} {L : Addr} {m : Str → Option Value} {env : Env} {news : List (Addr × Obj)} {KF : Frag} {p : Program} {loose : List Str} {mean : ExcName → Option Value} {mg mb : Str → Option Value}
  {R : Result → Shared → Prop} {name qual : Str} {params : Arguments} {body : List Stmt} {scope : Scope} {dV kV doc pm cdv ct oc : Value} {an od : Option Addr} {osl : Array (Option Value)} {f : Addr} {args : Args} {binds : List (Str × Value)}
theorem mem_frames {b : Addr} (hf : env.frame = some L) (hm : b ∈ (env :: outer).filterMap (·.frame)) : b = L ∨ b ∈ outer.filterMap (·.frame) := by
  rw [List.filterMap_cons, hf] at hm
  exact List.mem_cons.mp hm
/-- back from a def beneath which an exception may have flown and been caught -/
theorem backS {g : Heap} {v : Value} {s' : Shared} (B : Below A₀ base outer h₀) (F : Fr h₀ L s.heap m) (N : News h₀ L s.heap news) (hf : env.frame = some L) (hg : g = hideAll s.heap (news.map (·.1))) (FG : Fr h₀ L g m) (st : h₀.StaysIn g)
    (XB : KF.In base) (TB : Top p loose mean mg mb base) (D : KtsDicts (outer.filterMap (·.frame)) h₀) (T0 : KtsTurn (outer.filterMap (·.frame)) g₀ h₀)
    (hl : LeaveS ((env :: outer).filterMap (·.frame)) A₀ base outer KF p loose mean mg mb g₀ h₀ L m g R v s') : R (.ok (.ret v)) s' := by
  have nL₀ : h₀.get? L = none := kts_self F
  have nL : L ∉ news.map (·.1) := fun q => by
    obtain ⟨p, hp, e⟩ := List.mem_map.mp q
    exact (N p hp).2.1 e
  obtain ⟨oL, es, ep, hL, hLd, hLk, hLf⟩ := F.ns
  have hLg : g.get? L = some oL := hg ▸ hideAll_get (news.map (·.1)) hL nL
  have hNs : ∀ (sl : Array (Option Value)) h', h'.get? L = some { oL with slots := sl } → Heap.Ns h' L m := fun sl h' e => ⟨_, es, ep, e, hLd, hLk, hLf⟩
  rcases hl with ⟨L', m', news', F', N', k⟩ | ⟨g', L', m', news', T', F', N', k⟩
  · refine k ⟨⟨oL, es, ep, F'.keep _ _ hLg, hLd, hLk, hLf⟩, fun b o e => F'.keep b o (st b o e), F.above⟩ fun p hp => ⟨(N' p hp).1, fun q => ?_, ?_⟩
    · have := (N' p hp).2.2; rw [q, hLg] at this; cases this
    · cases q : h₀.get? p.1 with
      | none => rfl
      | some o => have := (N' p hp).2.2; rw [st _ _ q] at this; cases this
  obtain ⟨sl, hs⟩ := T'.up hLg
  obtain ⟨T₁, S₁⟩ := kts_turn_at (h := s'.heap) (fs := outer.filterMap (·.frame)) (g := h₀)
    (fun b hb => by
      obtain ⟨_, o, ho', _⟩ := B.frames.mem hb
      exact ⟨o, ho'⟩)
    (fun b o e nmem => F'.keep b o (T'.other b o (st b o e) (fun q => by
      rcases mem_frames hf q with z | z
      · rw [z, nL₀] at e
        cases e
      · exact nmem z)))
    (fun b o e hm => by
      obtain ⟨sl', hs'⟩ := T'.up (st b o e)
      exact ⟨sl', F'.keep _ _ hs'⟩)
  have B₃ : Below A₀ base outer (ktsHeap s'.heap (outer.filterMap (·.frame)) h₀) := ⟨B.stack, fun b o e => T₁.other b o (B.stays b o e) (fun hm => by
    rw [(B.frames.mem hm).1] at e
    cases e), B.frames.of_keeps fun b o e _ => by
    obtain ⟨sl', hs'⟩ := T₁.up e
    exact ⟨_, hs', rfl⟩⟩
  refine k _ (T0.trans T₁) ⟨hNs sl _ (F'.keep _ _ hs), S₁, by rw [T₁.size]; exact F.above⟩ (fun p hp => ⟨(N' p hp).1, fun q => ?_, ?_⟩) B₃ (XB.keeps B₃.stays) (TB.keeps B₃.stays) (D.turn T₁)
  · have := (N' p hp).2.2; rw [q, hs] at this; cases this
  · refine T₁.none_ _ ?_
    cases q : h₀.get? p.1 with
    | none => rfl
    | some o =>
      obtain ⟨sl', hs'⟩ := T'.up (st _ _ q)
      have := (N' p hp).2.2
      rw [hs'] at this
      cases this
theorem dictsX (F : Fr h₀ L s.heap m) (N : News h₀ L s.heap news) (hf : env.frame = some L) (st : h₀.StaysIn (hideAll s.heap (news.map (·.1)))) (D : KtsDicts (outer.filterMap (·.frame)) h₀) : KtsDicts ((env :: outer).filterMap (·.frame)) (hideAll s.heap (news.map (·.1))) := fun b hb => by
  obtain ⟨oL, es, ep, hL, hLd, _, _⟩ := F.ns
  have nL : L ∉ news.map (·.1) := fun q => by
    obtain ⟨p, hp, e⟩ := List.mem_map.mp q
    exact (N p hp).2.1 e
  rcases mem_frames hf hb with rfl | hb
  · exact ⟨oL, es, ep, hideAll_get _ hL nL, hLd⟩
  · obtain ⟨o, es', n', ho', hd'⟩ := D b hb
    exact ⟨o, es', n', st b o ho', hd'⟩
/-- a call of a def beneath which an exception may fly and be caught -/
theorem code_defSX (B : Below A₀ base outer h₀) (F : Fr h₀ L s.heap m) (X₀ : KF.In h₀) (N : News h₀ L s.heap news) (T : Top p loose mean mg mb h₀) (XB : KF.In base) (TB : Top p loose mean mg mb base) (D : KtsDicts (outer.filterMap (·.frame)) h₀)
    (T0 : KtsTurn (outer.filterMap (·.frame)) g₀ h₀) (hA : A.frames = some (env :: outer)) (hf : env.frame = some L) (hke : env.scope.kind = .function)
    (ho : KF.lookup f = some ⟨oc, od, .func (fnOf name qual params body scope dV kV doc pm an cdv ct), osl⟩) (hcd : codeIn KF cdv qual = true) (hroom : A.depth < recursionLimit)
    (hbind : BindsTo s (fnOf name qual params body scope dV kV doc pm an cdv ct) args binds) (hloc : ∀ y ∈ binds, scope.names.lookup y.1 = some .local)
    (h : ∀ g L' h₁, Fr h₀ L g m → Fr g L' h₁ (fun y => binds.reverse.lookup y) → News g L' h₁ news → Below A base (env :: outer) g → KF.In g → Top p loose mean mg mb g → KtsDicts ((env :: outer).filterMap (·.frame)) g →
      wpAny (model prog w) (A.deeper (envOf qual scope L' f cdv)) (execs body (envOf qual scope L' f cdv))
        (fun fl s' => LeaveS ((env :: outer).filterMap (·.frame)) A₀ base outer KF p loose mean mg mb g₀ h₀ L m g R (match fl with | .ret v => v | _ => .none) s')
        (fun e s' => wpAny (model prog w) (A.deeper (envOf qual scope L' f cdv)) (leaving (envOf qual scope L' f cdv) e) (fun _ s'' => R (.error e) s'') (fun e' s'' => R (.error e') s'') s')
        { s with heap := h₁, toks := s.toks + binds.length })
    (hco : scope.isCoroutine = false) (hgen : scope.isGenerator = false) (hk : scope.kind = .function)
    (hcell : ∀ x ∈ scope.names, x.2 ≠ .cell) : codeAny (model prog w) A (.call (.ref f) args) R s := by
  have X := X₀.keeps F.keep
  obtain ⟨FG, BG, st, _⟩ := groundX (R := R) B F N hA hf hke
  refine codeAny_call_def (fd := fnOf name qual params body scope dV kV doc pm an cdv ct) (body := body) (binds := binds) hroom (X _ _ ho) rfl (T.nolimit.keeps F.keep) (codeRec_of X hcd) rfl hbind hcell hloc (fun h₁ hns hk₁ => ?_) hco hgen hk
  exact wpAny_mono (h _ s.heap.objs.size h₁ FG ⟨hns, fun b o e => hk₁ b o (of_hideAll _ e), Nat.le_of_eq (hideAll_size _ _)⟩
    (fun p hp => ⟨hk₁ _ _ (N p hp).1, Nat.ne_of_lt (Heap.lt_size (N p hp).1), hideAll_none _ (List.mem_map_of_mem hp)⟩) BG (X₀.keeps st) (T.keeps st) (dictsX F N hf st D)) (fun fl s' hl => backS B F N hf rfl FG st XB TB D T0 hl) fun _ _ y => y
/-- the same, of a def with cells -/
theorem code_defSC (B : Below A₀ base outer h₀) (F : Fr h₀ L s.heap m) (X₀ : KF.In h₀) (N : News h₀ L s.heap news) (T : Top p loose mean mg mb h₀) (XB : KF.In base) (TB : Top p loose mean mg mb base) (D : KtsDicts (outer.filterMap (·.frame)) h₀)
    (T0 : KtsTurn (outer.filterMap (·.frame)) g₀ h₀) (hA : A.frames = some (env :: outer)) (hf : env.frame = some L) (hke : env.scope.kind = .function)
    (ho : KF.lookup f = some ⟨oc, od, .func (fnOf name qual params body scope dV kV doc pm an cdv ct), osl⟩) (hcd : codeIn KF cdv qual = true) (hroom : A.depth < recursionLimit)
    (hbind : BindsTo s (fnOf name qual params body scope dV kV doc pm an cdv ct) args binds) (hkind : (binds.all fun y => scope.names.lookup y.1 == some .local || scope.names.lookup y.1 == some .cell) = true)
    (hnd : ((cellsFrom 0 scope.names []).map (·.1)).Nodup)
    (h : ∀ g L' h₁ tk cells, Fr h₀ L g m → Fr g L' h₁ (bindL (envOfC qual scope L' f cdv).kindOf binds fun _ => none) → News g L' h₁ (cells ++ news) →
      CellsAre (bindC (envOfC qual scope L' f cdv).kindOf binds fun _ => none) (cellsFrom (L' + 1) scope.names []) cells → Below A base (env :: outer) g → KF.In g → Top p loose mean mg mb g → (∀ p ∈ news, p.1 < L') → KtsDicts ((env :: outer).filterMap (·.frame)) g →
      wpAny (model prog w) (A.deeper (envOfC qual scope L' f cdv)) (execs body (envOfC qual scope L' f cdv))
        (fun fl s' => LeaveS ((env :: outer).filterMap (·.frame)) A₀ base outer KF p loose mean mg mb g₀ h₀ L m g R (match fl with | .ret v => v | _ => .none) s')
        (fun e s' => wpAny (model prog w) (A.deeper (envOfC qual scope L' f cdv)) (leaving (envOfC qual scope L' f cdv) e) (fun _ s'' => R (.error e) s'') (fun e' s'' => R (.error e') s'') s')
        { s with heap := h₁, toks := tk })
    (hco : scope.isCoroutine = false) (hgen : scope.isGenerator = false) (hk : scope.kind = .function) : codeAny (model prog w) A (.call (.ref f) args) R s := by
  have X := X₀.keeps F.keep
  obtain ⟨FG, BG, st, _⟩ := groundX (R := R) B F N hA hf hke
  have hlim := T.nolimit.keeps F.keep
  refine codeAny_call_function hroom (X _ _ ho) rfl hco hgen rfl (codeRec_of X hcd) (hbind _ _ _ _ ?_)
  refine wpAny_newFunctionEnv_cells hk (kindsX hkind _) fun env' he s' x => ?_
  subst he
  refine ⟨hlim.keeps x.toInCall.keep, codeAny_func ?_⟩
  obtain ⟨h₁, tk, rfl, _⟩ := x.done
  have hk₁ := x.toInCall.keep
  obtain ⟨cells, NC, Y⟩ := Cl.news (h₀ := s.heap) (Nat.le_refl _) fun n c hm => ⟨x.cell n c (lookup_of_mem_nodup (cellsFrom_names scope.names 0 (s.heap.objs.size + 1) [] [] rfl ▸ hnd) hm), x.above n c hm⟩
  refine wpAny_mono (h _ s.heap.objs.size h₁ tk cells FG ⟨x.toInCall.ns, fun b o e => hk₁ b o (of_hideAll _ e), Nat.le_of_eq (hideAll_size _ _)⟩ (fun p hp => ?_) Y BG (X₀.keeps st) (T.keeps st) (fun p hp => Heap.lt_size (N p hp).1) (dictsX F N hf st D)) (fun fl s' hl => backS B F N hf rfl FG st XB TB D T0 hl) fun _ _ y => y
  rcases List.mem_append.mp hp with hp | hp
  · refine ⟨(NC p hp).1, (NC p hp).2.1, ?_⟩
    cases q : (hideAll s.heap (news.map (·.1))).get? p.1 with
    | none => rfl
    | some o => have := of_hideAll _ q; rw [(NC p hp).2.2] at this; cases this
  · exact ⟨hk₁ _ _ (N p hp).1, Nat.ne_of_lt (Heap.lt_size (N p hp).1), hideAll_none _ (List.mem_map_of_mem hp)⟩
end
/-- what a call of f upon vs gives, where an exception may fly and be caught beneath: a value that is no object -/
noncomputable def GivesS (w : World) (p : Program) (loose : List Str) (mean : ExcName → Option Value) (mg mb : Str → Option Value) (need : Nat) (f : Addr) (vs : List Value) (news : List (Addr × Obj)) (R : Tok → Value) : Prop :=
  ∀ (dp un : Nat) (gd : Option (List Code)) (env : Env) (outer : List Env) (A₀ : Around) (base g₀ h₀ : Heap) (L : Addr) (m : Str → Option Value) (s : Shared) (Q E : Value → Shared → Prop),
    Below A₀ base outer h₀ → Fr h₀ L s.heap m → (K w.params).In h₀ → News h₀ L s.heap news → Top p loose mean mg mb h₀ → (K w.params).In base → Top p loose mean mg mb base → KtsDicts (outer.filterMap (·.frame)) h₀ → KtsTurn (outer.filterMap (·.frame)) g₀ h₀ →
    env.frame = some L → env.scope.kind = .function → dp + need < recursionLimit → un + 8 * need < cLine →
    (∀ (t : Tok) (h' : Heap) (tk' : Nat) (h₁ : Heap), KtsTurn (outer.filterMap (·.frame)) g₀ h₁ → Fr h₁ L h' m → News h₁ L h' news → Below A₀ base outer h₁ → (K w.params).In h₁ → Top p loose mean mg mb h₁ → KtsDicts (outer.filterMap (·.frame)) h₁ → Q (R t) { s with heap := h', toks := tk' }) →
      wpAny (model PySem.Challenge.pw_ku0005_01 w) (topA dp un gd env outer) (call (.ref f) vs) Q E s
end
-- part C9
section
open PySem PySem.W PyProof.Rows
set_option maxRecDepth 100000
set_option maxHeartbeats 8000000
variable {w : World} {p : Program} {loose : List Str} {mean : ExcName → Option Value} {mg mb : Str → Option Value}
theorem ne_gives (a b : Str) (t u : MTok) (ha : a.length ≤ 300) (hb : b.length ≤ 300) (news) : GivesV w p loose mean mg mb 1 79 [.str a t, .str b u] news (fun _ => .bool (a != b)) := by
  intro dp un gd env outer A₀ base h₀ L m s Q E B F X N T hf hk hd hu hret
  refine wpAny_call ?_
  k_dflt cell_enter
  repeat' (first
    | ((with_reducible show wpAny _ _ (PySem.exec _ _) _ _ _); k_fold)
    | ((with_reducible show wpAny _ _ (PySem.execs _ _) _ _ _); k_fold)
    | ((with_reducible show wpAny _ _ (PySem.execs _ _) _ _ _); dsimp only)
    | (k_unfold; (try dsimp only)) | (k_end; wrow_close) | walk1 | (dsimp only; walk1) | (leave1; try dsimp only) | fail "no step")
  all_goals exact cb_retB hret (by rfl) (by k_asm) (by k_asm)
theorem call_made {A : Around} {E : Value → Shared → Prop} {s : Shared} {rest : List Value} (h : ∀ h' e, Heap.MadeExc s.heap h' e "ValueError" rest → E (.ref e) { s with heap := h' }) (hr : rest.length ≤ sizeLine) : wpAny (model PySem.Challenge.pw_ku0005_01 w) A (call (.type "ValueError") rest) (Raisable E) E s :=
  wpAny_call_exc (hrest := hr) PySem.F.excCall_ValueError fun h' e hm => raisable_of_new excClass_ValueError hm.newExc (h h' e hm)
noncomputable def firstV (bs : List Bool) (t : MTok) : Value := match bs.findIdx? id with
  | some k => .int k t
  | none => .str (Str.ofString "sequence.index(x): x not in sequence") t
theorem find_at : ∀ {bs : List Bool} {i : Nat}, (∀ b ∈ bs.take i, b = false) → bs[i]? = some true → bs.findIdx? id = some i
  | [], i, _, h => by simp at h
  | b :: bs, 0, _, h => by
    simp only [List.getElem?_cons_zero, Option.some.injEq] at h
    subst h
    rfl
  | b :: bs, i + 1, h, hb => by
    have h0 : b = false := h b (by simp)
    subst h0
    rw [List.findIdx?_cons]
    simp only [id, Bool.false_eq_true, if_false]
    rw [find_at (i := i) (fun b hm => h b (by simp only [List.take_succ_cons, List.mem_cons]; exact .inr hm)) (by simpa using hb)]
    rfl
theorem find_none {bs : List Bool} (h : ∀ b ∈ bs, b = false) : bs.findIdx? id = none := by
  rw [List.findIdx?_eq_none_iff]
  exact fun b hb => by simpa using h b hb
section
variable {outer : List Env} {A₀ : Around} {base g₀ h₀ h₁ : Heap} {L : Addr} {m : Str → Option Value} {s : Shared} {Q : Value → Shared → Prop} {bs : List Bool} {h' : Heap} {tk' : Nat} {t : MTok}
theorem first_found {news more : List (Addr × Obj)} {i : Nat} (hret : ∀ (t : MTok) (h' : Heap) (tk' : Nat) (h₁ : Heap), KtsTurn (outer.filterMap (·.frame)) g₀ h₁ → Fr h₁ L h' m → News h₁ L h' news → Below A₀ base outer h₁ → (K w.params).In h₁ → Top p loose mean mg mb h₁ → KtsDicts (outer.filterMap (·.frame)) h₁ → Q (firstV bs t) { s with heap := h', toks := tk' })
    (hf : ∀ b ∈ bs.take i, b = false) (hb : bs[i]? = some true) (T0 : KtsTurn (outer.filterMap (·.frame)) g₀ h₁) (F : Fr h₁ L h' m) (N : News h₁ L h' more) (sub : ∀ p ∈ news, p ∈ more) (B : Below A₀ base outer h₁) (X : (K w.params).In h₁) (T : Top p loose mean mg mb h₁) (Dd : KtsDicts (outer.filterMap (·.frame)) h₁) :
    Q (.int i t) { s with heap := h', toks := tk' } := by
  have e := hret t h' tk' h₁ T0 F (kst_newsOf N sub) B X T Dd
  unfold firstV at e
  rw [find_at hf hb] at e
  exact e
theorem first_none {news more : List (Addr × Obj)} (hret : ∀ (t : MTok) (h' : Heap) (tk' : Nat) (h₁ : Heap), KtsTurn (outer.filterMap (·.frame)) g₀ h₁ → Fr h₁ L h' m → News h₁ L h' news → Below A₀ base outer h₁ → (K w.params).In h₁ → Top p loose mean mg mb h₁ → KtsDicts (outer.filterMap (·.frame)) h₁ → Q (firstV bs t) { s with heap := h', toks := tk' })
    (hf : ∀ b ∈ bs, b = false) (T0 : KtsTurn (outer.filterMap (·.frame)) g₀ h₁) (F : Fr h₁ L h' m) (N : News h₁ L h' more) (sub : ∀ p ∈ news, p ∈ more) (B : Below A₀ base outer h₁) (X : (K w.params).In h₁) (T : Top p loose mean mg mb h₁) (Dd : KtsDicts (outer.filterMap (·.frame)) h₁) :
    Q (.str (Str.ofString "sequence.index(x): x not in sequence") t) { s with heap := h', toks := tk' } := by
  have e := hret t h' tk' h₁ T0 F (kst_newsOf N sub) B X T Dd
  unfold firstV at e
  rw [find_none hf] at e
  exact e
end

theorem first_gives (x y : Str) (t u : MTok) (hx : x.length ≤ 300) (hy : y.length ≤ 300) (hxy : x.length = y.length) (ax : x.cps.all (· < 128) = true) (ay : y.cps.all (· < 128) = true) (news) : GivesS w p loose mean mg mb 6 180 [.str x t, .str y u] news (firstV (parts (signs x) (signs y))) := by
  intro dp un gd env outer A₀ base g₀ h₀ L m s Q E B F X N T XB TB D T0 hf hk hd hu hret
  refine wpAny_call ?_
  k_dflt (refine' code_defSX ?k1 ?k2 ?k3 ?k4 ?k5 ?XB ?TB ?D ?T0 ?kA ?kF ?kK ?k6 ?k7 ?k8 ?k9 ?kB ?_ ?c2 ?c3 ?c4 ?c5; (case kA => exact rfl); (case kF => assumption); (case kK => assumption); (case k1 => k_asm); (case k2 => k_asm); (case k3 => k_asm); (case k4 => k_asm); (case k5 => k_asm); (case XB => assumption); (case TB => assumption); (case D => assumption); (case T0 => assumption); (case k6 => k_is); (case k7 => k_is); (case k8 => ktr_room); (case k9 => first | exact BindsTo.of_eq rfl | exact binds_K (by k_in) rfl (by k_is) rfl rfl rfl); (case c5 => decide); (case kB => exact locs rfl); (case c2 => exact rfl); (case c3 => exact rfl); (case c4 => exact rfl); k_whole; intro g' L' h' FG' F' N' B' X' T' D'; (try dsimp only); (try k_lift B'); (try k_fold))
  repeat' (first
    | ((with_reducible show wpAny _ _ (PySem.exec _ _) _ _ _); k_fold)
    | ((with_reducible show wpAny _ _ (PySem.execs _ _) _ _ _); k_fold)
    | ((with_reducible show wpAny _ _ (PySem.execs _ _) _ _ _); dsimp only)
    | ((with_reducible show wpAny _ _ (PySem.call (Value.type "ValueError") _) _ _ _); first | with_reducible ((refine' call_made ?_ ?hr9); (case hr9 => size_fits); intro h9 e9 hm9) | ((refine' call_made ?_ ?hr9); (case hr9 => size_fits); intro h9 e9 hm9))
    | ((with_reducible show wpAny _ _ (call (Value.ref 79) _) _ _ _); first | with_reducible ((k_dflt (refine' GivesV.use (ne_gives _ _ _ _ ?kx1 ?kx2 _) ?k1x79 ?k2x79 ?k3x79 ?k4x79 ?k5x79 ?kfx79 ?kKx79 ?kdx79 ?kux79 ?_; (case kx1 => assumption); (case kx2 => assumption); (case k1x79 => k_asm); (case k2x79 => k_asm); (case k3x79 => k_asm); (case k4x79 => k_asm); (case k5x79 => k_asm); (case kfx79 => first | exact rfl | assumption); (case kKx79 => first | exact rfl | assumption); (case kdx79 => ktr_room); (case kux79 => ktr_units); k_whole); intro t9 h9 tk9 F9 N9; (try dsimp only); (try k_fold))) | ((k_dflt (refine' GivesV.use (ne_gives _ _ _ _ ?kx1 ?kx2 _) ?k1x79 ?k2x79 ?k3x79 ?k4x79 ?k5x79 ?kfx79 ?kKx79 ?kdx79 ?kux79 ?_; (case kx1 => assumption); (case kx2 => assumption); (case k1x79 => k_asm); (case k2x79 => k_asm); (case k3x79 => k_asm); (case k4x79 => k_asm); (case k5x79 => k_asm); (case kfx79 => first | exact rfl | assumption); (case kKx79 => first | exact rfl | assumption); (case kdx79 => ktr_room); (case kux79 => ktr_units); k_whole); intro t9 h9 tk9 F9 N9; (try dsimp only); (try k_fold))))
    | ((with_reducible show wpAny _ _ (PySem.call (Value.type "enumerate") _) _ _ _); first | with_reducible ((refine' seek_enum ?se1 ?seF ?seN ?sem ?ses ?sed); (case se1 => with_unfolding_all rfl); (case seF => (rename Fr _ _ _ _ => kF9; with_unfolding_all exact kF9)); (case seN => (rename News _ _ _ _ => kN9; with_unfolding_all exact kN9)); (case sem => with_unfolding_all k_mem); (case' ses => (intro i9 b9 t9 own9 h9 tk9 hb9 hf9 F9 N9; cases b9)); (case' sed => (intro h9 tk9 m9 F9 N9 hf9 hJ9; unfold SeekJ at hJ9; obtain ⟨hz9, u9, e9⟩ := hJ9; subst e9))) | ((refine' seek_enum ?se1 ?seF ?seN ?sem ?ses ?sed); (case se1 => with_unfolding_all rfl); (case seF => (rename Fr _ _ _ _ => kF9; with_unfolding_all exact kF9)); (case seN => (rename News _ _ _ _ => kN9; with_unfolding_all exact kN9)); (case sem => with_unfolding_all k_mem); (case' ses => (intro i9 b9 t9 own9 h9 tk9 hb9 hf9 F9 N9; cases b9)); (case' sed => (intro h9 tk9 m9 F9 N9 hf9 hJ9; unfold SeekJ at hJ9; obtain ⟨hz9, u9, e9⟩ := hJ9; subst e9))))
    | ((with_reducible show wpAny _ _ (PySem.exec (PySem.Stmt.For (PySem.Expr.Tuple _ _ _) (PySem.Expr.Call _ _ _ _) _ _ _) _) _ _ _); first | with_reducible ((refine' For_pairElse ?fe0 ?fe1 ?fe2 ?fe3 ?fe4 ?_ ?fe5 ?fe6); (case fe0 => (rename Fr _ _ _ _ => kF9; with_unfolding_all exact kF9)); (case fe1 => with_unfolding_all rfl); (case fe2 => with_unfolding_all rfl); (case fe3 => with_unfolding_all rfl); (case fe4 => with_unfolding_all rfl); (case fe5 => (intro _; with_unfolding_all rfl)); (case fe6 => passes_own)) | ((refine' For_pairElse ?fe0 ?fe1 ?fe2 ?fe3 ?fe4 ?_ ?fe5 ?fe6); (case fe0 => (rename Fr _ _ _ _ => kF9; with_unfolding_all exact kF9)); (case fe1 => with_unfolding_all rfl); (case fe2 => with_unfolding_all rfl); (case fe3 => with_unfolding_all rfl); (case fe4 => with_unfolding_all rfl); (case fe5 => (intro _; with_unfolding_all rfl)); (case fe6 => passes_own)))
    | ((with_reducible show LCg.CompEnd _ _ _ _ _ _ _ _ _ _ _ _ _ _); first | with_reducible ((refine' end_none ?ceF ?ceN (fun _ hp => hp) ?ceo (fun _ hp => hp) rfl); (case ceo => assumption); (case ceF => k_asm); (case ceN => k_asm)) | ((refine' end_none ?ceF ?ceN (fun _ hp => hp) ?ceo (fun _ hp => hp) rfl); (case ceo => assumption); (case ceF => k_asm); (case ceN => k_asm)))
    | ((with_reducible show wpAny _ _ (PySem.call (Value.type "zip") _) _ _ _); first | with_reducible ((refine' zipSB ?zs1 ?zs2 ?zs3 ?zs4 ?zs5 ?zs6 ?zs7 ?zs8 ?zs9); (case zs1 => with_unfolding_all rfl); (case zs2 => assumption); (case zs3 => assumption); (case zs4 => assumption); (case zs5 => assumption); (case zs6 => k_asm); (case zs7 => k_asm); (case' zs8 => (intro i9 a9 b9 ta9 tb9 I9 oI9 C9 oC9 D9 m9 ys9 own9 h9 tk9 E9 ha9 hb9 la9 lb9 hC9 hx9 hy9 F9 N9 off9 ne9)); (case' zs9 => (intro D9 h9 tk9 k9 F9 N9 off9 len9))) | ((refine' zipSB ?zs1 ?zs2 ?zs3 ?zs4 ?zs5 ?zs6 ?zs7 ?zs8 ?zs9); (case zs1 => with_unfolding_all rfl); (case zs2 => assumption); (case zs3 => assumption); (case zs4 => assumption); (case zs5 => assumption); (case zs6 => k_asm); (case zs7 => k_asm); (case' zs8 => (intro i9 a9 b9 ta9 tb9 I9 oI9 C9 oC9 D9 m9 ys9 own9 h9 tk9 E9 ha9 hb9 la9 lb9 hC9 hx9 hy9 F9 N9 off9 ne9)); (case' zs9 => (intro D9 h9 tk9 k9 F9 N9 off9 len9))))
    | ((with_reducible show wpAny _ _ (PySem.eval (PySem.Expr.ListComp _ _ _ _) _) _ _ _); first | with_reducible ((refine' ListComp_Z ?lz0 ?lz1 ?lz2 ?lz3 ?lz4 ?lz5 ?lz6 ?lz7 ?_ ?lz8); (case lz0 => k_asm); (case lz1 => with_unfolding_all rfl); (case lz2 => decide +kernel); (case lz3 => with_unfolding_all rfl); (case lz4 => decide +kernel); (case lz5 => with_unfolding_all rfl); (case lz6 => with_unfolding_all rfl); (case lz7 => decide +kernel); (case lz8 => (intro _; with_unfolding_all rfl))) | ((refine' ListComp_Z ?lz0 ?lz1 ?lz2 ?lz3 ?lz4 ?lz5 ?lz6 ?lz7 ?_ ?lz8); (case lz0 => k_asm); (case lz1 => with_unfolding_all rfl); (case lz2 => decide +kernel); (case lz3 => with_unfolding_all rfl); (case lz4 => decide +kernel); (case lz5 => with_unfolding_all rfl); (case lz6 => with_unfolding_all rfl); (case lz7 => decide +kernel); (case lz8 => (intro _; with_unfolding_all rfl))))
    | (k_unfold; (try dsimp only)) | (k_end; wrow_close) | walk1 | (dsimp only; walk1) | (leave1; try dsimp only) | fail "no step")
  all_goals (try exact seek_next (by assumption) (by assumption))
  all_goals (first
    | (refine' first_found hret ?a1 ?a2 ?aT ?aF ?aN ?aS ?aB ?aX ?aP ?aD; (case aT => assumption); (case a1 => assumption); (case a2 => assumption); (case aF => assumption); (case aN => assumption); (case aB => assumption); (case aX => assumption); (case aP => assumption); (case aD => assumption); (case aS => exact fun p hp => List.mem_append_right _ (.tail _ hp)))
    | (refine' first_none hret ?a1 ?aT ?aF ?aN ?aS ?aB ?aX ?aP ?aD; (case aT => assumption); (case a1 => assumption); (case aF => assumption); (case aN => assumption); (case aB => assumption); (case aX => assumption); (case aP => assumption); (case aD => assumption); (case aS => exact fun p hp => .tail _ hp)))
theorem first_list_gives (l1 l2 : Addr) (vs₁ vs₂ : List Value) (n1 n2 : Nat) (as bs : List Str) (h1 : AreOf ItemKind.str vs₁ as) (h2 : AreOf ItemKind.str vs₂ bs) (hl : as.length = bs.length) (hz : as.length ≤ 300) (ha1 : ∀ a ∈ as, a.length ≤ 300) (hb1 : ∀ a ∈ bs, a.length ≤ 300) (news) : GivesS w p loose mean mg mb 6 180 [.ref l1, .ref l2] ((l1, listOf vs₁.toArray n1) :: (l2, listOf vs₂.toArray n2) :: news) (firstV (parts as bs)) := by
  intro dp un gd env outer A₀ base g₀ h₀ L m s Q E B F X N T XB TB D T0 hf hk hd hu hret
  refine wpAny_call ?_
  k_dflt (refine' code_defSX ?k1 ?k2 ?k3 ?k4 ?k5 ?XB ?TB ?D ?T0 ?kA ?kF ?kK ?k6 ?k7 ?k8 ?k9 ?kB ?_ ?c2 ?c3 ?c4 ?c5; (case kA => exact rfl); (case kF => assumption); (case kK => assumption); (case k1 => k_asm); (case k2 => k_asm); (case k3 => k_asm); (case k4 => k_asm); (case k5 => k_asm); (case XB => assumption); (case TB => assumption); (case D => assumption); (case T0 => assumption); (case k6 => k_is); (case k7 => k_is); (case k8 => ktr_room); (case k9 => first | exact BindsTo.of_eq rfl | exact binds_K (by k_in) rfl (by k_is) rfl rfl rfl); (case c5 => decide); (case kB => exact locs rfl); (case c2 => exact rfl); (case c3 => exact rfl); (case c4 => exact rfl); k_whole; intro g' L' h' FG' F' N' B' X' T' D'; (try dsimp only); (try k_lift B'); (try k_fold))
  repeat' (first
    | ((with_reducible show wpAny _ _ (PySem.exec _ _) _ _ _); k_fold)
    | ((with_reducible show wpAny _ _ (PySem.execs _ _) _ _ _); k_fold)
    | ((with_reducible show wpAny _ _ (PySem.execs _ _) _ _ _); dsimp only)
    | ((with_reducible show wpAny _ _ (PySem.call (Value.type "zip") _) _ _ _); first | with_reducible ((refine' zipLB ?zl1 ?zl2 ?zl3 ?zl4 ?zl5 ?zl6 ?zl7 ?zl8 ?zl9 ?zla ?zlb ?zlc ?zld); (case zl8 => k_asm); (case zl9 => k_asm); (case zla => with_unfolding_all exact List.Mem.head _); (case zlb => with_unfolding_all exact List.Mem.tail _ (List.Mem.head _)); (case zl1 => with_unfolding_all rfl); (case zl2 => assumption); (case zl3 => assumption); (case zl4 => assumption); (case zl5 => assumption); (case zl6 => assumption); (case zl7 => assumption); (case' zlc => (intro i9 a9 b9 ta9 tb9 I9 oI9 C9 oC9 D9 m9 ys9 own9 h9 tk9 E9 ha9 hb9 la9 lb9 hC9 hx9 hy9 F9 N9 off9 ne9)); (case' zld => (intro D9 h9 tk9 k9 F9 N9 off9 len9))) | ((refine' zipLB ?zl1 ?zl2 ?zl3 ?zl4 ?zl5 ?zl6 ?zl7 ?zl8 ?zl9 ?zla ?zlb ?zlc ?zld); (case zl8 => k_asm); (case zl9 => k_asm); (case zla => with_unfolding_all exact List.Mem.head _); (case zlb => with_unfolding_all exact List.Mem.tail _ (List.Mem.head _)); (case zl1 => with_unfolding_all rfl); (case zl2 => assumption); (case zl3 => assumption); (case zl4 => assumption); (case zl5 => assumption); (case zl6 => assumption); (case zl7 => assumption); (case' zlc => (intro i9 a9 b9 ta9 tb9 I9 oI9 C9 oC9 D9 m9 ys9 own9 h9 tk9 E9 ha9 hb9 la9 lb9 hC9 hx9 hy9 F9 N9 off9 ne9)); (case' zld => (intro D9 h9 tk9 k9 F9 N9 off9 len9))))
    | ((with_reducible show wpAny _ _ (PySem.call (Value.type "ValueError") _) _ _ _); first | with_reducible ((refine' call_made ?_ ?hr9); (case hr9 => size_fits); intro h9 e9 hm9) | ((refine' call_made ?_ ?hr9); (case hr9 => size_fits); intro h9 e9 hm9))
    | ((with_reducible show wpAny _ _ (call (Value.ref 79) _) _ _ _); first | with_reducible ((k_dflt (refine' GivesV.use (ne_gives _ _ _ _ ?kx1 ?kx2 _) ?k1x79 ?k2x79 ?k3x79 ?k4x79 ?k5x79 ?kfx79 ?kKx79 ?kdx79 ?kux79 ?_; (case kx1 => assumption); (case kx2 => assumption); (case k1x79 => k_asm); (case k2x79 => k_asm); (case k3x79 => k_asm); (case k4x79 => k_asm); (case k5x79 => k_asm); (case kfx79 => first | exact rfl | assumption); (case kKx79 => first | exact rfl | assumption); (case kdx79 => ktr_room); (case kux79 => ktr_units); k_whole); intro t9 h9 tk9 F9 N9; (try dsimp only); (try k_fold))) | ((k_dflt (refine' GivesV.use (ne_gives _ _ _ _ ?kx1 ?kx2 _) ?k1x79 ?k2x79 ?k3x79 ?k4x79 ?k5x79 ?kfx79 ?kKx79 ?kdx79 ?kux79 ?_; (case kx1 => assumption); (case kx2 => assumption); (case k1x79 => k_asm); (case k2x79 => k_asm); (case k3x79 => k_asm); (case k4x79 => k_asm); (case k5x79 => k_asm); (case kfx79 => first | exact rfl | assumption); (case kKx79 => first | exact rfl | assumption); (case kdx79 => ktr_room); (case kux79 => ktr_units); k_whole); intro t9 h9 tk9 F9 N9; (try dsimp only); (try k_fold))))
    | ((with_reducible show wpAny _ _ (PySem.call (Value.type "enumerate") _) _ _ _); first | with_reducible ((refine' seek_enum ?se1 ?seF ?seN ?sem ?ses ?sed); (case se1 => with_unfolding_all rfl); (case seF => (rename Fr _ _ _ _ => kF9; with_unfolding_all exact kF9)); (case seN => (rename News _ _ _ _ => kN9; with_unfolding_all exact kN9)); (case sem => with_unfolding_all k_mem); (case' ses => (intro i9 b9 t9 own9 h9 tk9 hb9 hf9 F9 N9; cases b9)); (case' sed => (intro h9 tk9 m9 F9 N9 hf9 hJ9; unfold SeekJ at hJ9; obtain ⟨hz9, u9, e9⟩ := hJ9; subst e9))) | ((refine' seek_enum ?se1 ?seF ?seN ?sem ?ses ?sed); (case se1 => with_unfolding_all rfl); (case seF => (rename Fr _ _ _ _ => kF9; with_unfolding_all exact kF9)); (case seN => (rename News _ _ _ _ => kN9; with_unfolding_all exact kN9)); (case sem => with_unfolding_all k_mem); (case' ses => (intro i9 b9 t9 own9 h9 tk9 hb9 hf9 F9 N9; cases b9)); (case' sed => (intro h9 tk9 m9 F9 N9 hf9 hJ9; unfold SeekJ at hJ9; obtain ⟨hz9, u9, e9⟩ := hJ9; subst e9))))
    | ((with_reducible show wpAny _ _ (PySem.exec (PySem.Stmt.For (PySem.Expr.Tuple _ _ _) (PySem.Expr.Call _ _ _ _) _ _ _) _) _ _ _); first | with_reducible ((refine' For_pairElse ?fe0 ?fe1 ?fe2 ?fe3 ?fe4 ?_ ?fe5 ?fe6); (case fe0 => (rename Fr _ _ _ _ => kF9; with_unfolding_all exact kF9)); (case fe1 => with_unfolding_all rfl); (case fe2 => with_unfolding_all rfl); (case fe3 => with_unfolding_all rfl); (case fe4 => with_unfolding_all rfl); (case fe5 => (intro _; with_unfolding_all rfl)); (case fe6 => passes_own)) | ((refine' For_pairElse ?fe0 ?fe1 ?fe2 ?fe3 ?fe4 ?_ ?fe5 ?fe6); (case fe0 => (rename Fr _ _ _ _ => kF9; with_unfolding_all exact kF9)); (case fe1 => with_unfolding_all rfl); (case fe2 => with_unfolding_all rfl); (case fe3 => with_unfolding_all rfl); (case fe4 => with_unfolding_all rfl); (case fe5 => (intro _; with_unfolding_all rfl)); (case fe6 => passes_own)))
    | ((with_reducible show LCg.CompEnd _ _ _ _ _ _ _ _ _ _ _ _ _ _); first | with_reducible ((refine' end_none ?ceF ?ceN (fun _ hp => hp) ?ceo (fun _ hp => hp) rfl); (case ceo => assumption); (case ceF => k_asm); (case ceN => k_asm)) | ((refine' end_none ?ceF ?ceN (fun _ hp => hp) ?ceo (fun _ hp => hp) rfl); (case ceo => assumption); (case ceF => k_asm); (case ceN => k_asm)))
    | ((with_reducible show wpAny _ _ (PySem.call (Value.type "zip") _) _ _ _); first | with_reducible ((refine' zipSB ?zs1 ?zs2 ?zs3 ?zs4 ?zs5 ?zs6 ?zs7 ?zs8 ?zs9); (case zs1 => with_unfolding_all rfl); (case zs2 => assumption); (case zs3 => assumption); (case zs4 => assumption); (case zs5 => assumption); (case zs6 => k_asm); (case zs7 => k_asm); (case' zs8 => (intro i9 a9 b9 ta9 tb9 I9 oI9 C9 oC9 D9 m9 ys9 own9 h9 tk9 E9 ha9 hb9 la9 lb9 hC9 hx9 hy9 F9 N9 off9 ne9)); (case' zs9 => (intro D9 h9 tk9 k9 F9 N9 off9 len9))) | ((refine' zipSB ?zs1 ?zs2 ?zs3 ?zs4 ?zs5 ?zs6 ?zs7 ?zs8 ?zs9); (case zs1 => with_unfolding_all rfl); (case zs2 => assumption); (case zs3 => assumption); (case zs4 => assumption); (case zs5 => assumption); (case zs6 => k_asm); (case zs7 => k_asm); (case' zs8 => (intro i9 a9 b9 ta9 tb9 I9 oI9 C9 oC9 D9 m9 ys9 own9 h9 tk9 E9 ha9 hb9 la9 lb9 hC9 hx9 hy9 F9 N9 off9 ne9)); (case' zs9 => (intro D9 h9 tk9 k9 F9 N9 off9 len9))))
    | ((with_reducible show wpAny _ _ (PySem.eval (PySem.Expr.ListComp _ _ _ _) _) _ _ _); first | with_reducible ((refine' ListComp_Z ?lz0 ?lz1 ?lz2 ?lz3 ?lz4 ?lz5 ?lz6 ?lz7 ?_ ?lz8); (case lz0 => k_asm); (case lz1 => with_unfolding_all rfl); (case lz2 => decide +kernel); (case lz3 => with_unfolding_all rfl); (case lz4 => decide +kernel); (case lz5 => with_unfolding_all rfl); (case lz6 => with_unfolding_all rfl); (case lz7 => decide +kernel); (case lz8 => (intro _; with_unfolding_all rfl))) | ((refine' ListComp_Z ?lz0 ?lz1 ?lz2 ?lz3 ?lz4 ?lz5 ?lz6 ?lz7 ?_ ?lz8); (case lz0 => k_asm); (case lz1 => with_unfolding_all rfl); (case lz2 => decide +kernel); (case lz3 => with_unfolding_all rfl); (case lz4 => decide +kernel); (case lz5 => with_unfolding_all rfl); (case lz6 => with_unfolding_all rfl); (case lz7 => decide +kernel); (case lz8 => (intro _; with_unfolding_all rfl))))
    | (k_unfold; (try dsimp only)) | (k_end; wrow_close) | walk1 | (dsimp only; walk1) | (leave1; try dsimp only) | fail "no step")
  all_goals (try exact seek_next (by assumption) (by assumption))
  all_goals (first
    | (refine' first_found hret ?a1 ?a2 ?aT ?aF ?aN ?aS ?aB ?aX ?aP ?aD; (case aT => assumption); (case a1 => assumption); (case a2 => assumption); (case aF => assumption); (case aN => assumption); (case aB => assumption); (case aX => assumption); (case aP => assumption); (case aD => assumption); (case aS => exact fun p hp => List.mem_append_right _ (.tail _ hp)))
    | (refine' first_none hret ?a1 ?aT ?aF ?aN ?aS ?aB ?aX ?aP ?aD; (case aT => assumption); (case a1 => assumption); (case aF => assumption); (case aN => assumption); (case aB => assumption); (case aX => assumption); (case aP => assumption); (case aD => assumption); (case aS => exact fun p hp => .tail _ hp)))
end
-- part G8
section
open PySem PySem.W PyProof.Rows PySem.Calls
set_option maxRecDepth 100000
set_option maxHeartbeats 2000000
open LCg
theorem AreOf_snoc {α : Type} {K : ItemKind α} : ∀ {vs : List Value} {as : List α} {v : Value} {a : α}, AreOf K vs as → K.is a v → AreOf K (vs ++ [v]) (as ++ [a])
  | _, _, _, _, .nil, h => .cons h .nil
  | _, _, _, _, .cons h t, h' => .cons h (AreOf_snoc t h')
theorem strsAre_of : ∀ {vs : List Value} {as : List Str}, AreOf ItemKind.str vs as → StrsAre vs as
  | _, _, .nil => .nil
  | _, _, .cons ⟨t, rfl⟩ h => .cons _ t (strsAre_of h)
/-- a row: its list's place, its values, its octets -/
structure Row where
  a : Addr
  vs : List Value
  k : Nat
  ns : List Int
section
variable {prog : Program} {w : World} {A : Around} {E : Value → Shared → Prop} {s : Shared} {h₀ : Heap} {L : Addr} {m : Str → Option Value} {env : Env} {elt : Expr} {x : Str} {scope : Scope} {cl : List (Str × Addr)} {news : List (Addr × Obj)}
theorem comp_gen {α : Type} {S : List (Addr × Obj) → Prop} {Fin : List Value → List (Addr × Obj) → Prop} {xs : List α} {Rel : α → Value → Prop} {g : α → Str} {its : Array Value} (hlen : its.size = xs.length) (hits : ∀ (i : Nat) v, its[i]? = some v → ∃ z, xs[i]? = some z ∧ Rel z v) (hS : S news)
    (fin : ∀ ys, StrsAre ys (xs.map g) → Fin ys news)
    (turn : ∀ z v I oI C oC D m₂ ys h tk (E' : Value → Shared → Prop), z ∈ xs → Rel z v → NsObj oC m₂ → m₂ x = some v → Fr h₀ L h m → News h₀ L h ((I, oI) :: (C, oC) :: (D, lst ys) :: news) → Off3 I C D news → ((@Ne Nat I C) ∧ (@Ne Nat I D) ∧ (@Ne Nat C D)) →
      wpAny (model prog w) A (eval elt (compEnvC scope cl C env)) (CompEnd h₀ L m { s with heap := h, toks := tk } I oI C oC D (lst ys) (fun _ => True) (fun y nw => nw = news ∧ ∃ t, y = .str (g z) t)) E' { s with heap := h, toks := tk }) :
    CompRest prog w A h₀ L m env elt x scope cl s S (fun i v => its[i]? = some v) Fin its.size 0 [] news := by
  refine comp_inv (fun i ys nw => nw = news ∧ AreOf ItemKind.str ys ((xs.take i).map g)) ⟨rfl, .nil⟩ ?_ ?_
  · rintro ys nw ⟨rfl, h⟩
    rw [hlen, List.take_length] at h
    exact fin ys (strsAre_of h)
  · rintro i v I oI C oC D m₂ ys nw h tk E' hi hv ⟨rfl, hJ⟩ hC hx F N off ne
    obtain ⟨z, hz, hr⟩ := hits i v hv
    refine wpAny_mono (turn z v I oI C oC D m₂ ys h tk E' (List.mem_of_getElem? hz) hr hC hx F N off ne) (fun y s₂ hq => ?_) fun _ _ e => e
    obtain ⟨h', tk', nw', e, F', N', off', _, rfl, t, rfl⟩ := hq
    refine ⟨h', tk', _, e, F', N', off', hS, rfl, ?_⟩
    rw [List.take_add_one, hz, List.map_append]
    exact AreOf_snoc hJ ⟨t, rfl⟩
theorem src_ints {Fin : Shared → List Value → List (Addr × Obj) → Prop} {l : Addr} {vs : List Value} {k : Nat} {ns : List Int} (g : Int → Str) (hh : A.handled = none) (F : Fr h₀ L s.heap m) (N : News h₀ L s.heap news) (hm : (l, listOf vs.toArray k) ∈ news) (hi : IntsAre vs ns) (hz : ns.length ≤ 1000)
    (fin : ∀ h ys, StrsAre ys (ns.map g) → Fin { s with heap := h } ys news)
    (turn : ∀ z t I oI C oC D m₂ ys h tk (E' : Value → Shared → Prop), z ∈ ns → NsObj oC m₂ → m₂ x = some (.int z t) → Fr h₀ L h m → News h₀ L h ((I, oI) :: (C, oC) :: (D, lst ys) :: news) → Off3 I C D news → ((@Ne Nat I C) ∧ (@Ne Nat I D) ∧ (@Ne Nat C D)) →
      wpAny (model prog w) A (eval elt (compEnvC scope cl C env)) (CompEnd h₀ L m { s with heap := h, toks := tk } I oI C oC D (lst ys) (fun _ => True) (fun y nw => nw = news ∧ ∃ t, y = .str (g z) t)) E' { s with heap := h, toks := tk }) :
    CompSrc prog w A h₀ L m env elt x scope cl Fin (.ref l) s := by
  have hl : vs.toArray.size = ns.length := by simp [hi.length]
  refine CompSrc.ledger hh F N hm (by rw [hl]; exact Nat.le_trans hz (by decide)) fun h => comp_gen (g := g) (xs := ns) (Rel := fun z v => ∃ t, v = .int z t) hl (fun i v hv => ?_) (.inr ⟨_, hm, rfl, _, rfl⟩) (fin h) ?_
  · exact hi.areOf.get i v (by simpa using hv)
  · rintro z v I oI C oC D m₂ ys h' tk E' hz' ⟨t, rfl⟩ hC hx F' N' off ne
    exact turn z t I oI C oC D m₂ ys h' tk E' hz' hC hx F' N' off ne
theorem src_words {Fin : Shared → List Value → List (Addr × Obj) → Prop} {l : Addr} {vs : List Value} {k : Nat} {rws : List Row} {f : List Int → Str} {Ok : List Int → Prop} (g : List Int → Str) (hh : A.handled = none) (F : Fr h₀ L s.heap m) (N : News h₀ L s.heap news) (hm : (l, listOf vs.toArray k) ∈ news) (hi : StrsAre vs (rws.map fun r => f r.ns)) (hr : ∀ r ∈ rws, Ok r.ns) (hz : rws.length ≤ 1000)
    (fin : ∀ h ys, StrsAre ys (rws.map fun r => g r.ns) → Fin { s with heap := h } ys news)
    (turn : ∀ ns t I oI C oC D m₂ ys h tk (E' : Value → Shared → Prop), Ok ns → NsObj oC m₂ → m₂ x = some (.str (f ns) t) → Fr h₀ L h m → News h₀ L h ((I, oI) :: (C, oC) :: (D, lst ys) :: news) → Off3 I C D news → ((@Ne Nat I C) ∧ (@Ne Nat I D) ∧ (@Ne Nat C D)) →
      wpAny (model prog w) A (eval elt (compEnvC scope cl C env)) (CompEnd h₀ L m { s with heap := h, toks := tk } I oI C oC D (lst ys) (fun _ => True) (fun y nw => nw = news ∧ ∃ t, y = .str (g ns) t)) E' { s with heap := h, toks := tk }) :
    CompSrc prog w A h₀ L m env elt x scope cl Fin (.ref l) s := by
  have hl : vs.toArray.size = rws.length := by simp [hi.areOf.length]
  refine CompSrc.ledger hh F N hm (by rw [hl]; exact Nat.le_trans hz (by decide)) fun h => comp_gen (g := fun r : Row => g r.ns) (xs := rws) (Rel := fun r v => ∃ t, v = .str (f r.ns) t) hl (fun i v hv => ?_) (.inr ⟨_, hm, rfl, _, rfl⟩) (fin h) ?_
  · obtain ⟨a, ha, t, rfl⟩ := hi.areOf.get i v (by simpa using hv)
    rw [List.getElem?_map] at ha
    obtain ⟨r, hr, rfl⟩ := Option.map_eq_some_iff.mp ha
    exact ⟨r, hr, t, rfl⟩
  · rintro r v I oI C oC D m₂ ys h' tk E' hz' ⟨t, rfl⟩ hC hx F' N' off ne
    exact turn r.ns t I oI C oC D m₂ ys h' tk E' (hr r hz') hC hx F' N' off ne
theorem src_rows {Fin : Shared → List Value → List (Addr × Obj) → Prop} {l : Addr} {k : Nat} {rws : List Row} {Ok : List Int → Prop} (g : List Int → Str) (hh : A.handled = none) (F : Fr h₀ L s.heap m) (N : News h₀ L s.heap news) (hm : (l, listOf (rws.map fun r => Value.ref r.a).toArray k) ∈ news)
    (hr : ∀ r ∈ rws, (r.a, listOf r.vs.toArray r.k) ∈ news ∧ IntsAre r.vs r.ns ∧ Ok r.ns) (hz : rws.length ≤ 1000)
    (fin : ∀ h ys, StrsAre ys (rws.map fun r => g r.ns) → Fin { s with heap := h } ys news)
    (turn : ∀ a vs k ns I oI C oC D m₂ ys h tk (E' : Value → Shared → Prop), IntsAre vs ns → Ok ns → NsObj oC m₂ → m₂ x = some (.ref a) → Fr h₀ L h m → News h₀ L h ((I, oI) :: (C, oC) :: (D, lst ys) :: (a, listOf vs.toArray k) :: news) → Off3 I C D ((a, listOf vs.toArray k) :: news) → ((@Ne Nat I C) ∧ (@Ne Nat I D) ∧ (@Ne Nat C D)) →
      wpAny (model prog w) A (eval elt (compEnvC scope cl C env)) (CompEnd h₀ L m { s with heap := h, toks := tk } I oI C oC D (lst ys) (fun _ => True) (fun y nw => nw = news ∧ ∃ t, y = .str (g ns) t)) E' { s with heap := h, toks := tk }) :
    CompSrc prog w A h₀ L m env elt x scope cl Fin (.ref l) s := by
  have hl : (rws.map fun r => Value.ref r.a).toArray.size = rws.length := by simp
  refine CompSrc.ledger hh F N hm (by rw [hl]; exact Nat.le_trans hz (by decide)) fun h => comp_gen (g := fun r : Row => g r.ns) (xs := rws) (Rel := fun r v => v = .ref r.a) hl (fun i v hv => ?_) (.inr ⟨_, hm, rfl, _, rfl⟩) (fin h) ?_
  · simp only [List.getElem?_toArray, List.getElem?_map, Option.map_eq_some_iff] at hv
    obtain ⟨r, hr, rfl⟩ := hv
    exact ⟨r, hr, rfl⟩
  · rintro r v I oI C oC D m₂ ys h' tk E' hz' rfl hC hx F' N' off ne
    obtain ⟨hmem, hi, ho⟩ := hr r hz'
    refine turn r.a r.vs r.k r.ns I oI C oC D m₂ ys h' tk E' hi ho hC hx F' (fun p hp => ?_) ⟨Off3.mem off _ hmem, off⟩ ne
    simp only [List.mem_cons] at hp
    rcases hp with e | e | e | e | e
    · exact N' p (e ▸ .head _)
    · exact N' p (e ▸ .tail _ (.head _))
    · exact N' p (e ▸ .tail _ (.tail _ (.head _)))
    · exact N' p (e ▸ .tail _ (.tail _ (.tail _ hmem)))
    · exact N' p (.tail _ (.tail _ (.tail _ e)))
end
section
open PySem.Spec PyProof.V PySem.SeqAt
theorem readsAll_strs {h : Heap} : ∀ {vs : List Value} {ys : List Str}, StrsAre vs ys → ReadsAll h vs (ys.map PyData.str) []
  | _, _, .nil => .nil
  | _, _, .cons k t r => by
    have := ReadsAll.cons (Reads.str (h := h) k t) (readsAll_strs (h := h) r)
    simpa using this
theorem reads_strs {h : Heap} {a : Addr} {vs : List Value} {ys : List Str} (hl : h.IsList a vs.toArray) (hi : StrsAre vs ys) : Reads h (.ref a) (.list (ys.map PyData.str)) [a] := by
  obtain ⟨o, ho, hc, n, hd⟩ := hl
  exact Reads.list ho hc hd (by simpa using readsAll_strs hi)
theorem canLayAll0_strs : ∀ ys : List Str, (∀ y ∈ ys, PyData.strOk y = true) → PyData.canLayAll0 (ys.map PyData.str) = true
  | [], _ => by simp [PyData.canLayAll0]
  | n :: r, h => by simp [PyData.canLayAll0, PyData.canLay0, canLayAll0_strs r fun y hy => h y (List.mem_cons_of_mem _ hy), h n (List.mem_cons_self ..)]
theorem depthAll_strs : ∀ ys : List Str, PyData.depthAll (ys.map PyData.str) ≤ 1
  | [] => by simp [PyData.depthAll]
  | n :: r => by
    have := depthAll_strs r
    simp only [List.map_cons, PyData.depthAll, PyData.depth]
    omega
theorem shaped_strs (ys : List Str) (ok : ∀ y ∈ ys, PyData.strOk y = true) : shaped (.list (ys.map PyData.str)) = true := by
  have h1 := depthAll_strs ys
  have h2 : PyData.depth (.list (ys.map PyData.str)) ≤ 64 := by simp only [PyData.depth]; omega
  show (PyData.canLay0 (.list (ys.map PyData.str)) && decide (PyData.depth (.list (ys.map PyData.str)) ≤ 64)) = true
  rw [Bool.and_eq_true]
  exact ⟨by simp only [PyData.canLay0]; exact canLayAll0_strs ys ok, decide_eq_true h2⟩
theorem noMix_strs : ∀ ns ms : List Str, noMixAll (ns.map PyData.str) (ms.map PyData.str) = true
  | [], [] => by simp [noMixAll]
  | [], _ :: _ => by simp [noMixAll]
  | _ :: _, [] => by simp [noMixAll]
  | _ :: r, _ :: q => by simp [noMixAll, noMix, noMix_strs r q]
theorem same_strs : ∀ ns ms : List Str, PySem.Spec.sameAll (ns.map PyData.str) (ms.map PyData.str) = decide (ns = ms)
  | [], [] => by simp [PySem.Spec.sameAll]
  | [], _ :: _ => by simp [PySem.Spec.sameAll]
  | _ :: _, [] => by simp [PySem.Spec.sameAll]
  | n :: r, k :: q => by
    simp only [List.map_cons, PySem.Spec.sameAll, PySem.Spec.same, same_strs r q]
    by_cases h : n = k <;> simp [h]
variable {prog : Program} {w : World} {A : Around} {E : Value → Shared → Prop} {s : Shared} {a b : Addr} {vs us : List Value} {Q : Value → Shared → Prop} {h₀ : Heap} {L : Addr} {news : List (Addr × Obj)} {k j : Nat}
theorem eq_strsL {ns ms : List Str} (ok : ∀ y ∈ ns, PyData.strOk y = true) (ok' : ∀ y ∈ ms, PyData.strOk y = true) (N : News h₀ L s.heap news) (hl : (a, listOf vs.toArray k) ∈ news) (hi : StrsAre vs ns) (hl' : (b, listOf us.toArray j) ∈ news) (hi' : StrsAre us ms) (hu : A.units + 64 < cLine) (h : Q (.bool (decide (ns = ms))) s) : wpAny (model prog w) A (compareOp .Eq (.ref a) (.ref b)) Q E s :=
  eq_dataH_same (reads_strs (News.isList N hl) hi) (reads_strs (News.isList N hl') hi') (shaped_strs ns ok) (shaped_strs ms ok') hu (by simp only [noMix]; exact noMix_strs ns ms) (by simp only [PySem.Spec.same]; rw [same_strs]; exact h)
theorem ne_same {ns : List Str} (ok : ∀ y ∈ ns, PyData.strOk y = true) (N : News h₀ L s.heap news) (hl : (a, listOf vs.toArray k) ∈ news) (hi : StrsAre vs ns) (hl' : (b, listOf us.toArray j) ∈ news) (hi' : StrsAre us ns) (hu : A.units + 64 < cLine) (h : Q (.bool false) s) : wpAny (model prog w) A (compareOp .NotEq (.ref a) (.ref b)) Q E s :=
  ne_dataH_same (reads_strs (News.isList N hl) hi) (reads_strs (News.isList N hl') hi') (shaped_strs ns ok) (shaped_strs ns ok) hu (by simp only [noMix]; exact noMix_strs ns ns) (by simp only [PySem.Spec.same]; rw [same_strs, decide_eq_true rfl]; exact h)
end
end
-- part G10
section
open PySem PySem.W PyProof.Rows PySem.Calls
set_option maxRecDepth 100000
set_option maxHeartbeats 2000000
open LCg
section
variable {prog : Program} {w : World} {A : Around} {E : Value → Shared → Prop} {s : Shared} {h₀ : Heap} {L : Addr} {m : Str → Option Value} {env : Env}
/-- the source of a comprehension whose turns know that no mark was taken back -/
inductive SrcN (prog : Program) (w : World) (A : Around) (h₀ : Heap) (L : Addr) (m : Str → Option Value) (env : Env) (elt : Expr) (x : Str) (scope : Scope) (cl : List (Str × Addr)) (Q : Value → Shared → Prop) (xv : Value) (s₁ : Shared) : Prop
  | intro (l : Addr) (vs : List Value) (k : Nat) (news : List (Addr × Obj)) (J : Nat → List Value → Prop) (_ : xv = .ref l) (_ : A.handled = none) (_ : Fr h₀ L s₁.heap m) (_ : News h₀ L s₁.heap news) (_ : (l, listOf vs.toArray k) ∈ news) (_ : vs.length ≤ 1000) (_ : J 0 []) (_ : ∀ i v I oI C oC D m₂ ys h tk (E' : Value → Shared → Prop), vs[i]? = some v → J i ys → 0 < tk → NsObj oC m₂ → m₂ x = some v → Fr h₀ L h m → News h₀ L h ((I, oI) :: (C, oC) :: (D, lst ys) :: news) → Off3 I C D news → ((@Ne Nat I C) ∧ (@Ne Nat I D) ∧ (@Ne Nat C D)) → wpAny (model prog w) A (eval elt (compEnvC scope cl C env)) (CompEnd h₀ L m { s₁ with heap := h, toks := tk } I oI C oC D (lst ys) (fun _ => True) (fun y nw => nw = news ∧ J (i + 1) (ys ++ [y]))) E' { s₁ with heap := h, toks := tk }) (_ : ∀ ys, J vs.length ys → FinE h₀ L m s₁ Q ys news) : SrcN prog w A h₀ L m env elt x scope cl Q xv s₁
theorem ListComp_N {elt iter : Expr} {x : Str} {px : Pos} {scope : Scope} {cl : List (Str × Addr)} {pos : Pos} {Q : Value → Shared → Prop} (F₀ : Fr h₀ L s.heap m)
    (hclos : closureFor scope env = pure cl) (hcell : ∀ y ∈ scope.names, y.2 ≠ .cell) (hkind : scope.kind = .function)
    (hnames : ∀ y ∈ scope.names, y.2 = .local → scope.names.lookup y.1 = some .local) (hx : scope.names.lookup x = some .local)
    (h : wpAny (model prog w) A (eval iter env) (SrcN prog w A h₀ L m env elt x scope cl Q) E s)
    (hs : ∀ x, foldedSetIterable iter env x = pure x := by intro _; rfl) :
    wpAny (model prog w) A (eval (.ListComp elt [⟨.Name x px, iter, [], 0⟩] scope pos) env) Q E s := by
  rw [eval_ListComp]
  refine wpAny_comprehension_free (use := none) rfl hs hclos hkind hnames (wpAny_mono h (fun xv s₁ h₁ => ?_) fun _ _ e => e)
  obtain ⟨l, vs, kk, news, J, rfl, hh, F, N, hm, hsz, h0, turn, fin⟩ := h₁
  have hl : s₁.heap.IsList l vs.toArray := News.isList N hm
  have hlt : l < s₁.heap.objs.size := by obtain ⟨_, e, _⟩ := hl; exact Heap.lt_size e
  refine wpAny_pyIter_list hl ?_
  generalize hI : s₁.heap.objs.size = I at *
  have W := Walks.list (prog := prog) (w := w) hh I l (Nat.ne_of_lt hlt) vs.toArray
  have up : ∀ b o, s₁.heap.get? b = some o → (s₁.heap.push { cls := .type "list_iterator", data := .fields #[.ref l, .int 0 0] }).get? b = some o := fun b o e => Heap.get?_push_of_some _ e
  have FI := F.keeps up
  have NI := N.grown up
  have stI : (fun (i : Nat) (h : Heap) => h.IsListIter I l i ∧ h.IsList l vs.toArray) 0 (s₁.heap.push { cls := .type "list_iterator", data := .fields #[.ref l, .int 0 0] }) := ⟨⟨_, hI ▸ Heap.get?_push_size _ rfl, rfl, rfl⟩, hl.push _⟩
  have hIL : L ≠ I := hI ▸ Nat.ne_of_lt F.ns.lt
  have hI₀ : h₀.get? I = none := hI ▸ next_is_new F
  have off : ∀ p ∈ news, p.1 ≠ I := fun p hp => hI ▸ Nat.ne_of_lt (Heap.lt_size (N p hp).1)
  have hIsz : I < (s₁.heap.push { cls := .type "list_iterator", data := .fields #[.ref l, .int 0 0] }).objs.size := by rw [Heap.size_push, hI]; exact Nat.lt_succ_self _
  generalize (s₁.heap.push { cls := .type "list_iterator", data := .fields #[.ref l, .int 0 0] }) = g at FI NI stI hIsz ⊢
  refine wpAny_newObj_type (wpAny_newFunctionEnv hcell (by intro y hy; simp at hy) (fun h₁ hns₁ hsb₁ => ?_) hkind)
  dsimp only at hns₁ hsb₁ ⊢
  generalize hH2 : g.push { cls := .type "list", dict := none, data := .seq ([] : List Value).toArray } = H2 at hns₁ hsb₁ ⊢
  have hC : H2.objs.size = g.objs.size + 1 := by rw [← hH2, Heap.size_push]
  have hDC : g.objs.size ≠ H2.objs.size := by rw [hC]; exact Nat.ne_of_lt (Nat.lt_succ_self _)
  have below : ∀ b, b < g.objs.size → b ≠ H2.objs.size ∧ b ≠ g.objs.size := fun b hb => ⟨by rw [hC]; exact Nat.ne_of_lt (Nat.lt_succ_of_lt hb), Nat.ne_of_lt hb⟩
  have hCI : I ≠ H2.objs.size := (below I hIsz).1
  have hDI : I ≠ g.objs.size := (below I hIsz).2
  have hlg : l < g.objs.size := Nat.lt_trans hlt hIsz
  have hfp : ∀ b ∈ [I, l], b ≠ H2.objs.size ∧ b ≠ g.objs.size := fun b hb => by
    rcases List.mem_cons.mp hb with rfl | hb
    · exact below _ hIsz
    · rw [List.mem_singleton.mp hb]; exact below _ hlg
  have old : ∀ b o, g.get? b = some o → h₁.get? b = some o := fun b o e => hsb₁.extBut b o (below b (Heap.lt_size e)).1 (Heap.get?_push_of_some _ (hH2 ▸ Heap.get?_push_of_some _ e))
  have hacc : h₁.get? g.objs.size = some (lst []) := hsb₁.extBut _ _ hDC (Heap.get?_push_of_some _ (hH2 ▸ Heap.get?_push_size _ rfl))
  have fresh₀ : ∀ a, g.objs.size ≤ a → h₀.get? a = none := fun a ha => by
    cases e : h₀.get? a with
    | none => rfl
    | some o' => exact absurd (Heap.lt_size (FI.keep a o' e)) (Nat.not_lt.mpr ha)
  have hD₀ : h₀.get? g.objs.size = none := fresh₀ _ (Nat.le_refl _)
  have hC₀ : h₀.get? H2.objs.size = none := fresh₀ _ (by rw [hC]; exact Nat.le_succ _)
  have hDL : g.objs.size ≠ L := Ne.symm (below L FI.ns.lt).2
  have hCL : H2.objs.size ≠ L := Ne.symm (below L FI.ns.lt).1
  have hst₁ := W.frame _ _ _ stI fun b _ o e => old b o e
  have off₀ : Off3 I H2.objs.size g.objs.size news := Off3.of fun p hp => ⟨off p hp, (below _ (Heap.lt_size (NI p hp).1)).1, (below _ (Heap.lt_size (NI p hp).1)).2⟩
  have off3 := off₀.mem
  have N₁ : News h₀ L h₁ ((g.objs.size, lst []) :: news) := fun p hp => by
    rcases List.mem_cons.mp hp with rfl | hp
    · exact ⟨hacc, hDL, hD₀⟩
    · exact ⟨old _ _ (NI p hp).1, (NI p hp).2⟩
  have loop : ∀ s₃ : Shared, s₃ = { s₁ with heap := h₁, toks := s₁.toks + ([] : List (Str × Value)).length } →
      codeAny (model prog w) A (.compLoop (.ListComp elt [⟨.Name x px, iter, [], 0⟩] scope pos) 0 (.ref I) (.ref g.objs.size) (compEnvC scope cl H2.objs.size env))
        (compPost (model prog w) A E none Q (.ref g.objs.size) H2.objs.size) s₃ := by
    rintro s₃ rfl
    refine codeAny_compLoop_tests
      (fun k s' => ∃ h' tk i ys m', s' = { s₁ with heap := h', toks := tk } ∧ i ≤ vs.length ∧ k = vs.length + 1 - i ∧ ys.length = i ∧ (h'.IsListIter I l i ∧ h'.IsList l vs.toArray) ∧ Fr h₀ L h' m ∧ h'.Ns H2.objs.size m' ∧ News h₀ L h' ((g.objs.size, lst ys) :: news) ∧ J i ys) ?_ (vs.length + 1)
      ⟨h₁, _, 0, [], _, rfl, Nat.zero_le _, rfl, rfl, hst₁, FI.keeps old, hns₁, N₁, h0⟩
    · rintro k s' ⟨h', tk, i, ys, m', rfl, hi, rfl, hyl, hst', F', hn', N', hJ⟩
      by_cases hlt : i < vs.length
      · refine W.item i _ _ _ (by simpa using hlt) hst' fun v h₂ tk₂ hPv hst₂ hk₂ => ?_
        refine wpAny_assign_Name (wpAny_storeName_local (lookup_relabel_local hx) (hn'.at' fun o e => hk₂ _ o (by simpa using Ne.symm hCI) e) (fun h₃ hn₃ hs₃ => ?_) (by simp [compEnvC, relabel, hkind]))
        refine wpAny_tests_nil ?_
        simp only [if_true]
        have hst₃ := W.frame _ _ _ hst₂ fun b hb o e => hs₃.extBut b o (hfp b hb).1 e
        obtain ⟨oI, heI, _⟩ := hst₃.1
        obtain ⟨oC, heC, hoC⟩ := ns_obj hn₃
        have F₃ : Fr h₀ L h₃ m := (fr_but F' hk₂ hIL hI₀).change hs₃ hCL hC₀
        have N₂ : News h₀ L h₂ ((g.objs.size, lst ys) :: news) := news_but N' hk₂ fun p hp => by
          rcases List.mem_cons.mp hp with rfl | hp
          · exact Ne.symm hDI
          · exact (off3 p hp).1
        have N₃ : News h₀ L h₃ ((I, oI) :: (H2.objs.size, oC) :: (g.objs.size, lst ys) :: news) := fun p hp => by
          rcases List.mem_cons.mp hp with rfl | hp
          · exact ⟨heI, Ne.symm hIL, hI₀⟩
          · rcases List.mem_cons.mp hp with rfl | hp
            · exact ⟨heC, hCL, hC₀⟩
            · have z := N₂ p hp
              refine ⟨hs₃.extBut _ _ ?_ z.1, z.2⟩
              rcases List.mem_cons.mp hp with rfl | hp
              · exact hDC
              · exact (off3 p hp).2.1
        refine wpAny_mono (turn i v I oI H2.objs.size oC g.objs.size _ ys h₃ _ _ (by simpa using hPv) hJ (Nat.succ_pos _) hoC (by simp) F₃ N₃ off₀ ⟨hCI, hDI, Ne.symm hDC⟩) (fun y s₄ h₄ => ?_) fun _ _ e => e
        obtain ⟨h₄, tk₄, news₄, rfl, F₄, N₄, off₄, _, rfl, hJ₄⟩ := h₄
        have zI := (N₄ (I, oI) List.mem_cons_self).1
        have zC := (N₄ (H2.objs.size, oC) (List.mem_cons_of_mem _ List.mem_cons_self)).1
        have zD := (N₄ (g.objs.size, lst ys) (List.mem_cons_of_mem _ (List.mem_cons_of_mem _ List.mem_cons_self))).1
        have N₄' : News h₀ L h₄ news₄ := fun p hp => N₄ p (List.mem_cons_of_mem _ (List.mem_cons_of_mem _ (List.mem_cons_of_mem _ hp)))
        have hst₄ : h₄.IsListIter I l (i + 1) ∧ h₄.IsList l vs.toArray := ⟨by obtain ⟨o', q, r⟩ := hst₃.1; rw [heI] at q; cases q; exact ⟨oI, zI, r⟩, News.isList N₄' hm⟩
        refine append_at (hsz := by show ys.toArray.size ≤ sizeLine; rw [List.size_toArray, hyl]; exact Nat.le_trans hi (Nat.le_trans hsz (by decide))) zD fun h₅ hs₅ hD₅ => ?_
        refine ⟨vs.length + 1 - (i + 1), by omega, h₅, tk₄, i + 1, ys ++ [y], _, rfl, hlt, rfl, by rw [List.length_append, List.length_singleton, hyl], W.frame _ _ _ hst₄ fun b hb o e => hs₅.extBut b o (hfp b hb).2 e, F₄.change hs₅ hDL hD₀,
          (hoC.ns zC).sameBut hs₅ (Ne.symm hDC), fun p hp => ?_, hJ₄⟩
        rcases List.mem_cons.mp hp with rfl | hp
        · exact ⟨hD₅.trans (congrArg some (lst_snoc ys y)), hDL, hD₀⟩
        · exact ⟨hs₅.extBut _ _ (off3 p hp).2.2 (N₄' p hp).1, (N₄' p hp).2⟩
      · obtain rfl : i = vs.length := Nat.le_antisymm hi (Nat.not_lt.mp hlt)
        refine W.done _ _ _ (by simpa using hst') fun h₂ tk₂ hk₂ => ?_
        have F₂ := fr_but F' hk₂ hIL hI₀
        have N₂ : News h₀ L h₂ ((g.objs.size, lst ys) :: news) := news_but N' hk₂ fun p hp => by
          rcases List.mem_cons.mp hp with rfl | hp
          · exact Ne.symm hDI
          · exact (off3 p hp).1
        refine ⟨m', hn'.at' fun o e => hk₂ _ o (by simpa using Ne.symm hCI) e, fun h'' hs'' => fin ys hJ _ h'' _ (F₂.change hs'' hCL hC₀) (fun p hp => ?_) off₀.one⟩
        refine ⟨hs''.extBut _ _ ?_ (N₂ p hp).1, (N₂ p hp).2⟩
        rcases List.mem_cons.mp hp with rfl | hp
        · exact hDC
        · exact (off3 p hp).2.1
  exact codeAny_compStart_list (loop _ rfl) (W.self 0 _ _ _ hst₁ (loop _ rfl))
/-- a ledger list of words -/
theorem srcN_words {elt : Expr} {x : Str} {scope : Scope} {cl : List (Str × Addr)} {Q : Value → Shared → Prop} {l : Addr} {vs : List Value} {k : Nat} {news : List (Addr × Obj)} {rws : List Row} {f : List Int → Str} {Ok : List Int → Prop} (g : List Int → Str) (hh : A.handled = none) (F : Fr h₀ L s.heap m) (N : News h₀ L s.heap news) (hm : (l, listOf vs.toArray k) ∈ news) (hi : StrsAre vs (rws.map fun r => f r.ns)) (hr : ∀ r ∈ rws, Ok r.ns) (hz : rws.length ≤ 1000)
    (fin : ∀ ys, StrsAre ys (rws.map fun r => g r.ns) → FinE h₀ L m s Q ys news)
    (turn : ∀ ns t I oI C oC D m₂ ys h tk (E' : Value → Shared → Prop), Ok ns → 0 < tk → NsObj oC m₂ → m₂ x = some (.str (f ns) t) → Fr h₀ L h m → News h₀ L h ((I, oI) :: (C, oC) :: (D, lst ys) :: news) → Off3 I C D news → ((@Ne Nat I C) ∧ (@Ne Nat I D) ∧ (@Ne Nat C D)) →
      wpAny (model prog w) A (eval elt (compEnvC scope cl C env)) (CompEnd h₀ L m { s with heap := h, toks := tk } I oI C oC D (lst ys) (fun _ => True) (fun y nw => nw = news ∧ ∃ t, y = .str (g ns) t)) E' { s with heap := h, toks := tk }) :
    SrcN prog w A h₀ L m env elt x scope cl Q (.ref l) s := by
  have hl : vs.length = rws.length := by simp [hi.areOf.length]
  refine ⟨l, vs, k, news, fun i ys => AreOf ItemKind.str ys ((rws.take i).map fun r => g r.ns), rfl, hh, F, N, hm, by rw [hl]; exact hz, .nil, ?_, fun ys h => ?_⟩
  · rintro i v I oI C oC D m₂ ys h tk E' hv hJ htk hC hx F N off ne
    obtain ⟨a, ha, t, rfl⟩ := hi.areOf.get i v hv
    rw [List.getElem?_map] at ha
    obtain ⟨r, hr', rfl⟩ := Option.map_eq_some_iff.mp ha
    refine wpAny_mono (turn r.ns t I oI C oC D m₂ ys h tk E' (hr r (List.mem_of_getElem? hr')) htk hC hx F N off ne) (fun y s₂ hq => ?_) fun _ _ e => e
    obtain ⟨h', tk', nw', e, F', N', off', hS, rfl, t, rfl⟩ := hq
    refine ⟨h', tk', _, e, F', N', off', hS, rfl, ?_⟩
    show AreOf ItemKind.str _ ((rws.take (i + 1)).map fun r => g r.ns)
    rw [List.take_add_one, hr', List.map_append]
    exact AreOf_snoc hJ ⟨t, rfl⟩
  · have h : AreOf ItemKind.str ys ((rws.take vs.length).map fun r => g r.ns) := h
    rw [hl, List.take_length] at h
    exact fin ys (strsAre_of h)
end
end
-- part G11
section
open PySem PySem.W PyProof.Rows PySem.Calls
set_option maxRecDepth 100000
set_option maxHeartbeats 2000000
open LCg
noncomputable abbrev tupO (xs : List Value) (k : Nat) : Obj := { cls := .type "tuple", data := .seq xs.toArray k }
noncomputable def Off4 (I C c D : Addr) : List (Addr × Obj) → Prop
  | [] => True
  | p :: r => ((@Ne Nat p.1 I) ∧ (@Ne Nat p.1 C) ∧ (@Ne Nat p.1 c) ∧ (@Ne Nat p.1 D)) ∧ Off4 I C c D r
theorem Off4.mem {I C c D : Addr} : ∀ {l : List (Addr × Obj)}, Off4 I C c D l → ∀ p ∈ l, p.1 ≠ I ∧ p.1 ≠ C ∧ p.1 ≠ c ∧ p.1 ≠ D
  | [], _, _, h => nomatch h
  | _ :: _, x, p, h => by
    rcases List.mem_cons.mp h with rfl | h
    · exact x.1
    · exact Off4.mem x.2 p h
theorem Off4.of {I C c D : Addr} : ∀ {l : List (Addr × Obj)}, (∀ p ∈ l, p.1 ≠ I ∧ p.1 ≠ C ∧ p.1 ≠ c ∧ p.1 ≠ D) → Off4 I C c D l
  | [], _ => trivial
  | _ :: _, h => ⟨h _ List.mem_cons_self, Off4.of fun p hp => h p (List.mem_cons_of_mem _ hp)⟩
theorem Off4.one {I C c D : Addr} : ∀ {l : List (Addr × Obj)}, Off4 I C c D l → Off1 D l
  | [], _ => trivial
  | _ :: _, x => ⟨x.1.2.2.2, Off4.one x.2⟩
section
variable {prog : Program} {w : World} {A : Around} {E : Value → Shared → Prop} {s : Shared} {h₀ : Heap} {L : Addr} {m : Str → Option Value} {env : Env}
theorem wpAny_newEnv_cell {M : Model} {scope : Scope} {globals : Addr} {cl : List (Str × Addr)} {qual : Str} {x : Str} {around : Env} {Q : Env → Shared → Prop} (hcf : ∀ n, cellsFrom n scope.names cl = (x, n) :: cl) (hpc : ∀ h, pushCells h scope.names = h.push { cls := .type "cell", data := .cell none })
    (h : Q { scope, locals := s.heap.objs.size, globals, cells := (x, s.heap.objs.size + 1) :: cl, qual, func := none, code := around.code, frame := around.frame, builtins := around.builtins } { s with heap := (s.heap.push { cls := .type "dict", data := .dict #[] }).push { cls := .type "cell", data := .cell none } }) :
    wpAny M A (newFunctionEnv scope globals cl [] qual none .none (some around)) Q E s := by
  simp only [newFunctionEnv, Option.isSome_some, if_true]
  refine wpAny_bind (wpAny_alloc ?_)
  refine wpAny_bind (wpAny_layCells _ (fun name kind cells => by cases hkc : kind == NameKind.cell <;> simp [hkc]) _ _ _ _ ?_)
  rw [hcf, hpc]
  rw [show ({ s with heap := s.heap.push { cls := .type "dict", data := .dict #[] } } : Shared).heap.objs.size = s.heap.objs.size + 1 from Heap.size_push ..]
  exact wpAny_bind (wpAny_pure (wpAny_pure h))
/-- a turn's end -/
inductive EndC (h₀ : Heap) (L : Addr) (m : Str → Option Value) (s : Shared) (I : Addr) (oI : Obj) (C : Addr) (oC : Obj) (c : Addr) (oc : Obj) (D : Addr) (oD : Obj) (news : List (Addr × Obj)) (rest : Value → List (Addr × Obj) → Prop) (y : Value) (s₂ : Shared) : Prop
  | intro (h') (tk') (nw) (_ : s₂ = { s with heap := h', toks := tk' }) (_ : Fr h₀ L h' m) (_ : News h₀ L h' ((I, oI) :: (C, oC) :: (c, oc) :: (D, oD) :: nw)) (_ : Off4 I C c D nw) (_ : ∀ p ∈ news, p ∈ nw) (_ : rest y nw) : EndC h₀ L m s I oI C oC c oc D oD news rest y s₂
theorem EndC.keep {I C c D : Addr} {oI oC oc oD o : Obj} {news all : List (Addr × Obj)} {rest : Value → List (Addr × Obj) → Prop} {y : Value} {h' : Heap} {tk' : Nat} {a : Addr} (F : Fr h₀ L h' m) (N : News h₀ L h' all) (hp : (a, o) ∈ all) (sub : ∀ p ∈ (I, oI) :: (C, oC) :: (c, oc) :: (D, oD) :: news, p ∈ all)
    (ne : (@Ne Nat a I) ∧ (@Ne Nat a C) ∧ (@Ne Nat a c) ∧ (@Ne Nat a D)) (off : Off4 I C c D news) (r : rest y ((a, o) :: news)) : EndC h₀ L m s I oI C oC c oc D oD news rest y { s with heap := h', toks := tk' } :=
  ⟨h', tk', (a, o) :: news, rfl, F, fun p hm => by
    simp only [List.mem_cons] at hm
    rcases hm with e | e | e | e | e | e
    · exact N p (sub p (e ▸ .head _))
    · exact N p (sub p (e ▸ .tail _ (.head _)))
    · exact N p (sub p (e ▸ .tail _ (.tail _ (.head _))))
    · exact N p (sub p (e ▸ .tail _ (.tail _ (.tail _ (.head _)))))
    · exact N p (e ▸ hp)
    · exact N p (sub p (.tail _ (.tail _ (.tail _ (.tail _ e))))), ⟨ne, off⟩, fun _ hp => .tail _ hp, r⟩
/-- the turns of a comprehension whose target is a cell -/
noncomputable def RestC (prog : Program) (w : World) (A : Around) (h₀ : Heap) (L : Addr) (m : Str → Option Value) (env : Env) (elt : Expr) (x : Str) (scope : Scope) (cl : List (Str × Addr)) (s : Shared) (Fin : List Value → List (Addr × Obj) → Prop) : List Value → List Value → List (Addr × Obj) → Prop
  | [], ys, news => Fin ys news
  | v :: xs, ys, news => ∀ I oI C oC c oc D h tk (E' : Value → Shared → Prop), oc.data = .cell (some v) → Fr h₀ L h m → News h₀ L h ((I, oI) :: (C, oC) :: (c, oc) :: (D, lst ys) :: news) → Off4 I C c D news → ((@Ne Nat I C) ∧ (@Ne Nat I c) ∧ (@Ne Nat I D) ∧ (@Ne Nat C c) ∧ (@Ne Nat C D) ∧ (@Ne Nat c D)) →
      wpAny (model prog w) A (eval elt (compEnvC scope ((x, c) :: cl) C env)) (EndC h₀ L m s I oI C oC c oc D (lst ys) news (fun y nw => RestC prog w A h₀ L m env elt x scope cl s Fin xs (ys ++ [y]) nw)) E' { s with heap := h, toks := tk }
inductive SrcC (prog : Program) (w : World) (A : Around) (h₀ : Heap) (L : Addr) (m : Str → Option Value) (env : Env) (elt : Expr) (x : Str) (scope : Scope) (cl : List (Str × Addr)) (Fin : Shared → List Value → List (Addr × Obj) → Prop) (xv : Value) (s₁ : Shared) : Prop
  | intro (T : Addr) (xs : List Value) (k : Nat) (news : List (Addr × Obj)) (_ : xv = .ref T) (_ : A.handled = none) (_ : Fr h₀ L s₁.heap m) (_ : News h₀ L s₁.heap news) (_ : (T, tupO xs k) ∈ news) (_ : xs.length ≤ 1000) (_ : ∀ g, RestC prog w A h₀ L m env elt x scope cl { s₁ with heap := g } (Fin { s₁ with heap := g }) xs [] news) : SrcC prog w A h₀ L m env elt x scope cl Fin xv s₁
theorem SrcC.mk {elt : Expr} {x : Str} {scope : Scope} {cl : List (Str × Addr)} {Fin : Shared → List Value → List (Addr × Obj) → Prop} {T : Addr} {xs : List Value} {k : Nat} {news : List (Addr × Obj)} (hh : A.handled = none) (F : Fr h₀ L s.heap m) (N : News h₀ L s.heap news) (hm : (T, tupO xs k) ∈ news) (hz : xs.length ≤ 1000)
    (h : ∀ g, RestC prog w A h₀ L m env elt x scope cl { s with heap := g } (Fin { s with heap := g }) xs [] news) : SrcC prog w A h₀ L m env elt x scope cl Fin (.ref T) s := ⟨T, xs, k, news, rfl, hh, F, N, hm, hz, h⟩
theorem RestC.nil {elt : Expr} {x : Str} {scope : Scope} {cl : List (Str × Addr)} {Fin : List Value → List (Addr × Obj) → Prop} {ys : List Value} {news : List (Addr × Obj)} (h : Fin ys news) : RestC prog w A h₀ L m env elt x scope cl s Fin [] ys news := h
theorem RestC.cons {elt : Expr} {x : Str} {scope : Scope} {cl : List (Str × Addr)} {Fin : List Value → List (Addr × Obj) → Prop} {v : Value} {xs ys : List Value} {news : List (Addr × Obj)}
    (h : ∀ I oI C oC c oc D h tk (E' : Value → Shared → Prop), oc.data = .cell (some v) → Fr h₀ L h m → News h₀ L h ((I, oI) :: (C, oC) :: (c, oc) :: (D, lst ys) :: news) → Off4 I C c D news → ((@Ne Nat I C) ∧ (@Ne Nat I c) ∧ (@Ne Nat I D) ∧ (@Ne Nat C c) ∧ (@Ne Nat C D) ∧ (@Ne Nat c D)) →
      wpAny (model prog w) A (eval elt (compEnvC scope ((x, c) :: cl) C env)) (EndC h₀ L m s I oI C oC c oc D (lst ys) news (fun y nw => RestC prog w A h₀ L m env elt x scope cl s Fin xs (ys ++ [y]) nw)) E' { s with heap := h, toks := tk }) :
    RestC prog w A h₀ L m env elt x scope cl s Fin (v :: xs) ys news := h
theorem block_C {elt iter : Expr} {x : Str} {px : Pos} {scope : Scope} {cl : List (Str × Addr)} {pos : Pos} {s₁ : Shared} {l : Addr} {vs : List Value} {kk : Nat} {news : List (Addr × Obj)} {Fin : Shared → List Value → List (Addr × Obj) → Prop} {RR : Value → Addr → Result → Shared → Prop}
    (hcf : ∀ n, cellsFrom n scope.names cl = (x, n) :: cl) (hpc : ∀ h, pushCells h scope.names = h.push { cls := .type "cell", data := .cell none }) (hkind : scope.kind = .function) (hx : (relabel scope env).names.lookup x = some .cell)
    (hh : A.handled = none) (F : Fr h₀ L s₁.heap m) (N : News h₀ L s₁.heap news) (hm : (l, tupO vs kk) ∈ news) (hsz : vs.length ≤ 1000) (R : ∀ g, RestC prog w A h₀ L m env elt x scope cl { s₁ with heap := g } (Fin { s₁ with heap := g }) vs [] news)
    (hRR : ∀ D C h tk m' ys news', Fr h₀ L h m → News h₀ L h ((D, lst ys) :: news') → Off1 D news' → h.Ns C m' → h₀.get? C = none → h₀.get? D = none → C ≠ L → D ≠ L → C ≠ D → (∀ p ∈ news', p.1 ≠ C) → Fin s₁ ys news' → RR (.ref D) C (.ok .next) { s₁ with heap := h, toks := tk }) :
    wpAny (model prog w) A (pyIter (.ref l)) (fun it s₂ => wpAny (model prog w) A (newList []) (fun acc s₃ => wpAny (model prog w) A (newFunctionEnv scope env.globals cl [] env.qual none .none (some env)) (fun cenv s₄ =>
      codeAny (model prog w) A (.compStart (.ListComp elt [⟨.Name x px, iter, [], 0⟩] scope pos) 0 it acc { cenv with scope := relabel scope env }) (RR acc cenv.locals) s₄) E s₃) E s₂) E s₁ := by
  have hl : s₁.heap.IsTuple l vs.toArray := by obtain ⟨e, _⟩ := N _ hm; exact ⟨_, e, rfl, _, rfl⟩
  have hlt : l < s₁.heap.objs.size := by obtain ⟨_, e, _⟩ := hl; exact Heap.lt_size e
  refine wpAny_pyIter_tuple hl ?_
  generalize hI : s₁.heap.objs.size = I at *
  have W := Walks.tuple (prog := prog) (w := w) hh I l (Nat.ne_of_lt hlt) vs.toArray
  have up : ∀ b o, s₁.heap.get? b = some o → (s₁.heap.push { cls := .type "tuple_iterator", data := .fields #[.ref l, .int 0 0] }).get? b = some o := fun b o e => Heap.get?_push_of_some _ e
  have FI := F.keeps up
  have NI := N.grown up
  have stI : (fun (i : Nat) (h : Heap) => h.IsTupleIter I l i ∧ h.IsTuple l vs.toArray) 0 (s₁.heap.push { cls := .type "tuple_iterator", data := .fields #[.ref l, .int 0 0] }) := ⟨⟨_, hI ▸ Heap.get?_push_size _ rfl, rfl, rfl⟩, by obtain ⟨o, e, r⟩ := hl; exact ⟨o, up _ _ e, r⟩⟩
  have hIL : L ≠ I := hI ▸ Nat.ne_of_lt F.ns.lt
  have hI₀ : h₀.get? I = none := hI ▸ next_is_new F
  have off : ∀ p ∈ news, p.1 ≠ I := fun p hp => hI ▸ Nat.ne_of_lt (Heap.lt_size (N p hp).1)
  have hIsz : I < (s₁.heap.push { cls := .type "tuple_iterator", data := .fields #[.ref l, .int 0 0] }).objs.size := by rw [Heap.size_push, hI]; exact Nat.lt_succ_self _
  generalize (s₁.heap.push { cls := .type "tuple_iterator", data := .fields #[.ref l, .int 0 0] }) = g at FI NI stI hIsz ⊢
  refine wpAny_newObj_type (wpAny_newEnv_cell (x := x) hcf hpc ?_)
  dsimp only
  generalize hH2 : g.push { cls := .type "list", dict := none, data := .seq ([] : List Value).toArray } = H2
  have hC : H2.objs.size = g.objs.size + 1 := by rw [← hH2, Heap.size_push]
  generalize hh₁ : (H2.push { cls := .type "dict", data := .dict #[] }).push { cls := .type "cell", data := .cell none } = h₁
  have below : ∀ b, b < g.objs.size → b ≠ H2.objs.size ∧ b ≠ H2.objs.size + 1 ∧ b ≠ g.objs.size := fun b hb => by rw [hC]; omega
  have hlg : l < g.objs.size := Nat.lt_trans hlt hIsz
  have hfp : ∀ b ∈ [I, l], b ≠ H2.objs.size ∧ b ≠ H2.objs.size + 1 ∧ b ≠ g.objs.size := fun b hb => by
    rcases List.mem_cons.mp hb with rfl | hb
    · exact below _ hIsz
    · rw [List.mem_singleton.mp hb]; exact below _ hlg
  have old : ∀ b o, g.get? b = some o → h₁.get? b = some o := fun b o e => hh₁ ▸ Heap.get?_push_of_some _ (Heap.get?_push_of_some _ (hH2 ▸ Heap.get?_push_of_some _ e))
  have hacc : h₁.get? g.objs.size = some (lst []) := hh₁ ▸ Heap.get?_push_of_some _ (Heap.get?_push_of_some _ (hH2 ▸ Heap.get?_push_size _ rfl))
  have hCo : h₁.get? H2.objs.size = some { cls := .type "dict", data := .dict #[] } := hh₁ ▸ Heap.get?_push_of_some _ (Heap.get?_push_size _ rfl)
  have hco : h₁.get? (H2.objs.size + 1) = some { cls := .type "cell", data := .cell none } := by
    have z : ((H2.push { cls := .type "dict", data := .dict #[] }).push { cls := .type "cell", data := .cell none }).get? (H2.push { cls := .type "dict", data := .dict #[] }).objs.size = some { cls := .type "cell", data := .cell none } := Heap.get?_push_size _ rfl
    rw [Heap.size_push] at z
    exact hh₁ ▸ z
  have fresh₀ : ∀ a, g.objs.size ≤ a → h₀.get? a = none := fun a ha => by
    cases e : h₀.get? a with
    | none => rfl
    | some o' => exact absurd (Heap.lt_size (FI.keep a o' e)) (Nat.not_lt.mpr ha)
  have hD₀ : h₀.get? g.objs.size = none := fresh₀ _ (Nat.le_refl _)
  have hC₀ : h₀.get? H2.objs.size = none := fresh₀ _ (by rw [hC]; exact Nat.le_succ _)
  have hc₀ : h₀.get? (H2.objs.size + 1) = none := fresh₀ _ (by rw [hC]; omega)
  have bL := below L FI.ns.lt
  have bI := below I hIsz
  have hst₁ := W.frame _ _ _ stI fun b _ o e => old b o e
  have off₀ : Off4 I H2.objs.size (H2.objs.size + 1) g.objs.size news := Off4.of fun p hp => ⟨off p hp, below _ (Heap.lt_size (NI p hp).1)⟩
  have N₁ : News h₀ L h₁ ((H2.objs.size, ({ cls := .type "dict", data := .dict #[] } : Obj)) :: (H2.objs.size + 1, ({ cls := .type "cell", data := .cell none } : Obj)) :: (g.objs.size, lst []) :: news) := fun p hp => by
    rcases List.mem_cons.mp hp with rfl | hp
    · exact ⟨hCo, Ne.symm bL.1, hC₀⟩
    rcases List.mem_cons.mp hp with rfl | hp
    · exact ⟨hco, Ne.symm bL.2.1, hc₀⟩
    rcases List.mem_cons.mp hp with rfl | hp
    · exact ⟨hacc, Ne.symm bL.2.2, hD₀⟩
    · exact ⟨old _ _ (NI p hp).1, (NI p hp).2⟩
  have loop : ∀ s₃ : Shared, s₃ = { s₁ with heap := h₁ } →
      codeAny (model prog w) A (.compLoop (.ListComp elt [⟨.Name x px, iter, [], 0⟩] scope pos) 0 (.ref I) (.ref g.objs.size) (compEnvC scope ((x, H2.objs.size + 1) :: cl) H2.objs.size env))
        (RR (.ref g.objs.size) H2.objs.size) s₃ := by
    rintro s₃ rfl
    refine codeAny_compLoop_tests
      (fun k s' => ∃ h' tk i ys nw oC oc cv, s' = { s₁ with heap := h', toks := tk } ∧ i ≤ vs.length ∧ k = vs.length + 1 - i ∧ ys.length = i ∧ (h'.IsTupleIter I l i ∧ h'.IsTuple l vs.toArray) ∧ Fr h₀ L h' m ∧ (∃ mC, NsObj oC mC) ∧ oc.data = .cell cv ∧
        News h₀ L h' ((H2.objs.size, oC) :: (H2.objs.size + 1, oc) :: (g.objs.size, lst ys) :: nw) ∧ Off4 I H2.objs.size (H2.objs.size + 1) g.objs.size nw ∧ (l, tupO vs kk) ∈ nw ∧ RestC prog w A h₀ L m env elt x scope cl s₁ (Fin s₁) (vs.drop i) ys nw) ?_ (vs.length + 1)
      ⟨h₁, _, 0, [], news, _, _, _, rfl, Nat.zero_le _, rfl, rfl, hst₁, FI.keeps old, ⟨_, ⟨#[], _, rfl, by intro i e; simp at e, fun _ => rfl⟩⟩, rfl, N₁, off₀, hm, R _⟩
    rintro k s' ⟨h', tk, i, ys, nw, oC, oc, cv, rfl, hi, rfl, hyl, hst', F', ⟨mC, hoC⟩, hcd, N', off', hT', R'⟩
    have off4 := off'.mem
    by_cases hlt : i < vs.length
    · rw [List.drop_eq_getElem_cons hlt] at R'
      refine W.item i _ _ _ (by simpa using hlt) hst' fun v h₂ tk₂ hPv hst₂ hk₂ => ?_
      obtain rfl : v = vs[i] := by simpa [List.getElem?_eq_getElem hlt] using hPv.symm
      have N₂ : News h₀ L h₂ ((H2.objs.size, oC) :: (H2.objs.size + 1, oc) :: (g.objs.size, lst ys) :: nw) := news_but N' hk₂ fun p hp => by
        rcases List.mem_cons.mp hp with rfl | hp
        · exact Ne.symm bI.1
        rcases List.mem_cons.mp hp with rfl | hp
        · exact Ne.symm bI.2.1
        rcases List.mem_cons.mp hp with rfl | hp
        · exact Ne.symm bI.2.2
        · exact (off4 p hp).1
      have zc₂ := (N₂ _ (.tail _ (.head _))).1
      refine wpAny_assign_Name (wpAny_storeName_cell (c := H2.objs.size + 1) (by simp [compEnvC, relabel, hkind]) hx (by simp [compEnvC]) ⟨oc, zc₂, hcd⟩ fun h₃ hv₃ hs₃ => ?_)
      refine wpAny_tests_nil ?_
      simp only [if_true]
      obtain ⟨oc₃, hoc₃, hcd₃⟩ := hv₃
      have hst₃ := W.frame _ _ _ hst₂ fun b hb o e => hs₃.extBut b o (hfp b hb).2.1 e
      obtain ⟨oI, heI, _⟩ := hst₃.1
      have F₃ : Fr h₀ L h₃ m := (fr_but F' hk₂ hIL hI₀).change hs₃ (Ne.symm bL.2.1) hc₀
      have N₃ : News h₀ L h₃ ((I, oI) :: (H2.objs.size, oC) :: (H2.objs.size + 1, oc₃) :: (g.objs.size, lst ys) :: nw) := fun p hp => by
        rcases List.mem_cons.mp hp with rfl | hp
        · exact ⟨heI, Ne.symm hIL, hI₀⟩
        rcases List.mem_cons.mp hp with rfl | hp
        · exact ⟨hs₃.extBut _ _ (Nat.ne_of_lt (Nat.lt_succ_self _)) (N₂ _ (.head _)).1, (N₂ _ (.head _)).2⟩
        rcases List.mem_cons.mp hp with rfl | hp
        · exact ⟨hoc₃, (N₂ _ (.tail _ (.head _))).2⟩
        rcases List.mem_cons.mp hp with rfl | hp
        · exact ⟨hs₃.extBut _ _ (by show g.objs.size ≠ H2.objs.size + 1; omega) (N₂ _ (.tail _ (.tail _ (.head _)))).1, (N₂ _ (.tail _ (.tail _ (.head _)))).2⟩
        · exact ⟨hs₃.extBut _ _ (off4 p hp).2.2.1 (N₂ _ (.tail _ (.tail _ (.tail _ hp)))).1, (N₂ _ (.tail _ (.tail _ (.tail _ hp)))).2⟩
      refine wpAny_mono (R' I oI H2.objs.size oC (H2.objs.size + 1) oc₃ g.objs.size h₃ _ _ hcd₃ F₃ N₃ off' ⟨bI.1, bI.2.1, bI.2.2, by show H2.objs.size ≠ H2.objs.size + 1; omega, by show H2.objs.size ≠ g.objs.size; omega, by show H2.objs.size + 1 ≠ g.objs.size; omega⟩) (fun y s₄ h₄ => ?_) fun _ _ e => e
      obtain ⟨h₄, tk₄, news₄, rfl, F₄, N₄, off₄, sub₄, R₄⟩ := h₄
      have zI := (N₄ (I, oI) List.mem_cons_self).1
      have zD := (N₄ (g.objs.size, lst ys) (.tail _ (.tail _ (.tail _ (.head _))))).1
      have hT₄ := sub₄ _ hT'
      have hst₄ : h₄.IsTupleIter I l (i + 1) ∧ h₄.IsTuple l vs.toArray := ⟨by obtain ⟨o', q, r⟩ := hst₃.1; rw [heI] at q; cases q; exact ⟨oI, zI, r⟩, by obtain ⟨e, _⟩ := N₄ _ (.tail _ (.tail _ (.tail _ (.tail _ hT₄)))); exact ⟨_, e, rfl, _, rfl⟩⟩
      refine append_at (hsz := by show ys.toArray.size ≤ sizeLine; rw [List.size_toArray, hyl]; exact Nat.le_trans hi (Nat.le_trans hsz (by decide))) zD fun h₅ hs₅ hD₅ => ?_
      have off5 := off₄.mem
      refine ⟨vs.length + 1 - (i + 1), by omega, h₅, tk₄, i + 1, ys ++ [y], news₄, oC, oc₃, _, rfl, hlt, rfl, by rw [List.length_append, List.length_singleton, hyl], W.frame _ _ _ hst₄ fun b hb o e => hs₅.extBut b o (hfp b hb).2.2 e, F₄.change hs₅ (Ne.symm bL.2.2) hD₀,
        ⟨mC, hoC⟩, hcd₃, fun p hp => ?_, off₄, hT₄, R₄⟩
      rcases List.mem_cons.mp hp with rfl | hp
      · exact ⟨hs₅.extBut _ _ (by show H2.objs.size ≠ g.objs.size; omega) (N₄ _ (.tail _ (.head _))).1, (N₄ _ (.tail _ (.head _))).2⟩
      rcases List.mem_cons.mp hp with rfl | hp
      · exact ⟨hs₅.extBut _ _ (by show H2.objs.size + 1 ≠ g.objs.size; omega) (N₄ _ (.tail _ (.tail _ (.head _)))).1, (N₄ _ (.tail _ (.tail _ (.head _)))).2⟩
      rcases List.mem_cons.mp hp with rfl | hp
      · exact ⟨hD₅.trans (congrArg some (lst_snoc ys y)), Ne.symm bL.2.2, hD₀⟩
      · exact ⟨hs₅.extBut _ _ (off5 p hp).2.2.2 (N₄ _ (.tail _ (.tail _ (.tail _ (.tail _ hp))))).1, (N₄ _ (.tail _ (.tail _ (.tail _ (.tail _ hp))))).2⟩
    · obtain rfl : i = vs.length := Nat.le_antisymm hi (Nat.not_lt.mp hlt)
      rw [List.drop_length] at R'
      refine W.done _ _ _ (by simpa using hst') fun h₂ tk₂ hk₂ => ?_
      have F₂ := fr_but F' hk₂ hIL hI₀
      have N₂ : News h₀ L h₂ ((H2.objs.size, oC) :: (H2.objs.size + 1, oc) :: (g.objs.size, lst ys) :: nw) := news_but N' hk₂ fun p hp => by
        rcases List.mem_cons.mp hp with rfl | hp
        · exact Ne.symm bI.1
        rcases List.mem_cons.mp hp with rfl | hp
        · exact Ne.symm bI.2.1
        rcases List.mem_cons.mp hp with rfl | hp
        · exact Ne.symm bI.2.2
        · exact (off4 p hp).1
      exact hRR _ _ _ _ _ _ _ F₂ (fun p hp => N₂ p (.tail _ (.tail _ hp))) off'.one (hoC.ns (N₂ _ (.head _)).1) hC₀ hD₀ (Ne.symm bL.1) (Ne.symm bL.2.2) (by show H2.objs.size ≠ g.objs.size; omega) (fun p hp => (off4 p hp).2.1) R'
  exact codeAny_compStart_list (loop _ rfl) (W.self 0 _ _ _ hst₁ (loop _ rfl))
theorem ListComp_C {elt iter : Expr} {x : Str} {px : Pos} {scope : Scope} {cl : List (Str × Addr)} {pos : Pos} {Q : Value → Shared → Prop} (F₀ : Fr h₀ L s.heap m)
    (hclos : closureFor scope env = pure cl) (hcf : ∀ n, cellsFrom n scope.names cl = (x, n) :: cl) (hpc : ∀ h, pushCells h scope.names = h.push { cls := .type "cell", data := .cell none }) (hkind : scope.kind = .function)
    (hnames : ∀ y ∈ scope.names, y.2 = .local → scope.names.lookup y.1 = some .local) (hx : (relabel scope env).names.lookup x = some .cell)
    (h : wpAny (model prog w) A (eval iter env) (SrcC prog w A h₀ L m env elt x scope cl (fun s₂ => FinE h₀ L m s₂ Q)) E s)
    (hs : ∀ x, foldedSetIterable iter env x = pure x := by intro _; rfl) :
    wpAny (model prog w) A (eval (.ListComp elt [⟨.Name x px, iter, [], 0⟩] scope pos) env) Q E s := by
  rw [eval_ListComp]
  refine wpAny_comprehension_free (use := none) rfl hs hclos hkind hnames (wpAny_mono h (fun xv s₁ h₁ => ?_) fun _ _ e => e)
  obtain ⟨l, vs, kk, news, rfl, hh, F, N, hm, hsz, R⟩ := h₁
  refine block_C (Fin := fun s₂ => FinE h₀ L m s₂ Q) hcf hpc hkind hx hh F N hm hsz R ?_
  intro D C h tk m' ys news' F' N' o1 hn hC₀ hD₀ hCL hDL hCD offC fin
  refine ⟨m', hn, fun h'' hs'' => fin D h'' tk (F'.change hs'' hCL hC₀) (fun p hp => ?_) o1⟩
  refine ⟨hs''.extBut _ _ ?_ (N' p hp).1, (N' p hp).2⟩
  rcases List.mem_cons.mp hp with rfl | hp
  · exact Ne.symm hCD
  · exact offC p hp
theorem Assign_ListComp_C {elt iter : Expr} {x y : Str} {px py : Pos} {scope : Scope} {cl : List (Str × Addr)} {pos spos : Pos} {Q : Flow → Shared → Prop} (F₀ : Fr h₀ L s.heap m) (hLe : env.locals = L)
    (hsw : swapsWith (.ListComp elt [⟨.Name x px, iter, [], 0⟩] scope pos) (some (.Name y py)) spos.line env = pure true) (hy : env.kindOf y = some .local) (hp : (env.scope.kind == .class || (env.scope.kind == .module && env.locals != env.globals)) = false)
    (hclos : closureFor scope env = pure cl) (hcf : ∀ n, cellsFrom n scope.names cl = (x, n) :: cl) (hpc : ∀ h, pushCells h scope.names = h.push { cls := .type "cell", data := .cell none }) (hkind : scope.kind = .function)
    (hnames : ∀ y ∈ scope.names, y.2 = .local → scope.names.lookup y.1 = some .local) (hx : (relabel scope env).names.lookup x = some .cell)
    (h : wpAny (model prog w) A (eval iter env) (SrcC prog w A h₀ L m env elt x scope cl (fun s₂ => FinA h₀ L m s₂ y Q)) E s)
    (hs : ∀ x, foldedSetIterable iter env x = pure x := by intro _; rfl) :
    wpAny (model prog w) A (exec (.Assign [.Name y py] (.ListComp elt [⟨.Name x px, iter, [], 0⟩] scope pos) spos) env) Q E s := by
  subst hLe
  rw [exec_Assign_Name_used _ _ _ _ hsw]
  refine wpAny_bind (wpAny_standAt (wpAny_bind ?_))
  show wpAny _ A (do let _ ← comprehension (.ListComp elt [⟨.Name x px, iter, [], 0⟩] scope pos) scope env _ (newList []) false (eval iter env) (some (assign (.Name y py) env))) _ _ s
  refine wpAny_bind (wpAny_mono (wpAny_comprehension_free (use := some (assign (.Name y py) env)) (Q := fun _ s' => Q .next s') rfl hs hclos hkind hnames
    (wpAny_mono h (fun xv s₁ h₁ => ?_) fun _ _ e => e)) (fun _ s' hq => wpAny_pure (wpAny_pure hq)) fun _ _ e => e)
  obtain ⟨l, vs, kk, news, rfl, hh, F, N, hm, hsz, R⟩ := h₁
  refine block_C (Fin := fun s₂ => FinA h₀ env.locals m s₂ y Q) hcf hpc hkind hx hh F N hm hsz R ?_
  intro D C h' tk m' ys news' F' N' o1 hn hC₀ hD₀ hCL hDL hCD offC fin
  show wpAny _ A (assign (.Name y py) env (.ref D)) _ _ _
  refine wpAny_assign_Name (wpAny_storeName_local hy F'.ns (fun h₂ hn₂ hs₂ => ?_) hp)
  have hL₀ : h₀.get? env.locals = none := Heap.get?_none_of_le F'.above
  have F₂ : Fr h₀ env.locals h₂ (fun z => if z = y then some (.ref D) else m z) := ⟨hn₂, fun b o e => hs₂.extBut b o (fun q => by rw [q, hL₀] at e; cases e) (F'.keep b o e), F'.above⟩
  refine ⟨m', hn.sameBut hs₂ hCL, fun h'' hs'' => fin D h'' _ (F₂.change hs'' hCL hC₀) (fun p hp => ?_) o1⟩
  have z : h₂.get? p.1 = some p.2 := hs₂.extBut _ _ (N' p hp).2.1 (N' p hp).1
  refine ⟨hs''.extBut _ _ ?_ z, (N' p hp).2⟩
  rcases List.mem_cons.mp hp with rfl | hp
  · exact Ne.symm hCD
  · exact offC p hp
/-- the source of a comprehension whose turns know that no mark was taken back -/
inductive SrcT (prog : Program) (w : World) (A : Around) (h₀ : Heap) (L : Addr) (m : Str → Option Value) (env : Env) (elt : Expr) (x : Str) (scope : Scope) (cl : List (Str × Addr)) (Q : Value → Shared → Prop) (xv : Value) (s₁ : Shared) : Prop
  | intro (l : Addr) (vs : List Value) (k : Nat) (news : List (Addr × Obj)) (J : Nat → List Value → Prop) (_ : xv = .ref l) (_ : A.handled = none) (_ : Fr h₀ L s₁.heap m) (_ : News h₀ L s₁.heap news) (_ : (l, tupO vs k) ∈ news) (_ : vs.length ≤ 1000) (_ : J 0 []) (_ : ∀ i v I oI C oC D m₂ ys h tk (E' : Value → Shared → Prop), vs[i]? = some v → J i ys → 0 < tk → NsObj oC m₂ → m₂ x = some v → Fr h₀ L h m → News h₀ L h ((I, oI) :: (C, oC) :: (D, lst ys) :: news) → Off3 I C D news → ((@Ne Nat I C) ∧ (@Ne Nat I D) ∧ (@Ne Nat C D)) → wpAny (model prog w) A (eval elt (compEnvC scope cl C env)) (CompEnd h₀ L m { s₁ with heap := h, toks := tk } I oI C oC D (lst ys) (fun _ => True) (fun y nw => nw = news ∧ J (i + 1) (ys ++ [y]))) E' { s₁ with heap := h, toks := tk }) (_ : ∀ ys, J vs.length ys → FinE h₀ L m s₁ Q ys news) : SrcT prog w A h₀ L m env elt x scope cl Q xv s₁
theorem ListComp_T {elt iter : Expr} {x : Str} {px : Pos} {scope : Scope} {cl : List (Str × Addr)} {pos : Pos} {Q : Value → Shared → Prop} (F₀ : Fr h₀ L s.heap m)
    (hclos : closureFor scope env = pure cl) (hcell : ∀ y ∈ scope.names, y.2 ≠ .cell) (hkind : scope.kind = .function)
    (hnames : ∀ y ∈ scope.names, y.2 = .local → scope.names.lookup y.1 = some .local) (hx : scope.names.lookup x = some .local)
    (h : wpAny (model prog w) A (eval iter env) (SrcT prog w A h₀ L m env elt x scope cl Q) E s)
    (hs : ∀ x, foldedSetIterable iter env x = pure x := by intro _; rfl) :
    wpAny (model prog w) A (eval (.ListComp elt [⟨.Name x px, iter, [], 0⟩] scope pos) env) Q E s := by
  rw [eval_ListComp]
  refine wpAny_comprehension_free (use := none) rfl hs hclos hkind hnames (wpAny_mono h (fun xv s₁ h₁ => ?_) fun _ _ e => e)
  obtain ⟨l, vs, kk, news, J, rfl, hh, F, N, hm, hsz, h0, turn, fin⟩ := h₁
  have hl : s₁.heap.IsTuple l vs.toArray := News.isTup N hm
  have hlt : l < s₁.heap.objs.size := by obtain ⟨_, e, _⟩ := hl; exact Heap.lt_size e
  refine wpAny_pyIter_tuple hl ?_
  generalize hI : s₁.heap.objs.size = I at *
  have W := Walks.tuple (prog := prog) (w := w) hh I l (Nat.ne_of_lt hlt) vs.toArray
  have up : ∀ b o, s₁.heap.get? b = some o → (s₁.heap.push { cls := .type "tuple_iterator", data := .fields #[.ref l, .int 0 0] }).get? b = some o := fun b o e => Heap.get?_push_of_some _ e
  have FI := F.keeps up
  have NI := N.grown up
  have stI : (fun (i : Nat) (h : Heap) => h.IsTupleIter I l i ∧ h.IsTuple l vs.toArray) 0 (s₁.heap.push { cls := .type "tuple_iterator", data := .fields #[.ref l, .int 0 0] }) := ⟨⟨_, hI ▸ Heap.get?_push_size _ rfl, rfl, rfl⟩, by obtain ⟨o, e, r⟩ := hl; exact ⟨o, up _ _ e, r⟩⟩
  have hIL : L ≠ I := hI ▸ Nat.ne_of_lt F.ns.lt
  have hI₀ : h₀.get? I = none := hI ▸ next_is_new F
  have off : ∀ p ∈ news, p.1 ≠ I := fun p hp => hI ▸ Nat.ne_of_lt (Heap.lt_size (N p hp).1)
  have hIsz : I < (s₁.heap.push { cls := .type "tuple_iterator", data := .fields #[.ref l, .int 0 0] }).objs.size := by rw [Heap.size_push, hI]; exact Nat.lt_succ_self _
  generalize (s₁.heap.push { cls := .type "tuple_iterator", data := .fields #[.ref l, .int 0 0] }) = g at FI NI stI hIsz ⊢
  refine wpAny_newObj_type (wpAny_newFunctionEnv hcell (by intro y hy; simp at hy) (fun h₁ hns₁ hsb₁ => ?_) hkind)
  dsimp only at hns₁ hsb₁ ⊢
  generalize hH2 : g.push { cls := .type "list", dict := none, data := .seq ([] : List Value).toArray } = H2 at hns₁ hsb₁ ⊢
  have hC : H2.objs.size = g.objs.size + 1 := by rw [← hH2, Heap.size_push]
  have hDC : g.objs.size ≠ H2.objs.size := by rw [hC]; exact Nat.ne_of_lt (Nat.lt_succ_self _)
  have below : ∀ b, b < g.objs.size → b ≠ H2.objs.size ∧ b ≠ g.objs.size := fun b hb => ⟨by rw [hC]; exact Nat.ne_of_lt (Nat.lt_succ_of_lt hb), Nat.ne_of_lt hb⟩
  have hCI : I ≠ H2.objs.size := (below I hIsz).1
  have hDI : I ≠ g.objs.size := (below I hIsz).2
  have hlg : l < g.objs.size := Nat.lt_trans hlt hIsz
  have hfp : ∀ b ∈ [I, l], b ≠ H2.objs.size ∧ b ≠ g.objs.size := fun b hb => by
    rcases List.mem_cons.mp hb with rfl | hb
    · exact below _ hIsz
    · rw [List.mem_singleton.mp hb]; exact below _ hlg
  have old : ∀ b o, g.get? b = some o → h₁.get? b = some o := fun b o e => hsb₁.extBut b o (below b (Heap.lt_size e)).1 (Heap.get?_push_of_some _ (hH2 ▸ Heap.get?_push_of_some _ e))
  have hacc : h₁.get? g.objs.size = some (lst []) := hsb₁.extBut _ _ hDC (Heap.get?_push_of_some _ (hH2 ▸ Heap.get?_push_size _ rfl))
  have fresh₀ : ∀ a, g.objs.size ≤ a → h₀.get? a = none := fun a ha => by
    cases e : h₀.get? a with
    | none => rfl
    | some o' => exact absurd (Heap.lt_size (FI.keep a o' e)) (Nat.not_lt.mpr ha)
  have hD₀ : h₀.get? g.objs.size = none := fresh₀ _ (Nat.le_refl _)
  have hC₀ : h₀.get? H2.objs.size = none := fresh₀ _ (by rw [hC]; exact Nat.le_succ _)
  have hDL : g.objs.size ≠ L := Ne.symm (below L FI.ns.lt).2
  have hCL : H2.objs.size ≠ L := Ne.symm (below L FI.ns.lt).1
  have hst₁ := W.frame _ _ _ stI fun b _ o e => old b o e
  have off₀ : Off3 I H2.objs.size g.objs.size news := Off3.of fun p hp => ⟨off p hp, (below _ (Heap.lt_size (NI p hp).1)).1, (below _ (Heap.lt_size (NI p hp).1)).2⟩
  have off3 := off₀.mem
  have N₁ : News h₀ L h₁ ((g.objs.size, lst []) :: news) := fun p hp => by
    rcases List.mem_cons.mp hp with rfl | hp
    · exact ⟨hacc, hDL, hD₀⟩
    · exact ⟨old _ _ (NI p hp).1, (NI p hp).2⟩
  have loop : ∀ s₃ : Shared, s₃ = { s₁ with heap := h₁, toks := s₁.toks + ([] : List (Str × Value)).length } →
      codeAny (model prog w) A (.compLoop (.ListComp elt [⟨.Name x px, iter, [], 0⟩] scope pos) 0 (.ref I) (.ref g.objs.size) (compEnvC scope cl H2.objs.size env))
        (compPost (model prog w) A E none Q (.ref g.objs.size) H2.objs.size) s₃ := by
    rintro s₃ rfl
    refine codeAny_compLoop_tests
      (fun k s' => ∃ h' tk i ys m', s' = { s₁ with heap := h', toks := tk } ∧ i ≤ vs.length ∧ k = vs.length + 1 - i ∧ ys.length = i ∧ (h'.IsTupleIter I l i ∧ h'.IsTuple l vs.toArray) ∧ Fr h₀ L h' m ∧ h'.Ns H2.objs.size m' ∧ News h₀ L h' ((g.objs.size, lst ys) :: news) ∧ J i ys) ?_ (vs.length + 1)
      ⟨h₁, _, 0, [], _, rfl, Nat.zero_le _, rfl, rfl, hst₁, FI.keeps old, hns₁, N₁, h0⟩
    · rintro k s' ⟨h', tk, i, ys, m', rfl, hi, rfl, hyl, hst', F', hn', N', hJ⟩
      by_cases hlt : i < vs.length
      · refine W.item i _ _ _ (by simpa using hlt) hst' fun v h₂ tk₂ hPv hst₂ hk₂ => ?_
        refine wpAny_assign_Name (wpAny_storeName_local (lookup_relabel_local hx) (hn'.at' fun o e => hk₂ _ o (by simpa using Ne.symm hCI) e) (fun h₃ hn₃ hs₃ => ?_) (by simp [compEnvC, relabel, hkind]))
        refine wpAny_tests_nil ?_
        simp only [if_true]
        have hst₃ := W.frame _ _ _ hst₂ fun b hb o e => hs₃.extBut b o (hfp b hb).1 e
        obtain ⟨oI, heI, _⟩ := hst₃.1
        obtain ⟨oC, heC, hoC⟩ := ns_obj hn₃
        have F₃ : Fr h₀ L h₃ m := (fr_but F' hk₂ hIL hI₀).change hs₃ hCL hC₀
        have N₂ : News h₀ L h₂ ((g.objs.size, lst ys) :: news) := news_but N' hk₂ fun p hp => by
          rcases List.mem_cons.mp hp with rfl | hp
          · exact Ne.symm hDI
          · exact (off3 p hp).1
        have N₃ : News h₀ L h₃ ((I, oI) :: (H2.objs.size, oC) :: (g.objs.size, lst ys) :: news) := fun p hp => by
          rcases List.mem_cons.mp hp with rfl | hp
          · exact ⟨heI, Ne.symm hIL, hI₀⟩
          · rcases List.mem_cons.mp hp with rfl | hp
            · exact ⟨heC, hCL, hC₀⟩
            · have z := N₂ p hp
              refine ⟨hs₃.extBut _ _ ?_ z.1, z.2⟩
              rcases List.mem_cons.mp hp with rfl | hp
              · exact hDC
              · exact (off3 p hp).2.1
        refine wpAny_mono (turn i v I oI H2.objs.size oC g.objs.size _ ys h₃ _ _ (by simpa using hPv) hJ (Nat.succ_pos _) hoC (by simp) F₃ N₃ off₀ ⟨hCI, hDI, Ne.symm hDC⟩) (fun y s₄ h₄ => ?_) fun _ _ e => e
        obtain ⟨h₄, tk₄, news₄, rfl, F₄, N₄, off₄, _, rfl, hJ₄⟩ := h₄
        have zI := (N₄ (I, oI) List.mem_cons_self).1
        have zC := (N₄ (H2.objs.size, oC) (List.mem_cons_of_mem _ List.mem_cons_self)).1
        have zD := (N₄ (g.objs.size, lst ys) (List.mem_cons_of_mem _ (List.mem_cons_of_mem _ List.mem_cons_self))).1
        have N₄' : News h₀ L h₄ news₄ := fun p hp => N₄ p (List.mem_cons_of_mem _ (List.mem_cons_of_mem _ (List.mem_cons_of_mem _ hp)))
        have hst₄ : h₄.IsTupleIter I l (i + 1) ∧ h₄.IsTuple l vs.toArray := ⟨by obtain ⟨o', q, r⟩ := hst₃.1; rw [heI] at q; cases q; exact ⟨oI, zI, r⟩, News.isTup N₄' hm⟩
        refine append_at (hsz := by show ys.toArray.size ≤ sizeLine; rw [List.size_toArray, hyl]; exact Nat.le_trans hi (Nat.le_trans hsz (by decide))) zD fun h₅ hs₅ hD₅ => ?_
        refine ⟨vs.length + 1 - (i + 1), by omega, h₅, tk₄, i + 1, ys ++ [y], _, rfl, hlt, rfl, by rw [List.length_append, List.length_singleton, hyl], W.frame _ _ _ hst₄ fun b hb o e => hs₅.extBut b o (hfp b hb).2 e, F₄.change hs₅ hDL hD₀,
          (hoC.ns zC).sameBut hs₅ (Ne.symm hDC), fun p hp => ?_, hJ₄⟩
        rcases List.mem_cons.mp hp with rfl | hp
        · exact ⟨hD₅.trans (congrArg some (lst_snoc ys y)), hDL, hD₀⟩
        · exact ⟨hs₅.extBut _ _ (off3 p hp).2.2 (N₄' p hp).1, (N₄' p hp).2⟩
      · obtain rfl : i = vs.length := Nat.le_antisymm hi (Nat.not_lt.mp hlt)
        refine W.done _ _ _ (by simpa using hst') fun h₂ tk₂ hk₂ => ?_
        have F₂ := fr_but F' hk₂ hIL hI₀
        have N₂ : News h₀ L h₂ ((g.objs.size, lst ys) :: news) := news_but N' hk₂ fun p hp => by
          rcases List.mem_cons.mp hp with rfl | hp
          · exact Ne.symm hDI
          · exact (off3 p hp).1
        refine ⟨m', hn'.at' fun o e => hk₂ _ o (by simpa using Ne.symm hCI) e, fun h'' hs'' => fin ys hJ _ h'' _ (F₂.change hs'' hCL hC₀) (fun p hp => ?_) off₀.one⟩
        refine ⟨hs''.extBut _ _ ?_ (N₂ p hp).1, (N₂ p hp).2⟩
        rcases List.mem_cons.mp hp with rfl | hp
        · exact hDC
        · exact (off3 p hp).2.1
  exact codeAny_compStart_list (loop _ rfl) (W.self 0 _ _ _ hst₁ (loop _ rfl))
theorem src_range {Fin : Shared → List Value → List (Addr × Obj) → Prop} {elt : Expr} {x : Str} {scope : Scope} {cl : List (Str × Addr)} {news : List (Addr × Obj)} {r : Addr} {b : Int} {t u v : Tok} {n : Nat} (g : Nat → Str) (hh : A.handled = none) (F : Fr h₀ L s.heap m) (N : News h₀ L s.heap news) (hr : IsRange s.heap r 0 b 1 t u v) (hb : b = (n : Int)) (hz : n ≤ 1000)
    (fin : ∀ h ys, StrsAre ys ((List.range n).map g) → Fin { s with heap := h } ys news)
    (turn : ∀ i t I oI C oC D m₂ ys h tk (E' : Value → Shared → Prop), i < n → NsObj oC m₂ → m₂ x = some (.int (0 + (i : Int)) t) → Fr h₀ L h m → News h₀ L h ((I, oI) :: (C, oC) :: (D, lst ys) :: news) → Off3 I C D news → ((@Ne Nat I C) ∧ (@Ne Nat I D) ∧ (@Ne Nat C D)) →
      wpAny (model prog w) A (eval elt (compEnvC scope cl C env)) (CompEnd h₀ L m { s with heap := h, toks := tk } I oI C oC D (lst ys) (fun _ => True) (fun y nw => nw = news ∧ ∃ t, y = .str (g i) t)) E' { s with heap := h, toks := tk }) :
    CompSrc prog w A h₀ L m env elt x scope cl Fin (.ref r) s := by
  subst hb
  refine CompSrc.range hh F N hr ?_ (n := n) (by rw [rangeSize_nat]; omega) (Nat.le_trans hz (by decide)) fun h => ?_
  · exact small_one (by omega) (by omega) (by omega) (by omega)
  refine comp_inv (fun i ys nw => nw = news ∧ AreOf ItemKind.str ys ((List.range i).map g)) ⟨rfl, .nil⟩ (fun ys nw hJ => ?_) ?_
  · obtain ⟨rfl, h⟩ := hJ
    exact fin _ ys (strsAre_of h)
  · rintro i v I oI C oC D m₂ ys nw h tk E' hi ⟨t, rfl⟩ ⟨rfl, hJ⟩ hC hx F N off ne
    refine wpAny_mono (turn i t I oI C oC D m₂ ys h tk E' hi hC hx F N off ne) (fun y s₂ hq => ?_) fun _ _ e => e
    obtain ⟨h', tk', nw', e, F', N', off', hS, rfl, t, rfl⟩ := hq
    refine ⟨h', tk', _, e, F', N', off', hS, rfl, ?_⟩
    show AreOf ItemKind.str _ ((List.range (i + 1)).map g)
    rw [List.range_succ, List.map_append]
    exact AreOf_snoc hJ ⟨t, rfl⟩
theorem src_word {Fin : Shared → List Value → List (Addr × Obj) → Prop} {elt : Expr} {x : Str} {scope : Scope} {cl : List (Str × Addr)} {news : List (Addr × Obj)} {r : Addr} {b : Int} {t u v : Tok} {n : Nat} {W : Str} {xt : Tok} {oc : Obj} (_ : oc.data = .cell (some (.str W xt))) (hh : A.handled = none) (F : Fr h₀ L s.heap m) (N : News h₀ L s.heap news) (hr : IsRange s.heap r 0 b 1 t u v) (hb : b = (n : Int)) (hz : n ≤ 1000)
    (fin : ∀ h ys, StrsAre ys ((List.range n).map fun i => Txt.item W ((i % W.length : Nat) : Int)) → Fin { s with heap := h } ys news)
    (turn : ∀ i t I oI C oC D m₂ ys h tk (E' : Value → Shared → Prop), i < n → NsObj oC m₂ → m₂ x = some (.int (0 + (i : Int)) t) → Fr h₀ L h m → News h₀ L h ((I, oI) :: (C, oC) :: (D, lst ys) :: news) → Off3 I C D news → ((@Ne Nat I C) ∧ (@Ne Nat I D) ∧ (@Ne Nat C D)) →
      wpAny (model prog w) A (eval elt (compEnvC scope cl C env)) (CompEnd h₀ L m { s with heap := h, toks := tk } I oI C oC D (lst ys) (fun _ => True) (fun y nw => nw = news ∧ ∃ t, y = .str (Txt.item W ((i % W.length : Nat) : Int)) t)) E' { s with heap := h, toks := tk }) :
    CompSrc prog w A h₀ L m env elt x scope cl Fin (.ref r) s :=
  src_range (fun i => Txt.item W ((i % W.length : Nat) : Int)) hh F N hr hb hz fin turn
end
end
-- part G12
section
open PySem PySem.W PyProof.Rows PySem.Calls
set_option maxRecDepth 100000
set_option maxHeartbeats 2000000
open LCg
section
variable {prog : Program} {w : World} {A : Around} {s : Shared} {env : Env} {h₀ : Heap}
/-- a turn's end -/
noncomputable def EndB (C : Heap → Prop) (L : Addr) (s : Shared) (I : Addr) (oI : Obj) (news : List (Addr × Obj)) (Q : Flow → Shared → Prop) (rest : (Str → Option Value) → Prop) (fl : Flow) (s₃ : Shared) : Prop := match fl with
  | .next => ∃ h₁ h' tk' m', s₃ = { s with heap := h', toks := tk' } ∧ C h₁ ∧ Fr h₁ L h' m' ∧ News h₁ L h' ((I, oI) :: news) ∧ rest m'
  | .cont => False
  | .brk => Q .next s₃
  | .ret v => Q (.ret v) s₃
theorem EndB.next {C : Heap → Prop} {L : Addr} {I : Addr} {oI : Obj} {news all : List (Addr × Obj)} {Q : Flow → Shared → Prop} {rest : (Str → Option Value) → Prop} {h₁ h' : Heap} {tk' : Nat} {m' : Str → Option Value} (hC : C h₁) (F : Fr h₁ L h' m') (N : News h₁ L h' all) (sub : ∀ p ∈ (I, oI) :: news, p ∈ all) (r : rest m') :
    EndB C L s I oI news Q rest .next { s with heap := h', toks := tk' } := ⟨h₁, h', tk', m', rfl, hC, F, fun p hp => N p (sub p hp), r⟩
/-- the turns of a for whose base may move -/
noncomputable def RestB (prog : Program) (w : World) (A : Around) (E : Value → Shared → Prop) (env : Env) (target : Expr) (body : List Stmt) (C : Heap → Prop) (s : Shared) (Q : Flow → Shared → Prop) (I : Addr) : List Value → (Str → Option Value) → List (Addr × Obj) → Prop
  | [], m, news => ∀ h₀ h tk, C h₀ → Fr h₀ env.locals h m → News h₀ env.locals h news → Q .next { s with heap := h, toks := tk }
  | v :: xs, m, news => ∀ h₀ oI h tk, C h₀ → Fr h₀ env.locals h m → News h₀ env.locals h ((I, oI) :: news) → (∀ p ∈ news, p.1 < I) →
      wpAny (model prog w) A (assign target env v) (fun _ s₂ => wpAny (model prog w) A (execs body env) (EndB C env.locals s I oI news Q fun m' => RestB prog w A E env target body C s Q I xs m' news) E s₂) E { s with heap := h, toks := tk }
inductive SrcB (prog : Program) (w : World) (A : Around) (E : Value → Shared → Prop) (env : Env) (target : Expr) (body : List Stmt) (C : Heap → Prop) (Q : Flow → Shared → Prop) (xv : Value) (s₁ : Shared) : Prop
  | intro (l : Addr) (vs : List Value) (k : Nat) (h₀ : Heap) (m : Str → Option Value) (news : List (Addr × Obj)) (_ : xv = .ref l) (_ : A.handled = none) (_ : C h₀) (_ : Fr h₀ env.locals s₁.heap m) (_ : News h₀ env.locals s₁.heap news) (_ : (l, listOf vs.toArray k) ∈ news) (_ : ∀ I g, RestB prog w A E env target body C { s₁ with heap := g } Q I vs m news) : SrcB prog w A E env target body C Q xv s₁
theorem SrcB.mk {E : Value → Shared → Prop} {target : Expr} {body : List Stmt} {C : Heap → Prop} {Q : Flow → Shared → Prop} {l : Addr} {vs : List Value} {k : Nat} {m : Str → Option Value} {news : List (Addr × Obj)} (hh : A.handled = none) (hC : C h₀) (F : Fr h₀ env.locals s.heap m) (N : News h₀ env.locals s.heap news) (hm : (l, listOf vs.toArray k) ∈ news)
    (h : ∀ I g, RestB prog w A E env target body C { s with heap := g } Q I vs m news) : SrcB prog w A E env target body C Q (.ref l) s := ⟨l, vs, k, h₀, m, news, rfl, hh, hC, F, N, hm, h⟩
theorem RestB.nil {E : Value → Shared → Prop} {target : Expr} {body : List Stmt} {C : Heap → Prop} {Q : Flow → Shared → Prop} {I : Addr} {m : Str → Option Value} {news : List (Addr × Obj)} (h : ∀ h₀ h tk, C h₀ → Fr h₀ env.locals h m → News h₀ env.locals h news → Q .next { s with heap := h, toks := tk }) : RestB prog w A E env target body C s Q I [] m news := h
theorem RestB.cons {E : Value → Shared → Prop} {target : Expr} {body : List Stmt} {C : Heap → Prop} {Q : Flow → Shared → Prop} {I : Addr} {v : Value} {xs : List Value} {m : Str → Option Value} {news : List (Addr × Obj)} (h : ∀ h₀ oI h tk, C h₀ → Fr h₀ env.locals h m → News h₀ env.locals h ((I, oI) :: news) → (∀ p ∈ news, p.1 < I) →
      wpAny (model prog w) A (assign target env v) (fun _ s₂ => wpAny (model prog w) A (execs body env) (EndB C env.locals s I oI news Q fun m' => RestB prog w A E env target body C s Q I xs m' news) E s₂) E { s with heap := h, toks := tk }) : RestB prog w A E env target body C s Q I (v :: xs) m news := h
theorem For_B {E : Value → Shared → Prop} {Q : Flow → Shared → Prop} {target iter : Expr} {body : List Stmt} {pos : Pos} (C : Heap → Prop)
    (h : wpAny (model prog w) A (eval iter env) (SrcB prog w A E env target body C Q) E s)
    (hs : ∀ x, foldedSetIterable iter env x = pure x) (hE : PassesOwn (model prog w) A env E) :
    wpAny (model prog w) A (exec (.For target iter body [] pos) env) Q E s := by
  refine wpAny_For (wpAny_mono h (fun xv s₁ h₁ => ?_) fun _ _ e => e) hs
  clear h
  obtain ⟨l, vs, kk, h₀, m, news, rfl, hh, hC, F, N, hm, R⟩ := h₁
  have hl : s₁.heap.IsList l vs.toArray := News.isList N hm
  have hlt : l < s₁.heap.objs.size := by obtain ⟨_, e, _⟩ := hl; exact Heap.lt_size e
  refine wpAny_pyIter_list hl ?_
  generalize hI : s₁.heap.objs.size = I at *
  have W := Walks.list (prog := prog) (w := w) hh I l (Nat.ne_of_lt hlt) vs.toArray
  have up : ∀ b o, s₁.heap.get? b = some o → (s₁.heap.push { cls := .type "list_iterator", data := .fields #[.ref l, .int 0 0] }).get? b = some o := fun b o e => Heap.get?_push_of_some _ e
  have FI := F.keeps up
  have hLI : env.locals ≠ I := hI ▸ Nat.ne_of_lt F.ns.lt
  have below : ∀ p ∈ news, p.1 < I := fun p hp => hI ▸ Heap.lt_size (N p hp).1
  have NI : News h₀ env.locals (s₁.heap.push { cls := .type "list_iterator", data := .fields #[.ref l, .int 0 0] }) ((I, ({ cls := .type "list_iterator", data := .fields #[.ref l, .int 0 0] } : Obj)) :: news) := fun p hp => by
    rcases List.mem_cons.mp hp with rfl | hp
    · exact ⟨hI ▸ Heap.get?_push_size _ rfl, Ne.symm hLI, hI ▸ next_is_new F⟩
    · exact N.grown up p hp
  have stI : (fun (i : Nat) (h : Heap) => h.IsListIter I l i ∧ h.IsList l vs.toArray) 0 (s₁.heap.push { cls := .type "list_iterator", data := .fields #[.ref l, .int 0 0] }) := ⟨⟨_, (NI _ (.head _)).1, rfl, rfl⟩, hl.push _⟩
  generalize (s₁.heap.push { cls := .type "list_iterator", data := .fields #[.ref l, .int 0 0] }) = g at FI NI stI ⊢
  refine codeAny_forLoop_any
    (fun k s' => ∃ h₀ h' tk m' i oI, s' = { s₁ with heap := h', toks := tk } ∧ i ≤ vs.length ∧ k = vs.length + 1 - i ∧ C h₀ ∧ (h'.IsListIter I l i ∧ h'.IsList l vs.toArray) ∧ Fr h₀ env.locals h' m' ∧ News h₀ env.locals h' ((I, oI) :: news) ∧
      RestB prog w A E env target body C s₁ Q I (vs.drop i) m' news) ?_ (vs.length + 1)
    ⟨h₀, _, _, m, 0, _, rfl, Nat.zero_le _, rfl, hC, stI, FI, NI, R _ _⟩
  clear FI NI stI F N hC
  rintro k s' ⟨h₀, H, tk, m', i, oI, rfl, hi, rfl, hC, hst', F', N', R'⟩
  have hI₀ : h₀.get? I = none := (N' _ (.head _)).2.2
  have next : ∀ h₁ : Heap, (∀ b o, b ∉ [I] → H.get? b = some o → h₁.get? b = some o) → Fr h₀ env.locals h₁ m' ∧ News h₀ env.locals h₁ news := fun h₁ hk₁ =>
    ⟨fr_but F' hk₁ hLI hI₀, news_but (fun p hp => N' p (.tail _ hp)) hk₁ fun p hp => Nat.ne_of_lt (below p hp)⟩
  by_cases hlt : i < vs.length
  · rw [List.drop_eq_getElem_cons hlt] at R'
    refine W.item i _ _ _ (by simpa using hlt) hst' fun v h₂ tk₂ hPv hst₂ hk₂ => ?_
    obtain rfl : v = vs[i] := by simpa [List.getElem?_eq_getElem hlt] using hPv.symm
    obtain ⟨F₂, N₂⟩ := next h₂ hk₂
    obtain ⟨oI₂, heI, hoI⟩ := hst₂.1
    have N₃ : News h₀ env.locals h₂ ((I, oI₂) :: news) := fun p hp => by
      rcases List.mem_cons.mp hp with rfl | hp
      · exact ⟨heI, Ne.symm hLI, hI₀⟩
      · exact N₂ p hp
    refine letGo_listiter ⟨oI₂, heI, hoI⟩ ?_
    refine wpAny_passesOwn hE (wpAny_mono (R' h₀ oI₂ h₂ _ hC F₂ N₃ below) (fun _ s₂ h₂ => wpAny_passesOwn hE (wpAny_mono h₂ (fun f s₃ h₃ => ?_) fun _ _ e => e)) fun _ _ e => e)
    cases f with
    | ret v => exact h₃
    | brk => exact h₃
    | cont => exact h₃.elim
    | next =>
      obtain ⟨h₁, h₄, tk₄, m₄, rfl, hC₄, F₄, N₄, R₄⟩ := h₃
      refine ⟨vs.length + 1 - (i + 1), by omega, h₁, h₄, tk₄, m₄, i + 1, oI₂, rfl, hlt, rfl, hC₄, ⟨⟨oI₂, (N₄ _ (.head _)).1, hoI⟩, News.isList (fun p hp => N₄ p (.tail _ hp)) hm⟩, F₄, N₄, R₄⟩
  · obtain rfl : i = vs.length := Nat.le_antisymm hi (Nat.not_lt.mp hlt)
    rw [List.drop_length] at R'
    refine W.done _ _ _ (by simpa using hst') fun h₂ tk₂ hk₂ => ?_
    obtain ⟨F₂, N₂⟩ := next h₂ hk₂
    exact wpAny_passesOwn hE (wpAny_execs_nil (R' h₀ h₂ _ hC F₂ N₂))
end
end
-- part KP
section
open PySem PySem.W PyProof.Rows
set_option maxRecDepth 100000
set_option maxHeartbeats 8000000
variable {w : World} {p : Program} {loose : List Str} {mean : ExcName → Option Value} {mg mb : Str → Option Value}

/-- a row that the law may write: octets, some, few -/
noncomputable def RowOk (c : Int → Str) (oc : List Int) (ns : List Int) : Prop := Octets ns ∧ 0 < ns.length ∧ ns.length ≤ 36 ∧ ∀ z ∈ ns, z ∈ oc ∧ (c z).length ≤ 3 ∧ ∀ q ∈ (c z).cps.toList, q < 128
theorem RowOk.mem {c : Int → Str} {oc ns : List Int} {z : Int} (h : RowOk c oc ns) (hz : z ∈ ns) : z ∈ oc := (h.2.2.2 z hz).1
theorem RowOk.oct {c : Int → Str} {oc ns : List Int} (h : RowOk c oc ns) : Octets ns := h.1
theorem RowOk.few {c : Int → Str} {oc ns : List Int} (h : RowOk c oc ns) : ns.length ≤ 1000 := Nat.le_trans h.2.2.1 (by decide)
theorem RowOk.short {c : Int → Str} {oc ns : List Int} {z : Int} (h : RowOk c oc ns) (hz : z ∈ ns) : (c z).length ≤ 3 := (h.2.2.2 z hz).2.1
/-- a row's writing, sign by sign -/
noncomputable def wordC (c : Int → Str) (ns : List Int) : Str := ⟨(ns.flatMap fun i => (c i).cps.toList).toArray⟩
/-- what write must do -/
noncomputable def WriteOk (w : World) (p : Program) (loose : List Str) (mean : ExcName → Option Value) (mg mb : Str → Option Value) (W : Addr) (nm : Str) (c : Int → Str) (oc : List Int) : Prop :=
  ∀ (a : Addr) (vs : List Value) (k : Nat) (ns : List Int) (t : MTok) (news : List (Addr × Obj)), IntsAre vs ns → RowOk c oc ns → GivesV w p loose mean mg mb 3 W [.ref a, .str nm t] ((a, listOf vs.toArray k) :: news) (fun t => .str (wordC c ns) t)
noncomputable def chrS (z : Int) : Str := ⟨#[z.toNat]⟩
/-- what decode must read -/
noncomputable def DecOk (c : Int → Str) (oc : List Int) : Prop := ∀ ns, RowOk c oc ns → ∃ ps, Txt.replace (wordC c ns) (Str.ofString "_") (Str.ofString "=20") = enc ps ∧ PsOk ps ∧ 0 < ps.length ∧ ps.length < 100 ∧ decT ps = wordC chrS ns
theorem dec_gives {ps : List (Bool × Int)} {ns : List Int} (h : PsOk ps) (h0 : 0 < ps.length) (hl : ps.length < 100) (e : decT ps = wordC chrS ns) (t : MTok) (news) : GivesV w p loose mean mg mb 2 65 [.str (enc ps) t] news (fun t => .str (wordC chrS ns) t) := e ▸ decode_gives ps h h0 hl t news
theorem word_signs {f : Int → Str} {ns : List Int} {b : Nat} (h : ∀ z ∈ ns, ∀ q ∈ (f z).cps.toList, q < b) : ∀ q ∈ (wordC f ns).cps.toList, q < b := by
  intro q hq
  simp only [wordC, List.mem_flatMap] at hq
  obtain ⟨z, hz, hq⟩ := hq
  exact h z hz q hq
theorem RowOk.signs {c : Int → Str} {oc ns : List Int} (h : RowOk c oc ns) : ∀ q ∈ (wordC c ns).cps.toList, q < 128 := word_signs fun z hz => (h.2.2.2 z hz).2.2
theorem RowOk.chrs {c : Int → Str} {oc ns : List Int} (h : RowOk c oc ns) : ∀ q ∈ (wordC chrS ns).cps.toList, q < 256 := word_signs fun z hz q hq => by
  have := h.1 z hz
  simp only [chrS, List.mem_singleton] at hq
  omega
theorem strOk_of {x : Str} (h : ∀ q ∈ x.cps.toList, q < 0x110000) : PyData.strOk x = true := by
  unfold PyData.strOk
  rw [Array.all_eq_true']
  exact fun q hq => decide_eq_true (h q (Array.mem_toList_iff.mpr hq))
theorem rows_okC {c : Int → Str} {oc : List Int} {rws : List Row} (h : ∀ r ∈ rws, RowOk c oc r.ns) : ∀ y ∈ rws.map (fun r => wordC c r.ns), PyData.strOk y = true := by
  intro y hy
  obtain ⟨r, hr, rfl⟩ := List.mem_map.mp hy
  exact strOk_of fun q hq => Nat.lt_trans ((h r hr).signs q hq) (by decide)
theorem rows_okT {c : Int → Str} {oc : List Int} {rws : List Row} (h : ∀ r ∈ rws, RowOk c oc r.ns) : ∀ y ∈ rws.map (fun r => wordC chrS r.ns), PyData.strOk y = true := by
  intro y hy
  obtain ⟨r, hr, rfl⟩ := List.mem_map.mp hy
  exact strOk_of fun q hq => Nat.lt_trans ((h r hr).chrs q hq) (by decide)
theorem six_strs {ys : List Value} {c : Int → Str} {r0 r1 r2 r3 r4 r5 : Row} (h : StrsAre ys ([r0, r1, r2, r3, r4, r5].map fun r => wordC c r.ns)) : ∃ t0 t1 t2 t3 t4 t5, ys = [.str (wordC c r0.ns) t0, .str (wordC c r1.ns) t1, .str (wordC c r2.ns) t2, .str (wordC c r3.ns) t3, .str (wordC c r4.ns) t4, .str (wordC c r5.ns) t5] := by
  cases h with | cons _ t0 h => cases h with | cons _ t1 h => cases h with | cons _ t2 h => cases h with | cons _ t3 h => cases h with | cons _ t4 h => cases h with | cons _ t5 h => cases h with | nil => exact ⟨t0, t1, t2, t3, t4, t5, rfl⟩
theorem rowC_len {c : Int → Str} {oc ns : List Int} (h : RowOk c oc ns) : (wordC c ns).length ≤ 108 := by
  have key : ∀ l : List Int, (∀ z ∈ l, (c z).length ≤ 3) → (l.flatMap fun i => (c i).cps.toList).length ≤ 3 * l.length := by
    intro l
    induction l with
    | nil => intro _; exact Nat.le_refl _
    | cons a r ih =>
      intro hl
      have h1 : (c a).cps.toList.length ≤ 3 := by simpa [Str.length] using hl a (List.mem_cons_self ..)
      have h2 := ih fun z hz => hl z (List.mem_cons_of_mem _ hz)
      simp only [List.flatMap_cons, List.length_append, List.length_cons] at h1 h2 ⊢
      omega
  have h1 := key ns fun z hz => h.short hz
  have h2 := h.2.2.1
  have h3 : (wordC c ns).length = (ns.flatMap fun i => (c i).cps.toList).length := by simp [wordC, Str.length]
  omega
theorem rowC_lt {c : Int → Str} {oc ns : List Int} (h : RowOk c oc ns) : ((wordC c ns).length : Int) < 1000 := by have := rowC_len h; omega
theorem replace_dec {A : Around} {E : Value → Shared → Prop} {s : Shared} {Q : Value → Shared → Prop} {c : Int → Str} {oc ns : List Int} {t u v : Tok} (hD : DecOk c oc) (hr : RowOk c oc ns) (hu : u ≠ 0) (hv : v ≠ 0) (huv : u ≠ v)
    (h : ∀ ps, PsOk ps → 0 < ps.length → ps.length < 100 → decT ps = wordC chrS ns → ∀ t' k, Q (.str (enc ps) t') { s with toks := k }) : wpAny (model PySem.Challenge.pw_ku0005_01 w) A (call (.builtin "str.replace") [.str (wordC c ns) t, .str (Str.ofString "_") u, .str (Str.ofString "=20") v]) Q E s := by
  obtain ⟨ps, e, h1, h2, h3, h4⟩ := hD ns hr
  refine SC.replaceW hu hv huv (by decide +kernel) (Nat.le_trans (rowC_len hr) (by decide)) (by decide +kernel) fun t' k => ?_
  rw [e]
  exact h ps h1 h2 h3 h4 t' k
theorem chr_short (ns : List Int) : ∀ z ∈ ns, (chrS z).length ≤ 3 := fun _ _ => by show (1 : Nat) ≤ 3; decide
theorem join_listN (sep : Str) (hs : sep.cps.toList = []) : ∀ l : List Str, (Str.join sep l).cps.toList = l.flatMap (·.cps.toList)
  | [] => rfl
  | [x] => by simp [Str.join]
  | x :: y :: r => by
    show ((x.cps ++ sep.cps) ++ (Str.join sep (y :: r)).cps).toList = _
    rw [Array.toList_append, Array.toList_append, hs, join_listN sep hs (y :: r), List.append_nil]
    simp
theorem join_nil (f : Int → Str) (ns : List Int) : Txt.join (Str.ofString "") (ns.map f) = wordC f ns := by
  unfold Txt.join
  rw [StrLaws.glued_eq_join]
  apply Str.ext'
  apply Array.toList_inj.mp
  rw [join_listN _ (by decide +kernel)]
  simp [wordC, List.flatMap_map]
section
variable {A : Around} {E : Value → Shared → Prop} {s : Shared} {h₀ : Heap} {L : Addr} {m : Str → Option Value} {news : List (Addr × Obj)}
theorem join_codes {f : Int → Str} {D : Addr} {ys : List Value} {k : Nat} {ns : List Int} {t : MTok} {Q : Value → Shared → Prop} (N : News h₀ L s.heap news) (hm : (D, listOf ys.toArray k) ∈ news) (hi : StrsAre ys (ns.map f)) (hf : ∀ z ∈ ns, (f z).length ≤ 3) (hz : ns.length ≤ 1000)
    (h : ∀ t' k, Q (.str (wordC f ns) t') { s with toks := k }) : wpAny (model PySem.Challenge.pw_ku0005_01 w) A (call (.builtin "str.join") [.str (Str.ofString "") t, .ref D]) Q E s := by
  have hs : ((ns.map f).map (·.length)).sum ≤ 3 * ns.length := by
    clear hi hm N hz h
    induction ns with
    | nil => exact Nat.le_refl _
    | cons a r ih =>
      have h1 := hf a (List.mem_cons_self ..)
      have h2 := ih (fun z hz => hf z (List.mem_cons_of_mem _ hz))
      simp only [List.map_cons, List.sum_cons, List.length_cons] at *
      omega
  refine join_listW (News.isList N hm) hi (by decide +kernel) (by rw [List.length_map]; omega) fun t' k => ?_
  rw [join_nil]
  exact h t' k
end
section
variable {dp un : Nat} {gd : Option (List Code)} {env : Env} {outer : List Env} {A₀ : Around} {base h₀ : Heap} {L : Addr} {m : Str → Option Value} {s : Shared} {Q E : Value → Shared → Prop} {news : List (Addr × Obj)}
theorem WriteOk.use {W : Addr} {nm : Str} {c : Int → Str} {oc : List Int} {a : Addr} {vs : List Value} {k : Nat} {ns : List Int} {t : MTok} (hW : WriteOk w p loose mean mg mb W nm c oc) (B : Below A₀ base outer h₀) (F : Fr h₀ L s.heap m) (X : (K w.params).In h₀) (N : News h₀ L s.heap news) (T : Top p loose mean mg mb h₀)
    (hf : env.frame = some L) (hk : env.scope.kind = .function) (hd : dp + 3 < recursionLimit) (hu : un + 8 * 3 < cLine) (hm : (a, listOf vs.toArray k) ∈ news) (hi : IntsAre vs ns) (hr : RowOk c oc ns) (ret : CbRet h₀ L m news s Q (fun t => .str (wordC c ns) t)) :
    wpAny (model PySem.Challenge.pw_ku0005_01 w) (topA dp un gd env outer) (call (.ref W) [.ref a, .str nm t]) Q E s :=
  GivesV.use (hW a vs k ns t news hi hr) B F X (kst_newsOf N (List.forall_mem_cons.mpr ⟨hm, fun _ hp => hp⟩)) T hf hk hd hu fun t h' tk' F' N' => ret t h' tk' F' (kst_newsOf N' fun _ hp => .tail _ hp)
end

theorem CodesIn.sub {o : Obj} {c : Int → Str} {oc ns : List Int} (h : CodesIn w o c oc) (hs : ∀ z ∈ ns, z ∈ oc) : CodesIn w o c ns := by
  obtain ⟨kvs, h1, h2⟩ := h
  exact ⟨kvs, h1, fun i hi => h2 i (hs i hi)⟩
section
variable {dp un : Nat} {gd : Option (List Code)} {env : Env} {outer : List Env} {A₀ : Around} {base h₀ : Heap} {L : Addr} {m : Str → Option Value} {s : Shared} {Q E : Value → Shared → Prop} {news : List (Addr × Obj)}
theorem due_use {a b d : Addr} {us vs : List Value} {n k : Nat} {ns ms : List Int} {o : Obj} {c : Int → Str} {oc : List Int} (hc : CodesIn w o c oc) (ra : RowOk c oc ns) (rb : RowOk c oc ms) (B : Below A₀ base outer h₀) (F : Fr h₀ L s.heap m) (X : (K w.params).In h₀) (N : News h₀ L s.heap news) (T : Top p loose mean mg mb h₀)
    (hf : env.frame = some L) (hk : env.scope.kind = .function) (hd : dp + 2 < recursionLimit) (hu : un + 8 * 2 < cLine) (ma : (a, listOf us.toArray n) ∈ news) (mb' : (b, listOf vs.toArray k) ∈ news) (md : (d, o) ∈ news) (hi : IntsAre us ns) (hj : IntsAre vs ms) (ret : CbRet h₀ L m news s Q (dueV c ns ms)) :
    wpAny (model PySem.Challenge.pw_ku0005_01 w) (topA dp un gd env outer) (call (.ref 175) [.ref a, .ref b, .ref d]) Q E s :=
  GivesV.use (due_gives a b d us vs n k ns ms hi hj o c (hc.sub fun z hz => (List.mem_append.mp hz).elim (fun h => ra.mem h) fun h => rb.mem h) news) B F X (kst_newsOf N (List.forall_mem_cons.mpr ⟨ma, List.forall_mem_cons.mpr ⟨mb', List.forall_mem_cons.mpr ⟨md, fun _ hp => hp⟩⟩⟩)) T hf hk hd hu fun t h' tk' F' N' => ret t h' tk' F' (kst_newsOf N' fun _ hp => .tail _ (.tail _ (.tail _ hp)))
end
end
-- part C13
section
open PySem PySem.W PyProof.Rows
set_option maxRecDepth 100000
set_option maxHeartbeats 8000000
variable {w : World} {p : Program} {loose : List Str} {mean : ExcName → Option Value} {mg mb : Str → Option Value}

theorem fmod_nat {i n : Nat} : (0 + (i : Int)).fmod (n : Int) = ((i % n : Nat) : Int) := by
  rw [Int.zero_add, Int.fmod_eq_emod_of_nonneg _ (by omega)]; rfl
theorem fdiv_nat {a b : Nat} : (a : Int).fdiv (b : Int) = ((a / b : Nat) : Int) := by
  rw [Int.fdiv_eq_ediv_of_nonneg _ (by omega)]; rfl
theorem mod_gives (i n : Nat) (hn : 0 < n) (hi2 : i < 1000) (hn2 : n < 1000) (t u : MTok) (news) : GivesV w p loose mean mg mb 1 93 [.int (0 + (i : Int)) t, .int (n : Int) u] news (fun t => .int ((i % n : Nat) : Int) t) := by
  intro dp un gd env outer A₀ base h₀ L m s Q E B F X N T hf hk hd hu hret
  refine wpAny_call ?_
  k_dflt cell_enter
  repeat' (first
    | ((with_reducible show wpAny _ _ (PySem.exec _ _) _ _ _); k_fold)
    | ((with_reducible show wpAny _ _ (PySem.execs _ _) _ _ _); k_fold)
    | ((with_reducible show wpAny _ _ (PySem.execs _ _) _ _ _); dsimp only)
    | ((with_reducible show wpAny _ _ (PySem.call (Value.builtin "hasattr") _) _ _ _); first | with_reducible ((refine' hasattr_str_k ?k1 ?k2 ?kR; (case k1 => k_asm); (case k2 => k_asm); k_whole); intro h9 F9 N9; (try dsimp only)) | ((refine' hasattr_str_k ?k1 ?k2 ?kR; (case k1 => k_asm); (case k2 => k_asm); k_whole); intro h9 F9 N9; (try dsimp only)))
    | (k_unfold; (try dsimp only)) | (k_end; wrow_close) | walk1 | (dsimp only; walk1) | (leave1; try dsimp only) | fail "no step")
  exact cb_retI hret fmod_nat (by k_asm) (by k_asm)
theorem getitem_gives (x : Str) (k : Nat) (hk : k < x.length) (hl : x.length < 1000) (t u : MTok) (news) : GivesV w p loose mean mg mb 1 121 [.str x t, .int (k : Int) u] news (fun t => .str (Txt.item x (k : Int)) t) := by
  intro dp un gd env outer A₀ base h₀ L m s Q E B F X N T hf hk hd hu hret
  refine wpAny_call ?_
  k_dflt cell_enter
  repeat' (first
    | ((with_reducible show wpAny _ _ (PySem.exec _ _) _ _ _); k_fold)
    | ((with_reducible show wpAny _ _ (PySem.execs _ _) _ _ _); k_fold)
    | ((with_reducible show wpAny _ _ (PySem.execs _ _) _ _ _); dsimp only)
    | ((with_reducible show wpAny _ _ (PySem.call (Value.builtin "hasattr") _) _ _ _); first | with_reducible ((refine' hasattr_str_k ?k1 ?k2 ?kR; (case k1 => k_asm); (case k2 => k_asm); k_whole); intro h9 F9 N9; (try dsimp only)) | ((refine' hasattr_str_k ?k1 ?k2 ?kR; (case k1 => k_asm); (case k2 => k_asm); k_whole); intro h9 F9 N9; (try dsimp only)))
    | (k_unfold; (try dsimp only)) | (k_end; wrow_close) | walk1 | (dsimp only; walk1) | (leave1; try dsimp only) | fail "no step")
  (refine' cb_retS hret ?e1 ?e2 ?e3; (case e2 => k_asm); (case e3 => k_asm); (case e1 => (rfl)))
theorem concatS_gives (x y : Str) (hx : x.length < 1000) (hy : y.length < 1000) (t u : MTok) (news) : GivesV w p loose mean mg mb 1 114 [.str x t, .str y u] news (fun t => .str (x ++ y) t) := by
  intro dp un gd env outer A₀ base h₀ L m s Q E B F X N T hf hk hd hu hret
  refine wpAny_call ?_
  k_dflt cell_enter
  repeat' (first
    | ((with_reducible show wpAny _ _ (PySem.exec _ _) _ _ _); k_fold)
    | ((with_reducible show wpAny _ _ (PySem.execs _ _) _ _ _); k_fold)
    | ((with_reducible show wpAny _ _ (PySem.execs _ _) _ _ _); dsimp only)
    | ((with_reducible show wpAny _ _ (PySem.call (Value.builtin "hasattr") _) _ _ _); first | with_reducible ((refine' hasattr_str_k ?k1 ?k2 ?kR; (case k1 => k_asm); (case k2 => k_asm); k_whole); intro h9 F9 N9; (try dsimp only)) | ((refine' hasattr_str_k ?k1 ?k2 ?kR; (case k1 => k_asm); (case k2 => k_asm); k_whole); intro h9 F9 N9; (try dsimp only)))
    | (k_unfold; (try dsimp only)) | (k_end; wrow_close) | walk1 | (dsimp only; walk1) | (leave1; try dsimp only) | fail "no step")
  (refine' cb_retS hret ?e1 ?e2 ?e3; (case e2 => k_asm); (case e3 => k_asm); (case e1 => (rfl)))
theorem eqS_gives (x y : Str) (hx : x.length < 2000) (hy : y.length < 2000) (t u : MTok) (news) : GivesV w p loose mean mg mb 1 72 [.str x t, .str y u] news (fun _ => .bool (x == y)) := by
  intro dp un gd env outer A₀ base h₀ L m s Q E B F X N T hf hk hd hu hret
  refine wpAny_call ?_
  k_dflt cell_enter
  repeat' (first
    | ((with_reducible show wpAny _ _ (PySem.exec _ _) _ _ _); k_fold)
    | ((with_reducible show wpAny _ _ (PySem.execs _ _) _ _ _); k_fold)
    | ((with_reducible show wpAny _ _ (PySem.execs _ _) _ _ _); dsimp only)
    | ((with_reducible show wpAny _ _ (PySem.call (Value.builtin "hasattr") _) _ _ _); first | with_reducible ((refine' hasattr_str_k ?k1 ?k2 ?kR; (case k1 => k_asm); (case k2 => k_asm); k_whole); intro h9 F9 N9; (try dsimp only)) | ((refine' hasattr_str_k ?k1 ?k2 ?kR; (case k1 => k_asm); (case k2 => k_asm); k_whole); intro h9 F9 N9; (try dsimp only)))
    | (k_unfold; (try dsimp only)) | (k_end; wrow_close) | walk1 | (dsimp only; walk1) | (leave1; try dsimp only) | fail "no step")
  exact cb_retB hret (by rfl) (by k_asm) (by k_asm)
theorem mulS_gives (x : Str) (n : Nat) (hx : x.length < 1000) (hy : n < 1000) (t u : MTok) (news) : GivesV w p loose mean mg mb 1 100 [.str x t, .int (n : Int) u] news (fun t => .str (Txt.mul x (n : Int)) t) := by
  intro dp un gd env outer A₀ base h₀ L m s Q E B F X N T hf hk hd hu hret
  refine wpAny_call ?_
  k_dflt cell_enter
  repeat' (first
    | ((with_reducible show wpAny _ _ (PySem.exec _ _) _ _ _); k_fold)
    | ((with_reducible show wpAny _ _ (PySem.execs _ _) _ _ _); k_fold)
    | ((with_reducible show wpAny _ _ (PySem.execs _ _) _ _ _); dsimp only)
    | ((with_reducible show wpAny _ _ (PySem.call (Value.builtin "hasattr") _) _ _ _); first | with_reducible ((refine' hasattr_str_k ?k1 ?k2 ?kR; (case k1 => k_asm); (case k2 => k_asm); k_whole); intro h9 F9 N9; (try dsimp only)) | ((refine' hasattr_str_k ?k1 ?k2 ?kR; (case k1 => k_asm); (case k2 => k_asm); k_whole); intro h9 F9 N9; (try dsimp only)))
    | (k_unfold; (try dsimp only)) | (k_end; wrow_close) | walk1 | (dsimp only; walk1) | (leave1; try dsimp only) | fail "no step")
  (refine' cb_retS hret ?e1 ?e2 ?e3; (case e2 => k_asm); (case e3 => k_asm); (case e1 => (rfl)))
theorem floor_gives (a b : Nat) (hx : a < 1000) (hb : 0 < b) (hb2 : b < 1000) (t u : MTok) (news) : GivesV w p loose mean mg mb 1 86 [.int (a : Int) t, .int (b : Int) u] news (fun t => .int ((a / b : Nat) : Int) t) := by
  intro dp un gd env outer A₀ base h₀ L m s Q E B F X N T hf hk hd hu hret
  refine wpAny_call ?_
  k_dflt cell_enter
  repeat' (first
    | ((with_reducible show wpAny _ _ (PySem.exec _ _) _ _ _); k_fold)
    | ((with_reducible show wpAny _ _ (PySem.execs _ _) _ _ _); k_fold)
    | ((with_reducible show wpAny _ _ (PySem.execs _ _) _ _ _); dsimp only)
    | ((with_reducible show wpAny _ _ (PySem.call (Value.builtin "hasattr") _) _ _ _); first | with_reducible ((refine' hasattr_str_k ?k1 ?k2 ?kR; (case k1 => k_asm); (case k2 => k_asm); k_whole); intro h9 F9 N9; (try dsimp only)) | ((refine' hasattr_str_k ?k1 ?k2 ?kR; (case k1 => k_asm); (case k2 => k_asm); k_whole); intro h9 F9 N9; (try dsimp only)))
    | (k_unfold; (try dsimp only)) | (k_end; wrow_close) | walk1 | (dsimp only; walk1) | (leave1; try dsimp only) | fail "no step")
  exact cb_retI hret fdiv_nat (by k_asm) (by k_asm)
end
-- part KQ
section
open PySem PySem.W PyProof.Rows
set_option maxRecDepth 100000
set_option maxHeartbeats 8000000
variable {w : World} {p : Program} {loose : List Str} {mean : ExcName → Option Value} {mg mb : Str → Option Value}

noncomputable abbrev comI (c : Int → Str) (n0 n1 : List Int) : Int := comm12 ((wordC c n0).length : Int) ((wordC c n1).length : Int)
noncomputable abbrev roomI (c : Int → Str) (n0 n1 : List Int) : Int := ((wordC c n0).length : Int) + ((wordC c n1).length : Int) - comm12 ((wordC c n0).length : Int) ((wordC c n1).length : Int)
noncomputable def roomN (c : Int → Str) (n0 n1 : List Int) : Nat := (roomI c n0 n1).toNat
noncomputable def endl (W : Str) (n : Nat) : List Str := (List.range n).map fun i => Txt.item W ((i % W.length : Nat) : Int)
/-- two texts part where the rows' writing must -/
structure FirstIs (c : Int → Str) (n2 n3 : List Int) (x y : Str) : Prop where
  lx : x.length ≤ 300
  ly : y.length ≤ 300
  le : x.length = y.length
  ax : x.cps.all (· < 128) = true
  ay : y.cps.all (· < 128) = true
  eq : firstV (parts (signs x) (signs y)) = dueV c n2 n3
/-- what the six rows must be -/
structure KeptOk (c : Int → Str) (n0 n1 n2 n3 n4 n5 : List Int) : Prop where
  pos0 : 0 < (wordC c n0).length
  pos1 : 0 < (wordC c n1).length
  com0 : 0 < comI c n0 n1
  com1 : comI c n0 n1 ≤ (wordC c n0).length
  com2 : comI c n0 n1 ≤ (wordC c n1).length
  room2 : roomI c n0 n1 ≤ (wordC c n2).length
  f23 : FirstIs c n2 n3 (Txt.slice (wordC c n2) none (some (roomI c n0 n1))) (Txt.slice (wordC c n3) none (some (roomI c n0 n1)))
  f45 : FirstIs c n2 n3 (Txt.slice (wordC c n4) none (some (roomI c n0 n1))) (Txt.slice (wordC c n5) none (some (roomI c n0 n1)))
  e0 : ∀ a ∈ endl (wordC c n0) (roomN c n0 n1), a.length ≤ 300
  e1 : ∀ a ∈ endl (wordC c n1) (roomN c n0 n1), a.length ≤ 300
  fE : firstV (parts (endl (wordC c n0) (roomN c n0 n1)) (endl (wordC c n1) (roomN c n0 n1))) = dueV c n2 n3
  roots : ∀ k j, FirstGood n0 k → FirstGood n1 j → (n0.take k = n1.take j ↔ wordC c n0 ++ wordC c n1 = wordC c n1 ++ wordC c n0)
  pow0 : wordC c n0 ++ wordC c n1 = wordC c n1 ++ wordC c n0 → Txt.mul (Txt.slice (wordC c n0) none (some (comI c n0 n1))) (((wordC c n0).length : Int).fdiv (comI c n0 n1)) = wordC c n0
  pow1 : wordC c n0 ++ wordC c n1 = wordC c n1 ++ wordC c n0 → Txt.mul (Txt.slice (wordC c n0) none (some (comI c n0 n1))) (((wordC c n1).length : Int).fdiv (comI c n0 n1)) = wordC c n1
section
variable {c : Int → Str} {n0 n1 n2 n3 n4 n5 : List Int}
theorem KeptOk.room (h : KeptOk c n0 n1 n2 n3 n4 n5) : 0 ≤ roomI c n0 n1 := by
  have := h.com1
  simp only [roomI, comI] at *
  omega
theorem KeptOk.roomE (h : KeptOk c n0 n1 n2 n3 n4 n5) : roomI c n0 n1 = ((roomN c n0 n1 : Nat) : Int) := (Int.toNat_of_nonneg h.room).symm
end
theorem slice_whole {ys : List Value} {R : Int} {n : Nat} (hR : R = (n : Int)) (hl : ys.length = n) : (slicePick ys.toArray none (some R) none).toList = ys := by
  have e : sliceBounds none (some R) none ys.toArray.size = (((0 : Nat) : Int), ((ys.toArray.size : Nat) : Int), 1) := by
    rw [List.size_toArray, hl, hR]
    simp only [sliceBounds, Option.getD_none, show (1 : Int) > 0 by decide, if_true]
    congr 1
    congr 1
    split <;> omega
  rw [kmk_pick_nat _ e]
  simp
theorem endl_len {W : Str} {n : Nat} {ys : List Value} (h : StrsAre ys (endl W n)) : ys.length = n := by
  rw [h.areOf.length]; simp [endl]
theorem ne4_of {a I C c D : Nat} {P : Prop} (h : (@Ne Nat I a) ∧ (@Ne Nat C a) ∧ (@Ne Nat c a) ∧ (@Ne Nat D a) ∧ P) : (@Ne Nat a I) ∧ (@Ne Nat a C) ∧ (@Ne Nat a c) ∧ (@Ne Nat a D) := ⟨h.1.symm, h.2.1.symm, h.2.2.1.symm, h.2.2.2.1.symm⟩
theorem ne_due {prog : Program} {A : Around} {E : Value → Shared → Prop} {s : Shared} {Q : Value → Shared → Prop} {c : Int → Str} {ns ms : List Int} {t u : MTok} (h : Q (.bool false) s) : wpAny (model prog w) A (compareOp .NotEq (dueV c ns ms t) (dueV c ns ms u)) Q E s := by
  unfold dueV
  split
  · exact PyProof.Rows.ne_int (by rw [bne_self_eq_false]; exact h)
  · exact ne_str (by rw [bne_self_eq_false]; exact h)
section
variable {dp un : Nat} {gd : Option (List Code)} {env : Env} {outer : List Env} {A₀ : Around} {base g₀ h₀ : Heap} {L : Addr} {m : Str → Option Value} {s : Shared} {Q E : Value → Shared → Prop} {news : List (Addr × Obj)}
noncomputable abbrev FirstRet (w : World) (p : Program) (loose : List Str) (mean : ExcName → Option Value) (mg mb : Str → Option Value) (outer : List Env) (A₀ : Around) (base g₀ : Heap) (L : Addr) (m : Str → Option Value) (s : Shared) (Q : Value → Shared → Prop) (news : List (Addr × Obj)) (R : MTok → Value) : Prop :=
  ∀ (t : MTok) (h' : Heap) (tk' : Nat) (h₁ : Heap), KtsTurn (outer.filterMap (·.frame)) g₀ h₁ → Fr h₁ L h' m → News h₁ L h' news → Below A₀ base outer h₁ → (K w.params).In h₁ → Top p loose mean mg mb h₁ → KtsDicts (outer.filterMap (·.frame)) h₁ → Q (R t) { s with heap := h', toks := tk' }
theorem first_useT {c : Int → Str} {n2 n3 : List Int} {x y : Str} {t u : MTok} (hF : FirstIs c n2 n3 x y) (B : Below A₀ base outer h₀) (F : Fr h₀ L s.heap m) (X : (K w.params).In h₀) (N : News h₀ L s.heap news) (T : Top p loose mean mg mb h₀) (XB : (K w.params).In base) (TB : Top p loose mean mg mb base) (D : KtsDicts (outer.filterMap (·.frame)) h₀) (T0 : KtsTurn (outer.filterMap (·.frame)) g₀ h₀)
    (hf : env.frame = some L) (hk : env.scope.kind = .function) (hd : dp + 6 < recursionLimit) (hu : un + 8 * 6 < cLine) (ret : FirstRet w p loose mean mg mb outer A₀ base g₀ L m s Q news (dueV c n2 n3)) :
    wpAny (model PySem.Challenge.pw_ku0005_01 w) (topA dp un gd env outer) (call (.ref 180) [.str x t, .str y u]) Q E s :=
  first_gives x y t u hF.lx hF.ly hF.le hF.ax hF.ay news dp un gd env outer A₀ base g₀ h₀ L m s Q E B F X N T XB TB D T0 hf hk hd hu (hF.eq ▸ ret)
theorem first_useL {c : Int → Str} {n0 n1 n2 n3 n4 n5 : List Int} {l1 l2 : Addr} {ys zs : List Value} {k j : Nat} (hK : KeptOk c n0 n1 n2 n3 n4 n5) (hy : StrsAre ys (endl (wordC c n0) (roomN c n0 n1))) (hz : StrsAre zs (endl (wordC c n1) (roomN c n0 n1))) (hr : roomN c n0 n1 ≤ 300) (m1 : (l1, listOf ys.toArray k) ∈ news) (m2 : (l2, listOf zs.toArray j) ∈ news)
    (B : Below A₀ base outer h₀) (F : Fr h₀ L s.heap m) (X : (K w.params).In h₀) (N : News h₀ L s.heap news) (T : Top p loose mean mg mb h₀) (XB : (K w.params).In base) (TB : Top p loose mean mg mb base) (D : KtsDicts (outer.filterMap (·.frame)) h₀) (T0 : KtsTurn (outer.filterMap (·.frame)) g₀ h₀)
    (hf : env.frame = some L) (hk : env.scope.kind = .function) (hd : dp + 6 < recursionLimit) (hu : un + 8 * 6 < cLine) (ret : FirstRet w p loose mean mg mb outer A₀ base g₀ L m s Q news (dueV c n2 n3)) :
    wpAny (model PySem.Challenge.pw_ku0005_01 w) (topA dp un gd env outer) (call (.ref 180) [.ref l1, .ref l2]) Q E s :=
  first_list_gives l1 l2 ys zs k j _ _ hy.areOf hz.areOf (by simp [endl]) (by simpa [endl] using hr) hK.e0 hK.e1 news dp un gd env outer A₀ base g₀ h₀ L m s Q E B F X (kst_newsOf N (List.forall_mem_cons.mpr ⟨m1, List.forall_mem_cons.mpr ⟨m2, fun _ hp => hp⟩⟩)) T XB TB D T0 hf hk hd hu
    fun t h' tk' h₁ T' F' N' => by
      have e := ret t h' tk' h₁ T' F' (kst_newsOf N' fun _ hp => .tail _ (.tail _ hp))
      rw [← hK.fE] at e
      exact e
theorem root_use {l : Addr} {vs : List Value} {n : Nat} {c : Int → Str} {oc ns : List Int} (ho : RowOk c oc ns) (B : Below A₀ base outer h₀) (F : Fr h₀ L s.heap m) (X : (K w.params).In h₀) (N : News h₀ L s.heap news) (T : Top p loose mean mg mb h₀) (hf : env.frame = some L) (hk : env.scope.kind = .function) (hd : dp + 12 < recursionLimit) (hu : un + 8 * 12 < cLine) (hm : (l, listOf vs.toArray n) ∈ news) (hi : IntsAre vs ns)
    (ret : ∀ a ws z k h' tk', IntsAre ws (ns.take k) → FirstGood ns k → Fr h₀ L h' m → News h₀ L h' ((a, listOf ws.toArray z) :: news) → Q (.ref a) { s with heap := h', toks := tk' }) :
    wpAny (model PySem.Challenge.pw_ku0005_01 w) (topA dp un gd env outer) (call (.ref 161) [.ref l]) Q E s :=
  GivesO.use (root_gives l vs n ns hi ho.1 ho.2.1 (Nat.lt_of_le_of_lt ho.2.2.1 (by decide)) news) B F X (kst_newsOf N (List.forall_mem_cons.mpr ⟨hm, fun _ hp => hp⟩)) T hf hk hd hu fun r new h' tk' F' N' _ ho => by
    obtain ⟨a, ws, z, k, rfl, rfl, h1, h2⟩ := ho
    exact ret a ws z k h' tk' h1 h2 F' fun q hq => N' q (by
      rcases List.mem_cons.mp hq with rfl | hq
      · exact .head _
      · exact .tail _ (.tail _ hq))
theorem alike_eq {A : Around} {c : Int → Str} {n0 n1 n2 n3 n4 n5 : List Int} {a b : Addr} {us vs : List Value} {z y k j : Nat} (hK : KeptOk c n0 n1 n2 n3 n4 n5) (N : News h₀ L s.heap news) (ma : (a, listOf us.toArray z) ∈ news) (mb' : (b, listOf vs.toArray y) ∈ news) (hi : IntsAre us (n0.take k)) (hj : IntsAre vs (n1.take j)) (g : FirstGood n0 k) (g' : FirstGood n1 j) (hu : A.units + 64 < cLine)
    (h1 : wordC c n0 ++ wordC c n1 = wordC c n1 ++ wordC c n0 → Q (.bool true) s) (h0 : wordC c n0 ++ wordC c n1 ≠ wordC c n1 ++ wordC c n0 → Q (.bool false) s) : wpAny (model PySem.Challenge.pw_ku0005_01 w) A (compareOp .Eq (.ref a) (.ref b)) Q E s := by
  refine eq_two (News.isList N ma) hi (News.isList N mb') hj hu (fun e => ?_) (fun e => ?_)
  · exact h1 ((hK.roots k j g g').mp e)
  · exact h0 fun q => e ((hK.roots k j g g').mpr q)
end
structure CBase (w : World) (p : Program) (loose : List Str) (mean : ExcName → Option Value) (mg mb : Str → Option Value) (A₀ : Around) (outer : List Env) (base g₀ g : Heap) : Prop where
  B : Below A₀ base outer g
  X : (K w.params).In g
  T : Top p loose mean mg mb g
  D : KtsDicts (outer.filterMap (·.frame)) g
  T0 : KtsTurn (outer.filterMap (·.frame)) g₀ g
theorem For_H {prog : Program} {A : Around} {E : Value → Shared → Prop} {s : Shared} {env : Env} {Q : Flow → Shared → Prop} {target iter : PySem.Expr} {body : List Stmt} {pos : Pos} {A₀ : Around} {outer : List Env} {base g₀ h₀ : Heap} (_ : Below A₀ base outer h₀) (_ : KtsTurn (outer.filterMap (·.frame)) g₀ h₀) (_ : Top p loose mean mg mb h₀)
    (h : wpAny (model prog w) A (eval iter env) (SrcB prog w A E env target body (CBase w p loose mean mg mb A₀ outer base g₀) Q) E s)
    (hs : ∀ x, foldedSetIterable iter env x = pure x) (hE : PassesOwn (model prog w) A env E) :
    wpAny (model prog w) A (exec (.For target iter body [] pos) env) Q E s := For_B _ h hs hE
section
open LCg
variable {prog : Program} {A : Around} {E : Value → Shared → Prop} {s : Shared} {h₀ : Heap} {L : Addr} {m : Str → Option Value} {env : Env}
noncomputable def powC (c : Int → Str) (n0 n1 : List Int) (W : Str) : Str := Txt.mul (Txt.slice (wordC c n0) none (some (comI c n0 n1))) ((W.length : Int).fdiv (comI c n0 n1))
theorem srcT_pow {c : Int → Str} {n0 n1 n2 n3 n4 n5 : List Int} {elt : PySem.Expr} {x : Str} {scope : Scope} {cl : List (Str × Addr)} {Q : Value → Shared → Prop} {T : Addr} {t0 t1 : MTok} {k : Nat} {news : List (Addr × Obj)} (hK : KeptOk c n0 n1 n2 n3 n4 n5) (hW : wordC c n0 ++ wordC c n1 = wordC c n1 ++ wordC c n0) (l0 : ((wordC c n0).length : Int) < 1000) (l1 : ((wordC c n1).length : Int) < 1000)
    (hh : A.handled = none) (F : Fr h₀ L s.heap m) (N : News h₀ L s.heap news) (hm : (T, tupO [.str (wordC c n0) t0, .str (wordC c n1) t1] k) ∈ news)
    (fin : ∀ ys, StrsAre ys [wordC c n0, wordC c n1] → FinE h₀ L m s Q ys news)
    (turn : ∀ W t I oI C oC D m₂ ys h tk (E' : Value → Shared → Prop), (W.length : Int) < 1000 → NsObj oC m₂ → m₂ x = some (.str W t) → Fr h₀ L h m → News h₀ L h ((I, oI) :: (C, oC) :: (D, lst ys) :: news) → Off3 I C D news → ((@Ne Nat I C) ∧ (@Ne Nat I D) ∧ (@Ne Nat C D)) →
      wpAny (model prog w) A (eval elt (compEnvC scope cl C env)) (CompEnd h₀ L m { s with heap := h, toks := tk } I oI C oC D (lst ys) (fun _ => True) (fun y nw => nw = news ∧ ∃ t, y = .str (powC c n0 n1 W) t)) E' { s with heap := h, toks := tk }) :
    SrcT prog w A h₀ L m env elt x scope cl Q (.ref T) s := by
  refine ⟨T, _, k, news, fun i ys => AreOf ItemKind.str ys (([wordC c n0, wordC c n1] : List Str).take i), rfl, hh, F, N, hm, by show 2 ≤ 1000; decide, .nil, ?_, fun ys h => fin ys (strsAre_of h)⟩
  intro i v I oI C oC D m₂ ys h tk E' hv hJ htk hC hx F N off ne
  have key : ∃ W t, v = .str W t ∧ ([wordC c n0, wordC c n1] : List Str)[i]? = some W ∧ (W.length : Int) < 1000 ∧ powC c n0 n1 W = W := by
    match i, hv with
    | 0, hv => exact ⟨_, _, (Option.some.inj hv).symm, rfl, l0, hK.pow0 hW⟩
    | 1, hv => exact ⟨_, _, (Option.some.inj hv).symm, rfl, l1, hK.pow1 hW⟩
    | i + 2, hv => cases hv
  obtain ⟨W, t, rfl, hW', hl, e⟩ := key
  refine wpAny_mono (turn W t I oI C oC D m₂ ys h tk E' hl hC hx F N off ne) (fun y s₂ hq => ?_) fun _ _ e => e
  obtain ⟨h', tk', nw', e', F', N', off', hS, rfl, t', rfl⟩ := hq
  refine ⟨h', tk', _, e', F', N', off', hS, rfl, ?_⟩
  show AreOf ItemKind.str _ (([wordC c n0, wordC c n1] : List Str).take (i + 1))
  rw [List.take_add_one, hW', e]
  exact AreOf_snoc hJ ⟨t', rfl⟩
end
theorem floorI_gives (a : Nat) (b : Int) (ha : (a : Int) < 1000) (hb : 0 < b) (hb2 : b < 1000) (t u : MTok) (news) : GivesV w p loose mean mg mb 1 86 [.int (a : Int) t, .int b u] news (fun t => .int ((a : Int).fdiv b) t) := by
  intro dp un gd env outer A₀ base h₀ L m s Q E B F X N T hf hk hd hu hret
  refine wpAny_call ?_
  k_dflt cell_enter
  repeat' (first
    | ((with_reducible show wpAny _ _ (PySem.exec _ _) _ _ _); k_fold)
    | ((with_reducible show wpAny _ _ (PySem.execs _ _) _ _ _); k_fold)
    | ((with_reducible show wpAny _ _ (PySem.execs _ _) _ _ _); dsimp only)
    | (k_unfold; (try dsimp only)) | (k_end; wrow_close) | walk1 | (dsimp only; walk1) | (leave1; try dsimp only) | fail "no step")
  exact cb_retI hret (by rfl) (by k_asm) (by k_asm)
theorem mulI_gives (x : Str) (n : Int) (hx : x.length < 1000) (h0 : 0 ≤ n) (hy : n < 1000) (t u : MTok) (news) : GivesV w p loose mean mg mb 1 100 [.str x t, .int n u] news (fun t => .str (Txt.mul x n) t) := by
  intro dp un gd env outer A₀ base h₀ L m s Q E B F X N T hf hk hd hu hret
  refine wpAny_call ?_
  k_dflt cell_enter
  repeat' (first
    | ((with_reducible show wpAny _ _ (PySem.exec _ _) _ _ _); k_fold)
    | ((with_reducible show wpAny _ _ (PySem.execs _ _) _ _ _); k_fold)
    | ((with_reducible show wpAny _ _ (PySem.execs _ _) _ _ _); dsimp only)
    | (k_unfold; (try dsimp only)) | (k_end; wrow_close) | walk1 | (dsimp only; walk1) | (leave1; try dsimp only) | fail "no step")
  (refine' cb_retS hret ?e1 ?e2 ?e3; (case e2 => k_asm); (case e3 => k_asm); (case e1 => (rfl)))
theorem two_ok {c : Int → Str} {oc n0 n1 : List Int} (r0 : RowOk c oc n0) (r1 : RowOk c oc n1) : ∀ y ∈ ([wordC c n0, wordC c n1] : List Str), PyData.strOk y = true := by
  intro y hy
  simp only [List.mem_cons, List.not_mem_nil, or_false] at hy
  rcases hy with rfl | rfl
  · exact strOk_of fun q hq => Nat.lt_trans (r0.signs q hq) (by decide)
  · exact strOk_of fun q hq => Nat.lt_trans (r1.signs q hq) (by decide)
theorem eqT_gives (x y : Str) (hx : x.length < 2000) (hy : y.length < 2000) (e : x = y) (t u : MTok) (news) : GivesV w p loose mean mg mb 1 72 [.str x t, .str y u] news (fun _ => .bool true) := by
  have g := eqS_gives (w := w) (p := p) (loose := loose) (mean := mean) (mg := mg) (mb := mb) x y hx hy t u news
  rw [beq_iff_eq.mpr e] at g
  exact g
theorem eqF_gives (x y : Str) (hx : x.length < 2000) (hy : y.length < 2000) (e : x ≠ y) (t u : MTok) (news) : GivesV w p loose mean mg mb 1 72 [.str x t, .str y u] news (fun _ => .bool false) := by
  have g := eqS_gives (w := w) (p := p) (loose := loose) (mean := mean) (mg := mg) (mb := mb) x y hx hy t u news
  rw [beq_eq_false_iff_ne.mpr e] at g
  exact g
theorem app_lt {c : Int → Str} {oc ns ms : List Int} (h : RowOk c oc ns) (h' : RowOk c oc ms) : (wordC c ns ++ wordC c ms).length < 2000 := by
  rw [Str.length_append]
  have := rowC_len h
  have := rowC_len h'
  omega
theorem cut_lt {x : Str} {j : Int} (h0 : 0 < j) (h : j ≤ x.length) (hl : (x.length : Int) < 1000) : (Txt.slice x none (some j)).length < 1000 := by
  rw [slice_to (by omega) h]
  show (List.toArray _).size < _
  rw [List.size_toArray, List.length_take]
  omega
theorem fd_nn {a : Nat} {b : Int} (hb : 0 < b) : 0 ≤ (a : Int).fdiv b := Int.fdiv_nonneg (by omega) (by omega)
theorem fd_lt {a : Nat} {b : Int} (hb : 0 < b) (ha : (a : Int) < 1000) : (a : Int).fdiv b < 1000 := by
  rw [Int.fdiv_eq_ediv_of_nonneg _ (by omega)]
  have := Int.ediv_le_self (a := (a : Int)) b (by omega)
  omega
end
local macro_rules | `(tactic| k_ne) => `(tactic| (refine neN ?_; (try dsimp only); first | assumption | exact Ne.symm (by assumption) | omega))
-- part C11
section
open PySem PySem.W PyProof.Rows
set_option maxRecDepth 100000
set_option maxHeartbeats 8000000
variable {w : World} {p : Program} {loose : List Str} {mean : ExcName → Option Value} {mg mb : Str → Option Value}

theorem wordC_size {c : Int → Str} {oc ns : List Int} (h : RowOk c oc ns) : (wordC c ns).length ≤ sizeLine := by
  have := rowC_len h
  rw [sizeLine_eq]; omega
theorem kept_rest {dp un : Nat} {gd : Option (List Code)} {env : Env} {outer : List Env} {base g₀ g₁ h : Heap} {L D : Addr} {tk : Nat} {s : Shared} {PF : Flow → Shared → Prop} {EE : Value → Shared → Prop}
    (rw d W : Addr) (kk kD : Nat) (o : Obj) (c : Int → Str) (oc : List Int) (hc : CodesIn w o c oc) (a0 : Addr) (v0 : List Value) (k0 : Nat) (n0 : List Int) (h0 : IntsAre v0 n0) (r0 : RowOk c oc n0) (x0 : MTok) (a1 : Addr) (v1 : List Value) (k1 : Nat) (n1 : List Int) (h1 : IntsAre v1 n1) (r1 : RowOk c oc n1) (x1 : MTok) (a2 : Addr) (v2 : List Value) (k2 : Nat) (n2 : List Int) (h2 : IntsAre v2 n2) (r2 : RowOk c oc n2) (x2 : MTok) (a3 : Addr) (v3 : List Value) (k3 : Nat) (n3 : List Int) (h3 : IntsAre v3 n3) (r3 : RowOk c oc n3) (x3 : MTok) (a4 : Addr) (v4 : List Value) (k4 : Nat) (n4 : List Int) (h4 : IntsAre v4 n4) (r4 : RowOk c oc n4) (x4 : MTok) (a5 : Addr) (v5 : List Value) (k5 : Nat) (n5 : List Int) (h5 : IntsAre v5 n5) (r5 : RowOk c oc n5) (x5 : MTok) (nm : Str) (t : MTok) (o1 o2 o3 o4 o5 o6 : Obj)
    (d1 : o1.data = .cell (some (.str nm t))) (d2 : o2.data = .cell (some (.ref W))) (d3 : o3.data = .cell (some (.ref d))) (d4 : o4.data = .cell (none)) (d5 : o5.data = .cell (none)) (d6 : o6.data = .cell (none))
    (B : Below (topA dp un gd env outer) base (env :: outer) g₁) (F : Fr g₁ L h (fun z => if z = Str.ofString "words" then some (.ref D) else if z = Str.ofString "rows" then some (.ref rw) else none)) (X : (K w.params).In g₁) (T : Top p loose mean mg mb g₁) (XB : (K w.params).In base) (TB : Top p loose mean mg mb base)
    (Dd : KtsDicts ((env :: outer).filterMap (·.frame)) g₁) (T0 : KtsTurn ((env :: outer).filterMap (·.frame)) g₀ g₁)
    (N : News g₁ L h ((D, listOf ([.str (wordC c n0) x0, .str (wordC c n1) x1, .str (wordC c n2) x2, .str (wordC c n3) x3, .str (wordC c n4) x4, .str (wordC c n5) x5] : List Value).toArray kD) :: (L + 1 + 1 + 1 + 1 + 1 + 1, o6) :: (L + 1 + 1 + 1 + 1 + 1, o5) :: (L + 1 + 1 + 1 + 1, o4) :: (L + 1 + 1 + 1, o3) :: (L + 1 + 1, o2) :: (L + 1, o1) :: (rw, listOf (List.map (fun r : Row => Value.ref r.a) [⟨a0, v0, k0, n0⟩, ⟨a1, v1, k1, n1⟩, ⟨a2, v2, k2, n2⟩, ⟨a3, v3, k3, n3⟩, ⟨a4, v4, k4, n4⟩, ⟨a5, v5, k5, n5⟩]).toArray kk) :: (a0, listOf v0.toArray k0) :: (a1, listOf v1.toArray k1) :: (a2, listOf v2.toArray k2) :: (a3, listOf v3.toArray k3) :: (a4, listOf v4.toArray k4) :: (a5, listOf v5.toArray k5) :: (d, o) :: []))
    (l1 : @LT.lt Nat _ rw L ∧ @LT.lt Nat _ a0 L ∧ @LT.lt Nat _ a1 L ∧ @LT.lt Nat _ a2 L ∧ @LT.lt Nat _ a3 L ∧ @LT.lt Nat _ a4 L ∧ @LT.lt Nat _ a5 L ∧ @LT.lt Nat _ d L) (e1 : @Ne Nat (L + 1) D) (e2 : @Ne Nat (L + 1 + 1) D) (e3 : @Ne Nat (L + 1 + 1 + 1) D) (e4 : @Ne Nat (L + 1 + 1 + 1 + 1) D) (e5 : @Ne Nat (L + 1 + 1 + 1 + 1 + 1) D) (e6 : @Ne Nat (L + 1 + 1 + 1 + 1 + 1 + 1) D)
    (hd : dp + 20 < recursionLimit) (hu : un + 8 * 20 < cLine) (hE : PassesOwn (model PySem.Challenge.pw_ku0005_01 w) ((topA dp un gd env outer).deeper (envOfC (Str.ofString "_law_kept") (fdS 39) L 185 (Value.ref 184))) (envOfC (Str.ofString "_law_kept") (fdS 39) L 185 (Value.ref 184)) EE)
    (hK : KeptOk c n0 n1 n2 n3 n4 n5)
    (hQ : ∀ g₂ h' tk' m' news', KtsTurn ((env :: outer).filterMap (·.frame)) g₀ g₂ → Fr g₂ L h' m' → News g₂ L h' news' → (∀ q ∈ (rw, listOf (List.map (fun r : Row => Value.ref r.a) [⟨a0, v0, k0, n0⟩, ⟨a1, v1, k1, n1⟩, ⟨a2, v2, k2, n2⟩, ⟨a3, v3, k3, n3⟩, ⟨a4, v4, k4, n4⟩, ⟨a5, v5, k5, n5⟩]).toArray kk) :: (a0, listOf v0.toArray k0) :: (a1, listOf v1.toArray k1) :: (a2, listOf v2.toArray k2) :: (a3, listOf v3.toArray k3) :: (a4, listOf v4.toArray k4) :: (a5, listOf v5.toArray k5) :: (d, o) :: [], q ∈ news') → PF (.ret (.bool true)) { s with heap := h', toks := tk' }) :
    wpAny (model PySem.Challenge.pw_ku0005_01 w) ((topA dp un gd env outer).deeper (envOfC (Str.ofString "_law_kept") (fdS 39) L 185 (Value.ref 184))) (execs ((fdB 39).drop 3) (envOfC (Str.ofString "_law_kept") (fdS 39) L 185 (Value.ref 184))) PF EE { s with heap := h, toks := tk } := by
  have q0 := rowC_lt r0; have q1 := rowC_lt r1; have p0 := hK.pos0; have p1 := hK.pos1; have hR := hK.roomE; have hz : roomN c n0 n1 ≤ 108 := (by have h1 := hK.room2; have h2 := rowC_len r2; rw [hR] at h1; omega)
  have hC0 := hK.com0; have hC1 := hK.com1; have hC2 := hK.com2; have f23 := hK.f23; have f45 := hK.f45; have hC9 : comI c n0 n1 < 1000 := Int.lt_of_le_of_lt hC1 q0
  show wpAny _ _ (execs (List.cons _ _) _) _ _ _
  repeat' (first
    | ((with_reducible show wpAny _ _ (PySem.exec _ _) _ _ _); k_fold)
    | ((with_reducible show wpAny _ _ (PySem.execs _ _) _ _ _); k_fold)
    | ((with_reducible show wpAny _ _ (PySem.execs _ _) _ _ _); dsimp only)
    | ((with_reducible show wpAny _ _ (subscriptTail _ (PySem.Expr.Slice none (some _) none _) (Value.str (wordC _ _) _) _) _ _ _); first | with_reducible (((with_reducible rename Fr _ _ _ _ => F'); (with_reducible rename News _ _ _ _ => N'); (refine slice_strN_ns (hsz := ?hsz) (s := ⟨_, _, _, _, _⟩) F' N' ?_); (case hsz => exact wordC_size (by assumption)); intro _ _ _ _ _)) | (((with_reducible rename Fr _ _ _ _ => F'); (with_reducible rename News _ _ _ _ => N'); (refine slice_strN_ns (hsz := ?hsz) (s := ⟨_, _, _, _, _⟩) F' N' ?_); (case hsz => exact wordC_size (by assumption)); intro _ _ _ _ _)))
    | ((with_reducible show wpAny _ _ (call (Value.ref 72) _) _ _ _); first | with_reducible ((k_dflt (refine' GivesV.use (eqF_gives _ _ ?ef1 ?ef2 ?ef3 _ _ _) ?k1y72 ?k2y72 ?k3y72 ?k4y72 ?k5y72 ?kfy72 ?kKy72 ?kdy72 ?kuy72 ?_; (case ef3 => assumption); (case ef1 => exact app_lt (by assumption) (by assumption)); (case ef2 => exact app_lt (by assumption) (by assumption)); (case k1y72 => k_asm); (case k2y72 => k_asm); (case k3y72 => k_asm); (case k4y72 => k_asm); (case k5y72 => k_asm); (case kfy72 => first | exact rfl | assumption); (case kKy72 => first | exact rfl | assumption); (case kdy72 => ktr_room); (case kuy72 => ktr_units); k_whole); intro t9 h9 tk9 F9 N9; (try dsimp only); (try k_fold))) | ((k_dflt (refine' GivesV.use (eqF_gives _ _ ?ef1 ?ef2 ?ef3 _ _ _) ?k1y72 ?k2y72 ?k3y72 ?k4y72 ?k5y72 ?kfy72 ?kKy72 ?kdy72 ?kuy72 ?_; (case ef3 => assumption); (case ef1 => exact app_lt (by assumption) (by assumption)); (case ef2 => exact app_lt (by assumption) (by assumption)); (case k1y72 => k_asm); (case k2y72 => k_asm); (case k3y72 => k_asm); (case k4y72 => k_asm); (case k5y72 => k_asm); (case kfy72 => first | exact rfl | assumption); (case kKy72 => first | exact rfl | assumption); (case kdy72 => ktr_room); (case kuy72 => ktr_units); k_whole); intro t9 h9 tk9 F9 N9; (try dsimp only); (try k_fold))))
    | ((with_reducible show wpAny _ _ (call (Value.ref 72) _) _ _ _); first | with_reducible ((k_dflt (refine' GivesV.use (eqT_gives _ _ ?et1 ?et2 ?et3 _ _ _) ?k1x72 ?k2x72 ?k3x72 ?k4x72 ?k5x72 ?kfx72 ?kKx72 ?kdx72 ?kux72 ?_; (case et3 => assumption); (case et1 => exact app_lt (by assumption) (by assumption)); (case et2 => exact app_lt (by assumption) (by assumption)); (case k1x72 => k_asm); (case k2x72 => k_asm); (case k3x72 => k_asm); (case k4x72 => k_asm); (case k5x72 => k_asm); (case kfx72 => first | exact rfl | assumption); (case kKx72 => first | exact rfl | assumption); (case kdx72 => ktr_room); (case kux72 => ktr_units); k_whole); intro t9 h9 tk9 F9 N9; (try dsimp only); (try k_fold))) | ((k_dflt (refine' GivesV.use (eqT_gives _ _ ?et1 ?et2 ?et3 _ _ _) ?k1x72 ?k2x72 ?k3x72 ?k4x72 ?k5x72 ?kfx72 ?kKx72 ?kdx72 ?kux72 ?_; (case et3 => assumption); (case et1 => exact app_lt (by assumption) (by assumption)); (case et2 => exact app_lt (by assumption) (by assumption)); (case k1x72 => k_asm); (case k2x72 => k_asm); (case k3x72 => k_asm); (case k4x72 => k_asm); (case k5x72 => k_asm); (case kfx72 => first | exact rfl | assumption); (case kKx72 => first | exact rfl | assumption); (case kdx72 => ktr_room); (case kux72 => ktr_units); k_whole); intro t9 h9 tk9 F9 N9; (try dsimp only); (try k_fold))))
    | ((with_reducible show wpAny _ _ (call (Value.ref 114) _) _ _ _); first | with_reducible ((k_dflt (refine' GivesV.use (concatS_gives _ _ ?cc1 ?cc2 _ _ _) ?k1x114 ?k2x114 ?k3x114 ?k4x114 ?k5x114 ?kfx114 ?kKx114 ?kdx114 ?kux114 ?_; (case cc1 => omega); (case cc2 => omega); (case k1x114 => k_asm); (case k2x114 => k_asm); (case k3x114 => k_asm); (case k4x114 => k_asm); (case k5x114 => k_asm); (case kfx114 => first | exact rfl | assumption); (case kKx114 => first | exact rfl | assumption); (case kdx114 => ktr_room); (case kux114 => ktr_units); k_whole); intro t9 h9 tk9 F9 N9; (try dsimp only); (try k_fold))) | ((k_dflt (refine' GivesV.use (concatS_gives _ _ ?cc1 ?cc2 _ _ _) ?k1x114 ?k2x114 ?k3x114 ?k4x114 ?k5x114 ?kfx114 ?kKx114 ?kdx114 ?kux114 ?_; (case cc1 => omega); (case cc2 => omega); (case k1x114 => k_asm); (case k2x114 => k_asm); (case k3x114 => k_asm); (case k4x114 => k_asm); (case k5x114 => k_asm); (case kfx114 => first | exact rfl | assumption); (case kKx114 => first | exact rfl | assumption); (case kdx114 => ktr_room); (case kux114 => ktr_units); k_whole); intro t9 h9 tk9 F9 N9; (try dsimp only); (try k_fold))))
    | ((with_reducible show wpAny _ _ (call (Value.ref 100) _) _ _ _); first | with_reducible ((k_dflt (refine' GivesV.use (mulI_gives _ _ ?mu1 ?mu2 ?mu3 _ _ _) ?k1x100 ?k2x100 ?k3x100 ?k4x100 ?k5x100 ?kfx100 ?kKx100 ?kdx100 ?kux100 ?_; (case mu1 => exact cut_lt (by with_reducible assumption) (by with_reducible assumption) (by with_reducible assumption)); (case mu2 => exact fd_nn (by with_reducible assumption)); (case mu3 => exact fd_lt (by with_reducible assumption) (by with_reducible assumption)); (case k1x100 => k_asm); (case k2x100 => k_asm); (case k3x100 => k_asm); (case k4x100 => k_asm); (case k5x100 => k_asm); (case kfx100 => first | exact rfl | assumption); (case kKx100 => first | exact rfl | assumption); (case kdx100 => ktr_room); (case kux100 => ktr_units); k_whole); intro t9 h9 tk9 F9 N9; (try dsimp only); (try k_fold))) | ((k_dflt (refine' GivesV.use (mulI_gives _ _ ?mu1 ?mu2 ?mu3 _ _ _) ?k1x100 ?k2x100 ?k3x100 ?k4x100 ?k5x100 ?kfx100 ?kKx100 ?kdx100 ?kux100 ?_; (case mu1 => exact cut_lt (by with_reducible assumption) (by with_reducible assumption) (by with_reducible assumption)); (case mu2 => exact fd_nn (by with_reducible assumption)); (case mu3 => exact fd_lt (by with_reducible assumption) (by with_reducible assumption)); (case k1x100 => k_asm); (case k2x100 => k_asm); (case k3x100 => k_asm); (case k4x100 => k_asm); (case k5x100 => k_asm); (case kfx100 => first | exact rfl | assumption); (case kKx100 => first | exact rfl | assumption); (case kdx100 => ktr_room); (case kux100 => ktr_units); k_whole); intro t9 h9 tk9 F9 N9; (try dsimp only); (try k_fold))))
    | ((with_reducible show wpAny _ _ (call (Value.ref 86) _) _ _ _); first | with_reducible ((k_dflt (refine' GivesV.use (floorI_gives _ _ ?fl1 ?fl2 ?fl3 _ _ _) ?k1x86 ?k2x86 ?k3x86 ?k4x86 ?k5x86 ?kfx86 ?kKx86 ?kdx86 ?kux86 ?_; (case fl1 => assumption); (case fl2 => assumption); (case fl3 => assumption); (case k1x86 => k_asm); (case k2x86 => k_asm); (case k3x86 => k_asm); (case k4x86 => k_asm); (case k5x86 => k_asm); (case kfx86 => first | exact rfl | assumption); (case kKx86 => first | exact rfl | assumption); (case kdx86 => ktr_room); (case kux86 => ktr_units); k_whole); intro t9 h9 tk9 F9 N9; (try dsimp only); (try k_fold))) | ((k_dflt (refine' GivesV.use (floorI_gives _ _ ?fl1 ?fl2 ?fl3 _ _ _) ?k1x86 ?k2x86 ?k3x86 ?k4x86 ?k5x86 ?kfx86 ?kKx86 ?kdx86 ?kux86 ?_; (case fl1 => assumption); (case fl2 => assumption); (case fl3 => assumption); (case k1x86 => k_asm); (case k2x86 => k_asm); (case k3x86 => k_asm); (case k4x86 => k_asm); (case k5x86 => k_asm); (case kfx86 => first | exact rfl | assumption); (case kKx86 => first | exact rfl | assumption); (case kdx86 => ktr_room); (case kux86 => ktr_units); k_whole); intro t9 h9 tk9 F9 N9; (try dsimp only); (try k_fold))))
    | ((with_reducible show SrcT _ _ _ _ _ _ _ _ _ _ _ _ _ _); first | with_reducible (((refine' srcT_pow ?stK ?st0 ?sta ?stb ?st1 ?st2 ?st3 ?st4 ?_ ?_); (case stK => assumption); (case st0 => assumption); (case sta => assumption); (case stb => assumption); (case st2 => k_asm); (case st3 => k_asm); (case st4 => with_unfolding_all k_mem); (case st1 => with_unfolding_all rfl); (intro ys9 hy9; (try dsimp only)); rotate_left; (intro W9 t9 I9 oI9 C9 oC9 D9 m9 ys9 h9 tk9 E9 hl9 hC9 hx9 F9 N9 off9 ne9); rotate_right)) | (((refine' srcT_pow ?stK ?st0 ?sta ?stb ?st1 ?st2 ?st3 ?st4 ?_ ?_); (case stK => assumption); (case st0 => assumption); (case sta => assumption); (case stb => assumption); (case st2 => k_asm); (case st3 => k_asm); (case st4 => with_unfolding_all k_mem); (case st1 => with_unfolding_all rfl); (intro ys9 hy9; (try dsimp only)); rotate_left; (intro W9 t9 I9 oI9 C9 oC9 D9 m9 ys9 h9 tk9 E9 hl9 hC9 hx9 F9 N9 off9 ne9); rotate_right)))
    | ((with_reducible show wpAny _ _ (eval (PySem.Expr.ListComp (PySem.Expr.Call (PySem.Expr.Name (PySem.Str.ofString "mul") _) _ _ _) _ _ _) _) _ _ _); first | with_reducible ((k_dflt (refine ListComp_T (F₀ := by k_asm) (by with_unfolding_all rfl) (by decide) (by rfl) (by decide) (by rfl) ?_))) | ((k_dflt (refine ListComp_T (F₀ := by k_asm) (by with_unfolding_all rfl) (by decide) (by rfl) (by decide) (by rfl) ?_))))
    | ((with_reducible show wpAny _ _ (PySem.compareOp .Eq (Value.ref _) (Value.ref _)) _ _ _); first | with_reducible (((refine' eq_strsL ?es1 ?es2 ?es3 ?es4 ?es5 ?es6 ?es7 ?es8 ?_); (case es3 => k_asm); (case es4 => with_unfolding_all k_mem); (case es6 => with_unfolding_all k_mem); (case es5 => assumption); (case es7 => exact .cons _ _ (.cons _ _ .nil)); (case es1 => exact two_ok (by assumption) (by assumption)); (case es2 => exact two_ok (by assumption) (by assumption)); (case es8 => first | units_room | (show _ + 64 < _; omega)); (rw [decide_eq_true rfl]))) | (((refine' eq_strsL ?es1 ?es2 ?es3 ?es4 ?es5 ?es6 ?es7 ?es8 ?_); (case es3 => k_asm); (case es4 => with_unfolding_all k_mem); (case es6 => with_unfolding_all k_mem); (case es5 => assumption); (case es7 => exact .cons _ _ (.cons _ _ .nil)); (case es1 => exact two_ok (by assumption) (by assumption)); (case es2 => exact two_ok (by assumption) (by assumption)); (case es8 => first | units_room | (show _ + 64 < _; omega)); (rw [decide_eq_true rfl]))))
    | ((with_reducible show wpAny _ _ (PySem.compareOp .Eq (Value.ref _) (Value.ref _)) _ _ _); first | with_reducible (((refine' alike_eq ?aeK ?ae1 ?ae2 ?ae3 ?ae4 ?ae5 ?ae6 ?ae7 ?ae8 ?_ ?_); (case aeK => assumption); (case ae1 => k_asm); (case ae2 => with_unfolding_all k_mem); (case ae3 => with_unfolding_all k_mem); (case ae4 => assumption); (case ae5 => assumption); (case ae6 => assumption); (case ae7 => assumption); (case ae8 => first | units_room | (show _ + 64 < _; omega)); all_goals intro hW9)) | (((refine' alike_eq ?aeK ?ae1 ?ae2 ?ae3 ?ae4 ?ae5 ?ae6 ?ae7 ?ae8 ?_ ?_); (case aeK => assumption); (case ae1 => k_asm); (case ae2 => with_unfolding_all k_mem); (case ae3 => with_unfolding_all k_mem); (case ae4 => assumption); (case ae5 => assumption); (case ae6 => assumption); (case ae7 => assumption); (case ae8 => first | units_room | (show _ + 64 < _; omega)); all_goals intro hW9)))
    | ((with_reducible show wpAny _ _ (PySem.compareOp .NotEq _ _) _ _ _); first | with_reducible ((with_reducible refine ne_due ?_)) | ((with_reducible refine ne_due ?_)))
    | ((with_reducible show wpAny _ _ (subscriptTail (PySem.Expr.Name (PySem.Str.ofString _) _) (PySem.Expr.Slice none (some (PySem.Expr.Name _ _)) none _) (Value.ref _) (Value.ref _)) _ _ _); first | with_reducible ((k_dflt (refine' kmk_slice_lit ?slF ?slN ?sll ?slp ?slq ?sle ?_ ?sls ?slt ?slz; (case slF => k_asm); (case slN => k_asm); (case sll => kmk_list); (case slp => kmk_part); (case slq => kmk_part); (case sle => exact slice_whole (by assumption) (endl_len (by assumption))); (case sls => with_unfolding_all rfl); (case slt => kmk_pure); (case slz => (rw [List.size_toArray, endl_len (by assumption)]; exact Nat.le_trans (by assumption : _ ≤ 108) (by decide)))); intro D9 h9 F9 N9 l9; (try k_lt l9); (try dsimp only))) | ((k_dflt (refine' kmk_slice_lit ?slF ?slN ?sll ?slp ?slq ?sle ?_ ?sls ?slt ?slz; (case slF => k_asm); (case slN => k_asm); (case sll => kmk_list); (case slp => kmk_part); (case slq => kmk_part); (case sle => exact slice_whole (by assumption) (endl_len (by assumption))); (case sls => with_unfolding_all rfl); (case slt => kmk_pure); (case slz => (rw [List.size_toArray, endl_len (by assumption)]; exact Nat.le_trans (by assumption : _ ≤ 108) (by decide)))); intro D9 h9 F9 N9 l9; (try k_lt l9); (try dsimp only))))
    | ((with_reducible show wpAny _ _ (call (Value.ref 161) _) _ _ _); first | with_reducible ((k_dflt (refine' root_use ?ru0 ?ru1 ?ru2 ?ru3 ?ru4 ?ru5 ?ru6 ?ru7 ?ru8 ?ru9 ?rua ?rub ?_; (case ru1 => k_asm); (case ru2 => k_asm); (case ru3 => k_asm); (case ru4 => k_asm); (case ru5 => k_asm); (case ru6 => first | exact rfl | assumption); (case ru7 => first | exact rfl | assumption); (case ru8 => ktr_room); (case ru9 => ktr_units); (case rua => with_unfolding_all k_mem); (case rub => assumption); (case ru0 => assumption); k_whole); intro a9 ws9 z9 k9 h9 tk9 hi9 hg9 F9 N9; (try dsimp only); (try k_fold))) | ((k_dflt (refine' root_use ?ru0 ?ru1 ?ru2 ?ru3 ?ru4 ?ru5 ?ru6 ?ru7 ?ru8 ?ru9 ?rua ?rub ?_; (case ru1 => k_asm); (case ru2 => k_asm); (case ru3 => k_asm); (case ru4 => k_asm); (case ru5 => k_asm); (case ru6 => first | exact rfl | assumption); (case ru7 => first | exact rfl | assumption); (case ru8 => ktr_room); (case ru9 => ktr_units); (case rua => with_unfolding_all k_mem); (case rub => assumption); (case ru0 => assumption); k_whole); intro a9 ws9 z9 k9 h9 tk9 hi9 hg9 F9 N9; (try dsimp only); (try k_fold))))
    | ((with_reducible show wpAny _ _ (call (Value.ref 180) [Value.ref _, Value.ref _]) _ _ _); first | with_reducible ((k_dflt (refine' first_useL ?fuK ?fuy ?fuz ?fur ?fum ?fuq ?fuB ?fuF ?fuX ?fuN ?fuT ?fuXB ?fuTB ?fuD ?fuT0 ?fuf ?fuk ?fud ?fuu ?_; (case fuK => assumption); (case fuB => k_asm); (case fuF => k_asm); (case fuX => k_asm); (case fuN => k_asm); (case fuT => k_asm); (case fuXB => assumption); (case fuTB => assumption); (case fuD => k_asm); (case fuT0 => k_asm); (case fuf => first | exact rfl | assumption); (case fuk => first | exact rfl | assumption); (case fud => ktr_room); (case fuu => ktr_units); (case fum => with_unfolding_all k_mem); (case fuq => with_unfolding_all k_mem); (case fuy => assumption); (case fuz => assumption); (case fur => omega); k_whole); intro t9 h9 tk9 g9 T09 F9 N9 B9 X9 T9 D9; (try dsimp only); (try k_fold))) | ((k_dflt (refine' first_useL ?fuK ?fuy ?fuz ?fur ?fum ?fuq ?fuB ?fuF ?fuX ?fuN ?fuT ?fuXB ?fuTB ?fuD ?fuT0 ?fuf ?fuk ?fud ?fuu ?_; (case fuK => assumption); (case fuB => k_asm); (case fuF => k_asm); (case fuX => k_asm); (case fuN => k_asm); (case fuT => k_asm); (case fuXB => assumption); (case fuTB => assumption); (case fuD => k_asm); (case fuT0 => k_asm); (case fuf => first | exact rfl | assumption); (case fuk => first | exact rfl | assumption); (case fud => ktr_room); (case fuu => ktr_units); (case fum => with_unfolding_all k_mem); (case fuq => with_unfolding_all k_mem); (case fuy => assumption); (case fuz => assumption); (case fur => omega); k_whole); intro t9 h9 tk9 g9 T09 F9 N9 B9 X9 T9 D9; (try dsimp only); (try k_fold))))
    | ((with_reducible show wpAny _ _ (call (Value.ref 180) [Value.str _ _, Value.str _ _]) _ _ _); first | with_reducible ((k_dflt (refine' first_useT ?fuH ?fuB ?fuF ?fuX ?fuN ?fuT ?fuXB ?fuTB ?fuD ?fuT0 ?fuf ?fuk ?fud ?fuu ?_; (case fuH => assumption); (case fuB => k_asm); (case fuF => k_asm); (case fuX => k_asm); (case fuN => k_asm); (case fuT => k_asm); (case fuXB => assumption); (case fuTB => assumption); (case fuD => k_asm); (case fuT0 => k_asm); (case fuf => first | exact rfl | assumption); (case fuk => first | exact rfl | assumption); (case fud => ktr_room); (case fuu => ktr_units); k_whole); intro t9 h9 tk9 g9 T09 F9 N9 B9 X9 T9 D9; (try dsimp only); (try k_fold))) | ((k_dflt (refine' first_useT ?fuH ?fuB ?fuF ?fuX ?fuN ?fuT ?fuXB ?fuTB ?fuD ?fuT0 ?fuf ?fuk ?fud ?fuu ?_; (case fuH => assumption); (case fuB => k_asm); (case fuF => k_asm); (case fuX => k_asm); (case fuN => k_asm); (case fuT => k_asm); (case fuXB => assumption); (case fuTB => assumption); (case fuD => k_asm); (case fuT0 => k_asm); (case fuf => first | exact rfl | assumption); (case fuk => first | exact rfl | assumption); (case fud => ktr_room); (case fuu => ktr_units); k_whole); intro t9 h9 tk9 g9 T09 F9 N9 B9 X9 T9 D9; (try dsimp only); (try k_fold))))
    | ((with_reducible show EndB _ _ _ _ _ _ _ _ _ _); first | with_reducible (((refine' EndB.next ?eb1 ?eb2 ?eb3 ?eb4 ?_); (case eb2 => with_unfolding_all k_asm); (case eb3 => with_unfolding_all k_asm); (case eb1 => exact ⟨by k_asm, by k_asm, by k_asm, by k_asm, by k_asm⟩); (case eb4 => kcf_all))) | (((refine' EndB.next ?eb1 ?eb2 ?eb3 ?eb4 ?_); (case eb2 => with_unfolding_all k_asm); (case eb3 => with_unfolding_all k_asm); (case eb1 => exact ⟨by k_asm, by k_asm, by k_asm, by k_asm, by k_asm⟩); (case eb4 => kcf_all))))
    | ((with_reducible show RestB _ _ _ _ _ _ _ _ _ _ _ _ _ _); first | with_reducible ((first | (refine RestB.nil ?_; intro g9 h9 tk9 hC9 F9 N9; obtain ⟨B9, X9, T9, D9, T09⟩ := hC9; (try dsimp only)) | (refine RestB.cons ?_; intro g9 oI9 h9 tk9 hC9 F9 N9 lt9; obtain ⟨B9, X9, T9, D9, T09⟩ := hC9; (try dsimp only)))) | ((first | (refine RestB.nil ?_; intro g9 h9 tk9 hC9 F9 N9; obtain ⟨B9, X9, T9, D9, T09⟩ := hC9; (try dsimp only)) | (refine RestB.cons ?_; intro g9 oI9 h9 tk9 hC9 F9 N9 lt9; obtain ⟨B9, X9, T9, D9, T09⟩ := hC9; (try dsimp only)))))
    | ((with_reducible show SrcB _ _ _ _ _ _ _ _ _ _ _); first | with_reducible (((refine' SrcB.mk ?sb1 ?sb2 ?sb3 ?sb4 ?sb5 ?_); (case sb1 => with_unfolding_all rfl); (case sb3 => with_unfolding_all k_asm); (case sb4 => with_unfolding_all k_asm); (case sb5 => with_unfolding_all k_mem); (case sb2 => exact ⟨by k_asm, by k_asm, by k_asm, by k_asm, by k_asm⟩); (intro I9 g9; (try dsimp only)))) | (((refine' SrcB.mk ?sb1 ?sb2 ?sb3 ?sb4 ?sb5 ?_); (case sb1 => with_unfolding_all rfl); (case sb3 => with_unfolding_all k_asm); (case sb4 => with_unfolding_all k_asm); (case sb5 => with_unfolding_all k_mem); (case sb2 => exact ⟨by k_asm, by k_asm, by k_asm, by k_asm, by k_asm⟩); (intro I9 g9; (try dsimp only)))))
    | ((with_reducible show wpAny _ _ (PySem.exec (PySem.Stmt.For (PySem.Expr.Tuple _ _ _) (PySem.Expr.List _ _) _ _ _) _) _ _ _); first | with_reducible (((refine' For_H ?foB ?foT0 ?foT ?_ ?fo1 ?fo2); (case foB => k_asm); (case foT0 => k_asm); (case foT => k_asm); (case fo1 => (intro _; with_unfolding_all rfl)); (case fo2 => first | assumption | passes_own))) | (((refine' For_H ?foB ?foT0 ?foT ?_ ?fo1 ?fo2); (case foB => k_asm); (case foT0 => k_asm); (case foT => k_asm); (case fo1 => (intro _; with_unfolding_all rfl)); (case fo2 => first | assumption | passes_own))))
    | ((with_reducible show wpAny _ _ (call (Value.ref 121) _) _ _ _); first | with_reducible ((k_dflt (refine' GivesV.use (getitem_gives _ _ ?gt1 ?gt2 _ _ _) ?k1x121 ?k2x121 ?k3x121 ?k4x121 ?k5x121 ?kfx121 ?kKx121 ?kdx121 ?kux121 ?_; (case gt1 => exact Nat.mod_lt _ (by assumption)); (case gt2 => omega); (case k1x121 => k_asm); (case k2x121 => k_asm); (case k3x121 => k_asm); (case k4x121 => k_asm); (case k5x121 => k_asm); (case kfx121 => first | exact rfl | assumption); (case kKx121 => first | exact rfl | assumption); (case kdx121 => ktr_room); (case kux121 => ktr_units); k_whole); intro t9 h9 tk9 F9 N9; (try dsimp only); (try k_fold))) | ((k_dflt (refine' GivesV.use (getitem_gives _ _ ?gt1 ?gt2 _ _ _) ?k1x121 ?k2x121 ?k3x121 ?k4x121 ?k5x121 ?kfx121 ?kKx121 ?kdx121 ?kux121 ?_; (case gt1 => exact Nat.mod_lt _ (by assumption)); (case gt2 => omega); (case k1x121 => k_asm); (case k2x121 => k_asm); (case k3x121 => k_asm); (case k4x121 => k_asm); (case k5x121 => k_asm); (case kfx121 => first | exact rfl | assumption); (case kKx121 => first | exact rfl | assumption); (case kdx121 => ktr_room); (case kux121 => ktr_units); k_whole); intro t9 h9 tk9 F9 N9; (try dsimp only); (try k_fold))))
    | ((with_reducible show wpAny _ _ (call (Value.ref 93) _) _ _ _); first | with_reducible ((k_dflt (refine' GivesV.use (mod_gives _ _ ?md1 ?md2 ?md3 _ _ _) ?k1x93 ?k2x93 ?k3x93 ?k4x93 ?k5x93 ?kfx93 ?kKx93 ?kdx93 ?kux93 ?_; (case md1 => assumption); (case md2 => omega); (case md3 => omega); (case k1x93 => k_asm); (case k2x93 => k_asm); (case k3x93 => k_asm); (case k4x93 => k_asm); (case k5x93 => k_asm); (case kfx93 => first | exact rfl | assumption); (case kKx93 => first | exact rfl | assumption); (case kdx93 => ktr_room); (case kux93 => ktr_units); k_whole); intro t9 h9 tk9 F9 N9; (try dsimp only); (try k_fold))) | ((k_dflt (refine' GivesV.use (mod_gives _ _ ?md1 ?md2 ?md3 _ _ _) ?k1x93 ?k2x93 ?k3x93 ?k4x93 ?k5x93 ?kfx93 ?kKx93 ?kdx93 ?kux93 ?_; (case md1 => assumption); (case md2 => omega); (case md3 => omega); (case k1x93 => k_asm); (case k2x93 => k_asm); (case k3x93 => k_asm); (case k4x93 => k_asm); (case k5x93 => k_asm); (case kfx93 => first | exact rfl | assumption); (case kKx93 => first | exact rfl | assumption); (case kdx93 => ktr_room); (case kux93 => ktr_units); k_whole); intro t9 h9 tk9 F9 N9; (try dsimp only); (try k_fold))))
    | ((with_reducible show LCg.CompEnd _ _ _ _ _ _ _ _ _ _ _ _ _ _); first | with_reducible ((refine' end_none ?ceF ?ceN ?ces ?ceo True.intro ⟨rfl, _, rfl⟩); (case ceN => k_asm); (case ceF => k_asm); (case ces => kcf_all); (case ceo => first | with_unfolding_all assumption | (with_unfolding_all exact And.right (by assumption)))) | ((refine' end_none ?ceF ?ceN ?ces ?ceo True.intro ⟨rfl, _, rfl⟩); (case ceN => k_asm); (case ceF => k_asm); (case ces => kcf_all); (case ceo => first | with_unfolding_all assumption | (with_unfolding_all exact And.right (by assumption)))))
    | ((with_reducible show LCg.CompSrc _ _ _ _ _ _ _ (PySem.Expr.Call (PySem.Expr.Name (PySem.Str.ofString "getitem") _) _ _ _) _ _ _ _ _ _); first | with_reducible (((refine' src_word (by assumption) (n := roomN _ _ _) ?sr1 ?sr2 ?sr3 ?sr4 ?sr5 ?sr6 ?_ ?_); (case sr2 => k_asm); (case sr3 => k_asm); (case sr4 => assumption); (case sr5 => assumption); (case sr1 => with_unfolding_all rfl); (case sr6 => omega); (intro g9 ys9 hy9; (try dsimp only)); rotate_left; (intro i9 t9 I8 oI8 C8 oC8 D8 m8 ys8 h8 tk8 E8 hi8 hC8 hx8 F8 N8 off8 ne8); rotate_right)) | (((refine' src_word (by assumption) (n := roomN _ _ _) ?sr1 ?sr2 ?sr3 ?sr4 ?sr5 ?sr6 ?_ ?_); (case sr2 => k_asm); (case sr3 => k_asm); (case sr4 => assumption); (case sr5 => assumption); (case sr1 => with_unfolding_all rfl); (case sr6 => omega); (intro g9 ys9 hy9; (try dsimp only)); rotate_left; (intro i9 t9 I8 oI8 C8 oC8 D8 m8 ys8 h8 tk8 E8 hi8 hC8 hx8 F8 N8 off8 ne8); rotate_right)))
    | ((with_reducible show EndC _ _ _ _ _ _ _ _ _ _ _ _ _ _ _ _); first | with_reducible (((refine' EndC.keep (o := listOf (List.toArray _) _) ?ec1 ?ec2 ?ec3 ?ec4 ?ec5 ?ec6 ?_); (case ec1 => k_asm); (case ec2 => k_asm); (case ec3 => with_unfolding_all k_mem); (case ec4 => kcf_all); (case ec5 => exact ne4_of (by assumption)); (case ec6 => assumption))) | (((refine' EndC.keep (o := listOf (List.toArray _) _) ?ec1 ?ec2 ?ec3 ?ec4 ?ec5 ?ec6 ?_); (case ec1 => k_asm); (case ec2 => k_asm); (case ec3 => with_unfolding_all k_mem); (case ec4 => kcf_all); (case ec5 => exact ne4_of (by assumption)); (case ec6 => assumption))))
    | ((with_reducible show RestC _ _ _ _ _ _ _ _ _ _ _ _ _ _ _ _); first | with_reducible ((first | (refine RestC.nil ?_; (try dsimp only [List.nil_append, List.cons_append])) | (refine RestC.cons ?_; intro I9 oI9 C9 oC9 c9 oc9 D9 h9 tk9 E9 hcd9 F9 N9 off9 ne9; (try dsimp only [List.nil_append, List.cons_append] at N9 ⊢)))) | ((first | (refine RestC.nil ?_; (try dsimp only [List.nil_append, List.cons_append])) | (refine RestC.cons ?_; intro I9 oI9 C9 oC9 c9 oc9 D9 h9 tk9 E9 hcd9 F9 N9 off9 ne9; (try dsimp only [List.nil_append, List.cons_append] at N9 ⊢)))))
    | ((with_reducible show SrcC _ _ _ _ _ _ _ _ _ _ _ _ _ _); first | with_reducible (((refine' SrcC.mk ?sc1 ?sc2 ?sc3 ?sc4 ?sc5 ?_); (case sc1 => with_unfolding_all rfl); (case sc2 => k_asm); (case sc3 => k_asm); (case sc4 => with_unfolding_all k_mem); (case sc5 => exact Nat.le_of_ble_eq_true rfl); (intro g9; (try dsimp only)))) | (((refine' SrcC.mk ?sc1 ?sc2 ?sc3 ?sc4 ?sc5 ?_); (case sc1 => with_unfolding_all rfl); (case sc2 => k_asm); (case sc3 => k_asm); (case sc4 => with_unfolding_all k_mem); (case sc5 => exact Nat.le_of_ble_eq_true rfl); (intro g9; (try dsimp only)))))
    | ((with_reducible show wpAny _ _ (exec (PySem.Stmt.Assign _ (PySem.Expr.ListComp (PySem.Expr.ListComp _ _ _ _) _ _ _) _) _) _ _ _); first | with_reducible (((refine' Assign_ListComp_C ?ac0 ?ac1 ?ac2 ?ac3 ?ac4 ?ac5 ?ac6 ?ac7 ?ac8 ?ac9 ?aca ?_ ?acb); (case ac0 => k_asm); (case ac1 => with_unfolding_all rfl); (case ac2 => with_unfolding_all rfl); (case ac3 => with_unfolding_all rfl); (case ac4 => with_unfolding_all rfl); (case ac5 => with_unfolding_all rfl); (case ac6 => with_unfolding_all exact fun _ => rfl); (case ac7 => with_unfolding_all exact fun _ => rfl); (case ac8 => with_unfolding_all rfl); (case ac9 => decide +kernel); (case aca => with_unfolding_all rfl); (case acb => (intro _; with_unfolding_all rfl)))) | (((refine' Assign_ListComp_C ?ac0 ?ac1 ?ac2 ?ac3 ?ac4 ?ac5 ?ac6 ?ac7 ?ac8 ?ac9 ?aca ?_ ?acb); (case ac0 => k_asm); (case ac1 => with_unfolding_all rfl); (case ac2 => with_unfolding_all rfl); (case ac3 => with_unfolding_all rfl); (case ac4 => with_unfolding_all rfl); (case ac5 => with_unfolding_all rfl); (case ac6 => with_unfolding_all exact fun _ => rfl); (case ac7 => with_unfolding_all exact fun _ => rfl); (case ac8 => with_unfolding_all rfl); (case ac9 => decide +kernel); (case aca => with_unfolding_all rfl); (case acb => (intro _; with_unfolding_all rfl)))))
    | ((with_reducible show wpAny _ _ (call (Value.ref 175) _) _ _ _); first | with_reducible ((k_dflt (refine' due_use ?du0 ?du1 ?du2 ?wu1 ?wu2 ?wu3 ?wu4 ?wu5 ?wuf ?wuK ?wud ?wuu ?wum ?wun ?wuo ?wui ?wur ?_; (case wu1 => k_asm); (case wu2 => k_asm); (case wu3 => k_asm); (case wu4 => k_asm); (case wu5 => k_asm); (case wuf => first | exact rfl | assumption); (case wuK => first | exact rfl | assumption); (case wud => ktr_room); (case wuu => ktr_units); (case wum => with_unfolding_all k_mem); (case wun => with_unfolding_all k_mem); (case wuo => with_unfolding_all k_mem); (case wui => assumption); (case wur => assumption); (case du0 => assumption); (case du1 => assumption); (case du2 => assumption); k_whole); intro t9 h9 tk9 F9 N9; (try dsimp only); (try k_fold))) | ((k_dflt (refine' due_use ?du0 ?du1 ?du2 ?wu1 ?wu2 ?wu3 ?wu4 ?wu5 ?wuf ?wuK ?wud ?wuu ?wum ?wun ?wuo ?wui ?wur ?_; (case wu1 => k_asm); (case wu2 => k_asm); (case wu3 => k_asm); (case wu4 => k_asm); (case wu5 => k_asm); (case wuf => first | exact rfl | assumption); (case wuK => first | exact rfl | assumption); (case wud => ktr_room); (case wuu => ktr_units); (case wum => with_unfolding_all k_mem); (case wun => with_unfolding_all k_mem); (case wuo => with_unfolding_all k_mem); (case wui => assumption); (case wur => assumption); (case du0 => assumption); (case du1 => assumption); (case du2 => assumption); k_whole); intro t9 h9 tk9 F9 N9; (try dsimp only); (try k_fold))))
    | ((with_reducible show wpAny _ _ (call (Value.ref 168) _) _ _ _); first | with_reducible ((k_dflt (refine' GivesV.use (common_gives _ _ ?cm1 ?cm2 ?cm3 ?cm4 _ _ _) ?k1x168 ?k2x168 ?k3x168 ?k4x168 ?k5x168 ?kfx168 ?kKx168 ?kdx168 ?kux168 ?_; (case cm1 => exact Int.natCast_nonneg _); (case cm2 => exact Int.natCast_nonneg _); (case cm3 => exact rowC_lt (by assumption)); (case cm4 => exact rowC_lt (by assumption)); (case k1x168 => k_asm); (case k2x168 => k_asm); (case k3x168 => k_asm); (case k4x168 => k_asm); (case k5x168 => k_asm); (case kfx168 => first | exact rfl | assumption); (case kKx168 => first | exact rfl | assumption); (case kdx168 => ktr_room); (case kux168 => ktr_units); k_whole); intro t9 h9 tk9 F9 N9; (try dsimp only); (try k_fold))) | ((k_dflt (refine' GivesV.use (common_gives _ _ ?cm1 ?cm2 ?cm3 ?cm4 _ _ _) ?k1x168 ?k2x168 ?k3x168 ?k4x168 ?k5x168 ?kfx168 ?kKx168 ?kdx168 ?kux168 ?_; (case cm1 => exact Int.natCast_nonneg _); (case cm2 => exact Int.natCast_nonneg _); (case cm3 => exact rowC_lt (by assumption)); (case cm4 => exact rowC_lt (by assumption)); (case k1x168 => k_asm); (case k2x168 => k_asm); (case k3x168 => k_asm); (case k4x168 => k_asm); (case k5x168 => k_asm); (case kfx168 => first | exact rfl | assumption); (case kKx168 => first | exact rfl | assumption); (case kdx168 => ktr_room); (case kux168 => ktr_units); k_whole); intro t9 h9 tk9 F9 N9; (try dsimp only); (try k_fold))))
    | (k_unfold; (try dsimp only)) | (k_end; wrow_close) | walk1 | (dsimp only; walk1) | (leave1; try dsimp only) | fail "no step")
  all_goals (try dsimp only [Bool.not_false])
  all_goals (try exact hQ _ _ _ _ _ (by assumption) (by assumption) (by assumption) (by kcf_all))
end
-- part C10
section
open PySem PySem.W PyProof.Rows
set_option maxRecDepth 100000
set_option maxHeartbeats 8000000
variable {w : World} {p : Program} {loose : List Str} {mean : ExcName → Option Value} {mg mb : Str → Option Value}
theorem ne6_1 {a1 a2 a3 a4 a5 a6 D : Nat} {P : Prop} (h : (@Ne Nat a6 D) ∧ (@Ne Nat a5 D) ∧ (@Ne Nat a4 D) ∧ (@Ne Nat a3 D) ∧ (@Ne Nat a2 D) ∧ (@Ne Nat a1 D) ∧ P) : @Ne Nat a1 D := h.2.2.2.2.2.1
theorem ne6_2 {a1 a2 a3 a4 a5 a6 D : Nat} {P : Prop} (h : (@Ne Nat a6 D) ∧ (@Ne Nat a5 D) ∧ (@Ne Nat a4 D) ∧ (@Ne Nat a3 D) ∧ (@Ne Nat a2 D) ∧ (@Ne Nat a1 D) ∧ P) : @Ne Nat a2 D := h.2.2.2.2.1
theorem ne6_3 {a1 a2 a3 a4 a5 a6 D : Nat} {P : Prop} (h : (@Ne Nat a6 D) ∧ (@Ne Nat a5 D) ∧ (@Ne Nat a4 D) ∧ (@Ne Nat a3 D) ∧ (@Ne Nat a2 D) ∧ (@Ne Nat a1 D) ∧ P) : @Ne Nat a3 D := h.2.2.2.1
theorem ne6_4 {a1 a2 a3 a4 a5 a6 D : Nat} {P : Prop} (h : (@Ne Nat a6 D) ∧ (@Ne Nat a5 D) ∧ (@Ne Nat a4 D) ∧ (@Ne Nat a3 D) ∧ (@Ne Nat a2 D) ∧ (@Ne Nat a1 D) ∧ P) : @Ne Nat a4 D := h.2.2.1
theorem ne6_5 {a1 a2 a3 a4 a5 a6 D : Nat} {P : Prop} (h : (@Ne Nat a6 D) ∧ (@Ne Nat a5 D) ∧ (@Ne Nat a4 D) ∧ (@Ne Nat a3 D) ∧ (@Ne Nat a2 D) ∧ (@Ne Nat a1 D) ∧ P) : @Ne Nat a5 D := h.2.1
theorem ne6_6 {a1 a2 a3 a4 a5 a6 D : Nat} {P : Prop} (h : (@Ne Nat a6 D) ∧ (@Ne Nat a5 D) ∧ (@Ne Nat a4 D) ∧ (@Ne Nat a3 D) ∧ (@Ne Nat a2 D) ∧ (@Ne Nat a1 D) ∧ P) : @Ne Nat a6 D := h.1
theorem cell_eq {o : Obj} {a b : Option Value} (h : o.data = .cell a) (e : a = b) : o.data = .cell b := h.trans (congrArg _ e)
theorem fr_eq {h₀ h : Heap} {L : Addr} {m m₂ : Str → Option Value} (F : Fr h₀ L h m) (e : m = m₂) : Fr h₀ L h m₂ := e ▸ F

theorem kept149_gives (rw d : Addr) (kk : Nat) (o : Obj) (c : Int → Str) (oc : List Int) (hc : CodesIn w o c oc) (hD : DecOk c oc) (a0 : Addr) (v0 : List Value) (k0 : Nat) (n0 : List Int) (h0 : IntsAre v0 n0) (r0 : RowOk c oc n0) (a1 : Addr) (v1 : List Value) (k1 : Nat) (n1 : List Int) (h1 : IntsAre v1 n1) (r1 : RowOk c oc n1) (a2 : Addr) (v2 : List Value) (k2 : Nat) (n2 : List Int) (h2 : IntsAre v2 n2) (r2 : RowOk c oc n2) (a3 : Addr) (v3 : List Value) (k3 : Nat) (n3 : List Int) (h3 : IntsAre v3 n3) (r3 : RowOk c oc n3) (a4 : Addr) (v4 : List Value) (k4 : Nat) (n4 : List Int) (h4 : IntsAre v4 n4) (r4 : RowOk c oc n4) (a5 : Addr) (v5 : List Value) (k5 : Nat) (n5 : List Int) (h5 : IntsAre v5 n5) (r5 : RowOk c oc n5) (nm : Str) (t : MTok) (hW : WriteOk w p loose mean mg mb 149 nm c oc) (hK : KeptOk c n0 n1 n2 n3 n4 n5) : GivesS w p loose mean mg mb 21 185 [.ref rw, .str nm t, .ref 149, .ref d] ((rw, listOf (List.map (fun r : Row => Value.ref r.a) [⟨a0, v0, k0, n0⟩, ⟨a1, v1, k1, n1⟩, ⟨a2, v2, k2, n2⟩, ⟨a3, v3, k3, n3⟩, ⟨a4, v4, k4, n4⟩, ⟨a5, v5, k5, n5⟩]).toArray kk) :: (a0, listOf v0.toArray k0) :: (a1, listOf v1.toArray k1) :: (a2, listOf v2.toArray k2) :: (a3, listOf v3.toArray k3) :: (a4, listOf v4.toArray k4) :: (a5, listOf v5.toArray k5) :: (d, o) :: []) (fun _ => .bool true) := by
  intro dp un gd env outer A₀ base g₀ h₀ L m s Q E B F X N T XB TB D T0 hf hk hd hu hret
  refine wpAny_call ?_
  k_dflt (refine' code_defSC ?k1 ?k2 ?k3 ?k4 ?k5 ?XB ?TB ?D ?T0 ?kA ?kF ?kK ?k6 ?k7 ?k8 ?k9 ?kB ?kD9 ?_ ?c2 ?c3 ?c4; (case kA => exact rfl); (case kF => assumption); (case kK => assumption); (case k1 => k_asm); (case k2 => k_asm); (case k3 => k_asm); (case k4 => k_asm); (case k5 => k_asm); (case XB => assumption); (case TB => assumption); (case D => assumption); (case T0 => assumption); (case k6 => k_is); (case k7 => k_is); (case k8 => ktr_room); (case k9 => first | exact BindsTo.of_eq rfl | exact binds_K (by k_in) rfl (by k_is) rfl rfl rfl); (case kB => exact rfl); (case kD9 => decide +kernel); (case c2 => exact rfl); (case c3 => exact rfl); (case c4 => exact rfl); k_whole; intro g' L' h' tk' cells' FG' F' N' Y' B' X' T' l1 D'; (try k_lt l1); k_cells Y'; (try simp only [List.cons_append, List.nil_append] at N'); (try dsimp only); (try k_lift B'); (try k_fold))
  repeat' (first
    | ((with_reducible show wpAny _ _ (PySem.exec _ _) _ _ _); k_fold)
    | ((with_reducible show wpAny _ _ (PySem.execs _ _) _ _ _); k_fold)
    | ((with_reducible show wpAny _ _ (PySem.execs _ _) _ _ _); dsimp only)
    | ((with_reducible show wpAny _ _ (execs (List.cons (PySem.Stmt.Assign [PySem.Expr.Tuple _ _ _] _ _) _) _) _ _ _); first | with_reducible (((with_unfolding_all (refine' kept_rest _ _ _ _ _ _ _ _ ?zhc _ _ _ _ ?zh0 ?zr0 _ _ _ _ _ ?zh1 ?zr1 _ _ _ _ _ ?zh2 ?zr2 _ _ _ _ _ ?zh3 ?zr3 _ _ _ _ _ ?zh4 ?zr4 _ _ _ _ _ ?zh5 ?zr5 _ _ _ _ _ _ _ _ _ ?zd1 ?zd2 ?zd3 ?zd4 ?zd5 ?zd6 ?zB ?zF ?zX ?zT ?zXB ?zTB ?zDd ?zT0 ?zN ?zl1 ?ze1 ?ze2 ?ze3 ?ze4 ?ze5 ?ze6 ?zhd ?zhu ?zhE ?zhK ?_)); (case zhc => assumption); (case zN => (refine kst_newsOf (by k_asm) ?_; (repeat' (first | exact List.forall_mem_nil _ | refine List.forall_mem_cons.mpr ⟨by with_unfolding_all k_mem, ?_⟩)))); (case zF => (refine fr_eq (by assumption) ?_; kernel_rfl)); (case zB => k_asm); (case zX => k_asm); (case zT => k_asm); (case zXB => assumption); (case zTB => assumption); (case zDd => k_asm); (case zT0 => first | assumption | exact KtsTurn.refl); (case zh0 => assumption); (case zr0 => assumption); (case zh1 => assumption); (case zr1 => assumption); (case zh2 => assumption); (case zr2 => assumption); (case zh3 => assumption); (case zr3 => assumption); (case zh4 => assumption); (case zr4 => assumption); (case zh5 => assumption); (case zr5 => assumption); (case zd1 => (refine cell_eq (by assumption) ?_; with_unfolding_all rfl)); (case zd2 => (refine cell_eq (by assumption) ?_; with_unfolding_all rfl)); (case zd3 => (refine cell_eq (by assumption) ?_; with_unfolding_all rfl)); (case zd4 => (refine cell_eq (by assumption) ?_; with_unfolding_all rfl)); (case zd5 => (refine cell_eq (by assumption) ?_; with_unfolding_all rfl)); (case zd6 => (refine cell_eq (by assumption) ?_; with_unfolding_all rfl)); (case zl1 => assumption); (case ze1 => exact ne6_1 (by assumption)); (case ze2 => exact ne6_2 (by assumption)); (case ze3 => exact ne6_3 (by assumption)); (case ze4 => exact ne6_4 (by assumption)); (case ze5 => exact ne6_5 (by assumption)); (case ze6 => exact ne6_6 (by assumption)); (case zhd => first | assumption | omega); (case zhu => first | assumption | omega); (case zhE => passes_own); (case zhK => assumption); (intro g9 h9 tk9 m9 nw9 T09 F9 N9 sub9; (try dsimp only)))) | (((with_unfolding_all (refine' kept_rest _ _ _ _ _ _ _ _ ?zhc _ _ _ _ ?zh0 ?zr0 _ _ _ _ _ ?zh1 ?zr1 _ _ _ _ _ ?zh2 ?zr2 _ _ _ _ _ ?zh3 ?zr3 _ _ _ _ _ ?zh4 ?zr4 _ _ _ _ _ ?zh5 ?zr5 _ _ _ _ _ _ _ _ _ ?zd1 ?zd2 ?zd3 ?zd4 ?zd5 ?zd6 ?zB ?zF ?zX ?zT ?zXB ?zTB ?zDd ?zT0 ?zN ?zl1 ?ze1 ?ze2 ?ze3 ?ze4 ?ze5 ?ze6 ?zhd ?zhu ?zhE ?zhK ?_)); (case zhc => assumption); (case zN => (refine kst_newsOf (by k_asm) ?_; (repeat' (first | exact List.forall_mem_nil _ | refine List.forall_mem_cons.mpr ⟨by with_unfolding_all k_mem, ?_⟩)))); (case zF => (refine fr_eq (by assumption) ?_; kernel_rfl)); (case zB => k_asm); (case zX => k_asm); (case zT => k_asm); (case zXB => assumption); (case zTB => assumption); (case zDd => k_asm); (case zT0 => first | assumption | exact KtsTurn.refl); (case zh0 => assumption); (case zr0 => assumption); (case zh1 => assumption); (case zr1 => assumption); (case zh2 => assumption); (case zr2 => assumption); (case zh3 => assumption); (case zr3 => assumption); (case zh4 => assumption); (case zr4 => assumption); (case zh5 => assumption); (case zr5 => assumption); (case zd1 => (refine cell_eq (by assumption) ?_; with_unfolding_all rfl)); (case zd2 => (refine cell_eq (by assumption) ?_; with_unfolding_all rfl)); (case zd3 => (refine cell_eq (by assumption) ?_; with_unfolding_all rfl)); (case zd4 => (refine cell_eq (by assumption) ?_; with_unfolding_all rfl)); (case zd5 => (refine cell_eq (by assumption) ?_; with_unfolding_all rfl)); (case zd6 => (refine cell_eq (by assumption) ?_; with_unfolding_all rfl)); (case zl1 => assumption); (case ze1 => exact ne6_1 (by assumption)); (case ze2 => exact ne6_2 (by assumption)); (case ze3 => exact ne6_3 (by assumption)); (case ze4 => exact ne6_4 (by assumption)); (case ze5 => exact ne6_5 (by assumption)); (case ze6 => exact ne6_6 (by assumption)); (case zhd => first | assumption | omega); (case zhu => first | assumption | omega); (case zhE => passes_own); (case zhK => assumption); (intro g9 h9 tk9 m9 nw9 T09 F9 N9 sub9; (try dsimp only)))))
    | ((with_reducible show LCg.CompEnd _ _ _ _ _ _ _ _ _ _ _ _ _ _); first | with_reducible ((refine' end_none ?ceF ?ceN ?ces ?ceo True.intro ⟨rfl, _, rfl⟩); (case ceN => k_asm); (case ceF => k_asm); (case ces => kcf_all); (case ceo => first | with_unfolding_all assumption | (with_unfolding_all exact And.right (by assumption)))) | ((refine' end_none ?ceF ?ceN ?ces ?ceo True.intro ⟨rfl, _, rfl⟩); (case ceN => k_asm); (case ceF => k_asm); (case ces => kcf_all); (case ceo => first | with_unfolding_all assumption | (with_unfolding_all exact And.right (by assumption)))))
    | ((with_reducible show wpAny _ _ (call (Value.ref 168) _) _ _ _); first | with_reducible ((k_dflt (refine' GivesV.use (common_gives _ _ ?cm1 ?cm2 ?cm3 ?cm4 _ _ _) ?k1x168 ?k2x168 ?k3x168 ?k4x168 ?k5x168 ?kfx168 ?kKx168 ?kdx168 ?kux168 ?_; (case cm1 => exact Int.natCast_nonneg _); (case cm2 => exact Int.natCast_nonneg _); (case cm3 => exact rowC_lt (by assumption)); (case cm4 => exact rowC_lt (by assumption)); (case k1x168 => k_asm); (case k2x168 => k_asm); (case k3x168 => k_asm); (case k4x168 => k_asm); (case k5x168 => k_asm); (case kfx168 => first | exact rfl | assumption); (case kKx168 => first | exact rfl | assumption); (case kdx168 => ktr_room); (case kux168 => ktr_units); k_whole); intro t9 h9 tk9 F9 N9; (try dsimp only); (try k_fold))) | ((k_dflt (refine' GivesV.use (common_gives _ _ ?cm1 ?cm2 ?cm3 ?cm4 _ _ _) ?k1x168 ?k2x168 ?k3x168 ?k4x168 ?k5x168 ?kfx168 ?kKx168 ?kdx168 ?kux168 ?_; (case cm1 => exact Int.natCast_nonneg _); (case cm2 => exact Int.natCast_nonneg _); (case cm3 => exact rowC_lt (by assumption)); (case cm4 => exact rowC_lt (by assumption)); (case k1x168 => k_asm); (case k2x168 => k_asm); (case k3x168 => k_asm); (case k4x168 => k_asm); (case k5x168 => k_asm); (case kfx168 => first | exact rfl | assumption); (case kKx168 => first | exact rfl | assumption); (case kdx168 => ktr_room); (case kux168 => ktr_units); k_whole); intro t9 h9 tk9 F9 N9; (try dsimp only); (try k_fold))))
    | ((with_reducible show wpAny _ _ (PySem.call (Value.builtin "chr") _) _ _ _); first | with_reducible ((refine' chr_octet ?co1 ?co2 ?_); (case co1 => assumption); (case co2 => exact RowOk.oct (by assumption))) | ((refine' chr_octet ?co1 ?co2 ?_); (case co1 => assumption); (case co2 => exact RowOk.oct (by assumption))))
    | ((with_reducible show LCg.CompSrc _ _ _ _ _ _ _ (PySem.Expr.Call (PySem.Expr.Name (PySem.Str.ofString "chr") _) _ _ _) _ _ _ _ _ _); (((refine' src_ints chrS ?sj1h8 ?sj2h8 ?sj3h8 ?sj4h8 ?sj5h8 ?sj6h8 ?sj7h8 ?sj8h8); (case sj2h8 => k_asm); (case sj3h8 => k_asm); (case sj4h8 => with_unfolding_all k_mem); (case sj1h8 => with_unfolding_all rfl); (case sj5h8 => assumption); (case sj6h8 => exact RowOk.few (by assumption)); (case' sj8h8 => (intro z9 t9 I9 oI9 C9 oC9 D9 m9 ys9 h9 tk9 E9 hz9 hC9 hx9 F9 N9 off9 ne9)); (case' sj7h8 => (intro g9 ys9 hy9; (try dsimp only))))))
    | ((with_reducible show LCg.CompSrc _ _ _ _ _ _ _ (PySem.Expr.Call (PySem.Expr.Attribute (PySem.Expr.Constant _ _ _) (PySem.Str.ofString "join") _) [PySem.Expr.ListComp (PySem.Expr.Call (PySem.Expr.Name (PySem.Str.ofString "chr") _) _ _ _) _ _ _] _ _) _ _ _ _ _ _); (((refine' src_rows (Ok := RowOk _ _) (wordC chrS) ?st1h7 ?st2h7 ?st3h7 ?st4h7 ?st5h7 ?st6h7 ?st7h7 ?st8h7); (case st2h7 => k_asm); (case st3h7 => k_asm); (case st4h7 => with_unfolding_all k_mem); (case st1h7 => with_unfolding_all rfl); (case st5h7 => (repeat' (first | exact List.forall_mem_nil _ | refine List.forall_mem_cons.mpr ⟨⟨by with_unfolding_all k_mem, by assumption, by assumption⟩, ?_⟩))); (case st6h7 => exact Nat.le_of_ble_eq_true rfl); (case' st7h7 => (intro g9 ys9 hy9; (try dsimp only))); (case' st8h7 => (intro a9 vs9 k9 ns9 I9 oI9 C9 oC9 D9 m9 ys9 h9 tk9 E9 hi9 ho9 hC9 hx9 F9 N9 off9 ne9)))))
    | ((with_reducible show wpAny _ _ (PySem.compareOp .NotEq (Value.ref _) (Value.ref _)) _ _ _); first | with_reducible ((refine' ne_same ?nq1 ?nq2 ?nq3 ?nq4 ?nq5 ?nq6 ?nq7 ?_); (case nq2 => k_asm); (case nq3 => with_unfolding_all k_mem); (case nq5 => with_unfolding_all k_mem); (case nq4 => assumption); (case nq6 => assumption); (case nq1 => (first | refine' rows_okT ?_ | refine' rows_okC ?_); (repeat' (first | exact List.forall_mem_nil _ | refine List.forall_mem_cons.mpr ⟨by assumption, ?_⟩))); (case nq7 => first | units_room | (show _ + 64 < _; omega))) | ((refine' ne_same ?nq1 ?nq2 ?nq3 ?nq4 ?nq5 ?nq6 ?nq7 ?_); (case nq2 => k_asm); (case nq3 => with_unfolding_all k_mem); (case nq5 => with_unfolding_all k_mem); (case nq4 => assumption); (case nq6 => assumption); (case nq1 => (first | refine' rows_okT ?_ | refine' rows_okC ?_); (repeat' (first | exact List.forall_mem_nil _ | refine List.forall_mem_cons.mpr ⟨by assumption, ?_⟩))); (case nq7 => first | units_room | (show _ + 64 < _; omega))))
    | ((with_reducible show wpAny _ _ (PySem.call (Value.builtin "str.join") _) _ _ _); first | with_reducible ((refine' join_codes ?jc1 ?jc2 ?jc3 ?jc4 ?jc5 ?_); (case jc1 => k_asm); (case jc2 => with_unfolding_all k_mem); (case jc3 => assumption); (case jc4 => first | (intro z8 hz8; exact RowOk.short (by assumption) hz8) | exact chr_short _); (case jc5 => exact RowOk.few (by assumption)); intro t9 k9; (try dsimp only)) | ((refine' join_codes ?jc1 ?jc2 ?jc3 ?jc4 ?jc5 ?_); (case jc1 => k_asm); (case jc2 => with_unfolding_all k_mem); (case jc3 => assumption); (case jc4 => first | (intro z8 hz8; exact RowOk.short (by assumption) hz8) | exact chr_short _); (case jc5 => exact RowOk.few (by assumption)); intro t9 k9; (try dsimp only)))
    | ((with_reducible show wpAny _ _ (subscriptTail (PySem.Expr.Name _ _) (PySem.Expr.Name _ _) (Value.ref _) (Value.int _ _)) _ _ _); first | with_reducible ((refine' code_at ?ka8 ?km8 ?kc8 ?kx8 ?ks8 ?_); (case kc8 => assumption); (case kx8 => exact RowOk.mem (by assumption) (by assumption)); (case ka8 => k_asm); (case km8 => with_unfolding_all k_mem); (case ks8 => with_unfolding_all rfl); intro t9; (try dsimp only)) | ((refine' code_at ?ka8 ?km8 ?kc8 ?kx8 ?ks8 ?_); (case kc8 => assumption); (case kx8 => exact RowOk.mem (by assumption) (by assumption)); (case ka8 => k_asm); (case km8 => with_unfolding_all k_mem); (case ks8 => with_unfolding_all rfl); intro t9; (try dsimp only)))
    | ((with_reducible show wpAny _ _ (PySem.call (Value.builtin "str.replace") _) _ _ _); first | with_reducible ((refine' replace_dec ?rd1 ?rd2 ?rd3 ?rd4 ?rd5 ?_); (case rd1 => assumption); (case rd2 => assumption); (case rd3 => (show @Ne Nat _ _; omega)); (case rd4 => (show @Ne Nat _ _; omega)); (case rd5 => (show @Ne Nat _ _; omega)); intro ps9 hq1 hq2 hq3 hq4 t9 k9; (try dsimp only)) | ((refine' replace_dec ?rd1 ?rd2 ?rd3 ?rd4 ?rd5 ?_); (case rd1 => assumption); (case rd2 => assumption); (case rd3 => (show @Ne Nat _ _; omega)); (case rd4 => (show @Ne Nat _ _; omega)); (case rd5 => (show @Ne Nat _ _; omega)); intro ps9 hq1 hq2 hq3 hq4 t9 k9; (try dsimp only)))
    | ((with_reducible show SrcN _ _ _ _ _ _ _ _ _ _ _ _ _ _); (((refine' srcN_words (Ok := RowOk _ _) (wordC chrS) ?sw1h6 ?sw2h6 ?sw3h6 ?sw4h6 ?sw5h6 ?sw6h6 ?sw7h6 ?sw8h6 ?sw9h6); (case sw2h6 => k_asm); (case sw3h6 => k_asm); (case sw4h6 => with_unfolding_all k_mem); (case sw5h6 => assumption); (case sw1h6 => with_unfolding_all rfl); (case sw6h6 => (repeat' (first | exact List.forall_mem_nil _ | refine List.forall_mem_cons.mpr ⟨by assumption, ?_⟩))); (case sw7h6 => exact Nat.le_of_ble_eq_true rfl); (case' sw8h6 => (intro ys9 hy9; (try dsimp only))); (case' sw9h6 => (intro ns9 t9 I9 oI9 C9 oC9 D9 m9 ys9 h9 tk9 E9 ho9 hp9 hC9 hx9 F9 N9 off9 ne9; have hp91 : tk9 ≠ 0 := Nat.ne_of_gt hp9)))))
    | ((with_reducible show wpAny _ _ (eval (PySem.Expr.ListComp (PySem.Expr.Call (PySem.Expr.Name (PySem.Str.ofString "decode") _) _ _ _) _ _ _) _) _ _ _); first | with_reducible ((k_dflt (refine ListComp_N (F₀ := by k_asm) (by with_unfolding_all rfl) (by decide) (by rfl) (by decide) (by rfl) ?_))) | ((k_dflt (refine ListComp_N (F₀ := by k_asm) (by with_unfolding_all rfl) (by decide) (by rfl) (by decide) (by rfl) ?_))))
    | ((with_reducible show LCg.CompSrc _ _ _ _ _ _ _ (PySem.Expr.Subscript (PySem.Expr.Name (PySem.Str.ofString "codes") _) _ _) _ _ _ _ _ _); (((refine' src_ints _ ?si1h5 ?si2h5 ?si3h5 ?si4h5 ?si5h5 ?si6h5 ?si7h5 ?si8h5); (case si2h5 => k_asm); (case si3h5 => k_asm); (case si4h5 => with_unfolding_all k_mem); (case si1h5 => with_unfolding_all rfl); (case si5h5 => assumption); (case si6h5 => exact RowOk.few (by assumption)); (case' si8h5 => (intro z9 t9 I9 oI9 C9 oC9 D9 m9 ys9 h9 tk9 E9 hz9 hC9 hx9 F9 N9 off9 ne9)); (case' si7h5 => (intro g9 ys9 hy9; (try dsimp only))))))
    | ((with_reducible show LCg.CompSrc _ _ _ _ _ _ _ (PySem.Expr.Call (PySem.Expr.Attribute (PySem.Expr.Constant _ _ _) (PySem.Str.ofString "join") _) [PySem.Expr.ListComp (PySem.Expr.Subscript _ _ _) _ _ _] _ _) _ _ _ _ _ _); (((refine' src_rows (Ok := RowOk _ _) (wordC _) ?ss1h4 ?ss2h4 ?ss3h4 ?ss4h4 ?ss5h4 ?ss6h4 ?ss7h4 ?ss8h4); (case ss2h4 => k_asm); (case ss3h4 => k_asm); (case ss4h4 => with_unfolding_all k_mem); (case ss1h4 => with_unfolding_all rfl); (case ss5h4 => (repeat' (first | exact List.forall_mem_nil _ | refine List.forall_mem_cons.mpr ⟨⟨by with_unfolding_all k_mem, by assumption, by assumption⟩, ?_⟩))); (case ss6h4 => exact Nat.le_of_ble_eq_true rfl); (case' ss7h4 => (intro g9 ys9 hy9; (try dsimp only))); (case' ss8h4 => (intro a9 vs9 k9 ns9 I9 oI9 C9 oC9 D9 m9 ys9 h9 tk9 E9 hi9 ho9 hC9 hx9 F9 N9 off9 ne9)))))
    | ((with_reducible show LCg.CompSrc _ _ _ _ _ _ _ (PySem.Expr.Call (PySem.Expr.Name (PySem.Str.ofString "write") _) _ _ _) _ _ _ _ _ _); (((refine' src_rows (Ok := RowOk _ _) (wordC _) ?sr1h3 ?sr2h3 ?sr3h3 ?sr4h3 ?sr5h3 ?sr6h3 ?sr7h3 ?sr8h3); (case sr2h3 => k_asm); (case sr3h3 => k_asm); (case sr4h3 => with_unfolding_all k_mem); (case sr1h3 => with_unfolding_all rfl); (case sr5h3 => (repeat' (first | exact List.forall_mem_nil _ | refine List.forall_mem_cons.mpr ⟨⟨by with_unfolding_all k_mem, by assumption, by assumption⟩, ?_⟩))); (case sr6h3 => exact Nat.le_of_ble_eq_true rfl); (case' sr7h3 => (intro g9 ys9 hy9; obtain ⟨x0, x1, x2, x3, x4, x5, e9⟩ := six_strs hy9; subst e9; (try dsimp only))); (case' sr8h3 => (intro a9 vs9 k9 ns9 I9 oI9 C9 oC9 D9 m9 ys9 h9 tk9 E9 hi9 ho9 hC9 hx9 F9 N9 off9 ne9)))))
    | ((with_reducible show wpAny _ _ (call (Value.ref 65) _) _ _ _); first | with_reducible ((k_dflt (refine' GivesV.use (dec_gives ?dg1 ?dg2 ?dg3 ?dg4 _ _) ?k1x65 ?k2x65 ?k3x65 ?k4x65 ?k5x65 ?kfx65 ?kKx65 ?kdx65 ?kux65 ?_; (case dg1 => assumption); (case dg2 => assumption); (case dg3 => assumption); (case dg4 => assumption); (case k1x65 => k_asm); (case k2x65 => k_asm); (case k3x65 => k_asm); (case k4x65 => k_asm); (case k5x65 => k_asm); (case kfx65 => first | exact rfl | assumption); (case kKx65 => first | exact rfl | assumption); (case kdx65 => ktr_room); (case kux65 => ktr_units); k_whole); intro t9 h9 tk9 F9 N9; (try dsimp only); (try k_fold))) | ((k_dflt (refine' GivesV.use (dec_gives ?dg1 ?dg2 ?dg3 ?dg4 _ _) ?k1x65 ?k2x65 ?k3x65 ?k4x65 ?k5x65 ?kfx65 ?kKx65 ?kdx65 ?kux65 ?_; (case dg1 => assumption); (case dg2 => assumption); (case dg3 => assumption); (case dg4 => assumption); (case k1x65 => k_asm); (case k2x65 => k_asm); (case k3x65 => k_asm); (case k4x65 => k_asm); (case k5x65 => k_asm); (case kfx65 => first | exact rfl | assumption); (case kKx65 => first | exact rfl | assumption); (case kdx65 => ktr_room); (case kux65 => ktr_units); k_whole); intro t9 h9 tk9 F9 N9; (try dsimp only); (try k_fold))))
    | ((with_reducible show wpAny _ _ (call (Value.ref _) [Value.ref _, Value.str _ _]) _ _ _); first | with_reducible ((k_dflt (refine' WriteOk.use ?wu0 ?wu1 ?wu2 ?wu3 ?wu4 ?wu5 ?wuf ?wuK ?wud ?wuu ?wum ?wui ?wur ?_; (case wu0 => assumption); (case wu1 => k_asm); (case wu2 => k_asm); (case wu3 => k_asm); (case wu4 => k_asm); (case wu5 => k_asm); (case wuf => first | exact rfl | assumption); (case wuK => first | exact rfl | assumption); (case wud => ktr_room); (case wuu => ktr_units); (case wum => with_unfolding_all k_mem); (case wui => assumption); (case wur => assumption); k_whole); intro t9 h9 tk9 F9 N9; (try dsimp only); (try k_fold))) | ((k_dflt (refine' WriteOk.use ?wu0 ?wu1 ?wu2 ?wu3 ?wu4 ?wu5 ?wuf ?wuK ?wud ?wuu ?wum ?wui ?wur ?_; (case wu0 => assumption); (case wu1 => k_asm); (case wu2 => k_asm); (case wu3 => k_asm); (case wu4 => k_asm); (case wu5 => k_asm); (case wuf => first | exact rfl | assumption); (case wuK => first | exact rfl | assumption); (case wud => ktr_room); (case wuu => ktr_units); (case wum => with_unfolding_all k_mem); (case wui => assumption); (case wur => assumption); k_whole); intro t9 h9 tk9 F9 N9; (try dsimp only); (try k_fold))))
    | ((with_reducible show wpAny _ _ (PySem.eval (PySem.Expr.ListComp _ _ _ _) _) _ _ _); (k_dflt (refine LCg.ListComp_U (F₀ := by k_asm) (by with_unfolding_all rfl) (by decide) (by rfl) (by decide) (by rfl) ?_)))
    | (k_unfold; (try dsimp only)) | (k_end; wrow_close) | walk1 | (dsimp only; walk1) | (leave1; try dsimp only) | fail "no step")
  exact hret 0 _ _ _ (by assumption) (by assumption) (kst_newsOf (by assumption) (by assumption)) (by assumption) (by assumption) (by assumption) (by assumption)
theorem kept156_gives (rw d : Addr) (kk : Nat) (o : Obj) (c : Int → Str) (oc : List Int) (hc : CodesIn w o c oc) (hD : DecOk c oc) (a0 : Addr) (v0 : List Value) (k0 : Nat) (n0 : List Int) (h0 : IntsAre v0 n0) (r0 : RowOk c oc n0) (a1 : Addr) (v1 : List Value) (k1 : Nat) (n1 : List Int) (h1 : IntsAre v1 n1) (r1 : RowOk c oc n1) (a2 : Addr) (v2 : List Value) (k2 : Nat) (n2 : List Int) (h2 : IntsAre v2 n2) (r2 : RowOk c oc n2) (a3 : Addr) (v3 : List Value) (k3 : Nat) (n3 : List Int) (h3 : IntsAre v3 n3) (r3 : RowOk c oc n3) (a4 : Addr) (v4 : List Value) (k4 : Nat) (n4 : List Int) (h4 : IntsAre v4 n4) (r4 : RowOk c oc n4) (a5 : Addr) (v5 : List Value) (k5 : Nat) (n5 : List Int) (h5 : IntsAre v5 n5) (r5 : RowOk c oc n5) (nm : Str) (t : MTok) (hW : WriteOk w p loose mean mg mb 156 nm c oc) (hK : KeptOk c n0 n1 n2 n3 n4 n5) : GivesS w p loose mean mg mb 21 185 [.ref rw, .str nm t, .ref 156, .ref d] ((rw, listOf (List.map (fun r : Row => Value.ref r.a) [⟨a0, v0, k0, n0⟩, ⟨a1, v1, k1, n1⟩, ⟨a2, v2, k2, n2⟩, ⟨a3, v3, k3, n3⟩, ⟨a4, v4, k4, n4⟩, ⟨a5, v5, k5, n5⟩]).toArray kk) :: (a0, listOf v0.toArray k0) :: (a1, listOf v1.toArray k1) :: (a2, listOf v2.toArray k2) :: (a3, listOf v3.toArray k3) :: (a4, listOf v4.toArray k4) :: (a5, listOf v5.toArray k5) :: (d, o) :: []) (fun _ => .bool true) := by
  intro dp un gd env outer A₀ base g₀ h₀ L m s Q E B F X N T XB TB D T0 hf hk hd hu hret
  refine wpAny_call ?_
  k_dflt (refine' code_defSC ?k1 ?k2 ?k3 ?k4 ?k5 ?XB ?TB ?D ?T0 ?kA ?kF ?kK ?k6 ?k7 ?k8 ?k9 ?kB ?kD9 ?_ ?c2 ?c3 ?c4; (case kA => exact rfl); (case kF => assumption); (case kK => assumption); (case k1 => k_asm); (case k2 => k_asm); (case k3 => k_asm); (case k4 => k_asm); (case k5 => k_asm); (case XB => assumption); (case TB => assumption); (case D => assumption); (case T0 => assumption); (case k6 => k_is); (case k7 => k_is); (case k8 => ktr_room); (case k9 => first | exact BindsTo.of_eq rfl | exact binds_K (by k_in) rfl (by k_is) rfl rfl rfl); (case kB => exact rfl); (case kD9 => decide +kernel); (case c2 => exact rfl); (case c3 => exact rfl); (case c4 => exact rfl); k_whole; intro g' L' h' tk' cells' FG' F' N' Y' B' X' T' l1 D'; (try k_lt l1); k_cells Y'; (try simp only [List.cons_append, List.nil_append] at N'); (try dsimp only); (try k_lift B'); (try k_fold))
  repeat' (first
    | ((with_reducible show wpAny _ _ (PySem.exec _ _) _ _ _); k_fold)
    | ((with_reducible show wpAny _ _ (PySem.execs _ _) _ _ _); k_fold)
    | ((with_reducible show wpAny _ _ (PySem.execs _ _) _ _ _); dsimp only)
    | ((with_reducible show wpAny _ _ (execs (List.cons (PySem.Stmt.Assign [PySem.Expr.Tuple _ _ _] _ _) _) _) _ _ _); first | with_reducible (((with_unfolding_all (refine' kept_rest _ _ _ _ _ _ _ _ ?zhc _ _ _ _ ?zh0 ?zr0 _ _ _ _ _ ?zh1 ?zr1 _ _ _ _ _ ?zh2 ?zr2 _ _ _ _ _ ?zh3 ?zr3 _ _ _ _ _ ?zh4 ?zr4 _ _ _ _ _ ?zh5 ?zr5 _ _ _ _ _ _ _ _ _ ?zd1 ?zd2 ?zd3 ?zd4 ?zd5 ?zd6 ?zB ?zF ?zX ?zT ?zXB ?zTB ?zDd ?zT0 ?zN ?zl1 ?ze1 ?ze2 ?ze3 ?ze4 ?ze5 ?ze6 ?zhd ?zhu ?zhE ?zhK ?_)); (case zhc => assumption); (case zN => (refine kst_newsOf (by k_asm) ?_; (repeat' (first | exact List.forall_mem_nil _ | refine List.forall_mem_cons.mpr ⟨by with_unfolding_all k_mem, ?_⟩)))); (case zF => (refine fr_eq (by assumption) ?_; kernel_rfl)); (case zB => k_asm); (case zX => k_asm); (case zT => k_asm); (case zXB => assumption); (case zTB => assumption); (case zDd => k_asm); (case zT0 => first | assumption | exact KtsTurn.refl); (case zh0 => assumption); (case zr0 => assumption); (case zh1 => assumption); (case zr1 => assumption); (case zh2 => assumption); (case zr2 => assumption); (case zh3 => assumption); (case zr3 => assumption); (case zh4 => assumption); (case zr4 => assumption); (case zh5 => assumption); (case zr5 => assumption); (case zd1 => (refine cell_eq (by assumption) ?_; with_unfolding_all rfl)); (case zd2 => (refine cell_eq (by assumption) ?_; with_unfolding_all rfl)); (case zd3 => (refine cell_eq (by assumption) ?_; with_unfolding_all rfl)); (case zd4 => (refine cell_eq (by assumption) ?_; with_unfolding_all rfl)); (case zd5 => (refine cell_eq (by assumption) ?_; with_unfolding_all rfl)); (case zd6 => (refine cell_eq (by assumption) ?_; with_unfolding_all rfl)); (case zl1 => assumption); (case ze1 => exact ne6_1 (by assumption)); (case ze2 => exact ne6_2 (by assumption)); (case ze3 => exact ne6_3 (by assumption)); (case ze4 => exact ne6_4 (by assumption)); (case ze5 => exact ne6_5 (by assumption)); (case ze6 => exact ne6_6 (by assumption)); (case zhd => first | assumption | omega); (case zhu => first | assumption | omega); (case zhE => passes_own); (case zhK => assumption); (intro g9 h9 tk9 m9 nw9 T09 F9 N9 sub9; (try dsimp only)))) | (((with_unfolding_all (refine' kept_rest _ _ _ _ _ _ _ _ ?zhc _ _ _ _ ?zh0 ?zr0 _ _ _ _ _ ?zh1 ?zr1 _ _ _ _ _ ?zh2 ?zr2 _ _ _ _ _ ?zh3 ?zr3 _ _ _ _ _ ?zh4 ?zr4 _ _ _ _ _ ?zh5 ?zr5 _ _ _ _ _ _ _ _ _ ?zd1 ?zd2 ?zd3 ?zd4 ?zd5 ?zd6 ?zB ?zF ?zX ?zT ?zXB ?zTB ?zDd ?zT0 ?zN ?zl1 ?ze1 ?ze2 ?ze3 ?ze4 ?ze5 ?ze6 ?zhd ?zhu ?zhE ?zhK ?_)); (case zhc => assumption); (case zN => (refine kst_newsOf (by k_asm) ?_; (repeat' (first | exact List.forall_mem_nil _ | refine List.forall_mem_cons.mpr ⟨by with_unfolding_all k_mem, ?_⟩)))); (case zF => (refine fr_eq (by assumption) ?_; kernel_rfl)); (case zB => k_asm); (case zX => k_asm); (case zT => k_asm); (case zXB => assumption); (case zTB => assumption); (case zDd => k_asm); (case zT0 => first | assumption | exact KtsTurn.refl); (case zh0 => assumption); (case zr0 => assumption); (case zh1 => assumption); (case zr1 => assumption); (case zh2 => assumption); (case zr2 => assumption); (case zh3 => assumption); (case zr3 => assumption); (case zh4 => assumption); (case zr4 => assumption); (case zh5 => assumption); (case zr5 => assumption); (case zd1 => (refine cell_eq (by assumption) ?_; with_unfolding_all rfl)); (case zd2 => (refine cell_eq (by assumption) ?_; with_unfolding_all rfl)); (case zd3 => (refine cell_eq (by assumption) ?_; with_unfolding_all rfl)); (case zd4 => (refine cell_eq (by assumption) ?_; with_unfolding_all rfl)); (case zd5 => (refine cell_eq (by assumption) ?_; with_unfolding_all rfl)); (case zd6 => (refine cell_eq (by assumption) ?_; with_unfolding_all rfl)); (case zl1 => assumption); (case ze1 => exact ne6_1 (by assumption)); (case ze2 => exact ne6_2 (by assumption)); (case ze3 => exact ne6_3 (by assumption)); (case ze4 => exact ne6_4 (by assumption)); (case ze5 => exact ne6_5 (by assumption)); (case ze6 => exact ne6_6 (by assumption)); (case zhd => first | assumption | omega); (case zhu => first | assumption | omega); (case zhE => passes_own); (case zhK => assumption); (intro g9 h9 tk9 m9 nw9 T09 F9 N9 sub9; (try dsimp only)))))
    | ((with_reducible show LCg.CompEnd _ _ _ _ _ _ _ _ _ _ _ _ _ _); first | with_reducible ((refine' end_none ?ceF ?ceN ?ces ?ceo True.intro ⟨rfl, _, rfl⟩); (case ceN => k_asm); (case ceF => k_asm); (case ces => kcf_all); (case ceo => first | with_unfolding_all assumption | (with_unfolding_all exact And.right (by assumption)))) | ((refine' end_none ?ceF ?ceN ?ces ?ceo True.intro ⟨rfl, _, rfl⟩); (case ceN => k_asm); (case ceF => k_asm); (case ces => kcf_all); (case ceo => first | with_unfolding_all assumption | (with_unfolding_all exact And.right (by assumption)))))
    | ((with_reducible show wpAny _ _ (call (Value.ref 168) _) _ _ _); first | with_reducible ((k_dflt (refine' GivesV.use (common_gives _ _ ?cm1 ?cm2 ?cm3 ?cm4 _ _ _) ?k1x168 ?k2x168 ?k3x168 ?k4x168 ?k5x168 ?kfx168 ?kKx168 ?kdx168 ?kux168 ?_; (case cm1 => exact Int.natCast_nonneg _); (case cm2 => exact Int.natCast_nonneg _); (case cm3 => exact rowC_lt (by assumption)); (case cm4 => exact rowC_lt (by assumption)); (case k1x168 => k_asm); (case k2x168 => k_asm); (case k3x168 => k_asm); (case k4x168 => k_asm); (case k5x168 => k_asm); (case kfx168 => first | exact rfl | assumption); (case kKx168 => first | exact rfl | assumption); (case kdx168 => ktr_room); (case kux168 => ktr_units); k_whole); intro t9 h9 tk9 F9 N9; (try dsimp only); (try k_fold))) | ((k_dflt (refine' GivesV.use (common_gives _ _ ?cm1 ?cm2 ?cm3 ?cm4 _ _ _) ?k1x168 ?k2x168 ?k3x168 ?k4x168 ?k5x168 ?kfx168 ?kKx168 ?kdx168 ?kux168 ?_; (case cm1 => exact Int.natCast_nonneg _); (case cm2 => exact Int.natCast_nonneg _); (case cm3 => exact rowC_lt (by assumption)); (case cm4 => exact rowC_lt (by assumption)); (case k1x168 => k_asm); (case k2x168 => k_asm); (case k3x168 => k_asm); (case k4x168 => k_asm); (case k5x168 => k_asm); (case kfx168 => first | exact rfl | assumption); (case kKx168 => first | exact rfl | assumption); (case kdx168 => ktr_room); (case kux168 => ktr_units); k_whole); intro t9 h9 tk9 F9 N9; (try dsimp only); (try k_fold))))
    | ((with_reducible show wpAny _ _ (PySem.call (Value.builtin "chr") _) _ _ _); first | with_reducible ((refine' chr_octet ?co1 ?co2 ?_); (case co1 => assumption); (case co2 => exact RowOk.oct (by assumption))) | ((refine' chr_octet ?co1 ?co2 ?_); (case co1 => assumption); (case co2 => exact RowOk.oct (by assumption))))
    | ((with_reducible show LCg.CompSrc _ _ _ _ _ _ _ (PySem.Expr.Call (PySem.Expr.Name (PySem.Str.ofString "chr") _) _ _ _) _ _ _ _ _ _); (((refine' src_ints chrS ?sj1h8 ?sj2h8 ?sj3h8 ?sj4h8 ?sj5h8 ?sj6h8 ?sj7h8 ?sj8h8); (case sj2h8 => k_asm); (case sj3h8 => k_asm); (case sj4h8 => with_unfolding_all k_mem); (case sj1h8 => with_unfolding_all rfl); (case sj5h8 => assumption); (case sj6h8 => exact RowOk.few (by assumption)); (case' sj8h8 => (intro z9 t9 I9 oI9 C9 oC9 D9 m9 ys9 h9 tk9 E9 hz9 hC9 hx9 F9 N9 off9 ne9)); (case' sj7h8 => (intro g9 ys9 hy9; (try dsimp only))))))
    | ((with_reducible show LCg.CompSrc _ _ _ _ _ _ _ (PySem.Expr.Call (PySem.Expr.Attribute (PySem.Expr.Constant _ _ _) (PySem.Str.ofString "join") _) [PySem.Expr.ListComp (PySem.Expr.Call (PySem.Expr.Name (PySem.Str.ofString "chr") _) _ _ _) _ _ _] _ _) _ _ _ _ _ _); (((refine' src_rows (Ok := RowOk _ _) (wordC chrS) ?st1h7 ?st2h7 ?st3h7 ?st4h7 ?st5h7 ?st6h7 ?st7h7 ?st8h7); (case st2h7 => k_asm); (case st3h7 => k_asm); (case st4h7 => with_unfolding_all k_mem); (case st1h7 => with_unfolding_all rfl); (case st5h7 => (repeat' (first | exact List.forall_mem_nil _ | refine List.forall_mem_cons.mpr ⟨⟨by with_unfolding_all k_mem, by assumption, by assumption⟩, ?_⟩))); (case st6h7 => exact Nat.le_of_ble_eq_true rfl); (case' st7h7 => (intro g9 ys9 hy9; (try dsimp only))); (case' st8h7 => (intro a9 vs9 k9 ns9 I9 oI9 C9 oC9 D9 m9 ys9 h9 tk9 E9 hi9 ho9 hC9 hx9 F9 N9 off9 ne9)))))
    | ((with_reducible show wpAny _ _ (PySem.compareOp .NotEq (Value.ref _) (Value.ref _)) _ _ _); first | with_reducible ((refine' ne_same ?nq1 ?nq2 ?nq3 ?nq4 ?nq5 ?nq6 ?nq7 ?_); (case nq2 => k_asm); (case nq3 => with_unfolding_all k_mem); (case nq5 => with_unfolding_all k_mem); (case nq4 => assumption); (case nq6 => assumption); (case nq1 => (first | refine' rows_okT ?_ | refine' rows_okC ?_); (repeat' (first | exact List.forall_mem_nil _ | refine List.forall_mem_cons.mpr ⟨by assumption, ?_⟩))); (case nq7 => first | units_room | (show _ + 64 < _; omega))) | ((refine' ne_same ?nq1 ?nq2 ?nq3 ?nq4 ?nq5 ?nq6 ?nq7 ?_); (case nq2 => k_asm); (case nq3 => with_unfolding_all k_mem); (case nq5 => with_unfolding_all k_mem); (case nq4 => assumption); (case nq6 => assumption); (case nq1 => (first | refine' rows_okT ?_ | refine' rows_okC ?_); (repeat' (first | exact List.forall_mem_nil _ | refine List.forall_mem_cons.mpr ⟨by assumption, ?_⟩))); (case nq7 => first | units_room | (show _ + 64 < _; omega))))
    | ((with_reducible show wpAny _ _ (PySem.call (Value.builtin "str.join") _) _ _ _); first | with_reducible ((refine' join_codes ?jc1 ?jc2 ?jc3 ?jc4 ?jc5 ?_); (case jc1 => k_asm); (case jc2 => with_unfolding_all k_mem); (case jc3 => assumption); (case jc4 => first | (intro z8 hz8; exact RowOk.short (by assumption) hz8) | exact chr_short _); (case jc5 => exact RowOk.few (by assumption)); intro t9 k9; (try dsimp only)) | ((refine' join_codes ?jc1 ?jc2 ?jc3 ?jc4 ?jc5 ?_); (case jc1 => k_asm); (case jc2 => with_unfolding_all k_mem); (case jc3 => assumption); (case jc4 => first | (intro z8 hz8; exact RowOk.short (by assumption) hz8) | exact chr_short _); (case jc5 => exact RowOk.few (by assumption)); intro t9 k9; (try dsimp only)))
    | ((with_reducible show wpAny _ _ (subscriptTail (PySem.Expr.Name _ _) (PySem.Expr.Name _ _) (Value.ref _) (Value.int _ _)) _ _ _); first | with_reducible ((refine' code_at ?ka8 ?km8 ?kc8 ?kx8 ?ks8 ?_); (case kc8 => assumption); (case kx8 => exact RowOk.mem (by assumption) (by assumption)); (case ka8 => k_asm); (case km8 => with_unfolding_all k_mem); (case ks8 => with_unfolding_all rfl); intro t9; (try dsimp only)) | ((refine' code_at ?ka8 ?km8 ?kc8 ?kx8 ?ks8 ?_); (case kc8 => assumption); (case kx8 => exact RowOk.mem (by assumption) (by assumption)); (case ka8 => k_asm); (case km8 => with_unfolding_all k_mem); (case ks8 => with_unfolding_all rfl); intro t9; (try dsimp only)))
    | ((with_reducible show wpAny _ _ (PySem.call (Value.builtin "str.replace") _) _ _ _); first | with_reducible ((refine' replace_dec ?rd1 ?rd2 ?rd3 ?rd4 ?rd5 ?_); (case rd1 => assumption); (case rd2 => assumption); (case rd3 => (show @Ne Nat _ _; omega)); (case rd4 => (show @Ne Nat _ _; omega)); (case rd5 => (show @Ne Nat _ _; omega)); intro ps9 hq1 hq2 hq3 hq4 t9 k9; (try dsimp only)) | ((refine' replace_dec ?rd1 ?rd2 ?rd3 ?rd4 ?rd5 ?_); (case rd1 => assumption); (case rd2 => assumption); (case rd3 => (show @Ne Nat _ _; omega)); (case rd4 => (show @Ne Nat _ _; omega)); (case rd5 => (show @Ne Nat _ _; omega)); intro ps9 hq1 hq2 hq3 hq4 t9 k9; (try dsimp only)))
    | ((with_reducible show SrcN _ _ _ _ _ _ _ _ _ _ _ _ _ _); (((refine' srcN_words (Ok := RowOk _ _) (wordC chrS) ?sw1h6 ?sw2h6 ?sw3h6 ?sw4h6 ?sw5h6 ?sw6h6 ?sw7h6 ?sw8h6 ?sw9h6); (case sw2h6 => k_asm); (case sw3h6 => k_asm); (case sw4h6 => with_unfolding_all k_mem); (case sw5h6 => assumption); (case sw1h6 => with_unfolding_all rfl); (case sw6h6 => (repeat' (first | exact List.forall_mem_nil _ | refine List.forall_mem_cons.mpr ⟨by assumption, ?_⟩))); (case sw7h6 => exact Nat.le_of_ble_eq_true rfl); (case' sw8h6 => (intro ys9 hy9; (try dsimp only))); (case' sw9h6 => (intro ns9 t9 I9 oI9 C9 oC9 D9 m9 ys9 h9 tk9 E9 ho9 hp9 hC9 hx9 F9 N9 off9 ne9; have hp91 : tk9 ≠ 0 := Nat.ne_of_gt hp9)))))
    | ((with_reducible show wpAny _ _ (eval (PySem.Expr.ListComp (PySem.Expr.Call (PySem.Expr.Name (PySem.Str.ofString "decode") _) _ _ _) _ _ _) _) _ _ _); first | with_reducible ((k_dflt (refine ListComp_N (F₀ := by k_asm) (by with_unfolding_all rfl) (by decide) (by rfl) (by decide) (by rfl) ?_))) | ((k_dflt (refine ListComp_N (F₀ := by k_asm) (by with_unfolding_all rfl) (by decide) (by rfl) (by decide) (by rfl) ?_))))
    | ((with_reducible show LCg.CompSrc _ _ _ _ _ _ _ (PySem.Expr.Subscript (PySem.Expr.Name (PySem.Str.ofString "codes") _) _ _) _ _ _ _ _ _); (((refine' src_ints _ ?si1h5 ?si2h5 ?si3h5 ?si4h5 ?si5h5 ?si6h5 ?si7h5 ?si8h5); (case si2h5 => k_asm); (case si3h5 => k_asm); (case si4h5 => with_unfolding_all k_mem); (case si1h5 => with_unfolding_all rfl); (case si5h5 => assumption); (case si6h5 => exact RowOk.few (by assumption)); (case' si8h5 => (intro z9 t9 I9 oI9 C9 oC9 D9 m9 ys9 h9 tk9 E9 hz9 hC9 hx9 F9 N9 off9 ne9)); (case' si7h5 => (intro g9 ys9 hy9; (try dsimp only))))))
    | ((with_reducible show LCg.CompSrc _ _ _ _ _ _ _ (PySem.Expr.Call (PySem.Expr.Attribute (PySem.Expr.Constant _ _ _) (PySem.Str.ofString "join") _) [PySem.Expr.ListComp (PySem.Expr.Subscript _ _ _) _ _ _] _ _) _ _ _ _ _ _); (((refine' src_rows (Ok := RowOk _ _) (wordC _) ?ss1h4 ?ss2h4 ?ss3h4 ?ss4h4 ?ss5h4 ?ss6h4 ?ss7h4 ?ss8h4); (case ss2h4 => k_asm); (case ss3h4 => k_asm); (case ss4h4 => with_unfolding_all k_mem); (case ss1h4 => with_unfolding_all rfl); (case ss5h4 => (repeat' (first | exact List.forall_mem_nil _ | refine List.forall_mem_cons.mpr ⟨⟨by with_unfolding_all k_mem, by assumption, by assumption⟩, ?_⟩))); (case ss6h4 => exact Nat.le_of_ble_eq_true rfl); (case' ss7h4 => (intro g9 ys9 hy9; (try dsimp only))); (case' ss8h4 => (intro a9 vs9 k9 ns9 I9 oI9 C9 oC9 D9 m9 ys9 h9 tk9 E9 hi9 ho9 hC9 hx9 F9 N9 off9 ne9)))))
    | ((with_reducible show LCg.CompSrc _ _ _ _ _ _ _ (PySem.Expr.Call (PySem.Expr.Name (PySem.Str.ofString "write") _) _ _ _) _ _ _ _ _ _); (((refine' src_rows (Ok := RowOk _ _) (wordC _) ?sr1h3 ?sr2h3 ?sr3h3 ?sr4h3 ?sr5h3 ?sr6h3 ?sr7h3 ?sr8h3); (case sr2h3 => k_asm); (case sr3h3 => k_asm); (case sr4h3 => with_unfolding_all k_mem); (case sr1h3 => with_unfolding_all rfl); (case sr5h3 => (repeat' (first | exact List.forall_mem_nil _ | refine List.forall_mem_cons.mpr ⟨⟨by with_unfolding_all k_mem, by assumption, by assumption⟩, ?_⟩))); (case sr6h3 => exact Nat.le_of_ble_eq_true rfl); (case' sr7h3 => (intro g9 ys9 hy9; obtain ⟨x0, x1, x2, x3, x4, x5, e9⟩ := six_strs hy9; subst e9; (try dsimp only))); (case' sr8h3 => (intro a9 vs9 k9 ns9 I9 oI9 C9 oC9 D9 m9 ys9 h9 tk9 E9 hi9 ho9 hC9 hx9 F9 N9 off9 ne9)))))
    | ((with_reducible show wpAny _ _ (call (Value.ref 65) _) _ _ _); first | with_reducible ((k_dflt (refine' GivesV.use (dec_gives ?dg1 ?dg2 ?dg3 ?dg4 _ _) ?k1x65 ?k2x65 ?k3x65 ?k4x65 ?k5x65 ?kfx65 ?kKx65 ?kdx65 ?kux65 ?_; (case dg1 => assumption); (case dg2 => assumption); (case dg3 => assumption); (case dg4 => assumption); (case k1x65 => k_asm); (case k2x65 => k_asm); (case k3x65 => k_asm); (case k4x65 => k_asm); (case k5x65 => k_asm); (case kfx65 => first | exact rfl | assumption); (case kKx65 => first | exact rfl | assumption); (case kdx65 => ktr_room); (case kux65 => ktr_units); k_whole); intro t9 h9 tk9 F9 N9; (try dsimp only); (try k_fold))) | ((k_dflt (refine' GivesV.use (dec_gives ?dg1 ?dg2 ?dg3 ?dg4 _ _) ?k1x65 ?k2x65 ?k3x65 ?k4x65 ?k5x65 ?kfx65 ?kKx65 ?kdx65 ?kux65 ?_; (case dg1 => assumption); (case dg2 => assumption); (case dg3 => assumption); (case dg4 => assumption); (case k1x65 => k_asm); (case k2x65 => k_asm); (case k3x65 => k_asm); (case k4x65 => k_asm); (case k5x65 => k_asm); (case kfx65 => first | exact rfl | assumption); (case kKx65 => first | exact rfl | assumption); (case kdx65 => ktr_room); (case kux65 => ktr_units); k_whole); intro t9 h9 tk9 F9 N9; (try dsimp only); (try k_fold))))
    | ((with_reducible show wpAny _ _ (call (Value.ref _) [Value.ref _, Value.str _ _]) _ _ _); first | with_reducible ((k_dflt (refine' WriteOk.use ?wu0 ?wu1 ?wu2 ?wu3 ?wu4 ?wu5 ?wuf ?wuK ?wud ?wuu ?wum ?wui ?wur ?_; (case wu0 => assumption); (case wu1 => k_asm); (case wu2 => k_asm); (case wu3 => k_asm); (case wu4 => k_asm); (case wu5 => k_asm); (case wuf => first | exact rfl | assumption); (case wuK => first | exact rfl | assumption); (case wud => ktr_room); (case wuu => ktr_units); (case wum => with_unfolding_all k_mem); (case wui => assumption); (case wur => assumption); k_whole); intro t9 h9 tk9 F9 N9; (try dsimp only); (try k_fold))) | ((k_dflt (refine' WriteOk.use ?wu0 ?wu1 ?wu2 ?wu3 ?wu4 ?wu5 ?wuf ?wuK ?wud ?wuu ?wum ?wui ?wur ?_; (case wu0 => assumption); (case wu1 => k_asm); (case wu2 => k_asm); (case wu3 => k_asm); (case wu4 => k_asm); (case wu5 => k_asm); (case wuf => first | exact rfl | assumption); (case wuK => first | exact rfl | assumption); (case wud => ktr_room); (case wuu => ktr_units); (case wum => with_unfolding_all k_mem); (case wui => assumption); (case wur => assumption); k_whole); intro t9 h9 tk9 F9 N9; (try dsimp only); (try k_fold))))
    | ((with_reducible show wpAny _ _ (PySem.eval (PySem.Expr.ListComp _ _ _ _) _) _ _ _); (k_dflt (refine LCg.ListComp_U (F₀ := by k_asm) (by with_unfolding_all rfl) (by decide) (by rfl) (by decide) (by rfl) ?_)))
    | (k_unfold; (try dsimp only)) | (k_end; wrow_close) | walk1 | (dsimp only; walk1) | (leave1; try dsimp only) | fail "no step")
  exact hret 0 _ _ _ (by assumption) (by assumption) (kst_newsOf (by assumption) (by assumption)) (by assumption) (by assumption) (by assumption) (by assumption)
end
-- part G13
section
open PySem PySem.W PyProof.Rows PySem.Calls
set_option maxRecDepth 100000
set_option maxHeartbeats 2000000
open LCg
/-! a comprehension of two fors: the items of the lists of a list -/
theorem compTurn_two0 (elt t0 i0 t1 i1 : Expr) (scope : Scope) (pos : Pos) (it acc : Value) (env : Env) :
    compTurn (.ListComp elt [⟨t0, i0, [], 0⟩, ⟨t1, i1, [], 0⟩] scope pos) 0 it acc env = (standAt i0.pos >>= fun _ => pyNext it >>= fun r => match r with
      | none => pure (.done .next)
      | some v => letOwnedTupleGo t0 it v >>= fun _ => assign t0 env v >>= fun _ => eval i1 env >>= fun x => standAt i1.pos >>= fun _ => foldedSetIterable i1 env x >>= fun x =>
        holding [x] (pyIter x) >>= fun jt => runOwn (.compStart (.ListComp elt [⟨t0, i0, [], 0⟩, ⟨t1, i1, [], 0⟩] scope pos) 1 jt acc env) env >>= fun _ =>
          again (.compLoop (.ListComp elt [⟨t0, i0, [], 0⟩, ⟨t1, i1, [], 0⟩] scope pos) 0 it acc env)) := by rfl
theorem compTurn_two1 (elt t0 i0 t1 i1 : Expr) (scope : Scope) (pos : Pos) (it acc : Value) (env : Env) :
    compTurn (.ListComp elt [⟨t0, i0, [], 0⟩, ⟨t1, i1, [], 0⟩] scope pos) 1 it acc env = (standAt i1.pos >>= fun _ => pyNext it >>= fun r => match r with
      | none => pure (.done .next)
      | some v => letOwnedTupleGo t1 it v >>= fun _ => assign t1 env v >>= fun _ =>
        (eval elt env >>= fun x => call (.builtin "list.append") [acc, x] >>= fun _ => pure ()) >>= fun _ =>
          again (.compLoop (.ListComp elt [⟨t0, i0, [], 0⟩, ⟨t1, i1, [], 0⟩] scope pos) 1 it acc env)) := by rfl
section
variable {prog : Program} {w : World} {A : Around} {R : Result → Shared → Prop} {s : Shared}
theorem codeAny_two1 {elt t0 i0 t1 i1 : Expr} {scope : Scope} {pos : Pos} {it acc : Value} {env : Env} (I : Nat → Shared → Prop)
    (turn : ∀ n s, I n s → wpAny (model prog w) A (pyNext it) (fun r s₁ => match r with
      | none => R (.ok .next) s₁
      | some v => wpAny (model prog w) A (assign t1 env v) (fun _ s₂ => wpAny (model prog w) A (eval elt env) (fun x s₃ =>
          wpAny (model prog w) A (call (.builtin "list.append") [acc, x]) (fun _ s₄ => ∃ m, m < n ∧ I m s₄) (notedBy (model prog w) A env fun e s' => R (.error e) s') s₃)
          (notedBy (model prog w) A env fun e s' => R (.error e) s') s₂) (notedBy (model prog w) A env fun e s' => R (.error e) s') s₁) (notedBy (model prog w) A env fun e s' => R (.error e) s') s)
    (n : Nat) (h : I n s) (ht : ∀ v, letOwnedTupleGo t1 it v = pure () := by intro _; rfl) :
    codeAny (model prog w) A (.compLoop (.ListComp elt [⟨t0, i0, [], 0⟩, ⟨t1, i1, [], 0⟩] scope pos) 1 it acc env) R s := by
  refine codeAny_loop rfl I (fun n s hI => ?_) n h
  show wpAny _ A ((compTurn (.ListComp elt [⟨t0, i0, [], 0⟩, ⟨t1, i1, [], 0⟩] scope pos) 1 it acc env).onRaise (fun x => do noteFrame x env; theTreesLotGoes x)) _ _ s
  refine wpAny_noted ?_
  rw [compTurn_two1]
  refine wpAny_bind (wpAny_standAt (wpAny_bind (wpAny_mono (turn n s hI) (fun r s₁ h₁ => ?_) fun _ _ h' => h')))
  cases r with
  | none => exact wpAny_pure h₁
  | some v =>
    refine wpAny_bind (wpAny_of_eq (ht v) ?_)
    exact wpAny_bind (wpAny_mono h₁ (fun _ s₂ h₂ => wpAny_bind (wpAny_bind (wpAny_mono h₂ (fun x s₃ h₃ => wpAny_bind (wpAny_mono h₃
      (fun _ s₄ h₄ => wpAny_pure (wpAny_pure ⟨rfl, h₄⟩)) fun _ _ h' => h')) fun _ _ h' => h'))) fun _ _ h' => h')
theorem codeAny_two0 {elt t0 i0 t1 i1 : Expr} {scope : Scope} {pos : Pos} {it acc : Value} {env : Env} (I : Nat → Shared → Prop)
    (turn : ∀ n s, I n s → wpAny (model prog w) A (pyNext it) (fun r s₁ => match r with
      | none => R (.ok .next) s₁
      | some v => wpAny (model prog w) A (assign t0 env v) (fun _ s₂ => wpAny (model prog w) A (eval i1 env) (fun x s₃ =>
          wpAny (model prog w) A (pyIter x) (fun jt s₄ => codeAny (model prog w) A (.compStart (.ListComp elt [⟨t0, i0, [], 0⟩, ⟨t1, i1, [], 0⟩] scope pos) 1 jt acc env) (fun r s' => match r with
            | .ok _ => ∃ m, m < n ∧ I m s'
            | .error e => cameBackBy (model prog w) A env (notedBy (model prog w) A env fun e s' => R (.error e) s') e s') s₄) (notedBy (model prog w) A env fun e s' => R (.error e) s') s₃)
          (notedBy (model prog w) A env fun e s' => R (.error e) s') s₂) (notedBy (model prog w) A env fun e s' => R (.error e) s') s₁) (notedBy (model prog w) A env fun e s' => R (.error e) s') s)
    (n : Nat) (h : I n s) (hs : ∀ x, foldedSetIterable i1 env x = pure x) (ht : ∀ v, letOwnedTupleGo t0 it v = pure () := by intro _; rfl) :
    codeAny (model prog w) A (.compLoop (.ListComp elt [⟨t0, i0, [], 0⟩, ⟨t1, i1, [], 0⟩] scope pos) 0 it acc env) R s := by
  refine codeAny_loop rfl I (fun n s hI => ?_) n h
  show wpAny _ A ((compTurn (.ListComp elt [⟨t0, i0, [], 0⟩, ⟨t1, i1, [], 0⟩] scope pos) 0 it acc env).onRaise (fun x => do noteFrame x env; theTreesLotGoes x)) _ _ s
  refine wpAny_noted ?_
  rw [compTurn_two0]
  refine wpAny_bind (wpAny_standAt (wpAny_bind (wpAny_mono (turn n s hI) (fun r s₁ h₁ => ?_) fun _ _ h' => h')))
  cases r with
  | none => exact wpAny_pure h₁
  | some v =>
    refine wpAny_bind (wpAny_of_eq (ht v) ?_)
    refine wpAny_bind (wpAny_mono h₁ (fun _ s₂ h₂ => wpAny_bind (wpAny_mono h₂ (fun x s₃ h₃ => wpAny_bind (wpAny_standAt (wpAny_bind (wpAny_of_eq (hs x) (wpAny_bind (wpAny_holding (wpAny_mono h₃ (fun jt s₄ h₄ => wpAny_bind (wpAny_runOwn (codeAny_mono h₄ (fun r s₅ h₅ => ?_)))) fun _ _ h' => h'))))))) fun _ _ h' => h')) fun _ _ h' => h')
    cases r with
    | ok f => exact wpAny_pure ⟨rfl, h₅⟩
    | error e => exact h₅
theorem codeAny_compStart_two {elt t0 i0 t1 i1 : Expr} {scope : Scope} {pos : Pos} {it acc : Value} {env : Env}
    (h0 : codeAny (model prog w) A (.compLoop (.ListComp elt [⟨t0, i0, [], 0⟩, ⟨t1, i1, [], 0⟩] scope pos) 1 it acc env) R s)
    (h : wpAny (model prog w) A (pyIter it) (fun it' s' => codeAny (model prog w) A (.compLoop (.ListComp elt [⟨t0, i0, [], 0⟩, ⟨t1, i1, [], 0⟩] scope pos) 1 it' acc env) R s')
      (notedBy (model prog w) A env fun x s' => R (.error x) s') s) :
    codeAny (model prog w) A (.compStart (.ListComp elt [⟨t0, i0, [], 0⟩, ⟨t1, i1, [], 0⟩] scope pos) 1 it acc env) R s := by
  refine codeAny_of_tree ?_
  show wpAny _ _ ((compStart (.ListComp elt [⟨t0, i0, [], 0⟩, ⟨t1, i1, [], 0⟩] scope pos) 1 it acc env).onRaise (fun x => do noteFrame x env; standAt theWindowsPlace)) _ _ s
  refine wpAny_notedAt ?_
  unfold compStart
  show wpAny _ _ (ask >>= _) _ _ s
  refine wpAny_bind (wpAny_askSetting (wpAny_ite ?_))
  split
  · first
      | exact wpAny_bind (wpAny_pure (wpAny_pure (And.intro rfl h0)))
      | exact wpAny_pure (And.intro rfl h0)
  · first
      | exact wpAny_bind (wpAny_rule (wpAny_bind (wpAny_standAt (wpAny_bind (wpAny_mono h (fun it' s' h' => wpAny_pure (And.intro rfl h')) fun _ _ x => x)))))
      | (refine wpAny_bind (wpAny_rule ?_); show wpAny _ _ (standAt i1.pos >>= _) _ _ s; exact wpAny_bind (wpAny_standAt (wpAny_bind (wpAny_mono h (fun it' s' h' => wpAny_pure (And.intro rfl h')) fun _ _ x => x))))
end
section
variable {prog : Program} {w : World} {A : Around} {E : Value → Shared → Prop} {s : Shared} {h₀ : Heap} {L : Addr} {m : Str → Option Value} {env : Env}
/-- the inner for: what it takes goes behind what is there -/
theorem inner_two {cenv : Env} {x1 x2 : Str} {p1 p2 p3 p4 : Pos} {i0 : Expr} {scope : Scope} {pos : Pos} {J D l : Addr} {vs ys : List Value} {kk : Nat} {news : List (Addr × Obj)} {mC : Str → Option Value} {R : Result → Shared → Prop}
    (hh : A.handled = none) (hk : cenv.scope.kind = .function) (hx : cenv.kindOf x2 = some .local) (hd : (x2 == ("__debug__" : Str)) = false)
    (F : Fr h₀ L s.heap m) (N : News h₀ L s.heap ((D, lst ys) :: news)) (hn : s.heap.Ns cenv.locals mC) (hm : (l, listOf vs.toArray kk) ∈ news)
    (hit : s.heap.IsListIter J l 0) (hJ₀ : h₀.get? J = none) (hJL : L ≠ J) (hJC : J ≠ cenv.locals) (hJD : J ≠ D) (offJ : ∀ p ∈ news, p.1 ≠ J)
    (hC₀ : h₀.get? cenv.locals = none) (hD₀ : h₀.get? D = none) (hCL : cenv.locals ≠ L) (hDL : D ≠ L) (hCD : cenv.locals ≠ D) (offC : ∀ p ∈ news, p.1 ≠ cenv.locals) (offD : ∀ p ∈ news, p.1 ≠ D) (hsz : ys.length + vs.length ≤ sizeLine)
    (fin : ∀ h' tk mC', Fr h₀ L h' m → News h₀ L h' ((D, lst (ys ++ vs)) :: news) → h'.Ns cenv.locals mC' → R (.ok .next) { s with heap := h', toks := tk }) :
    codeAny (model prog w) A (.compStart (.ListComp (.Name x2 p2) [⟨.Name x1 p1, i0, [], 0⟩, ⟨.Name x2 p3, .Name x1 p4, [], 0⟩] scope pos) 1 (.ref J) (.ref D) cenv) R s := by
  have hl : s.heap.IsList l vs.toArray := News.isList N (.tail _ hm)
  have hp : (cenv.scope.kind == .class || (cenv.scope.kind == .module && cenv.locals != cenv.globals)) = false := by rw [hk]; rfl
  have hlJ : l ≠ J := offJ _ hm
  have W := Walks.list (prog := prog) (w := w) hh J l hlJ vs.toArray
  have hfp : ∀ b ∈ [J, l], b ≠ cenv.locals ∧ b ≠ D := fun b hb => by
    rcases List.mem_cons.mp hb with rfl | hb
    · exact ⟨hJC, hJD⟩
    · rw [List.mem_singleton.mp hb]; exact ⟨offC _ hm, offD _ hm⟩
  have hst₀ : (fun (i : Nat) (h : Heap) => h.IsListIter J l i ∧ h.IsList l vs.toArray) 0 s.heap := ⟨hit, hl⟩
  have loop : ∀ s₃ : Shared, s₃ = s →
      codeAny (model prog w) A (.compLoop (.ListComp (.Name x2 p2) [⟨.Name x1 p1, i0, [], 0⟩, ⟨.Name x2 p3, .Name x1 p4, [], 0⟩] scope pos) 1 (.ref J) (.ref D) cenv) R s₃ := by
    rintro s₃ rfl
    refine codeAny_two1
      (fun k s' => ∃ h' tk i mC', s' = { s₃ with heap := h', toks := tk } ∧ i ≤ vs.length ∧ k = vs.length + 1 - i ∧ (h'.IsListIter J l i ∧ h'.IsList l vs.toArray) ∧ Fr h₀ L h' m ∧ h'.Ns cenv.locals mC' ∧ News h₀ L h' ((D, lst (ys ++ vs.take i)) :: news)) ?_ (vs.length + 1)
      ⟨s₃.heap, s₃.toks, 0, mC, rfl, Nat.zero_le _, rfl, hst₀, F, hn, by rw [List.take_zero, List.append_nil]; exact N⟩
    rintro k s' ⟨h', tk, i, mC', rfl, hi, rfl, hst', F', hn', N'⟩
    by_cases hlt : i < vs.length
    · refine W.item i _ _ _ (by simpa using hlt) hst' fun v h₂ tk₂ hPv hst₂ hk₂ => ?_
      obtain rfl : v = vs[i] := by simpa [List.getElem?_eq_getElem hlt] using hPv.symm
      have F₂ := fr_but F' hk₂ hJL hJ₀
      have N₂ : News h₀ L h₂ ((D, lst (ys ++ vs.take i)) :: news) := news_but N' hk₂ fun p hp => by
        rcases List.mem_cons.mp hp with rfl | hp
        · exact Ne.symm hJD
        · exact offJ p hp
      refine wpAny_assign_Name (wpAny_storeName_local hx (hn'.at' fun o e => hk₂ _ o (by simpa using Ne.symm hJC) e) (fun h₃ hn₃ hs₃ => ?_) hp)
      refine wpAny_Name (wpAny_loadName_local hk hx hn₃ (v := vs[i]) (by simp) ?_) hd
      have N₃ : News h₀ L h₃ ((D, lst (ys ++ vs.take i)) :: news) := fun p hp => by
        refine ⟨hs₃.extBut _ _ ?_ (N₂ p hp).1, (N₂ p hp).2⟩
        rcases List.mem_cons.mp hp with rfl | hp
        · exact Ne.symm hCD
        · exact offC p hp
      have F₃ : Fr h₀ L h₃ m := F₂.change hs₃ hCL hC₀
      have hst₃ := W.frame _ _ _ hst₂ fun b hb o e => hs₃.extBut b o (hfp b hb).1 e
      have hlen : (ys ++ vs.take i).length ≤ sizeLine := by rw [List.length_append, List.length_take]; omega
      refine append_at (hsz := by show (ys ++ vs.take i).toArray.size ≤ sizeLine; rw [List.size_toArray]; exact hlen) (N₃ _ (.head _)).1 fun h₅ hs₅ hD₅ => ?_
      refine ⟨vs.length + 1 - (i + 1), by omega, h₅, _, i + 1, _, rfl, hlt, rfl, W.frame _ _ _ hst₃ fun b hb o e => hs₅.extBut b o (hfp b hb).2 e, F₃.change hs₅ hDL hD₀, hn₃.sameBut hs₅ hCD, fun p hp => ?_⟩
      rcases List.mem_cons.mp hp with rfl | hp
      · have e : ys ++ vs.take (i + 1) = (ys ++ vs.take i) ++ [vs[i]] := by rw [List.append_assoc, ← List.take_append_getElem hlt]
        refine ⟨?_, hDL, hD₀⟩
        rw [e]
        exact hD₅.trans (congrArg some (lst_snoc _ _))
      · exact ⟨hs₅.extBut _ _ (offD p hp) (N₃ _ (.tail _ hp)).1, (N₃ _ (.tail _ hp)).2⟩
    · obtain rfl : i = vs.length := Nat.le_antisymm hi (Nat.not_lt.mp hlt)
      refine W.done _ _ _ (by simpa using hst') fun h₂ tk₂ hk₂ => ?_
      rw [List.take_length] at N'
      refine fin h₂ _ mC' (fr_but F' hk₂ hJL hJ₀) (news_but N' hk₂ fun p hp => ?_) (hn'.at' fun o e => hk₂ _ o (by simpa using Ne.symm hJC) e)
      rcases List.mem_cons.mp hp with rfl | hp
      · exact Ne.symm hJD
      · exact offJ p hp
  exact codeAny_compStart_two (loop _ rfl) (W.self 0 _ _ _ hst₀ (loop _ rfl))
theorem flat_next {rws : List Row} {i : Nat} (hlt : i < rws.length) : (rws.take (i + 1)).flatMap (·.vs) = (rws.take i).flatMap (·.vs) ++ (rws[i]).vs := by
  rw [List.take_add_one, List.getElem?_eq_getElem hlt, List.flatMap_append]
  simp
/-- what the iterable of such a comprehension must be: a list of lists of ints, all of the ledger -/
inductive Src2 (A : Around) (h₀ : Heap) (L : Addr) (m : Str → Option Value) (Fin : Shared → List Value → List (Addr × Obj) → Prop) (xv : Value) (s₁ : Shared) : Prop
  | intro (l : Addr) (rws : List Row) (kk : Nat) (news : List (Addr × Obj)) (_ : xv = .ref l) (_ : A.handled = none) (_ : Fr h₀ L s₁.heap m) (_ : News h₀ L s₁.heap news) (_ : (l, listOf (rws.map fun r => Value.ref r.a).toArray kk) ∈ news) (_ : ∀ r ∈ rws, (r.a, listOf r.vs.toArray r.k) ∈ news) (_ : (rws.flatMap (·.vs)).length ≤ 1000) (_ : rws.length ≤ 1000) (_ : Fin s₁ (rws.flatMap (·.vs)) news) : Src2 A h₀ L m Fin xv s₁
theorem block_2 {x1 x2 : Str} {p1 p2 p3 p4 : Pos} {i0 : Expr} {scope : Scope} {cl : List (Str × Addr)} {pos : Pos} {s₁ : Shared} {l : Addr} {rws : List Row} {kk : Nat} {news : List (Addr × Obj)} {RR : Value → Addr → Result → Shared → Prop}
    (hcell : ∀ y ∈ scope.names, y.2 ≠ .cell) (hkind : scope.kind = .function) (hx1 : scope.names.lookup x1 = some .local) (hx2 : scope.names.lookup x2 = some .local) (hd1 : (x1 == ("__debug__" : Str)) = false) (hd2 : (x2 == ("__debug__" : Str)) = false)
    (hs1 : ∀ (e : Env) x, foldedSetIterable (.Name x1 p4) e x = pure x)
    (hh : A.handled = none) (F : Fr h₀ L s₁.heap m) (N : News h₀ L s₁.heap news) (hm : (l, listOf (rws.map fun r => Value.ref r.a).toArray kk) ∈ news)
    (hr : ∀ r ∈ rws, (r.a, listOf r.vs.toArray r.k) ∈ news) (hsz : (rws.flatMap (·.vs)).length ≤ 1000)
    (hRR : ∀ D C h tk m', Fr h₀ L h m → News h₀ L h ((D, lst (rws.flatMap (·.vs))) :: news) → Off1 D news → h.Ns C m' → h₀.get? C = none → h₀.get? D = none → C ≠ L → D ≠ L → C ≠ D → (∀ p ∈ news, p.1 ≠ C) → RR (.ref D) C (.ok .next) { s₁ with heap := h, toks := tk }) :
    wpAny (model prog w) A (pyIter (.ref l)) (fun it s₂ => wpAny (model prog w) A (newList []) (fun acc s₃ => wpAny (model prog w) A (newFunctionEnv scope env.globals cl [] env.qual none .none (some env)) (fun cenv s₄ =>
      codeAny (model prog w) A (.compStart (.ListComp (.Name x2 p2) [⟨.Name x1 p1, i0, [], 0⟩, ⟨.Name x2 p3, .Name x1 p4, [], 0⟩] scope pos) 0 it acc { cenv with scope := relabel scope env }) (RR acc cenv.locals) s₄) E s₃) E s₂) E s₁ := by
  have hl : s₁.heap.IsList l (rws.map fun r => Value.ref r.a).toArray := News.isList N hm
  have hlt : l < s₁.heap.objs.size := by obtain ⟨_, e, _⟩ := hl; exact Heap.lt_size e
  refine wpAny_pyIter_list hl ?_
  generalize hI : s₁.heap.objs.size = I at *
  have W := Walks.list (prog := prog) (w := w) hh I l (Nat.ne_of_lt hlt) (rws.map fun r => Value.ref r.a).toArray
  have up : ∀ b o, s₁.heap.get? b = some o → (s₁.heap.push { cls := .type "list_iterator", data := .fields #[.ref l, .int 0 0] }).get? b = some o := fun b o e => Heap.get?_push_of_some _ e
  have FI := F.keeps up
  have NI := N.grown up
  have stI : (fun (i : Nat) (h : Heap) => h.IsListIter I l i ∧ h.IsList l (rws.map fun r => Value.ref r.a).toArray) 0 (s₁.heap.push { cls := .type "list_iterator", data := .fields #[.ref l, .int 0 0] }) := ⟨⟨_, hI ▸ Heap.get?_push_size _ rfl, rfl, rfl⟩, by obtain ⟨o, e, r⟩ := hl; exact ⟨o, up _ _ e, r⟩⟩
  have hIL : L ≠ I := hI ▸ Nat.ne_of_lt F.ns.lt
  have hI₀ : h₀.get? I = none := hI ▸ next_is_new F
  have off : ∀ p ∈ news, p.1 ≠ I := fun p hp => hI ▸ Nat.ne_of_lt (Heap.lt_size (N p hp).1)
  have hIsz : I < (s₁.heap.push { cls := .type "list_iterator", data := .fields #[.ref l, .int 0 0] }).objs.size := by rw [Heap.size_push, hI]; exact Nat.lt_succ_self _
  generalize (s₁.heap.push { cls := .type "list_iterator", data := .fields #[.ref l, .int 0 0] }) = g at FI NI stI hIsz ⊢
  refine wpAny_newObj_type (wpAny_newFunctionEnv hcell (by intro y hy; simp at hy) (fun h₁ hns₁ hsb₁ => ?_) hkind)
  dsimp only at hns₁ hsb₁ ⊢
  generalize hH2 : g.push { cls := .type "list", dict := none, data := .seq ([] : List Value).toArray } = H2 at hns₁ hsb₁ ⊢
  have hC : H2.objs.size = g.objs.size + 1 := by rw [← hH2, Heap.size_push]
  have hDC : g.objs.size ≠ H2.objs.size := by rw [hC]; exact Nat.ne_of_lt (Nat.lt_succ_self _)
  have below : ∀ b, b < g.objs.size → b ≠ H2.objs.size ∧ b ≠ g.objs.size := fun b hb => ⟨by rw [hC]; exact Nat.ne_of_lt (Nat.lt_succ_of_lt hb), Nat.ne_of_lt hb⟩
  have hlg : l < g.objs.size := Nat.lt_trans hlt hIsz
  have hfp : ∀ b ∈ [I, l], b ≠ H2.objs.size ∧ b ≠ g.objs.size := fun b hb => by
    rcases List.mem_cons.mp hb with rfl | hb
    · exact below _ hIsz
    · rw [List.mem_singleton.mp hb]; exact below _ hlg
  have old : ∀ b o, g.get? b = some o → h₁.get? b = some o := fun b o e => hsb₁.extBut b o (below b (Heap.lt_size e)).1 (Heap.get?_push_of_some _ (hH2 ▸ Heap.get?_push_of_some _ e))
  have hacc : h₁.get? g.objs.size = some (lst []) := hsb₁.extBut _ _ hDC (Heap.get?_push_of_some _ (hH2 ▸ Heap.get?_push_size _ rfl))
  have fresh₀ : ∀ a, g.objs.size ≤ a → h₀.get? a = none := fun a ha => by
    cases e : h₀.get? a with
    | none => rfl
    | some o' => exact absurd (Heap.lt_size (FI.keep a o' e)) (Nat.not_lt.mpr ha)
  have hD₀ : h₀.get? g.objs.size = none := fresh₀ _ (Nat.le_refl _)
  have hC₀ : h₀.get? H2.objs.size = none := fresh₀ _ (by rw [hC]; exact Nat.le_succ _)
  have bL := below L FI.ns.lt
  have bI := below I hIsz
  have hst₁ := W.frame _ _ _ stI fun b _ o e => old b o e
  have offN : ∀ p ∈ news, p.1 ≠ I ∧ p.1 ≠ H2.objs.size ∧ p.1 ≠ g.objs.size := fun p hp => ⟨off p hp, below _ (Heap.lt_size (NI p hp).1)⟩
  have N₁ : News h₀ L h₁ ((g.objs.size, lst []) :: news) := fun p hp => by
    rcases List.mem_cons.mp hp with rfl | hp
    · exact ⟨hacc, Ne.symm bL.2, hD₀⟩
    · exact ⟨old _ _ (NI p hp).1, (NI p hp).2⟩
  have loop : ∀ s₃ : Shared, s₃ = { s₁ with heap := h₁, toks := s₃.toks } →
      codeAny (model prog w) A (.compLoop (.ListComp (.Name x2 p2) [⟨.Name x1 p1, i0, [], 0⟩, ⟨.Name x2 p3, .Name x1 p4, [], 0⟩] scope pos) 0 (.ref I) (.ref g.objs.size) (compEnvC scope cl H2.objs.size env))
        (RR (.ref g.objs.size) H2.objs.size) s₃ := by
    rintro s₃ e₃
    refine codeAny_two0
      (fun k s' => ∃ h' tk i mC, s' = { s₁ with heap := h', toks := tk } ∧ i ≤ rws.length ∧ k = rws.length + 1 - i ∧ (h'.IsListIter I l i ∧ h'.IsList l (rws.map fun r => Value.ref r.a).toArray) ∧ Fr h₀ L h' m ∧ h'.Ns H2.objs.size mC ∧
        News h₀ L h' ((g.objs.size, lst ((rws.take i).flatMap (·.vs))) :: news)) ?_ (rws.length + 1)
      ⟨h₁, _, 0, _, e₃, Nat.zero_le _, rfl, hst₁, FI.keeps old, hns₁, N₁⟩ (fun x => hs1 _ x)
    rintro k s' ⟨h', tk, i, mC, rfl, hi, rfl, hst', F', hn', N'⟩
    by_cases hlt : i < rws.length
    · refine W.item i _ _ _ (by simpa using hlt) hst' fun v h₂ tk₂ hPv hst₂ hk₂ => ?_
      obtain rfl : v = .ref (rws[i]).a := by simpa [List.getElem?_eq_getElem hlt] using hPv.symm
      have hmi := hr _ (List.getElem_mem hlt)
      have F₂ := fr_but F' hk₂ hIL hI₀
      have N₂ : News h₀ L h₂ ((g.objs.size, lst ((rws.take i).flatMap (·.vs))) :: news) := news_but N' hk₂ fun p hp => by
        rcases List.mem_cons.mp hp with rfl | hp
        · exact Ne.symm bI.2
        · exact (offN p hp).1
      have hk : (compEnvC scope cl H2.objs.size env).scope.kind = .function := by simp [compEnvC, relabel, hkind]
      refine wpAny_assign_Name (wpAny_storeName_local (lookup_relabel_local hx1) (hn'.at' fun o e => hk₂ _ o (by simpa using Ne.symm bI.1) e) (fun h₃ hn₃ hs₃ => ?_) (by rw [hk]; rfl))
      refine wpAny_Name (wpAny_loadName_local hk (lookup_relabel_local hx1) hn₃ (v := .ref (rws[i]).a) (by simp) ?_) hd1
      have N₃ : News h₀ L h₃ ((g.objs.size, lst ((rws.take i).flatMap (·.vs))) :: news) := fun p hp => by
        refine ⟨hs₃.extBut _ _ ?_ (N₂ p hp).1, (N₂ p hp).2⟩
        rcases List.mem_cons.mp hp with rfl | hp
        · exact hDC
        · exact (offN p hp).2.1
      have F₃ : Fr h₀ L h₃ m := F₂.change hs₃ (Ne.symm bL.1) hC₀
      have hst₃ := W.frame _ _ _ hst₂ fun b hb o e => hs₃.extBut b o (hfp b hb).1 e
      obtain ⟨oI, heI, hoI⟩ := hst₃.1
      refine wpAny_pyIter_list (News.isList N₃ (.tail _ hmi)) ?_
      have up₃ : ∀ b o, h₃.get? b = some o → (h₃.push { cls := .type "list_iterator", data := .fields #[.ref (rws[i]).a, .int 0 0] }).get? b = some o := fun b o e => Heap.get?_push_of_some _ e
      have lo : ∀ {b : Addr} {o : Obj}, h₃.get? b = some o → h₃.objs.size ≠ b := fun e => Nat.ne_of_gt (Heap.lt_size e)
      obtain ⟨oC, heC, _⟩ := ns_obj hn₃
      have N₄ : News h₀ L (h₃.push { cls := .type "list_iterator", data := .fields #[.ref (rws[i]).a, .int 0 0] }) ((g.objs.size, lst ((rws.take i).flatMap (·.vs))) :: (I, oI) :: news) := fun p hp => by
        rcases List.mem_cons.mp hp with rfl | hp
        · exact ⟨up₃ _ _ (N₃ _ (.head _)).1, (N₃ _ (.head _)).2⟩
        rcases List.mem_cons.mp hp with rfl | hp
        · exact ⟨up₃ _ _ heI, Ne.symm hIL, hI₀⟩
        · exact ⟨up₃ _ _ (N₃ _ (.tail _ hp)).1, (N₃ _ (.tail _ hp)).2⟩
      have hsum : ((rws.take i).flatMap (·.vs)).length + (rws[i]).vs.length ≤ sizeLine := by
        have e : rws.flatMap (·.vs) = (rws.take (i + 1)).flatMap (·.vs) ++ (rws.drop (i + 1)).flatMap (·.vs) := by rw [← List.flatMap_append, List.take_append_drop]
        have e2 : (rws.take (i + 1)).flatMap (·.vs) = (rws.take i).flatMap (·.vs) ++ (rws[i]).vs := flat_next hlt
        rw [e, e2, List.length_append, List.length_append] at hsz
        exact Nat.le_trans (by omega : _ ≤ 1000) (by decide)
      refine inner_two (s := { s₁ with heap := h₃.push { cls := .type "list_iterator", data := .fields #[.ref (rws[i]).a, .int 0 0] }, toks := _ }) (l := (rws[i]).a) (kk := (rws[i]).k) hh hk (lookup_relabel_local hx2) hd2 (F₃.keeps up₃) N₄ (hn₃.at' fun o e => up₃ _ _ e) (.tail _ hmi) ⟨_, Heap.get?_push_size _ rfl, rfl, rfl⟩
        (next_is_new F₃) (Nat.ne_of_lt F₃.ns.lt) (lo heC) (lo (N₃ _ (.head _)).1) ?_ hC₀ hD₀ (Ne.symm bL.1) (Ne.symm bL.2) (Ne.symm hDC) ?_ ?_ hsum ?_
      · intro p hp
        rcases List.mem_cons.mp hp with rfl | hp
        · exact Ne.symm (lo heI)
        · exact Ne.symm (lo (N₃ _ (.tail _ hp)).1)
      · intro p hp
        rcases List.mem_cons.mp hp with rfl | hp
        · exact bI.1
        · exact (offN p hp).2.1
      · intro p hp
        rcases List.mem_cons.mp hp with rfl | hp
        · exact bI.2
        · exact (offN p hp).2.2
      · intro h₅ tk₅ mC₅ F₅ N₅ hn₅
        have zI := (N₅ _ (.tail _ (.head _))).1
        have zl := (N₅ _ (.tail _ (.tail _ hm))).1
        have e2 : (rws.take (i + 1)).flatMap (·.vs) = (rws.take i).flatMap (·.vs) ++ (rws[i]).vs := flat_next hlt
        refine ⟨rws.length + 1 - (i + 1), by omega, h₅, tk₅, i + 1, mC₅, rfl, hlt, rfl, ⟨⟨oI, zI, hoI⟩, ⟨_, zl, rfl, _, rfl⟩⟩, F₅, hn₅, ?_⟩
        rw [e2]
        intro p hp
        rcases List.mem_cons.mp hp with rfl | hp
        · exact N₅ _ (.head _)
        · exact N₅ _ (.tail _ (.tail _ hp))
    · obtain rfl : i = rws.length := Nat.le_antisymm hi (Nat.not_lt.mp hlt)
      refine W.done _ _ _ (by simpa using hst') fun h₂ tk₂ hk₂ => ?_
      rw [List.take_length] at N'
      refine hRR _ _ h₂ tk₂ mC (fr_but F' hk₂ hIL hI₀) (news_but N' hk₂ fun p hp => ?_) ?_ (hn'.at' fun o e => hk₂ _ o (by simpa using Ne.symm bI.1) e) hC₀ hD₀ (Ne.symm bL.1) (Ne.symm bL.2) (Ne.symm hDC) fun p hp => (offN p hp).2.1
      · rcases List.mem_cons.mp hp with rfl | hp
        · exact Ne.symm bI.2
        · exact (offN p hp).1
      · exact (Off3.of (I := I) (C := H2.objs.size) fun p hp => offN p hp).one
  exact codeAny_compStart_list (loop _ rfl) (W.self 0 _ _ _ hst₁ (loop _ rfl))
theorem Assign_ListComp_two {x1 x2 y : Str} {p1 p2 p3 p4 py : Pos} {i0 : Expr} {scope : Scope} {cl : List (Str × Addr)} {pos spos : Pos} {Q : Flow → Shared → Prop} (F₀ : Fr h₀ L s.heap m) (hLe : env.locals = L)
    (hsw : swapsWith (.ListComp (.Name x2 p2) [⟨.Name x1 p1, i0, [], 0⟩, ⟨.Name x2 p3, .Name x1 p4, [], 0⟩] scope pos) (some (.Name y py)) spos.line env = pure true) (hy : env.kindOf y = some .local) (hp : (env.scope.kind == .class || (env.scope.kind == .module && env.locals != env.globals)) = false)
    (hclos : closureFor scope env = pure cl) (hcell : ∀ y ∈ scope.names, y.2 ≠ .cell) (hkind : scope.kind = .function)
    (hnames : ∀ y ∈ scope.names, y.2 = .local → scope.names.lookup y.1 = some .local) (hx1 : scope.names.lookup x1 = some .local) (hx2 : scope.names.lookup x2 = some .local) (hd1 : (x1 == ("__debug__" : Str)) = false) (hd2 : (x2 == ("__debug__" : Str)) = false)
    (hs1 : ∀ (e : Env) x, foldedSetIterable (.Name x1 p4) e x = pure x)
    (h : wpAny (model prog w) A (eval i0 env) (Src2 A h₀ L m (fun s₂ ys news => FinA h₀ L m s₂ y Q ys news)) E s)
    (hs : ∀ x, foldedSetIterable i0 env x = pure x) :
    wpAny (model prog w) A (exec (.Assign [.Name y py] (.ListComp (.Name x2 p2) [⟨.Name x1 p1, i0, [], 0⟩, ⟨.Name x2 p3, .Name x1 p4, [], 0⟩] scope pos) spos) env) Q E s := by
  subst hLe
  rw [exec_Assign_Name_used _ _ _ _ hsw]
  refine wpAny_bind (wpAny_standAt (wpAny_bind ?_))
  show wpAny _ A (do let _ ← comprehension (.ListComp (.Name x2 p2) [⟨.Name x1 p1, i0, [], 0⟩, ⟨.Name x2 p3, .Name x1 p4, [], 0⟩] scope pos) scope env _ (newList []) false (eval i0 env) (some (assign (.Name y py) env))) _ _ s
  refine wpAny_bind (wpAny_mono (wpAny_comprehension_free (use := some (assign (.Name y py) env)) (Q := fun _ s' => Q .next s') rfl hs hclos hkind hnames
    (wpAny_mono h (fun xv s₁ h₁ => ?_) fun _ _ e => e)) (fun _ s' hq => wpAny_pure (wpAny_pure hq)) fun _ _ e => e)
  obtain ⟨l, rws, kk, news, rfl, hh, F, N, hm, hr, hsz, _, fin⟩ := h₁
  refine block_2 hcell hkind hx1 hx2 hd1 hd2 hs1 hh F N hm hr hsz ?_
  intro D C h' tk m' F' N' o1 hn hC₀ hD₀ hCL hDL hCD offC
  show wpAny _ A (assign (.Name y py) env (.ref D)) _ _ _
  refine wpAny_assign_Name (wpAny_storeName_local hy F'.ns (fun h₂ hn₂ hs₂ => ?_) hp)
  have hL₀ : h₀.get? env.locals = none := Heap.get?_none_of_le F'.above
  have F₂ : Fr h₀ env.locals h₂ (fun z => if z = y then some (.ref D) else m z) := ⟨hn₂, fun b o e => hs₂.extBut b o (fun q => by rw [q, hL₀] at e; cases e) (F'.keep b o e), F'.above⟩
  refine ⟨m', hn.sameBut hs₂ hCL, fun h'' hs'' => fin D h'' _ (F₂.change hs'' hCL hC₀) (fun p hp => ?_) o1⟩
  have z : h₂.get? p.1 = some p.2 := hs₂.extBut _ _ (N' p hp).2.1 (N' p hp).1
  refine ⟨hs''.extBut _ _ ?_ z, (N' p hp).2⟩
  rcases List.mem_cons.mp hp with rfl | hp
  · exact Ne.symm hCD
  · exact offC p hp
end
end
-- part G14
section
open PySem PySem.W PyProof.Rows PySem.Calls
set_option maxRecDepth 100000
set_option maxHeartbeats 2000000
open LCg
theorem valueAt_stored (kvs : List (Int × Value)) (k : Int) (v : Value) (k' : Int) : valueAt (stored kvs k v) k' = if k' = k then some v else valueAt kvs k' := by
  have A : ∀ kvs : List (Int × Value), k' ≠ k → ((kvs.map (fun kv => if kv.1 = k then (kv.1, v) else kv)).find? fun kv => kv.1 = k').map (·.2) = (kvs.find? fun kv => kv.1 = k').map (·.2) := by
    intro kvs hk
    induction kvs with
    | nil => rfl
    | cons p r ih =>
      obtain ⟨a, b⟩ := p
      by_cases h1 : a = k'
      · have : a ≠ k := fun q => hk (h1.symm.trans q)
        simp [List.find?_cons, h1, hk]
      · by_cases h2 : a = k
        · simp only [List.map_cons, h2, if_true, List.find?_cons]
          have : ¬ k = k' := fun q => hk q.symm
          simp only [this, decide_false]
          exact ih
        · simp only [List.map_cons, h2, if_false, List.find?_cons, h1, decide_false]
          exact ih
  have B : ∀ kvs : List (Int × Value), kvs.any (fun kv => kv.1 = k) = true → ((kvs.map (fun kv => if kv.1 = k then (kv.1, v) else kv)).find? fun kv => kv.1 = k).map (·.2) = some v := by
    intro kvs
    induction kvs with
    | nil => intro h; cases h
    | cons p r ih =>
      obtain ⟨a, b⟩ := p
      intro h
      by_cases h2 : a = k
      · simp [List.find?_cons, h2]
      · simp only [List.map_cons, h2, if_false, List.find?_cons, decide_false]
        exact ih (by simpa [h2] using h)
  unfold valueAt stored
  split
  · rename_i h
    by_cases hk : k' = k
    · subst hk; rw [if_pos rfl]; exact B kvs h
    · rw [if_neg hk]; exact A kvs hk
  · rename_i h
    rw [List.find?_append]
    by_cases hk : k' = k
    · subst hk
      rw [if_pos rfl]
      have : kvs.find? (fun kv => kv.1 = k') = none := by
        rw [List.find?_eq_none]
        intro x hx q
        exact h (List.any_eq_true.mpr ⟨x, hx, q⟩)
      rw [this]
      simp
    · rw [if_neg hk]
      have : ¬ k = k' := fun q => hk q.symm
      simp [this]
section
variable {prog : Program} {w : World} {A : Around} {E : Value → Shared → Prop} {s : Shared} {h₀ : Heap} {L : Addr} {m : Str → Option Value} {env : Env}
/-- a turn's end: the text that the dict is to bear -/
inductive CodeEnd (h₀ : Heap) (L : Addr) (m : Str → Option Value) (s₁ : Shared) (I : Addr) (oI : Obj) (C : Addr) (oC : Obj) (D : Addr) (oD : Obj) (news : List (Addr × Obj)) (x : Str) (y : Value) (s₂ : Shared) : Prop
  | intro (h') (tk) (t) (_ : s₂ = { s₁ with heap := h', toks := tk }) (_ : Fr h₀ L h' m) (_ : News h₀ L h' ((I, oI) :: (C, oC) :: (D, oD) :: news)) (_ : y = .str x t) : CodeEnd h₀ L m s₁ I oI C oC D oD news x y s₂
theorem CodeEnd.mk {s₁ : Shared} {I C D : Addr} {oI oC oD : Obj} {news all : List (Addr × Obj)} {x : Str} {t : Tok} {h' : Heap} {tk : Nat} (F : Fr h₀ L h' m) (N : News h₀ L h' all) (sub : ∀ p ∈ (I, oI) :: (C, oC) :: (D, oD) :: news, p ∈ all) :
    CodeEnd h₀ L m s₁ I oI C oC D oD news x (.str x t) { s₁ with heap := h', toks := tk } := ⟨h', tk, t, rfl, F, fun p hp => N p (sub p hp), rfl⟩
/-- what the iterable must be, and the turns -/
inductive SrcDic (prog : Program) (w : World) (A : Around) (h₀ : Heap) (L : Addr) (m : Str → Option Value) (env : Env) (vx : Expr) (x : Str) (scope : Scope) (cl : List (Str × Addr)) (Q : Value → Shared → Prop) (xv : Value) (s₁ : Shared) : Prop
  | intro (l : Addr) (vs : List Value) (ns : List Int) (kk : Nat) (news : List (Addr × Obj)) (c : Int → Str) (_ : xv = .ref l) (_ : A.handled = none) (_ : Fr h₀ L s₁.heap m) (_ : News h₀ L s₁.heap news) (_ : (l, tupO vs kk) ∈ news) (_ : IntsAre vs ns) (_ : ns.length ≤ 1000) (_ : ∀ z t I oI C oC D oD m₂ h tk (E' : Value → Shared → Prop), z ∈ ns → NsObj oC m₂ → m₂ x = some (.int z t) → Fr h₀ L h m → News h₀ L h ((I, oI) :: (C, oC) :: (D, oD) :: news) → ((@Ne Nat I C) ∧ (@Ne Nat I D) ∧ (@Ne Nat C D)) → wpAny (model prog w) A (eval vx (compEnvC scope cl C env)) (CodeEnd h₀ L m { s₁ with heap := h, toks := tk } I oI C oC D oD news (c z)) E' { s₁ with heap := h, toks := tk }) (_ : ∀ D oD kvs h tk, Fr h₀ L h m → News h₀ L h ((D, oD) :: news) → oD.IsDictOf (intKind prog w) kvs → (∀ i ∈ ns, ∃ t, valueAt kvs i = some (.str (c i) t)) → Q (.ref D) { s₁ with heap := h, toks := tk }) : SrcDic prog w A h₀ L m env vx x scope cl Q xv s₁
theorem block_dic {vx iter : Expr} {x : Str} {px pk : Pos} {scope : Scope} {cl : List (Str × Addr)} {pos : Pos} {s₁ : Shared} {l : Addr} {vs : List Value} {ns : List Int} {kk : Nat} {news : List (Addr × Obj)} {c : Int → Str} {RR : Value → Addr → Result → Shared → Prop}
    (hcell : ∀ y ∈ scope.names, y.2 ≠ .cell) (hkind : scope.kind = .function) (hx : scope.names.lookup x = some .local) (hd : (x == ("__debug__" : Str)) = false)
    (hh : A.handled = none) (F : Fr h₀ L s₁.heap m) (N : News h₀ L s₁.heap news) (hm : (l, tupO vs kk) ∈ news) (hi : IntsAre vs ns) (hsz : ns.length ≤ 1000)
    (turn : ∀ z t I oI C oC D oD m₂ h tk (E' : Value → Shared → Prop), z ∈ ns → NsObj oC m₂ → m₂ x = some (.int z t) → Fr h₀ L h m → News h₀ L h ((I, oI) :: (C, oC) :: (D, oD) :: news) → ((@Ne Nat I C) ∧ (@Ne Nat I D) ∧ (@Ne Nat C D)) →
      wpAny (model prog w) A (eval vx (compEnvC scope cl C env)) (CodeEnd h₀ L m { s₁ with heap := h, toks := tk } I oI C oC D oD news (c z)) E' { s₁ with heap := h, toks := tk })
    (hRR : ∀ D C h tk m' oD kvs, Fr h₀ L h m → News h₀ L h ((D, oD) :: news) → oD.IsDictOf (intKind prog w) kvs → (∀ i ∈ ns, ∃ t, valueAt kvs i = some (.str (c i) t)) → h.Ns C m' → h₀.get? C = none → C ≠ L → C ≠ D → (∀ p ∈ news, p.1 ≠ C) → RR (.ref D) C (.ok .next) { s₁ with heap := h, toks := tk }) :
    wpAny (model prog w) A (pyIter (.ref l)) (fun it s₂ => wpAny (model prog w) A newDict (fun acc s₃ => wpAny (model prog w) A (newFunctionEnv scope env.globals cl [] env.qual none .none (some env)) (fun cenv s₄ =>
      codeAny (model prog w) A (.compStart (.DictComp (.Name x pk) vx [⟨.Name x px, iter, [], 0⟩] scope pos) 0 it acc { cenv with scope := relabel scope env }) (RR acc cenv.locals) s₄) E s₃) E s₂) E s₁ := by
  have hl : s₁.heap.IsTuple l vs.toArray := by obtain ⟨e, _⟩ := N _ hm; exact ⟨_, e, rfl, _, rfl⟩
  have hlt : l < s₁.heap.objs.size := by obtain ⟨_, e, _⟩ := hl; exact Heap.lt_size e
  have hvn : vs.length = ns.length := hi.length
  refine wpAny_pyIter_tuple hl ?_
  generalize hI : s₁.heap.objs.size = I at *
  have W := Walks.tuple (prog := prog) (w := w) hh I l (Nat.ne_of_lt hlt) vs.toArray
  have up : ∀ b o, s₁.heap.get? b = some o → (s₁.heap.push { cls := .type "tuple_iterator", data := .fields #[.ref l, .int 0 0] }).get? b = some o := fun b o e => Heap.get?_push_of_some _ e
  have FI := F.keeps up
  have NI := N.grown up
  have stI : (fun (i : Nat) (h : Heap) => h.IsTupleIter I l i ∧ h.IsTuple l vs.toArray) 0 (s₁.heap.push { cls := .type "tuple_iterator", data := .fields #[.ref l, .int 0 0] }) := ⟨⟨_, hI ▸ Heap.get?_push_size _ rfl, rfl, rfl⟩, by obtain ⟨o, e, r⟩ := hl; exact ⟨o, up _ _ e, r⟩⟩
  have hIL : L ≠ I := hI ▸ Nat.ne_of_lt F.ns.lt
  have hI₀ : h₀.get? I = none := hI ▸ next_is_new F
  have off : ∀ p ∈ news, p.1 ≠ I := fun p hp => hI ▸ Nat.ne_of_lt (Heap.lt_size (N p hp).1)
  have hIsz : I < (s₁.heap.push { cls := .type "tuple_iterator", data := .fields #[.ref l, .int 0 0] }).objs.size := by rw [Heap.size_push, hI]; exact Nat.lt_succ_self _
  generalize (s₁.heap.push { cls := .type "tuple_iterator", data := .fields #[.ref l, .int 0 0] }) = g at FI NI stI hIsz ⊢
  refine wpAny_newObj_type (wpAny_newFunctionEnv hcell (by intro y hy; simp at hy) (fun h₁ hns₁ hsb₁ => ?_) hkind)
  dsimp only at hns₁ hsb₁ ⊢
  have hnew : (g.push { cls := .type "dict", dict := none, data := .dict #[] }).DictOf (intKind prog w) g.objs.size [] := Heap.DictOf.new g
  generalize hH2 : g.push { cls := .type "dict", dict := none, data := .dict #[] } = H2 at hns₁ hsb₁ hnew ⊢
  have hC : H2.objs.size = g.objs.size + 1 := by rw [← hH2, Heap.size_push]
  have hDC : g.objs.size ≠ H2.objs.size := by rw [hC]; exact Nat.ne_of_lt (Nat.lt_succ_self _)
  have below : ∀ b, b < g.objs.size → b ≠ H2.objs.size ∧ b ≠ g.objs.size := fun b hb => ⟨by rw [hC]; exact Nat.ne_of_lt (Nat.lt_succ_of_lt hb), Nat.ne_of_lt hb⟩
  have hlg : l < g.objs.size := Nat.lt_trans hlt hIsz
  have hfp : ∀ b ∈ [I, l], b ≠ H2.objs.size ∧ b ≠ g.objs.size := fun b hb => by
    rcases List.mem_cons.mp hb with rfl | hb
    · exact below _ hIsz
    · rw [List.mem_singleton.mp hb]; exact below _ hlg
  have old : ∀ b o, g.get? b = some o → h₁.get? b = some o := fun b o e => hsb₁.extBut b o (below b (Heap.lt_size e)).1 (Heap.get?_push_of_some _ (hH2 ▸ Heap.get?_push_of_some _ e))
  have hacc : h₁.DictOf (intKind prog w) g.objs.size [] := hnew.at fun o e => hsb₁.extBut _ _ hDC (Heap.get?_push_of_some _ e)
  have fresh₀ : ∀ a, g.objs.size ≤ a → h₀.get? a = none := fun a ha => by
    cases e : h₀.get? a with
    | none => rfl
    | some o' => exact absurd (Heap.lt_size (FI.keep a o' e)) (Nat.not_lt.mpr ha)
  have hD₀ : h₀.get? g.objs.size = none := fresh₀ _ (Nat.le_refl _)
  have hC₀ : h₀.get? H2.objs.size = none := fresh₀ _ (by rw [hC]; exact Nat.le_succ _)
  have bL := below L FI.ns.lt
  have bI := below I hIsz
  have hst₁ := W.frame _ _ _ stI fun b _ o e => old b o e
  have offN : ∀ p ∈ news, p.1 ≠ I ∧ p.1 ≠ H2.objs.size ∧ p.1 ≠ g.objs.size := fun p hp => ⟨off p hp, below _ (Heap.lt_size (NI p hp).1)⟩
  obtain ⟨oD₁, hoD₁, hdD₁⟩ := Heap.dictOf_iff.mp hacc
  obtain ⟨oC₁, hoC₁, hdC₁⟩ := ns_obj hns₁
  have N₁ : News h₀ L h₁ ((H2.objs.size, oC₁) :: (g.objs.size, oD₁) :: news) := fun p hp => by
    rcases List.mem_cons.mp hp with rfl | hp
    · exact ⟨hoC₁, Ne.symm bL.1, hC₀⟩
    rcases List.mem_cons.mp hp with rfl | hp
    · exact ⟨hoD₁, Ne.symm bL.2, hD₀⟩
    · exact ⟨old _ _ (NI p hp).1, (NI p hp).2⟩
  have loop : ∀ s₃ : Shared, s₃ = { s₁ with heap := h₁, toks := s₃.toks } →
      codeAny (model prog w) A (.compLoop (.DictComp (.Name x pk) vx [⟨.Name x px, iter, [], 0⟩] scope pos) 0 (.ref I) (.ref g.objs.size) (compEnvC scope cl H2.objs.size env))
        (RR (.ref g.objs.size) H2.objs.size) s₃ := by
    rintro s₃ e₃
    have hk : (compEnvC scope cl H2.objs.size env).scope.kind = .function := by simp [compEnvC, relabel, hkind]
    refine codeAny_compLoop_testsD
      (fun k s' => ∃ h' tk i kvs oC oD mC, s' = { s₁ with heap := h', toks := tk } ∧ i ≤ vs.length ∧ k = vs.length + 1 - i ∧ (h'.IsTupleIter I l i ∧ h'.IsTuple l vs.toArray) ∧ Fr h₀ L h' m ∧ NsObj oC mC ∧ oD.IsDictOf (intKind prog w) kvs ∧ kvs.length ≤ i ∧
        (∀ z ∈ ns.take i, ∃ t, valueAt kvs z = some (.str (c z) t)) ∧ News h₀ L h' ((H2.objs.size, oC) :: (g.objs.size, oD) :: news)) ?_ (vs.length + 1)
      ⟨h₁, _, 0, [], _, _, _, e₃, Nat.zero_le _, rfl, hst₁, FI.keeps old, hdC₁, hdD₁, Nat.le_refl _, fun z hz => by simp at hz, N₁⟩
    rintro k s' ⟨h', tk, i, kvs, oC, oD, mC, rfl, hil, rfl, hst', F', hoC, hoD, hkl, hJ, N'⟩
    by_cases hlt' : i < vs.length
    · refine W.item i _ _ _ (by simpa using hlt') hst' fun v h₂ tk₂ hPv hst₂ hk₂ => ?_
      obtain ⟨z, t, hz, rfl⟩ : ∃ z t, ns[i]? = some z ∧ v = .int z t := by
        obtain ⟨z, hz, ha⟩ := hi.areOf.get i v (by simpa using hPv)
        obtain ⟨t, rfl⟩ := ItemKind.int_is ha
        exact ⟨z, t, hz, rfl⟩
      have N₂ : News h₀ L h₂ ((H2.objs.size, oC) :: (g.objs.size, oD) :: news) := news_but N' hk₂ fun p hp => by
        rcases List.mem_cons.mp hp with rfl | hp
        · exact Ne.symm bI.1
        rcases List.mem_cons.mp hp with rfl | hp
        · exact Ne.symm bI.2
        · exact (offN p hp).1
      have F₂ := fr_but F' hk₂ hIL hI₀
      refine wpAny_assign_Name (wpAny_storeName_local (lookup_relabel_local hx) (hoC.ns (N₂ _ (.head _)).1) (fun h₃ hn₃ hs₃ => ?_) (by rw [hk]; rfl))
      refine wpAny_tests_nil ?_
      simp only [if_true]
      refine wpAny_Name (wpAny_loadName_local hk (lookup_relabel_local hx) hn₃ (v := .int z t) (by simp) ?_) hd
      have hst₃ := W.frame _ _ _ hst₂ fun b hb o e => hs₃.extBut b o (hfp b hb).1 e
      obtain ⟨oI, heI, hoI⟩ := hst₃.1
      obtain ⟨oC₃, heC, hoC₃⟩ := ns_obj hn₃
      have F₃ : Fr h₀ L h₃ m := F₂.change hs₃ (Ne.symm bL.1) hC₀
      have N₃ : News h₀ L h₃ ((I, oI) :: (H2.objs.size, oC₃) :: (g.objs.size, oD) :: news) := fun p hp => by
        rcases List.mem_cons.mp hp with rfl | hp
        · exact ⟨heI, Ne.symm hIL, hI₀⟩
        rcases List.mem_cons.mp hp with rfl | hp
        · exact ⟨heC, Ne.symm bL.1, hC₀⟩
        rcases List.mem_cons.mp hp with rfl | hp
        · exact ⟨hs₃.extBut _ _ hDC (N₂ _ (.tail _ (.head _))).1, (N₂ _ (.tail _ (.head _))).2⟩
        · exact ⟨hs₃.extBut _ _ (offN p hp).2.1 (N₂ _ (.tail _ (.tail _ hp))).1, (N₂ _ (.tail _ (.tail _ hp))).2⟩
      refine wpAny_mono (turn z t I oI H2.objs.size oC₃ g.objs.size oD _ h₃ _ _ (List.mem_of_getElem? hz) hoC₃ (by simp) F₃ N₃ ⟨bI.1, bI.2, Ne.symm hDC⟩) (fun y s₄ h₄ => ?_) fun _ _ e => e
      obtain ⟨h₄, tk₄, t₄, rfl, F₄, N₄, rfl⟩ := h₄
      have zD := (N₄ _ (.tail _ (.tail _ (.head _)))).1
      have hacc₄ : h₄.DictOf (intKind prog w) g.objs.size kvs := Heap.dictOf_iff.mpr ⟨oD, zD, hoD⟩
      refine wpAny_dictSet_pairs (hsz := Nat.le_trans hkl (Nat.le_trans hil (by rw [hvn]; exact Nat.le_trans hsz (by decide)))) (k := z) (intKind_is prog w z t) hacc₄ fun h₅ hl₅ hs₅ => ?_
      obtain ⟨oD₅, heD₅, hdD₅⟩ := Heap.dictOf_iff.mp hl₅
      have zI := (N₄ _ (.head _)).1
      have zl := (N₄ _ (.tail _ (.tail _ (.tail _ hm)))).1
      have hst₄ : h₄.IsTupleIter I l (i + 1) ∧ h₄.IsTuple l vs.toArray := ⟨⟨oI, zI, hoI⟩, ⟨_, zl, rfl, _, rfl⟩⟩
      refine ⟨vs.length + 1 - (i + 1), by omega, h₅, _, i + 1, stored kvs z (.str (c z) t₄), oC₃, oD₅, _, rfl, hlt', rfl, W.frame _ _ _ hst₄ fun b hb o e => hs₅.extBut b o (hfp b hb).2 e, F₄.change hs₅ (Ne.symm bL.2) hD₀, hoC₃, hdD₅, ?_, ?_, ?_⟩
      · have := stored_length_le kvs z (.str (c z) t₄)
        omega
      · intro z' hz'
        rw [valueAt_stored]
        by_cases e : z' = z
        · subst e; exact ⟨t₄, if_pos rfl⟩
        · rw [if_neg e]
          rw [List.take_add_one, hz, List.mem_append] at hz'
          rcases hz' with hz' | hz'
          · exact hJ z' hz'
          · simp at hz'; exact absurd hz' e
      · intro p hp
        rcases List.mem_cons.mp hp with rfl | hp
        · exact ⟨hs₅.extBut _ _ (Ne.symm hDC) (N₄ _ (.tail _ (.head _))).1, (N₄ _ (.tail _ (.head _))).2⟩
        rcases List.mem_cons.mp hp with rfl | hp
        · exact ⟨heD₅, Ne.symm bL.2, hD₀⟩
        · exact ⟨hs₅.extBut _ _ (offN p hp).2.2 (N₄ _ (.tail _ (.tail _ (.tail _ hp)))).1, (N₄ _ (.tail _ (.tail _ (.tail _ hp)))).2⟩
    · obtain rfl : i = vs.length := Nat.le_antisymm hil (Nat.not_lt.mp hlt')
      refine W.done _ _ _ (by simpa using hst') fun h₂ tk₂ hk₂ => ?_
      have N₂ : News h₀ L h₂ ((H2.objs.size, oC) :: (g.objs.size, oD) :: news) := news_but N' hk₂ fun p hp => by
        rcases List.mem_cons.mp hp with rfl | hp
        · exact Ne.symm bI.1
        rcases List.mem_cons.mp hp with rfl | hp
        · exact Ne.symm bI.2
        · exact (offN p hp).1
      refine hRR _ _ h₂ tk₂ mC oD kvs (fr_but F' hk₂ hIL hI₀) (fun p hp => N₂ p (.tail _ hp)) hoD (fun z hz => hJ z ?_) (hoC.ns (N₂ _ (.head _)).1) hC₀ (Ne.symm bL.1) (Ne.symm hDC) fun p hp => (offN p hp).2.1
      rw [List.take_of_length_le (Nat.le_of_eq hvn.symm)]
      exact hz
  exact codeAny_compStart_dict (loop _ rfl) (W.self 0 _ _ _ hst₁ (loop _ rfl))
theorem DictComp_ints {vx iter : Expr} {x : Str} {px pk : Pos} {scope : Scope} {cl : List (Str × Addr)} {pos : Pos} {Q : Value → Shared → Prop} (_ : Fr h₀ L s.heap m)
    (hclos : closureFor scope env = pure cl) (hcell : ∀ y ∈ scope.names, y.2 ≠ .cell) (hkind : scope.kind = .function)
    (hnames : ∀ y ∈ scope.names, y.2 = .local → scope.names.lookup y.1 = some .local) (hx : scope.names.lookup x = some .local) (hd : (x == ("__debug__" : Str)) = false)
    (h : wpAny (model prog w) A (eval iter env) (SrcDic prog w A h₀ L m env vx x scope cl Q) E s)
    (hs : ∀ x, foldedSetIterable iter env x = pure x) :
    wpAny (model prog w) A (eval (.DictComp (.Name x pk) vx [⟨.Name x px, iter, [], 0⟩] scope pos) env) Q E s := by
  rw [arm_eval_DictComp]
  refine wpAny_comprehension_free (use := none) rfl hs hclos hkind hnames (wpAny_mono h (fun xv s₁ h₁ => ?_) fun _ _ e => e)
  obtain ⟨l, vs, ns, kk, news, c, rfl, hh, F, N, hm, hi, hsz, turn, fin⟩ := h₁
  refine block_dic hcell hkind hx hd hh F N hm hi hsz turn ?_
  intro D C h' tk m' oD kvs F' N' hdD hv hn hC₀ hCL hCD offC
  refine ⟨m', hn, fun h'' hs'' => fin D oD kvs h'' tk (F'.change hs'' hCL hC₀) (fun p hp => ?_) hdD hv⟩
  refine ⟨hs''.extBut _ _ ?_ (N' p hp).1, (N' p hp).2⟩
  rcases List.mem_cons.mp hp with rfl | hp
  · exact Ne.symm hCD
  · exact offC p hp
end
end
-- part LQ
section
open PySem PySem.W PyProof.Rows
set_option maxRecDepth 100000
set_option maxHeartbeats 8000000
variable {w : World} {p : Program} {loose : List Str} {mean : ExcName → Option Value} {mg mb : Str → Option Value}

theorem turn_keeps {g g' : Heap} (T : KtsTurn [] g g') : ∀ b o, g.get? b = some o → g'.get? b = some o := fun b o e => T.other b o e (by simp)
section
variable {dp un : Nat} {gd : Option (List Code)} {env : Env} {A₀ : Around} {base h₀ : Heap} {L : Addr} {m : Str → Option Value} {s : Shared} {Q E : Value → Shared → Prop} {news led : List (Addr × Obj)}
/-- a call by the law itself of what may catch an exception beneath: the ground is the old one again -/
theorem keptL_use {need : Nat} {f : Addr} {vs : List Value} {R : MTok → Value} (G : GivesS w p loose mean mg mb need f vs led R) (B : Below A₀ base [] h₀) (F : Fr h₀ L s.heap m) (X : (K w.params).In h₀) (N : News h₀ L s.heap news) (sub : ∀ q ∈ led, q ∈ news) (T : Top p loose mean mg mb h₀) (XB : (K w.params).In base) (TB : Top p loose mean mg mb base)
    (hf : env.frame = some L) (hk : env.scope.kind = .function) (hd : dp + need < recursionLimit) (hu : un + 8 * need < cLine)
    (ret : ∀ t h' tk', Fr h₀ L h' m → News h₀ L h' led → Q (R t) { s with heap := h', toks := tk' }) :
    wpAny (model PySem.Challenge.pw_ku0005_01 w) (topA dp un gd env []) (call (.ref f) vs) Q E s :=
  G dp un gd env [] A₀ base h₀ h₀ L m s Q E B F X (kst_newsOf N sub) T XB TB ktsDicts_nil KtsTurn.refl hf hk hd hu fun t h' tk' h₁ T' F' N' _ _ _ _ =>
    ret t h' tk' ⟨F'.ns, fun b o e => F'.keep b o (turn_keeps T' b o e), F.above⟩ fun q hq => ⟨(N' q hq).1, (N' q hq).2.1, (N _ (sub q hq)).2.2⟩
end
theorem codesIn_of {o : Obj} {kvs : List (Int × Value)} {c : Int → Str} {ns : List Int} (h : o.IsDictOf (intKind PySem.Challenge.pw_ku0005_01 w) kvs) (hv : ∀ i ∈ ns, ∃ t, valueAt kvs i = some (.str (c i) t)) (hl : ∀ i ∈ ns, (c i).length ≤ 3) : CodesIn w o c ns := ⟨kvs, h, fun i hi => ⟨hl i hi, hv i hi⟩⟩
theorem word_codes {ns : List Int} (h : Octets ns) : codeW (ns.map Int.toNat) = wordC codeS ns := by
  unfold codeW wordC
  rw [List.flatMap_map]
  congr 2
  have key : ∀ l : List Int, Octets l → l.flatMap (fun a => (codeS (a.toNat : Int)).cps.toList) = l.flatMap fun i => (codeS i).cps.toList := by
    intro l
    induction l with
    | nil => intro _; rfl
    | cons a r ih =>
      intro h
      have ha := h a (.head _)
      rw [List.flatMap_cons, List.flatMap_cons, ih fun z hz => h z (.tail _ hz), Int.toNat_of_nonneg ha.1]
  exact key ns h
theorem writeW {nm : Str} {oc : List Int} (h : nm.length < 20) : WriteOk w p loose mean mg mb 149 nm codeS oc := fun a vs k ns t news hi hr => by
  have := word_gives (w := w) (p := p) (loose := loose) (mean := mean) (mg := mg) (mb := mb) a vs k ns hi hr.1 hr.2.1 (Nat.lt_of_le_of_lt hr.2.2.1 (by decide)) nm h t news
  rw [word_codes hr.1] at this
  exact this
theorem writeQ {nm : Str} {oc : List Int} : WriteOk w p loose mean mg mb 156 nm escS oc := fun a vs k ns t news hi hr =>
  quoted_gives (w := w) (p := p) (loose := loose) (mean := mean) (mg := mg) (mb := mb) a vs k ns hi hr.1 hr.2.1 (Nat.lt_of_le_of_lt hr.2.2.1 (by decide)) nm t news
theorem truthy_nob {prog : Program} {A : Around} {E : Value → Shared → Prop} {s : Shared} {t : MTok} {Q : Bool → Shared → Prop} (h : ∀ k, Q false { s with toks := k }) : wpAny (model prog w) A (PySem.truthy (.bytes #[] t)) Q E s :=
  KBw.truthy_K (ks := []) rfl (by decide) (h _)
theorem header0_gives (x : Str) (t u : MTok) (news) : GivesV w p loose mean mg mb 1 52 [.bytes #[] t, .str x u] news (fun t => .str (Str.ofString "") t) := by
  intro dp un gd env outer A₀ base h₀ L m s Q E B F X N T hf hk hd hu hret
  refine wpAny_call ?_
  k_dflt cell_enter
  repeat' (first
    | ((with_reducible show wpAny _ _ (PySem.exec _ _) _ _ _); k_fold)
    | ((with_reducible show wpAny _ _ (PySem.execs _ _) _ _ _); k_fold)
    | ((with_reducible show wpAny _ _ (PySem.execs _ _) _ _ _); dsimp only)
    | ((with_reducible show wpAny _ _ (PySem.truthy (Value.bytes _ _)) _ _ _); first | with_reducible ((with_reducible refine truthy_nob ?_); intro t9; (try dsimp only)) | ((with_reducible refine truthy_nob ?_); intro t9; (try dsimp only)))
    | (k_unfold; (try dsimp only)) | (k_end; wrow_close) | walk1 | (dsimp only; walk1) | (leave1; try dsimp only) | fail "no step")
  (refine' cb_retS hret ?e1 ?e2 ?e3; (case e2 => k_asm); (case e3 => k_asm); (case e1 => (rfl)))
end
-- part L1
section
open PySem PySem.W PyProof.Rows
set_option maxRecDepth 100000
set_option maxHeartbeats 8000000
variable {w : World} {p : Program} {loose : List Str} {mean : ExcName → Option Value} {mg mb : Str → Option Value}

theorem oct_two {a b z : Int} (h : z ∈ [a, b]) (oa : Oct a) (ob : Oct b) : Oct z := by
  simp only [List.mem_cons, List.not_mem_nil, or_false] at h
  rcases h with rfl | rfl <;> assumption
theorem code_two {a b : Int} (oa : Oct a) (ob : Oct b) : ∀ i ∈ [a, b], (codeS i).length ≤ 3 := fun i hi => by
  obtain ⟨n, hn, rfl⟩ := (oct_two hi oa ob).nat
  exact code_len n hn
theorem esc_two {a b : Int} : ∀ i ∈ [a, b], (escS i).length ≤ 3 := fun _ _ => Nat.le_refl _
section
variable {A : Around} {E : Value → Shared → Prop} {s : Shared} {h₀ : Heap} {L : Addr} {m : Str → Option Value} {env : Env}
theorem srcDic_mk {vx : PySem.Expr} {x : Str} {scope : Scope} {cl : List (Str × Addr)} {Q : Value → Shared → Prop} {l : Addr} {kk : Nat} {news : List (Addr × Obj)} {a b : Int} {ta tb : MTok} (c : Int → Str) (hl : ∀ i ∈ [a, b], (c i).length ≤ 3)
    (hh : A.handled = none) (F : Fr h₀ L s.heap m) (N : News h₀ L s.heap news) (hm : (l, tupO [.int a ta, .int b tb] kk) ∈ news)
    (turn : ∀ z t I oI C oC D oD m₂ h tk (E' : Value → Shared → Prop), z ∈ [a, b] → LCg.NsObj oC m₂ → m₂ x = some (.int z t) → Fr h₀ L h m → News h₀ L h ((I, oI) :: (C, oC) :: (D, oD) :: news) → ((@Ne Nat I C) ∧ (@Ne Nat I D) ∧ (@Ne Nat C D)) →
      wpAny (model PySem.Challenge.pw_ku0005_01 w) A (eval vx (compEnvC scope cl C env)) (CodeEnd h₀ L m { s with heap := h, toks := tk } I oI C oC D oD news (c z)) E' { s with heap := h, toks := tk })
    (fin : ∀ D oD h tk, Fr h₀ L h m → News h₀ L h ((D, oD) :: news) → CodesIn w oD c [a, b] → Q (.ref D) { s with heap := h, toks := tk }) : SrcDic PySem.Challenge.pw_ku0005_01 w A h₀ L m env vx x scope cl Q (.ref l) s :=
  ⟨l, _, [a, b], kk, news, c, rfl, hh, F, N, hm, .cons _ _ (.cons _ _ .nil), by show 2 ≤ 1000; decide, turn, fun D oD kvs h tk F' N' hd hv => fin D oD h tk F' N' (codesIn_of hd hv hl)⟩
end
noncomputable def tops : List (Str × Value) → (Str → Option Value) → Str → Option Value
  | [], m => m
  | p :: r, m => fun z => if z = p.1 then some p.2 else tops r m z
theorem tops_eq {m : Str → Option Value} : ∀ l : List (Str × Value), (∀ p ∈ l, m p.1 = some p.2) → tops l m = m
  | [], _ => rfl
  | p :: r, h => by
    funext z
    show (if z = p.1 then some p.2 else tops r m z) = m z
    rw [tops_eq r fun q hq => h q (.tail _ hq)]
    by_cases hz : z = p.1
    · rw [if_pos hz, hz, h p (.head _)]
    · rw [if_neg hz]
theorem fr_tops {h₀ h : Heap} {L : Addr} {m : Str → Option Value} (l : List (Str × Value)) (F : Fr h₀ L h m) (e : ∀ p ∈ l, m p.1 = some p.2) : Fr h₀ L h (tops l m) := by
  rw [tops_eq l e]
  exact F
theorem seg_G {dp un : Nat} {gd : Option (List Code)} {A₀ : Around} {base h₀ h : Heap} {L fa cdv : Addr} {m : Str → Option Value} {tk : Nat} {s : Shared} {PF : Flow → Shared → Prop} {EE : Value → Shared → Prop}
    (rw : Addr) (kk : Nat) (nm : Str) (tn : MTok) (hnm : nm.length < 20) (a b : Int) (ta tb : MTok) (oa : Oct a) (ob : Oct b) (a0 : Addr) (v0 : List Value) (k0 : Nat) (n0 : List Int) (h0 : IntsAre v0 n0) (rC0 : RowOk codeS [a, b] n0) (rE0 : RowOk escS [a, b] n0) (a1 : Addr) (v1 : List Value) (k1 : Nat) (n1 : List Int) (h1 : IntsAre v1 n1) (rC1 : RowOk codeS [a, b] n1) (rE1 : RowOk escS [a, b] n1) (a2 : Addr) (v2 : List Value) (k2 : Nat) (n2 : List Int) (h2 : IntsAre v2 n2) (rC2 : RowOk codeS [a, b] n2) (rE2 : RowOk escS [a, b] n2) (a3 : Addr) (v3 : List Value) (k3 : Nat) (n3 : List Int) (h3 : IntsAre v3 n3) (rC3 : RowOk codeS [a, b] n3) (rE3 : RowOk escS [a, b] n3) (a4 : Addr) (v4 : List Value) (k4 : Nat) (n4 : List Int) (h4 : IntsAre v4 n4) (rC4 : RowOk codeS [a, b] n4) (rE4 : RowOk escS [a, b] n4) (a5 : Addr) (v5 : List Value) (k5 : Nat) (n5 : List Int) (h5 : IntsAre v5 n5) (rC5 : RowOk codeS [a, b] n5) (rE5 : RowOk escS [a, b] n5)
    (KC : KeptOk codeS n0 n1 n2 n3 n4 n5) (KE : KeptOk escS n0 n1 n2 n3 n4 n5) (DC : DecOk codeS [a, b]) (DE : DecOk escS [a, b])
    (B : Below A₀ base [] h₀) (F : Fr h₀ L h m) (X : (K w.params).In h₀) (T : Top p loose mean mg mb h₀) (XB : (K w.params).In base) (TB : Top p loose mean mg mb base) (N : News h₀ L h ((rw, listOf ([.ref a0, .ref a1, .ref a2, .ref a3, .ref a4, .ref a5] : List Value).toArray kk) :: (a0, listOf v0.toArray k0) :: (a1, listOf v1.toArray k1) :: (a2, listOf v2.toArray k2) :: (a3, listOf v3.toArray k3) :: (a4, listOf v4.toArray k4) :: (a5, listOf v5.toArray k5) :: []))
    (e_rows : m (Str.ofString "rows") = some (.ref rw)) (e_name : m (Str.ofString "name") = some (.str nm tn)) (e_octet : m (Str.ofString "octet") = some (.int a ta)) (e_other : m (Str.ofString "other") = some (.int b tb))
    (hd : dp + 40 < recursionLimit) (hu : un + 8 * 40 < cLine) (hE : PassesOwn (model PySem.Challenge.pw_ku0005_01 w) (topA dp un gd (envOfC (Str.ofString "law") (fdS 40) L fa (Value.ref cdv)) []) (envOfC (Str.ofString "law") (fdS 40) L fa (Value.ref cdv)) EE)
    (hQ : ∀ h' tk' m' news', Fr h₀ L h' m' → News h₀ L h' news' → PF (.ret (.bool true)) { s with heap := h', toks := tk' }) :
    wpAny (model PySem.Challenge.pw_ku0005_01 w) (topA dp un gd (envOfC (Str.ofString "law") (fdS 40) L fa (Value.ref cdv)) []) (execs ((fdB 40).drop 14) (envOfC (Str.ofString "law") (fdS 40) L fa (Value.ref cdv))) PF EE { s with heap := h, toks := tk } := by
  replace F := fr_tops [(Str.ofString "rows", .ref rw), (Str.ofString "name", .str nm tn), (Str.ofString "octet", .int a ta), (Str.ofString "other", .int b tb)] F (List.forall_mem_cons.mpr ⟨e_rows, List.forall_mem_cons.mpr ⟨e_name, List.forall_mem_cons.mpr ⟨e_octet, List.forall_mem_cons.mpr ⟨e_other, List.forall_mem_nil _⟩⟩⟩⟩)
  dsimp only [tops] at F
  clear e_rows e_name e_octet e_other
  show wpAny _ _ (execs (List.cons _ _) _) _ _ _
  repeat' (first
    | ((with_reducible show wpAny _ _ (PySem.exec _ _) _ _ _); k_fold)
    | ((with_reducible show wpAny _ _ (PySem.execs _ _) _ _ _); k_fold)
    | ((with_reducible show wpAny _ _ (PySem.execs _ _) _ _ _); dsimp only)
    | ((with_reducible show wpAny _ _ (call (Value.ref 185) [Value.ref _, Value.str _ _, Value.ref 156, Value.ref _]) _ _ _); first | with_reducible ((k_dflt ((with_unfolding_all (refine' keptL_use (kept156_gives _ _ _ _ escS _ ?khc ?khD _ _ _ _ ?kh0 ?kr0 _ _ _ _ ?kh1 ?kr1 _ _ _ _ ?kh2 ?kr2 _ _ _ _ ?kh3 ?kr3 _ _ _ _ ?kh4 ?kr4 _ _ _ _ ?kh5 ?kr5 _ _ ?khW ?khK) ?kB ?kF ?kX ?kN ?ksub ?kT ?kXB ?kTB ?kf ?kk ?kd ?ku ?_)); (case kN => k_asm); (case kF => k_asm); (case kB => k_asm); (case kX => k_asm); (case kT => k_asm); (case kXB => assumption); (case kTB => assumption); (case kf => first | exact rfl | assumption); (case kk => first | exact rfl | assumption); (case kd => first | omega | ktr_room); (case ku => first | omega | ktr_units); (case khK => assumption); (case khc => assumption); (case khD => assumption); (case khW => exact writeQ); (case ksub => (repeat' (first | exact List.forall_mem_nil _ | refine List.forall_mem_cons.mpr ⟨by with_unfolding_all k_mem, ?_⟩))); (case kh0 => assumption); (case kr0 => assumption); (case kh1 => assumption); (case kr1 => assumption); (case kh2 => assumption); (case kr2 => assumption); (case kh3 => assumption); (case kr3 => assumption); (case kh4 => assumption); (case kr4 => assumption); (case kh5 => assumption); (case kr5 => assumption); k_whole); intro t9 h9 tk9 F9 N9; (try dsimp only); (try k_fold))) | ((k_dflt ((with_unfolding_all (refine' keptL_use (kept156_gives _ _ _ _ escS _ ?khc ?khD _ _ _ _ ?kh0 ?kr0 _ _ _ _ ?kh1 ?kr1 _ _ _ _ ?kh2 ?kr2 _ _ _ _ ?kh3 ?kr3 _ _ _ _ ?kh4 ?kr4 _ _ _ _ ?kh5 ?kr5 _ _ ?khW ?khK) ?kB ?kF ?kX ?kN ?ksub ?kT ?kXB ?kTB ?kf ?kk ?kd ?ku ?_)); (case kN => k_asm); (case kF => k_asm); (case kB => k_asm); (case kX => k_asm); (case kT => k_asm); (case kXB => assumption); (case kTB => assumption); (case kf => first | exact rfl | assumption); (case kk => first | exact rfl | assumption); (case kd => first | omega | ktr_room); (case ku => first | omega | ktr_units); (case khK => assumption); (case khc => assumption); (case khD => assumption); (case khW => exact writeQ); (case ksub => (repeat' (first | exact List.forall_mem_nil _ | refine List.forall_mem_cons.mpr ⟨by with_unfolding_all k_mem, ?_⟩))); (case kh0 => assumption); (case kr0 => assumption); (case kh1 => assumption); (case kr1 => assumption); (case kh2 => assumption); (case kr2 => assumption); (case kh3 => assumption); (case kr3 => assumption); (case kh4 => assumption); (case kr4 => assumption); (case kh5 => assumption); (case kr5 => assumption); k_whole); intro t9 h9 tk9 F9 N9; (try dsimp only); (try k_fold))))
    | ((with_reducible show wpAny _ _ (call (Value.ref 185) [Value.ref _, Value.str _ _, Value.ref 149, Value.ref _]) _ _ _); first | with_reducible ((k_dflt ((with_unfolding_all (refine' keptL_use (kept149_gives _ _ _ _ codeS _ ?khc ?khD _ _ _ _ ?kh0 ?kr0 _ _ _ _ ?kh1 ?kr1 _ _ _ _ ?kh2 ?kr2 _ _ _ _ ?kh3 ?kr3 _ _ _ _ ?kh4 ?kr4 _ _ _ _ ?kh5 ?kr5 _ _ ?khW ?khK) ?kB ?kF ?kX ?kN ?ksub ?kT ?kXB ?kTB ?kf ?kk ?kd ?ku ?_)); (case kN => k_asm); (case kF => k_asm); (case kB => k_asm); (case kX => k_asm); (case kT => k_asm); (case kXB => assumption); (case kTB => assumption); (case kf => first | exact rfl | assumption); (case kk => first | exact rfl | assumption); (case kd => first | omega | ktr_room); (case ku => first | omega | ktr_units); (case khK => assumption); (case khc => assumption); (case khD => assumption); (case khW => exact writeW (by assumption)); (case ksub => (repeat' (first | exact List.forall_mem_nil _ | refine List.forall_mem_cons.mpr ⟨by with_unfolding_all k_mem, ?_⟩))); (case kh0 => assumption); (case kr0 => assumption); (case kh1 => assumption); (case kr1 => assumption); (case kh2 => assumption); (case kr2 => assumption); (case kh3 => assumption); (case kr3 => assumption); (case kh4 => assumption); (case kr4 => assumption); (case kh5 => assumption); (case kr5 => assumption); k_whole); intro t9 h9 tk9 F9 N9; (try dsimp only); (try k_fold))) | ((k_dflt ((with_unfolding_all (refine' keptL_use (kept149_gives _ _ _ _ codeS _ ?khc ?khD _ _ _ _ ?kh0 ?kr0 _ _ _ _ ?kh1 ?kr1 _ _ _ _ ?kh2 ?kr2 _ _ _ _ ?kh3 ?kr3 _ _ _ _ ?kh4 ?kr4 _ _ _ _ ?kh5 ?kr5 _ _ ?khW ?khK) ?kB ?kF ?kX ?kN ?ksub ?kT ?kXB ?kTB ?kf ?kk ?kd ?ku ?_)); (case kN => k_asm); (case kF => k_asm); (case kB => k_asm); (case kX => k_asm); (case kT => k_asm); (case kXB => assumption); (case kTB => assumption); (case kf => first | exact rfl | assumption); (case kk => first | exact rfl | assumption); (case kd => first | omega | ktr_room); (case ku => first | omega | ktr_units); (case khK => assumption); (case khc => assumption); (case khD => assumption); (case khW => exact writeW (by assumption)); (case ksub => (repeat' (first | exact List.forall_mem_nil _ | refine List.forall_mem_cons.mpr ⟨by with_unfolding_all k_mem, ?_⟩))); (case kh0 => assumption); (case kr0 => assumption); (case kh1 => assumption); (case kr1 => assumption); (case kh2 => assumption); (case kr2 => assumption); (case kh3 => assumption); (case kr3 => assumption); (case kh4 => assumption); (case kr4 => assumption); (case kh5 => assumption); (case kr5 => assumption); k_whole); intro t9 h9 tk9 F9 N9; (try dsimp only); (try k_fold))))
    | ((with_reducible show CodeEnd _ _ _ _ _ _ _ _ _ _ _ _ _ _); first | with_reducible (((refine' CodeEnd.mk ?ce1 ?ce2 ?ce3); (case ce1 => k_asm); (case ce2 => k_asm); (case ce3 => kcf_all))) | (((refine' CodeEnd.mk ?ce1 ?ce2 ?ce3); (case ce1 => k_asm); (case ce2 => k_asm); (case ce3 => kcf_all))))
    | ((with_reducible show SrcDic _ _ _ _ _ _ _ (PySem.Expr.Call (PySem.Expr.Name (PySem.Str.ofString "_law_escape") _) _ _ _) _ _ _ _ _ _); first | with_reducible (((refine' srcDic_mk escS ?sd1 ?sd2 ?sd3 ?sd4 ?sd5 ?_ ?_); (case sd2 => with_unfolding_all rfl); (case sd3 => k_asm); (case sd4 => k_asm); (case sd5 => with_unfolding_all k_mem); (case sd1 => exact esc_two); rotate_left; (intro D9 oD9 h9 tk9 F9 N9 hc9; (try dsimp only)); rotate_left; (intro z9 t9 I9 oI9 C9 oC9 D9 oD9 m9 h9 tk9 E9 hz9 hC9 hx9 F9 N9 ne9))) | (((refine' srcDic_mk escS ?sd1 ?sd2 ?sd3 ?sd4 ?sd5 ?_ ?_); (case sd2 => with_unfolding_all rfl); (case sd3 => k_asm); (case sd4 => k_asm); (case sd5 => with_unfolding_all k_mem); (case sd1 => exact esc_two); rotate_left; (intro D9 oD9 h9 tk9 F9 N9 hc9; (try dsimp only)); rotate_left; (intro z9 t9 I9 oI9 C9 oC9 D9 oD9 m9 h9 tk9 E9 hz9 hC9 hx9 F9 N9 ne9))))
    | ((with_reducible show SrcDic _ _ _ _ _ _ _ (PySem.Expr.Call (PySem.Expr.Name (PySem.Str.ofString "_law_code") _) _ _ _) _ _ _ _ _ _); first | with_reducible (((refine' srcDic_mk codeS ?sd1 ?sd2 ?sd3 ?sd4 ?sd5 ?_ ?_); (case sd2 => with_unfolding_all rfl); (case sd3 => k_asm); (case sd4 => k_asm); (case sd5 => with_unfolding_all k_mem); (case sd1 => exact code_two (by assumption) (by assumption)); rotate_left; (intro D9 oD9 h9 tk9 F9 N9 hc9; (try dsimp only)); rotate_left; (intro z9 t9 I9 oI9 C9 oC9 D9 oD9 m9 h9 tk9 E9 hz9 hC9 hx9 F9 N9 ne9))) | (((refine' srcDic_mk codeS ?sd1 ?sd2 ?sd3 ?sd4 ?sd5 ?_ ?_); (case sd2 => with_unfolding_all rfl); (case sd3 => k_asm); (case sd4 => k_asm); (case sd5 => with_unfolding_all k_mem); (case sd1 => exact code_two (by assumption) (by assumption)); rotate_left; (intro D9 oD9 h9 tk9 F9 N9 hc9; (try dsimp only)); rotate_left; (intro z9 t9 I9 oI9 C9 oC9 D9 oD9 m9 h9 tk9 E9 hz9 hC9 hx9 F9 N9 ne9))))
    | ((with_reducible show wpAny _ _ (PySem.eval (PySem.Expr.DictComp _ _ _ _ _) _) _ _ _); first | with_reducible (((refine' DictComp_ints ?dc0 ?dc1 ?dc2 ?dc3 ?dc4 ?dc5 ?dc6 ?_ ?dc7); (case dc0 => k_asm); (case dc1 => with_unfolding_all rfl); (case dc2 => decide +kernel); (case dc3 => with_unfolding_all rfl); (case dc4 => decide +kernel); (case dc5 => with_unfolding_all rfl); (case dc6 => decide +kernel); (case dc7 => (intro _; with_unfolding_all rfl)))) | (((refine' DictComp_ints ?dc0 ?dc1 ?dc2 ?dc3 ?dc4 ?dc5 ?dc6 ?_ ?dc7); (case dc0 => k_asm); (case dc1 => with_unfolding_all rfl); (case dc2 => decide +kernel); (case dc3 => with_unfolding_all rfl); (case dc4 => decide +kernel); (case dc5 => with_unfolding_all rfl); (case dc6 => decide +kernel); (case dc7 => (intro _; with_unfolding_all rfl)))))
    | ((with_reducible show wpAny _ _ (call (Value.ref 135) _) _ _ _); first | with_reducible ((k_dflt (refine' GivesV.use (escape_gives _ ?co _ _) ?k1x135 ?k2x135 ?k3x135 ?k4x135 ?k5x135 ?kfx135 ?kKx135 ?kdx135 ?kux135 ?_; (case co => exact oct_two (by assumption) (by assumption) (by assumption)); (case k1x135 => k_asm); (case k2x135 => k_asm); (case k3x135 => k_asm); (case k4x135 => k_asm); (case k5x135 => k_asm); (case kfx135 => first | exact rfl | assumption); (case kKx135 => first | exact rfl | assumption); (case kdx135 => ktr_room); (case kux135 => ktr_units); k_whole); intro t9 h9 tk9 F9 N9; (try dsimp only); (try k_fold))) | ((k_dflt (refine' GivesV.use (escape_gives _ ?co _ _) ?k1x135 ?k2x135 ?k3x135 ?k4x135 ?k5x135 ?kfx135 ?kKx135 ?kdx135 ?kux135 ?_; (case co => exact oct_two (by assumption) (by assumption) (by assumption)); (case k1x135 => k_asm); (case k2x135 => k_asm); (case k3x135 => k_asm); (case k4x135 => k_asm); (case k5x135 => k_asm); (case kfx135 => first | exact rfl | assumption); (case kKx135 => first | exact rfl | assumption); (case kdx135 => ktr_room); (case kux135 => ktr_units); k_whole); intro t9 h9 tk9 F9 N9; (try dsimp only); (try k_fold))))
    | ((with_reducible show wpAny _ _ (call (Value.ref 142) _) _ _ _); first | with_reducible ((k_dflt (refine' GivesV.use (code_gives _ ?co _ _) ?k1x142 ?k2x142 ?k3x142 ?k4x142 ?k5x142 ?kfx142 ?kKx142 ?kdx142 ?kux142 ?_; (case co => exact oct_two (by assumption) (by assumption) (by assumption)); (case k1x142 => k_asm); (case k2x142 => k_asm); (case k3x142 => k_asm); (case k4x142 => k_asm); (case k5x142 => k_asm); (case kfx142 => first | exact rfl | assumption); (case kKx142 => first | exact rfl | assumption); (case kdx142 => ktr_room); (case kux142 => ktr_units); k_whole); intro t9 h9 tk9 F9 N9; (try dsimp only); (try k_fold))) | ((k_dflt (refine' GivesV.use (code_gives _ ?co _ _) ?k1x142 ?k2x142 ?k3x142 ?k4x142 ?k5x142 ?kfx142 ?kKx142 ?kdx142 ?kux142 ?_; (case co => exact oct_two (by assumption) (by assumption) (by assumption)); (case k1x142 => k_asm); (case k2x142 => k_asm); (case k3x142 => k_asm); (case k4x142 => k_asm); (case k5x142 => k_asm); (case kfx142 => first | exact rfl | assumption); (case kKx142 => first | exact rfl | assumption); (case kdx142 => ktr_room); (case kux142 => ktr_units); k_whole); intro t9 h9 tk9 F9 N9; (try dsimp only); (try k_fold))))
    | ((with_reducible show wpAny _ _ (call (Value.ref 52) [Value.bytes _ _, Value.str _ _]) _ _ _); first | with_reducible ((k_dflt (refine' GivesV.use (header0_gives _ _ _ _) ?k1x52 ?k2x52 ?k3x52 ?k4x52 ?k5x52 ?kfx52 ?kKx52 ?kdx52 ?kux52 ?_;  (case k1x52 => k_asm); (case k2x52 => k_asm); (case k3x52 => k_asm); (case k4x52 => k_asm); (case k5x52 => k_asm); (case kfx52 => first | exact rfl | assumption); (case kKx52 => first | exact rfl | assumption); (case kdx52 => ktr_room); (case kux52 => ktr_units); k_whole); intro t9 h9 tk9 F9 N9; (try dsimp only); (try k_fold))) | ((k_dflt (refine' GivesV.use (header0_gives _ _ _ _) ?k1x52 ?k2x52 ?k3x52 ?k4x52 ?k5x52 ?kfx52 ?kKx52 ?kdx52 ?kux52 ?_;  (case k1x52 => k_asm); (case k2x52 => k_asm); (case k3x52 => k_asm); (case k4x52 => k_asm); (case k5x52 => k_asm); (case kfx52 => first | exact rfl | assumption); (case kKx52 => first | exact rfl | assumption); (case kdx52 => ktr_room); (case kux52 => ktr_units); k_whole); intro t9 h9 tk9 F9 N9; (try dsimp only); (try k_fold))))
    | ((with_reducible show wpAny _ _ (PySem.call (Value.type "bytes") _) _ _ _); first | with_reducible (((refine' bytes_K (ns := []) (vs := []) ?bF ?bN ?bl .nil ?br ?bz ?bh ?_); (case bF => k_asm); (case bN => k_asm); (case bl => exact News.isList (by k_asm) (by with_unfolding_all k_mem)); (case br => exact List.forall_mem_nil _); (case bz => exact Nat.le_trans (Nat.le_of_eq rfl) (Nat.zero_le _)); (case bh => with_unfolding_all rfl)); intro h9 t9 k9 F9 N9 hB9; (try dsimp only [List.map])) | (((refine' bytes_K (ns := []) (vs := []) ?bF ?bN ?bl .nil ?br ?bz ?bh ?_); (case bF => k_asm); (case bN => k_asm); (case bl => exact News.isList (by k_asm) (by with_unfolding_all k_mem)); (case br => exact List.forall_mem_nil _); (case bz => exact Nat.le_trans (Nat.le_of_eq rfl) (Nat.zero_le _)); (case bh => with_unfolding_all rfl)); intro h9 t9 k9 F9 N9 hB9; (try dsimp only [List.map])))
    | (k_unfold; (try dsimp only)) | (k_end; wrow_close) | walk1 | (dsimp only; walk1) | (leave1; try dsimp only) | fail "no step")
  all_goals exact hQ _ _ _ _ (by assumption) (by assumption)
end
-- part G15
section
open PySem PySem.W PyProof.Rows PySem.Calls
set_option maxRecDepth 100000
set_option maxHeartbeats 2000000
open LCg
section
variable {prog : Program} {w : World} {A : Around} {E : Value → Shared → Prop} {s : Shared} {h₀ : Heap} {L : Addr} {m : Str → Option Value} {env : Env} {elt : Expr} {x : Str} {scope : Scope} {cl : List (Str × Addr)} {news : List (Addr × Obj)}
/-- a comprehension over a row of noughts and ones that picks one of two lists -/
theorem src_bits {Fin : Shared → List Value → List (Addr × Obj) → Prop} {l : Addr} {vs : List Value} {k : Nat} {bs : List Int} (R0 R1 : Row) (hh : A.handled = none) (F : Fr h₀ L s.heap m) (N : News h₀ L s.heap news) (hm : (l, listOf vs.toArray k) ∈ news) (hi : IntsAre vs bs) (hb : ∀ b ∈ bs, b = 0 ∨ b = 1) (hz : bs.length ≤ 1000)
    (fin : ∀ h (rws : List Row), (∀ r ∈ rws, r = R0 ∨ r = R1) → rws.length = bs.length → Fin { s with heap := h } (rws.map fun r => Value.ref r.a) news)
    (turn0 : ∀ t I oI C oC D m₂ ys h tk (E' : Value → Shared → Prop), NsObj oC m₂ → m₂ x = some (.int 0 t) → Fr h₀ L h m → News h₀ L h ((I, oI) :: (C, oC) :: (D, lst ys) :: news) → Off3 I C D news → ((@Ne Nat I C) ∧ (@Ne Nat I D) ∧ (@Ne Nat C D)) →
      wpAny (model prog w) A (eval elt (compEnvC scope cl C env)) (CompEnd h₀ L m { s with heap := h, toks := tk } I oI C oC D (lst ys) (fun _ => True) (fun y nw => nw = news ∧ y = .ref R0.a)) E' { s with heap := h, toks := tk })
    (turn1 : ∀ t I oI C oC D m₂ ys h tk (E' : Value → Shared → Prop), NsObj oC m₂ → m₂ x = some (.int 1 t) → Fr h₀ L h m → News h₀ L h ((I, oI) :: (C, oC) :: (D, lst ys) :: news) → Off3 I C D news → ((@Ne Nat I C) ∧ (@Ne Nat I D) ∧ (@Ne Nat C D)) →
      wpAny (model prog w) A (eval elt (compEnvC scope cl C env)) (CompEnd h₀ L m { s with heap := h, toks := tk } I oI C oC D (lst ys) (fun _ => True) (fun y nw => nw = news ∧ y = .ref R1.a)) E' { s with heap := h, toks := tk }) :
    CompSrc prog w A h₀ L m env elt x scope cl Fin (.ref l) s := by
  have hl : vs.toArray.size = bs.length := by simp [hi.length]
  refine CompSrc.ledger hh F N hm (by rw [hl]; exact Nat.le_trans hz (by decide)) fun h => comp_inv (fun i ys nw => nw = news ∧ ∃ rws : List Row, ys = rws.map (fun r => Value.ref r.a) ∧ (∀ r ∈ rws, r = R0 ∨ r = R1) ∧ rws.length = i) ⟨rfl, [], rfl, (fun _ h => nomatch h), rfl⟩ ?_ ?_
  · rintro ys nw ⟨rfl, rws, rfl, h1, h2⟩
    exact fin h rws h1 (h2.trans hl)
  · rintro i v I oI C oC D m₂ ys nw h' tk E' hlt hv ⟨rfl, rws, rfl, h1, h2⟩ hC hx F' N' off ne
    obtain ⟨z, hz', ha⟩ := hi.areOf.get i v (by simpa using hv)
    obtain ⟨t, rfl⟩ := ItemKind.int_is ha
    have hzb := hb z (List.mem_of_getElem? hz')
    have key : ∀ R : Row, (R = R0 ∨ R = R1) → ∀ y s₂, CompEnd h₀ L m { s with heap := h', toks := tk } I oI C oC D (lst (rws.map fun r => Value.ref r.a)) (fun _ => True) (fun y n' => n' = nw ∧ y = .ref R.a) y s₂ →
        CompEnd h₀ L m { s with heap := h', toks := tk } I oI C oC D (lst (rws.map fun r => Value.ref r.a)) (SrcAt h₀ l vs.toArray) (fun y n' => n' = nw ∧ ∃ rws' : List Row, rws.map (fun r => Value.ref r.a) ++ [y] = rws'.map (fun r => Value.ref r.a) ∧ (∀ r ∈ rws', r = R0 ∨ r = R1) ∧ rws'.length = i + 1) y s₂ := by
      rintro R hR y s₂ ⟨h₂, tk₂, nw', e, F₂, N₂, off₂, _, rfl, rfl⟩
      refine ⟨h₂, tk₂, _, e, F₂, N₂, off₂, .inr ⟨_, hm, rfl, _, rfl⟩, rfl, rws ++ [R], by rw [List.map_append]; rfl, ?_, by rw [List.length_append, h2]; rfl⟩
      intro r hr
      rcases List.mem_append.mp hr with hr | hr
      · exact h1 r hr
      · rw [List.mem_singleton.mp hr]; exact hR
    rcases hzb with rfl | rfl
    · exact wpAny_mono (turn0 t I oI C oC D m₂ _ h' tk E' hC hx F' N' off ne) (fun y s₂ hq => key R0 (.inl rfl) y s₂ hq) fun _ _ e => e
    · exact wpAny_mono (turn1 t I oI C oC D m₂ _ h' tk E' hC hx F' N' off ne) (fun y s₂ hq => key R1 (.inr rfl) y s₂ hq) fun _ _ e => e
theorem add_refs_L {l b : Addr} {vs ws : List Value} {k j : Nat} {Q : Value → Shared → Prop} (F : Fr h₀ L s.heap m) (N : News h₀ L s.heap news) (m1 : (l, listOf vs.toArray k) ∈ news) (m2 : (b, listOf ws.toArray j) ∈ news) (hz : vs.length + ws.length ≤ 1000)
    (h : ∀ D h', Fr h₀ L h' m → News h₀ L h' ((D, listOf (vs ++ ws).toArray 0) :: news) → (∀ p ∈ news, p.1 < D) → Q (.ref D) { s with heap := h' }) : wpAny (model prog w) A (binaryOp .Add (.ref l) (.ref b)) Q E s :=
  add_lists (vs := vs) (ws := ws) (hsz := Nat.le_trans hz (by decide)) F N (News.isList N m1) (News.isList N m2) fun h' F' N' => h _ h' F' N' fun p hp => Heap.lt_size (N p hp).1
theorem add_ints_L {l b : Addr} {vs ws : List Value} {ns ms : List Int} {k j : Nat} {Q : Value → Shared → Prop} (F : Fr h₀ L s.heap m) (N : News h₀ L s.heap news) (m1 : (l, listOf vs.toArray k) ∈ news) (m2 : (b, listOf ws.toArray j) ∈ news) (hi : IntsAre vs ns) (hj : IntsAre ws ms) (hz : ns.length + ms.length ≤ 1000)
    (h : ∀ D h', Fr h₀ L h' m → News h₀ L h' ((D, listOf (vs ++ ws).toArray 0) :: news) → IntsAre (vs ++ ws) (ns ++ ms) → (∀ p ∈ news, p.1 < D) → Q (.ref D) { s with heap := h' }) : wpAny (model prog w) A (binaryOp .Add (.ref l) (.ref b)) Q E s :=
  add_refs_L F N m1 m2 (by rw [hi.length, hj.length]; exact hz) fun D h' F' N' lt => h D h' F' N' (hi.append hj) lt
/-- a row, its rows between and the other row at the end -/
theorem src2_mk {Fin : Shared → List Value → List (Addr × Obj) → Prop} {l : Addr} {k : Nat} {rws : List Row} {A0 A1 R0 R1 : Row} (hh : A.handled = none) (F : Fr h₀ L s.heap m) (N : News h₀ L s.heap news) (hm : (l, listOf (([.ref A0.a] ++ rws.map fun r => Value.ref r.a) ++ [.ref A1.a] : List Value).toArray k) ∈ news)
    (hr : ∀ r ∈ rws, r = R0 ∨ r = R1) (ha : A0 = R0 ∧ A1 = R1 ∨ A0 = R1 ∧ A1 = R0) (m0 : (R0.a, listOf R0.vs.toArray R0.k) ∈ news) (m1 : (R1.a, listOf R1.vs.toArray R1.k) ∈ news) (i0 : IntsAre R0.vs R0.ns) (i1 : IntsAre R1.vs R1.ns) (l0 : R0.ns.length ≤ 10) (l1 : R1.ns.length ≤ 10) (hl : rws.length ≤ 2)
    (fin : ∀ ys (bs : List (List Int)), (∀ b ∈ bs, b = R0.ns ∨ b = R1.ns) → bs.length ≤ 2 → IntsAre ys (A0.ns ++ (bs.flatten ++ A1.ns)) → Fin s ys news) : Src2 A h₀ L m Fin (.ref l) s := by
  have a0 : A0 = R0 ∨ A0 = R1 := ha.elim (fun h => .inl h.1) fun h => .inr h.1
  have a1 : A1 = R0 ∨ A1 = R1 := ha.elim (fun h => .inr h.2) fun h => .inl h.2
  have every : ∀ r ∈ [A0] ++ rws ++ [A1], r = R0 ∨ r = R1 := by
    intro r hm
    simp only [List.mem_append, List.mem_singleton] at hm
    rcases hm with (rfl | hm) | rfl
    · exact a0
    · exact hr r hm
    · exact a1
  have intsR : ∀ l : List Row, (∀ r ∈ l, r = R0 ∨ r = R1) → IntsAre (l.flatMap (·.vs)) (l.flatMap (·.ns)) ∧ (l.flatMap (·.vs)).length ≤ 10 * l.length := by
    intro l
    induction l with
    | nil => intro _; exact ⟨.nil, Nat.le_refl _⟩
    | cons r l ih =>
      intro h
      obtain ⟨q1, q2⟩ := ih fun x hx => h x (.tail _ hx)
      have z : IntsAre r.vs r.ns ∧ r.vs.length ≤ 10 := by
        rcases h r (.head _) with rfl | rfl
        · exact ⟨i0, by rw [i0.length]; exact l0⟩
        · exact ⟨i1, by rw [i1.length]; exact l1⟩
      refine ⟨z.1.append q1, ?_⟩
      rw [List.flatMap_cons, List.length_append, List.length_cons]
      omega
  obtain ⟨z1, z2⟩ := intsR _ every
  have hlen : ([A0] ++ rws ++ [A1]).length ≤ 4 := by simp only [List.length_append, List.length_singleton]; omega
  refine ⟨l, [A0] ++ rws ++ [A1], k, news, rfl, hh, F, N, by simpa using hm, ?_, by omega, by omega, ?_⟩
  · intro r hm
    rcases every r hm with rfl | rfl
    · exact m0
    · exact m1
  · refine fin _ (rws.map (·.ns)) ?_ (by rw [List.length_map]; exact hl) ?_
    · intro b hb
      obtain ⟨r, hr', rfl⟩ := List.mem_map.mp hb
      rcases hr r hr' with rfl | rfl
      · exact .inl rfl
      · exact .inr rfl
    · have e : ([A0] ++ rws ++ [A1]).flatMap (·.ns) = A0.ns ++ ((rws.map (·.ns)).flatten ++ A1.ns) := by
        simp [List.flatMap]
      rw [← e]
      exact z1
end
end
-- part LR
section
open PySem PySem.W PyProof.Rows
set_option maxRecDepth 100000
set_option maxHeartbeats 8000000
variable {w : World} {p : Program} {loose : List Str} {mean : ExcName → Option Value} {mg mb : Str → Option Value}
theorem hasattr_led {prog : Program} {A : Around} {E : Value → Shared → Prop} {s : Shared} {Q : Value → Shared → Prop} {h₀ : Heap} {L a : Addr} {m : Str → Option Value} {news : List (Addr × Obj)} {xs : Array Value} {n : Nat} {tk : MTok} (F : Fr h₀ L s.heap m) (N : News h₀ L s.heap news) (hm : (a, listOf xs n) ∈ news) (hq : ∀ h', Fr h₀ L h' m → News h₀ L h' news → Q (.bool true) { s with heap := h' }) :
    wpAny (model prog w) A (call (.builtin "hasattr") [.ref a, .str (Str.ofString "__getitem__") tk]) Q E s := hasattr_list_k (N _ hm).1 F N hq
theorem concatL_gives (l b : Addr) (vs ws : List Value) (k j : Nat) (hz : vs.length + ws.length ≤ 1000) (news) : GivesO w p loose mean mg mb 1 114 [.ref l, .ref b] ((l, listOf vs.toArray k) :: (b, listOf ws.toArray j) :: news) (fun r new => ∃ D, r = .ref D ∧ new = [(D, listOf (vs ++ ws).toArray 0)]) := by
  intro dp un gd env outer A₀ base h₀ L m s Q E B F X N T hf hk hd hu hret
  refine wpAny_call ?_
  k_dflt cell_enter
  repeat' (first
    | ((with_reducible show wpAny _ _ (PySem.exec _ _) _ _ _); k_fold)
    | ((with_reducible show wpAny _ _ (PySem.execs _ _) _ _ _); k_fold)
    | ((with_reducible show wpAny _ _ (PySem.execs _ _) _ _ _); dsimp only)
    | ((with_reducible show wpAny _ _ (PySem.binaryOp .Add (Value.ref _) (Value.ref _)) _ _ _); first | with_reducible (((refine' add_refs_L ?ar1 ?ar2 ?ar3 ?ar4 ?ar5 ?_); (case ar1 => k_asm); (case ar2 => k_asm); (case ar3 => with_unfolding_all k_mem); (case ar4 => with_unfolding_all k_mem); (case ar5 => assumption)); intro D9 h9 F9 N9 l9; (try dsimp only)) | (((refine' add_refs_L ?ar1 ?ar2 ?ar3 ?ar4 ?ar5 ?_); (case ar1 => k_asm); (case ar2 => k_asm); (case ar3 => with_unfolding_all k_mem); (case ar4 => with_unfolding_all k_mem); (case ar5 => assumption)); intro D9 h9 F9 N9 l9; (try dsimp only)))
    | ((with_reducible show wpAny _ _ (PySem.call (Value.builtin "hasattr") _) _ _ _); first | with_reducible (((refine' hasattr_led ?hl1 ?hl2 ?hl3 ?hl4); (case hl1 => k_asm); (case hl2 => k_asm); (case hl3 => with_unfolding_all k_mem); k_whole); intro h9 F9 N9; (try dsimp only)) | (((refine' hasattr_led ?hl1 ?hl2 ?hl3 ?hl4); (case hl1 => k_asm); (case hl2 => k_asm); (case hl3 => with_unfolding_all k_mem); k_whole); intro h9 F9 N9; (try dsimp only)))
    | (k_unfold; (try dsimp only)) | (k_end; wrow_close) | walk1 | (dsimp only; walk1) | (leave1; try dsimp only) | fail "no step")
  exact hret _ [(_, listOf (vs ++ ws).toArray 0)] _ _ (by assumption) (by assumption) (fun p hp q hq => by rw [List.mem_singleton.mp hq]; exact (by assumption : ∀ p ∈ _, p.1 < _) p hp) ⟨_, rfl, rfl⟩
end
-- part Words
section
/-! plain combinatorics on words; no program in sight -/

/-- the first place at which two lists part -/
noncomputable def fdiff {α} [DecidableEq α] : List α → List α → Option Nat
  | a :: l, b :: r => if a = b then (fdiff l r).map (· + 1) else some 0
  | _, _ => none

section
variable {α : Type} [DecidableEq α]

theorem fdiff_self (l : List α) : fdiff l l = none := by
  induction l with
  | nil => rfl
  | cons a l ih => simp [fdiff, ih]

theorem fdiff_append (z l r : List α) : fdiff (z ++ l) (z ++ r) = (fdiff l r).map (· + z.length) := by
  induction z with
  | nil => simp
  | cons a z ih =>
    simp only [List.cons_append, fdiff, if_true, ih, Option.map_map, List.length_cons]
    congr 1

theorem fdiff_of_prefix {z X Y : List α} {c d : α} (hcd : c ≠ d) (hX : z ++ [c] <+: X) (hY : z ++ [d] <+: Y) : fdiff X Y = some z.length := by
  obtain ⟨X', rfl⟩ := hX
  obtain ⟨Y', rfl⟩ := hY
  rw [List.append_assoc, List.append_assoc, fdiff_append]
  simp [fdiff, hcd]

theorem fdiff_some {X Y : List α} : ∀ {k : Nat}, fdiff X Y = some k → ∃ z c d, z.length = k ∧ c ≠ d ∧ z ++ [c] <+: X ∧ z ++ [d] <+: Y := by
  induction X generalizing Y with
  | nil => intro k h; cases h
  | cons a l ih =>
    intro k h
    cases Y with
    | nil => cases h
    | cons b r =>
      unfold fdiff at h
      by_cases hab : a = b
      · subst hab
        rw [if_pos rfl] at h
        obtain ⟨j, hj, rfl⟩ := Option.map_eq_some_iff.mp h
        obtain ⟨z, c, d, hz, hcd, h1, h2⟩ := ih hj
        refine ⟨a :: z, c, d, by simp [hz], hcd, ?_, ?_⟩
        · simpa using h1
        · simpa using h2
      · rw [if_neg hab] at h
        cases h
        refine ⟨[], a, b, rfl, hab, ?_, ?_⟩ <;> simp

theorem fdiff_none_eq {X Y : List α} (hl : X.length = Y.length) (h : fdiff X Y = none) : X = Y := by
  induction X generalizing Y with
  | nil => cases Y with
    | nil => rfl
    | cons => cases hl
  | cons a l ih =>
    cases Y with
    | nil => cases hl
    | cons b r =>
      unfold fdiff at h
      by_cases hab : a = b
      · subst hab
        rw [if_pos rfl] at h
        rw [ih (by simpa using hl) (Option.map_eq_none_iff.mp h)]
      · rw [if_neg hab] at h; cases h

/-- a word said k times -/
noncomputable def rep (k : Nat) (w : List α) : List α := (List.replicate k w).flatten

omit [DecidableEq α] in
@[simp] theorem rep_zero (w : List α) : rep 0 w = [] := rfl
omit [DecidableEq α] in
theorem rep_succ (k : Nat) (w : List α) : rep (k + 1) w = w ++ rep k w := by simp [rep, List.replicate_succ]
omit [DecidableEq α] in
theorem rep_add (j k : Nat) (w : List α) : rep (j + k) w = rep j w ++ rep k w := by
  induction j with
  | zero => simp
  | succ j ih => rw [Nat.succ_add, rep_succ, ih, rep_succ, List.append_assoc]
omit [DecidableEq α] in
theorem rep_length (k : Nat) (w : List α) : (rep k w).length = k * w.length := by
  induction k with
  | zero => simp
  | succ k ih => rw [rep_succ, List.length_append, ih, Nat.succ_mul]; omega
omit [DecidableEq α] in
theorem rep_mul (j k : Nat) (w : List α) : rep (j * k) w = rep j (rep k w) := by
  induction j with
  | zero => simp
  | succ j ih => rw [Nat.succ_mul, Nat.add_comm, rep_add, ih, rep_succ]
omit [DecidableEq α] in
@[simp] theorem rep_one (w : List α) : rep 1 w = w := by simp [rep]

omit [DecidableEq α] in
/-- two words that come to the same in either order are said over by a word as long as divides both -/
theorem commute_rep : ∀ (n : Nat) (x y : List α), x.length + y.length ≤ n → x ≠ [] → y ≠ [] → x ++ y = y ++ x →
    ∃ r a b, r = x.take (Nat.gcd x.length y.length) ∧ r.length = Nat.gcd x.length y.length ∧ x = rep a r ∧ y = rep b r := by
  intro n
  induction n with
  | zero =>
    intro x y h hx _ _
    exact absurd (List.eq_nil_of_length_eq_zero (by omega)) hx
  | succ n ih =>
    intro x y h hx hy e
    have hx0 : 0 < x.length := List.length_pos_iff.mpr hx
    have hy0 : 0 < y.length := List.length_pos_iff.mpr hy
    by_cases hle : x.length ≤ y.length
    · -- y = x ++ y'
      have hp : x <+: y := by
        have h1 : x <+: y ++ x := ⟨y, e⟩
        exact List.prefix_of_prefix_length_le h1 ⟨x, rfl⟩ hle
      obtain ⟨y', rfl⟩ := hp
      have e' : x ++ y' = y' ++ x := by
        rw [List.append_assoc] at e
        exact List.append_cancel_left e
      by_cases hy' : y' = []
      · subst hy'
        refine ⟨x, 1, 1, ?_, ?_, ?_, ?_⟩ <;> simp
      · have hl : (x ++ y').length = x.length + y'.length := List.length_append
        obtain ⟨r, a, b, h1, h2, h3, h4⟩ := ih x y' (by rw [hl] at h; omega) hx hy' e'
        have hg : Nat.gcd x.length (x ++ y').length = Nat.gcd x.length y'.length := by
          rw [hl, Nat.add_comm, Nat.gcd_add_self_right]
        refine ⟨r, a, a + b, by rw [hg]; exact h1, by rw [hg]; exact h2, h3, ?_⟩
        rw [rep_add, ← h3, ← h4]
    · have hp : y <+: x := by
        have h1 : y <+: x ++ y := ⟨x, e.symm⟩
        exact List.prefix_of_prefix_length_le h1 ⟨y, rfl⟩ (by omega)
      obtain ⟨x', rfl⟩ := hp
      have e' : x' ++ y = y ++ x' := by
        rw [List.append_assoc] at e
        exact List.append_cancel_left e
      have hl : (y ++ x').length = y.length + x'.length := List.length_append
      have hx' : x' ≠ [] := by
        intro q; subst q; simp at hle
      obtain ⟨r, a, b, h1, h2, h3, h4⟩ := ih x' y (by rw [hl] at h; omega) hx' hy e'
      have hg : Nat.gcd (y ++ x').length y.length = Nat.gcd x'.length y.length := by
        rw [hl, Nat.gcd_comm, Nat.add_comm, Nat.gcd_add_self_right, Nat.gcd_comm]
      have hpr : r <+: y ++ x' := by
        rw [h4]
        have hb : b ≠ 0 := by
          intro q; subst q; rw [rep_zero] at h4; exact hy h4
        obtain ⟨b', rfl⟩ := Nat.exists_eq_succ_of_ne_zero hb
        rw [rep_succ, List.append_assoc]
        exact ⟨_, rfl⟩
      refine ⟨r, b + a, b, ?_, by rw [hg]; exact h2, ?_, h4⟩
      · rw [hg, ← h2]
        obtain ⟨t, ht⟩ := hpr
        rw [← ht]; simp
      · rw [rep_add, ← h3, ← h4]

omit [DecidableEq α] in
theorem rep_comm {r : List α} (a b : Nat) : rep a r ++ rep b r = rep b r ++ rep a r := by
  rw [← rep_add, ← rep_add, Nat.add_comm]

/-- Fine and Wilf's bound, for the two orders -/
theorem fine_wilf : ∀ (n : Nat) (x y : List α), x.length + y.length ≤ n → x ≠ [] → y ≠ [] → ∀ k, fdiff (x ++ y) (y ++ x) = some k →
    k + 1 + Nat.gcd x.length y.length ≤ x.length + y.length := by
  intro n
  induction n with
  | zero =>
    intro x y h hx _ _ _
    exact absurd (List.eq_nil_of_length_eq_zero (by omega)) hx
  | succ n ih =>
    intro x y h hx hy k hk
    have hx0 : 0 < x.length := List.length_pos_iff.mpr hx
    have hy0 : 0 < y.length := List.length_pos_iff.mpr hy
    obtain ⟨z, c, d, hz, hcd, h1, h2⟩ := fdiff_some hk
    have g1 : Nat.gcd x.length y.length ≤ x.length := Nat.le_of_dvd hx0 (Nat.gcd_dvd_left ..)
    have g2 : Nat.gcd x.length y.length ≤ y.length := Nat.le_of_dvd hy0 (Nat.gcd_dvd_right ..)
    by_cases hkx : k + 1 ≤ x.length
    · omega
    by_cases hky : k + 1 ≤ y.length
    · omega
    by_cases hle : x.length ≤ y.length
    · have hzx : x <+: z := by
        have q1 : z <+: x ++ y := (List.prefix_append z [c]).trans h1
        exact List.prefix_of_prefix_length_le (List.prefix_append x y) q1 (by omega)
      have hp : x <+: y := by
        have q2 : z <+: y ++ x := (List.prefix_append z [d]).trans h2
        exact List.prefix_of_prefix_length_le (hzx.trans q2) (List.prefix_append y x) hle
      obtain ⟨y', rfl⟩ := hp
      have hl : (x ++ y').length = x.length + y'.length := List.length_append
      have hk' : fdiff (x ++ (x ++ y')) (x ++ (y' ++ x)) = some k := by rw [← List.append_assoc x y' x]; exact hk
      rw [fdiff_append] at hk'
      obtain ⟨j, hj, rfl⟩ := Option.map_eq_some_iff.mp hk'
      have hy' : y' ≠ [] := by
        intro q; subst q; simp [fdiff_self] at hj
      have := ih x y' (by rw [hl] at h; omega) hx hy' j hj
      rw [hl, Nat.add_comm x.length y'.length, Nat.gcd_add_self_right]
      omega
    · have hzy : y <+: z := by
        have q1 : z <+: y ++ x := (List.prefix_append z [d]).trans h2
        exact List.prefix_of_prefix_length_le (List.prefix_append y x) q1 (by omega)
      have hp : y <+: x := by
        have q2 : z <+: x ++ y := (List.prefix_append z [c]).trans h1
        exact List.prefix_of_prefix_length_le (hzy.trans q2) (List.prefix_append x y) (by omega)
      obtain ⟨x', rfl⟩ := hp
      have hl : (y ++ x').length = y.length + x'.length := List.length_append
      have hk' : fdiff (y ++ (x' ++ y)) (y ++ (y ++ x')) = some k := by rw [← List.append_assoc y x' y]; exact hk
      rw [fdiff_append] at hk'
      obtain ⟨j, hj, rfl⟩ := Option.map_eq_some_iff.mp hk'
      have hx' : x' ≠ [] := by
        intro q; subst q; simp at hle
      have := ih x' y (by rw [hl] at h; omega) hx' hy j hj
      have hg : Nat.gcd (y ++ x').length y.length = Nat.gcd x'.length y.length := by
        rw [hl, Nat.gcd_comm, Nat.add_comm, Nat.gcd_add_self_right, Nat.gcd_comm]
      rw [hg, hl]
      omega

/-- blocks: each x or y -/
noncomputable def Blocks (x y : List α) (bs : List (List α)) : Prop := ∀ b ∈ bs, b = x ∨ b = y

omit [DecidableEq α] in
/-- where two words do not commute: what every product of them begins with -/
theorem blocks_prefix {x y z : List α} {c d : α} (hx : x ≠ []) (hy : y ≠ []) (h1 : z ++ [c] <+: x ++ y) (h2 : z ++ [d] <+: y ++ x) :
    ∀ bs : List (List α), Blocks x y bs → z <+: bs.flatten ++ z ∧ z ++ [c] <+: x ++ (bs.flatten ++ z) ∧ z ++ [d] <+: y ++ (bs.flatten ++ z) := by
  have hx0 : 0 < x.length := List.length_pos_iff.mpr hx
  have hy0 : 0 < y.length := List.length_pos_iff.mpr hy
  -- the two steps
  have sx : ∀ W, z <+: W → z ++ [c] <+: x ++ W := by
    intro W hW
    have a1 : x ++ z <+: x ++ (y ++ x) := List.prefix_append_right_inj x |>.mpr ((List.prefix_append z [d]).trans h2)
    have a2 : z ++ [c] <+: x ++ (y ++ x) := by rw [← List.append_assoc]; exact h1.trans (List.prefix_append _ _)
    have a3 : z ++ [c] <+: x ++ z := List.prefix_of_prefix_length_le a2 a1 (by simp; omega)
    exact a3.trans (List.prefix_append_right_inj x |>.mpr hW)
  have sy : ∀ W, z <+: W → z ++ [d] <+: y ++ W := by
    intro W hW
    have a1 : y ++ z <+: y ++ (x ++ y) := List.prefix_append_right_inj y |>.mpr ((List.prefix_append z [c]).trans h1)
    have a2 : z ++ [d] <+: y ++ (x ++ y) := by rw [← List.append_assoc]; exact h2.trans (List.prefix_append _ _)
    have a3 : z ++ [d] <+: y ++ z := List.prefix_of_prefix_length_le a2 a1 (by simp; omega)
    exact a3.trans (List.prefix_append_right_inj y |>.mpr hW)
  intro bs
  induction bs with
  | nil => intro _; exact ⟨by simp, sx _ (by simp), sy _ (by simp)⟩
  | cons b bs ih =>
    intro hb
    have ihb := ih fun b' hb' => hb b' (.tail _ hb')
    have h0 : z <+: (b :: bs).flatten ++ z := by
      rcases hb b (.head _) with rfl | rfl
      · rw [List.flatten_cons, List.append_assoc]; exact (List.prefix_append z [c]).trans ihb.2.1
      · rw [List.flatten_cons, List.append_assoc]; exact (List.prefix_append z [d]).trans ihb.2.2
    exact ⟨h0, sx _ h0, sy _ h0⟩

omit [DecidableEq α] in
theorem blocks_rep {x y r : List α} {a b : Nat} (hx : x = rep a r) (hy : y = rep b r) : ∀ bs : List (List α), Blocks x y bs → ∃ m, bs.flatten = rep m r := by
  intro bs
  induction bs with
  | nil => intro _; exact ⟨0, rfl⟩
  | cons c bs ih =>
    intro h
    obtain ⟨m, hm⟩ := ih fun b' hb' => h b' (.tail _ hb')
    rcases h c (.head _) with rfl | rfl
    · exact ⟨a + m, by rw [List.flatten_cons, hm, rep_add, ← hx]⟩
    · exact ⟨b + m, by rw [List.flatten_cons, hm, rep_add, ← hy]⟩

omit [DecidableEq α] in
theorem take_rep_eq {r : List α} {m n k : Nat} (hm : k ≤ (rep m r).length) (hn : k ≤ (rep n r).length) : (rep m r).take k = (rep n r).take k := by
  have h1 : (rep m r).take k = (rep (m + n) r).take k := by rw [rep_add, List.take_append_of_le_length hm]
  have h2 : (rep n r).take k = (rep (m + n) r).take k := by rw [Nat.add_comm, rep_add, List.take_append_of_le_length hn]
  rw [h1, h2]

/-- the law's heart: any two products of x and y, the one beginning with x, the other with y, part where xy and yx do -/
theorem parts_alike {x y : List α} (hx : x ≠ []) (hy : y ≠ []) {bs bs' : List (List α)} (hb : Blocks x y bs) (hb' : Blocks x y bs')
    (h1 : x.length + y.length - Nat.gcd x.length y.length ≤ (x ++ bs.flatten).length)
    (h2 : x.length + y.length - Nat.gcd x.length y.length ≤ (y ++ bs'.flatten).length) :
    fdiff ((x ++ bs.flatten).take (x.length + y.length - Nat.gcd x.length y.length)) ((y ++ bs'.flatten).take (x.length + y.length - Nat.gcd x.length y.length)) =
      fdiff (x ++ y) (y ++ x) := by
  cases hk : fdiff (x ++ y) (y ++ x) with
  | none =>
    have e := fdiff_none_eq (by simp; omega) hk
    obtain ⟨r, a, b, _, _, ha, hb2⟩ := commute_rep _ x y (Nat.le_refl _) hx hy e
    obtain ⟨m, hm⟩ := blocks_rep ha hb2 (x :: bs) (fun b' hb' => by
      rcases List.mem_cons.mp hb' with rfl | q
      · exact .inl rfl
      · exact hb _ q)
    obtain ⟨m', hm'⟩ := blocks_rep ha hb2 (y :: bs') (fun b' hb2' => by
      rcases List.mem_cons.mp hb2' with rfl | q
      · exact .inr rfl
      · exact hb' _ q)
    rw [List.flatten_cons] at hm hm'
    rw [hm] at h1 ⊢
    rw [hm'] at h2 ⊢
    rw [take_rep_eq h1 h2, fdiff_self]
  | some k =>
    have hfw := fine_wilf _ x y (Nat.le_refl _) hx hy k hk
    obtain ⟨z, c, d, hz, hcd, p1, p2⟩ := fdiff_some hk
    have q1 := (blocks_prefix hx hy p1 p2 bs hb).2.1
    have q2 := (blocks_prefix hx hy p1 p2 bs' hb').2.2
    rw [← List.append_assoc] at q1 q2
    have w1 : z ++ [c] <+: (x ++ bs.flatten).take (x.length + y.length - Nat.gcd x.length y.length) := by
      refine List.prefix_of_prefix_length_le q1 ((List.take_prefix _ _).trans (List.prefix_append _ _)) ?_
      rw [List.length_take, List.length_append, List.length_singleton]; omega
    have w2 : z ++ [d] <+: (y ++ bs'.flatten).take (x.length + y.length - Nat.gcd x.length y.length) := by
      refine List.prefix_of_prefix_length_le q2 ((List.take_prefix _ _).trans (List.prefix_append _ _)) ?_
      rw [List.length_take, List.length_append, List.length_singleton]; omega
    rw [fdiff_of_prefix hcd w1 w2, hz]

omit [DecidableEq α] in
/-- powers of two words meet in the other order only where the words commute -/
theorem commute_of_rep {p q : List α} {m n : Nat} (hm : m ≠ 0) (hn : n ≠ 0) (e : rep m p ++ rep n q = rep n q ++ rep m p) : p ++ q = q ++ p := by
  classical
  by_cases hp : p = []
  · subst hp; simp
  by_cases hq : q = []
  · subst hq; simp
  cases hk : fdiff (p ++ q) (q ++ p) with
  | none => exact fdiff_none_eq (by simp; omega) hk
  | some k =>
    obtain ⟨z, c, d, hz, hcd, p1, p2⟩ := fdiff_some hk
    obtain ⟨m', rfl⟩ := Nat.exists_eq_succ_of_ne_zero hm
    obtain ⟨n', rfl⟩ := Nat.exists_eq_succ_of_ne_zero hn
    have B1 : Blocks p q (List.replicate m' p ++ List.replicate (n' + 1) q) := by
      intro b hb
      rcases List.mem_append.mp hb with h | h
      · exact .inl (List.eq_of_mem_replicate h)
      · exact .inr (List.eq_of_mem_replicate h)
    have B2 : Blocks p q (List.replicate n' q ++ List.replicate (m' + 1) p) := by
      intro b hb
      rcases List.mem_append.mp hb with h | h
      · exact .inr (List.eq_of_mem_replicate h)
      · exact .inl (List.eq_of_mem_replicate h)
    have q1 := (blocks_prefix hp hq p1 p2 _ B1).2.1
    have q2 := (blocks_prefix hp hq p1 p2 _ B2).2.2
    have e1 : p ++ ((List.replicate m' p ++ List.replicate (n' + 1) q).flatten ++ z) = rep (m' + 1) p ++ rep (n' + 1) q ++ z := by
      rw [List.flatten_append, rep_succ]; simp only [rep, List.append_assoc]
    have e2 : q ++ ((List.replicate n' q ++ List.replicate (m' + 1) p).flatten ++ z) = rep (n' + 1) q ++ rep (m' + 1) p ++ z := by
      rw [List.flatten_append, rep_succ n']; simp only [rep, List.append_assoc]
    rw [e1] at q1
    rw [e2, ← e] at q2
    have := List.prefix_of_prefix_length_le q1 q2 (by simp)
    have h3 := this.eq_of_length (by simp)
    have h4 := List.append_cancel_left h3
    cases h4
    exact absurd rfl hcd
end
end
-- part P0
section
section
variable {α : Type} [DecidableEq α]
theorem fdiff_map {β : Type} [DecidableEq β] {f : α → β} (hf : ∀ a b, f a = f b → a = b) : ∀ X Y : List α, fdiff (X.map f) (Y.map f) = fdiff X Y
  | [], _ => by cases ‹List α› <;> rfl
  | _ :: _, [] => rfl
  | a :: X, b :: Y => by
    simp only [List.map_cons, fdiff]
    rw [fdiff_map hf X Y]
    by_cases h : a = b
    · subst h; simp
    · have h' : f a ≠ f b := fun e => h (hf a b e)
      rw [if_neg h, if_neg h']
theorem find_parts : ∀ X Y : List α, ((X.zip Y).map fun p => p.1 != p.2).findIdx? id = fdiff X Y
  | [], _ => by simp [fdiff]
  | _ :: _, [] => by simp [fdiff]
  | a :: X, b :: Y => by
    simp only [List.zip_cons_cons, List.map_cons, List.findIdx?_cons, fdiff]
    rw [find_parts X Y]
    by_cases h : a = b
    · subst h; simp
    · have : (a != b) = true := bne_iff_ne.mpr h
      simp [this, h]
/-- a row that is a shorter one said over -/
noncomputable def goodN (ns : List α) (k : Nat) : Prop := rep (ns.length / k) (ns.take k) = ns
noncomputable def firstN (ns : List α) (k : Nat) : Prop := 1 ≤ k ∧ k ≤ ns.length ∧ goodN ns k ∧ ∀ j, 1 ≤ j → j < k → ¬ goodN ns j
omit [DecidableEq α] in
theorem good_of_rep {r ns : List α} {m : Nat} (hr : 0 < r.length) (hm : m ≠ 0) (e : ns = rep m r) : goodN ns r.length := by
  obtain ⟨m', rfl⟩ := Nat.exists_eq_succ_of_ne_zero hm
  have hl : ns.length = (m' + 1) * r.length := by rw [e, rep_length]
  have ht : ns.take r.length = r := by rw [e, rep_succ]; simp
  unfold goodN
  rw [ht, hl, Nat.mul_div_cancel _ hr]
  exact e.symm
theorem roots_iff {n0 n1 : List α} {k j : Nat} (h0 : firstN n0 k) (h1 : firstN n1 j) : n0.take k = n1.take j ↔ n0 ++ n1 = n1 ++ n0 := by
  obtain ⟨a1, a2, a3, a4⟩ := h0
  obtain ⟨b1, b2, b3, b4⟩ := h1
  have lk : (n0.take k).length = k := by rw [List.length_take]; omega
  have lj : (n1.take j).length = j := by rw [List.length_take]; omega
  have m0 : n0.length / k ≠ 0 := Nat.ne_of_gt (Nat.div_pos a2 a1)
  have m1 : n1.length / j ≠ 0 := Nat.ne_of_gt (Nat.div_pos b2 b1)
  unfold goodN at a3 b3
  constructor
  · intro e
    rw [← a3, ← b3, e]
    exact rep_comm _ _
  · intro e
    rw [← a3, ← b3] at e
    have c := commute_of_rep m0 m1 e
    have p0 : n0.take k ≠ [] := fun q => by rw [q] at lk; simp at lk; omega
    have p1 : n1.take j ≠ [] := fun q => by rw [q] at lj; simp at lj; omega
    obtain ⟨r, a, b, _, hr, ea, eb⟩ := commute_rep _ _ _ (Nat.le_refl _) p0 p1 c
    have hg : 0 < r.length := by
      rw [hr]
      exact Nat.gcd_pos_of_pos_left _ (by omega)
    have ha : a ≠ 0 := fun q => p0 (by rw [ea, q]; rfl)
    have hb : b ≠ 0 := fun q => p1 (by rw [eb, q]; rfl)
    have la : a * r.length = k := by rw [← rep_length, ← ea, lk]
    have lb : b * r.length = j := by rw [← rep_length, ← eb, lj]
    have g0 : goodN n0 r.length := good_of_rep (m := n0.length / k * a) hg (Nat.mul_ne_zero m0 ha) (by rw [rep_mul, ← ea, a3])
    have g1 : goodN n1 r.length := good_of_rep (m := n1.length / j * b) hg (Nat.mul_ne_zero m1 hb) (by rw [rep_mul, ← eb, b3])
    have k1 : ¬ r.length < k := fun h => a4 _ hg h g0
    have j1 : ¬ r.length < j := fun h => b4 _ hg h g1
    have ra : r.length ≤ k := by rw [← la]; exact Nat.le_mul_of_pos_left _ (Nat.pos_of_ne_zero ha)
    have rb : r.length ≤ j := by rw [← lb]; exact Nat.le_mul_of_pos_left _ (Nat.pos_of_ne_zero hb)
    have a1 : a = 1 := by
      have : r.length = k := by omega
      rw [this] at la
      exact Nat.eq_of_mul_eq_mul_right (show 0 < k by omega) (by rw [la, Nat.one_mul])
    have b1 : b = 1 := by
      have : r.length = j := by omega
      rw [this] at lb
      exact Nat.eq_of_mul_eq_mul_right (show 0 < j by omega) (by rw [lb, Nat.one_mul])
    rw [ea, eb, a1, b1]
omit [DecidableEq α] in
/-- a word said for ever, its place i -/
theorem rep_get {W : List α} (hW : 0 < W.length) : ∀ (m i : Nat), i < m * W.length → (rep m W)[i]? = W[i % W.length]?
  | 0, i, h => by simp at h
  | m + 1, i, h => by
    rw [rep_succ]
    by_cases hi : i < W.length
    · rw [List.getElem?_append_left hi, Nat.mod_eq_of_lt hi]
    · rw [List.getElem?_append_right (by omega), rep_get hW m (i - W.length) (by rw [Nat.succ_mul] at h; omega)]
      conv => rhs; rw [show i = (i - W.length) + W.length by omega, Nat.add_mod_right]
omit [DecidableEq α] in
theorem rep_cyc {W : List α} (hW : 0 < W.length) {m n : Nat} (hn : n ≤ m * W.length) {β : Type} (f : Nat → β) (g : α → β) (hf : ∀ i a, W[i]? = some a → f i = g a) :
    (List.range n).map (fun i => f (i % W.length)) = ((rep m W).take n).map g := by
  apply List.ext_getElem?
  intro i
  by_cases hi : i < n
  · rw [List.getElem?_map, List.getElem?_range hi, List.getElem?_map, List.getElem?_take_of_lt hi, rep_get hW m i (by omega)]
    have hlt : i % W.length < W.length := Nat.mod_lt _ hW
    rw [List.getElem?_eq_getElem hlt]
    simp only [Option.map_some]
    rw [hf _ _ (List.getElem?_eq_getElem hlt)]
  · rw [List.getElem?_eq_none (by simp; omega), List.getElem?_eq_none (by simp; omega)]
end
/-- a step of Euclid's, that stands still at naught -/
noncomputable def eu (p : Nat × Nat) : Nat × Nat := if p.2 = 0 then p else (p.2, p.1 % p.2)
noncomputable def eus : Nat → Nat × Nat → Nat × Nat
  | 0, p => p
  | n + 1, p => eus n (eu p)
theorem eu_gcd (p : Nat × Nat) : Nat.gcd (eu p).1 (eu p).2 = Nat.gcd p.1 p.2 := by
  unfold eu
  split
  · rfl
  · show Nat.gcd p.2 (p.1 % p.2) = _
    rw [Nat.gcd_comm p.1 p.2, Nat.gcd_rec p.2 p.1, Nat.gcd_comm]
theorem eus_gcd : ∀ (n : Nat) (p : Nat × Nat), Nat.gcd (eus n p).1 (eus n p).2 = Nat.gcd p.1 p.2
  | 0, _ => rfl
  | n + 1, p => by rw [eus, eus_gcd n, eu_gcd]
theorem eu_still {p : Nat × Nat} (h : p.2 = 0) : eu p = p := if_pos h
theorem eus_still : ∀ (n : Nat) {p : Nat × Nat}, p.2 = 0 → eus n p = p
  | 0, _, _ => rfl
  | n + 1, p, h => by rw [eus, eu_still h, eus_still n h]
theorem eus_ends : ∀ (k : Nat) (p : Nat × Nat), p.2 < 2 ^ k → (eus (2 * k) p).2 = 0
  | 0, p, h => by simp at h; exact h
  | k + 1, p, h => by
    show (eus (2 * k + 1 + 1) p).2 = 0
    rw [eus, eus]
    by_cases h0 : p.2 = 0
    · rw [eu_still h0, eu_still h0, eus_still _ h0]; exact h0
    · have e1 : eu p = (p.2, p.1 % p.2) := if_neg h0
      rw [e1]
      by_cases h1 : p.1 % p.2 = 0
      · rw [eu_still h1, eus_still _ h1]; exact h1
      · have e2 : eu (p.2, p.1 % p.2) = (p.1 % p.2, p.2 % (p.1 % p.2)) := if_neg h1
        rw [e2]
        refine eus_ends k _ ?_
        show p.2 % (p.1 % p.2) < 2 ^ k
        have q1 : p.1 % p.2 < p.2 := Nat.mod_lt _ (by omega)
        have q2 : p.2 % (p.1 % p.2) < p.1 % p.2 := Nat.mod_lt _ (by omega)
        have q3 := Nat.div_add_mod p.2 (p.1 % p.2)
        have q4 : 1 ≤ p.2 / (p.1 % p.2) := Nat.div_pos (by omega) (by omega)
        have q5 : (p.1 % p.2) * 1 ≤ (p.1 % p.2) * (p.2 / (p.1 % p.2)) := Nat.mul_le_mul_left _ q4
        rw [Nat.pow_succ] at h
        omega
theorem eus_12 (a b : Nat) (h : b < 64) : (eus 12 (a, b)).1 = Nat.gcd a b := by
  have e : (eus 12 (a, b)).2 = 0 := eus_ends 6 (a, b) h
  have g := eus_gcd 12 (a, b)
  rw [e, Nat.gcd_zero_right] at g
  exact g
end
-- part P1
section
open PySem PySem.W PyProof.Rows
set_option maxRecDepth 100000
theorem nib_and : ∀ p : Nat, p < 16 → ∀ r : Nat, r < 16 → (decide (2 * (p &&& r) ≤ p + r ∧ p + r - 2 * (p &&& r) < 16 ∧ (p + r - 2 * (p &&& r) = 0 ↔ p = r))) = true := by decide +kernel
theorem lt_d {n : Nat} (h : n < 256) : n / 16 < 16 := Nat.div_lt_of_lt_mul (show n < 16 * 16 from h)
theorem lt_m (n : Nat) : n % 16 < 16 := Nat.mod_lt n (by decide)
theorem xor_lin {P R p r x y : Nat} (n1 : 2 * x ≤ P + R) (n2 : P + R - 2 * x = 0 ↔ P = R) (n3 : 2 * y ≤ p + r) (n4 : p + r - 2 * y < 16) : ((16 * P + p : Nat) : Int) + ((16 * R + r : Nat) : Int) - 2 * ((16 * x + y : Nat) : Int) < 16 ↔ P = R := by
  rw [← n2]
  clear n2
  omega
theorem xor_small {a b : Nat} (ha : a < 256) (hb : b < 256) : Builtin.bitXor (a : Int) (b : Int) < 16 ↔ a / 16 = b / 16 := by
  have e : Builtin.bitXor (a : Int) (b : Int) = (a : Int) + (b : Int) - 2 * (((a &&& b : Nat) : Nat) : Int) := by
    rw [bitXor_and, bitAnd_pp (Int.natCast_nonneg _) (Int.natCast_nonneg _)]
    rfl
  have d1 : (a &&& b) / 16 = a / 16 &&& b / 16 := Nat.and_div_two_pow (n := 4)
  have d2 : (a &&& b) % 16 = a % 16 &&& b % 16 := Nat.and_mod_two_pow (n := 4)
  have n1 := of_decide_eq_true (nib_and (a / 16) (lt_d ha) (b / 16) (lt_d hb))
  have n2 := of_decide_eq_true (nib_and (a % 16) (lt_m a) (b % 16) (lt_m b))
  rw [← d1] at n1
  rw [← d2] at n2
  rw [e]
  have k := xor_lin n1.1 n1.2.2 n2.1 n2.2.1
  rw [Nat.div_add_mod, Nat.div_add_mod, Nat.div_add_mod] at k
  exact k
theorem hx_inj : ∀ a : Nat, a < 16 → ∀ b : Nat, b < 16 → hx a = hx b → a = b := by decide +kernel
theorem plain_ne : ∀ a : Nat, a < 256 → plainI (a : Int) = true → a ≠ 61 ∧ a ≠ 95 := by decide +kernel
theorem plain_low : ∀ a : Nat, a < 256 → plainI (a : Int) = true → a < 128 := by decide +kernel
/-- how two octets' writings part -/
noncomputable def PartAt (c : Int → Str) (a b : Int) : Prop := ∃ z x y, x ≠ y ∧ ((z.length : Nat) : Int) = partE c a b ∧ z ++ [x] <+: (c a).cps.toList ∧ z ++ [y] <+: (c b).cps.toList
theorem esc_cps (i : Int) : (escS i).cps.toList = [61, hx (i / 16).toNat, hx (i % 16).toNat] := rfl
theorem esc_length (i : Int) : (escS i).length = 3 := rfl
theorem part_esc {c : Int → Str} {a b : Int} (ha : Oct a) (hb : Oct b) (h : a ≠ b) (ea : c a = escS a) (eb : c b = escS b) : PartAt c a b := by
  obtain ⟨n, hn, rfl⟩ := ha.nat
  obtain ⟨m, hm, rfl⟩ := hb.nat
  have hp : partE c (n : Int) (m : Int) = if Builtin.bitXor (n : Int) (m : Int) < 16 then 2 else 1 := by
    unfold partE
    rw [ea, eb, esc_length, esc_length]
    simp
  unfold PartAt
  rw [hp, ea, eb, esc_cps, esc_cps]
  have q1 : ((n : Int) / 16).toNat = n / 16 := rfl
  have q2 : ((n : Int) % 16).toNat = n % 16 := rfl
  have q3 : ((m : Int) / 16).toNat = m / 16 := rfl
  have q4 : ((m : Int) % 16).toNat = m % 16 := rfl
  rw [q1, q2, q3, q4]
  by_cases hx1 : n / 16 = m / 16
  · rw [if_pos ((xor_small hn hm).mpr hx1), hx1]
    refine ⟨[61, hx (m / 16)], hx (n % 16), hx (m % 16), ?_, rfl, ⟨[], rfl⟩, ⟨[], rfl⟩⟩
    intro e
    have k := hx_inj _ (lt_m n) _ (lt_m m) e
    exact h (congrArg (fun z : Nat => (z : Int)) (by rw [← Nat.div_add_mod n 16, hx1, k, Nat.div_add_mod]))
  · rw [if_neg (fun q => hx1 ((xor_small hn hm).mp q))]
    refine ⟨[61], hx (n / 16), hx (m / 16), ?_, rfl, ⟨[_], rfl⟩, ⟨[_], rfl⟩⟩
    intro e
    exact hx1 (hx_inj _ (lt_d hn) _ (lt_d hm) e)
theorem code_kinds {i : Int} (h : Oct i) : (codeS i = escS i) ∨ ∃ q, codeS i = ⟨#[q]⟩ ∧ q ≠ 61 ∧ q < 128 ∧ ((i = 32 ∧ q = 95) ∨ (i ≠ 32 ∧ q = i.toNat ∧ q ≠ 95 ∧ plainI i = true)) := by
  obtain ⟨n, hn, rfl⟩ := h.nat
  unfold codeS
  by_cases h1 : (n : Int) = 32
  · rw [if_pos h1]; exact .inr ⟨95, rfl, by decide, by decide, .inl ⟨h1, rfl⟩⟩
  · rw [if_neg h1]
    cases hp : plainI (n : Int) with
    | false => exact .inl rfl
    | true =>
      have q := plain_ne n hn hp
      refine .inr ⟨n, rfl, q.1, ?_, .inr ⟨h1, rfl, q.2, rfl⟩⟩
      exact plain_low n hn hp
theorem part_escS {a b : Int} (ha : Oct a) (hb : Oct b) (h : a ≠ b) : PartAt escS a b := part_esc ha hb h rfl rfl
theorem part_codeS {a b : Int} (ha : Oct a) (hb : Oct b) (h : a ≠ b) : PartAt codeS a b := by
  have one : ∀ {q : Nat}, (⟨#[q]⟩ : Str).length = 1 := rfl
  rcases code_kinds ha with ea | ⟨q, ea, hq, _, ka⟩
  · rcases code_kinds hb with eb | ⟨r, eb, hr, _, kb⟩
    · exact part_esc ha hb h ea eb
    · refine ⟨[], 61, r, fun e => hr e.symm, ?_, ?_, ?_⟩
      · unfold partE; rw [eb, one]; simp
      · rw [ea]; exact ⟨_, rfl⟩
      · rw [eb]; exact ⟨[], rfl⟩
  · rcases code_kinds hb with eb | ⟨r, eb, hr, _, kb⟩
    · refine ⟨[], q, 61, hq, ?_, ?_, ?_⟩
      · unfold partE; rw [ea, one]; simp
      · rw [ea]; exact ⟨[], rfl⟩
      · rw [eb]; exact ⟨_, rfl⟩
    · refine ⟨[], q, r, ?_, ?_, ?_, ?_⟩
      · intro e
        subst e
        rcases ka with ⟨k1, k2⟩ | ⟨k1, k2, k3, _⟩ <;> rcases kb with ⟨l1, l2⟩ | ⟨l1, l2, l3, _⟩
        · exact h (k1.trans l1.symm)
        · exact l3 k2
        · exact k3 l2
        · exact h (by rw [← Int.toNat_of_nonneg ha.1, ← Int.toNat_of_nonneg hb.1, ← k2, ← l2])
      · unfold partE; rw [ea, one]; simp
      · rw [ea]; exact ⟨[], rfl⟩
      · rw [eb]; exact ⟨[], rfl⟩
/-- a row's signs -/
noncomputable def wl (c : Int → Str) (ns : List Int) : List Nat := ns.flatMap fun i => (c i).cps.toList
theorem wl_append (c : Int → Str) (a b : List Int) : wl c (a ++ b) = wl c a ++ wl c b := by simp [wl]
noncomputable def PartsOk (c : Int → Str) (oc : List Int) : Prop := ∀ a ∈ oc, ∀ b ∈ oc, a ≠ b → PartAt c a b
/-- the words part where the octets say -/
theorem due_is {c : Int → Str} {oc : List Int} (hp : PartsOk c oc) : ∀ (X Y : List Int) (acc : Int), (∀ z ∈ X, z ∈ oc) → (∀ z ∈ Y, z ∈ oc) → X.length = Y.length → dueI c X Y acc = (fdiff (wl c X) (wl c Y)).map fun (k : Nat) => acc + (k : Int)
  | [], [], acc, _, _, _ => by simp [dueI, wl, fdiff]
  | [], _ :: _, _, _, _, h => by simp at h
  | _ :: _, [], _, _, _, h => by simp at h
  | a :: X, b :: Y, acc, hX, hY, hl => by
    unfold dueI
    by_cases h : a = b
    · subst h
      rw [if_pos rfl, due_is hp X Y _ (fun z hz => hX z (.tail _ hz)) (fun z hz => hY z (.tail _ hz)) (by simpa using hl)]
      show _ = (fdiff (wl c (a :: X)) (wl c (a :: Y))).map _
      have e : ∀ Z, wl c (a :: Z) = (c a).cps.toList ++ wl c Z := fun Z => by simp [wl]
      rw [e, e, fdiff_append, Option.map_map]
      congr 1
      funext k
      simp only [Function.comp, Str.length, Array.length_toList]
      omega
    · rw [if_neg h]
      obtain ⟨z, x, y, hxy, hz, h1, h2⟩ := hp a (hX a (.head _)) b (hY b (.head _)) h
      have e : ∀ (d : Int) Z, (c d).cps.toList <+: wl c (d :: Z) := fun d Z => ⟨wl c Z, by simp [wl]⟩
      rw [fdiff_of_prefix hxy (h1.trans (e a X)) (h2.trans (e b Y)), ← hz]
      rfl
theorem wl_inj {c : Int → Str} {oc : List Int} (hp : PartsOk c oc) {X Y : List Int} (hX : ∀ z ∈ X, z ∈ oc) (hY : ∀ z ∈ Y, z ∈ oc) (hl : X.length = Y.length) (e : wl c X = wl c Y) : X = Y := by
  have key : ∀ (X Y : List Int), (∀ z ∈ X, z ∈ oc) → (∀ z ∈ Y, z ∈ oc) → X.length = Y.length → wl c X = wl c Y → X = Y := by
    intro X
    induction X with
    | nil => intro Y _ _ hl _; exact (List.eq_nil_of_length_eq_zero (by simpa using hl.symm)).symm
    | cons a X ih =>
      intro Y hX hY hl e
      cases Y with
      | nil => simp at hl
      | cons b Y =>
        have e1 : ∀ (d : Int) Z, wl c (d :: Z) = (c d).cps.toList ++ wl c Z := fun d Z => by simp [wl]
        by_cases h : a = b
        · subst h
          rw [e1, e1] at e
          rw [ih Y (fun z hz => hX z (.tail _ hz)) (fun z hz => hY z (.tail _ hz)) (by simpa using hl) (List.append_cancel_left e)]
        · exfalso
          obtain ⟨z, x, y, hxy, hz, h1, h2⟩ := hp a (hX a (.head _)) b (hY b (.head _)) h
          have f := fdiff_of_prefix hxy (h1.trans ⟨wl c X, rfl⟩) (h2.trans ⟨wl c Y, rfl⟩)
          rw [← e1, ← e1, e, fdiff_self] at f
          cases f
  exact key X Y hX hY hl e
theorem sign_inj : ∀ a b : Nat, (⟨#[a]⟩ : Str) = ⟨#[b]⟩ → a = b := fun a b e => by
  have := congrArg (fun x : Str => x.cps.toList) e
  simpa using this
theorem find_signs (x y : List Str) : (parts x y).findIdx? id = fdiff x y := find_parts x y
end
-- part P2
section
open PySem PySem.W PyProof.Rows
set_option maxRecDepth 100000
/-- the two rows -/
structure UV (a b : Int) (U V : List Int) : Prop where
  pU : 0 < U.length
  pV : 0 < V.length
  mU : ∀ z ∈ U, z ∈ [a, b]
  mV : ∀ z ∈ V, z ∈ [a, b]
  lU : U.length ≤ 10
  lV : V.length ≤ 10
  lS : U.length + V.length ≤ 16
/-- what a writing of two octets must be -/
structure CodeOk (c : Int → Str) (oc : List Int) : Prop where
  oct : ∀ z ∈ oc, Oct z
  parts : PartsOk c oc
  len : ∀ z ∈ oc, 0 < (c z).length ∧ (c z).length ≤ 3
  ascii : ∀ z ∈ oc, ∀ q ∈ (c z).cps.toList, q < 128
theorem octs_two {a b : Int} (oa : Oct a) (ob : Oct b) : ∀ z ∈ [a, b], Oct z := fun z hz => by
  simp only [List.mem_cons, List.not_mem_nil, or_false] at hz
  rcases hz with rfl | rfl <;> assumption
theorem hx_ascii : ∀ n : Nat, n < 16 → hx n < 128 := by decide +kernel
theorem esc_ascii {z : Int} (h : Oct z) : ∀ q ∈ (escS z).cps.toList, q < 128 := by
  intro q hq
  rw [esc_cps] at hq
  have h1 := h.1
  have h2 := h.2
  simp only [List.mem_cons, List.not_mem_nil, or_false] at hq
  rcases hq with rfl | rfl | rfl
  · decide
  · exact hx_ascii _ (by omega)
  · exact hx_ascii _ (by omega)
theorem codeOkE {a b : Int} (oa : Oct a) (ob : Oct b) : CodeOk escS [a, b] where
  oct := octs_two oa ob
  parts := fun x hx y hy h => part_escS (octs_two oa ob x hx) (octs_two oa ob y hy) h
  len := fun z _ => by rw [esc_length]; omega
  ascii := fun z hz => esc_ascii (octs_two oa ob z hz)
theorem codeOkC {a b : Int} (oa : Oct a) (ob : Oct b) : CodeOk codeS [a, b] where
  oct := octs_two oa ob
  parts := fun x hx y hy h => part_codeS (octs_two oa ob x hx) (octs_two oa ob y hy) h
  len := fun z hz => by
    rcases code_kinds (octs_two oa ob z hz) with e | ⟨q, e, _⟩
    · rw [e, esc_length]; omega
    · rw [e]; show 0 < 1 ∧ 1 ≤ 3; omega
  ascii := fun z hz => by
    rcases code_kinds (octs_two oa ob z hz) with e | ⟨q, e, _, hq, _⟩
    · rw [e]; exact esc_ascii (octs_two oa ob z hz)
    · rw [e]; intro r hr; simp only [List.mem_singleton] at hr; rw [hr]; exact hq
section
variable {c : Int → Str} {oc : List Int}
theorem row_ok (hc : CodeOk c oc) {ns : List Int} (h0 : 0 < ns.length) (hl : ns.length ≤ 36) (hm : ∀ z ∈ ns, z ∈ oc) : RowOk c oc ns :=
  ⟨fun z hz => hc.oct z (hm z hz), h0, hl, fun z hz => ⟨hm z hz, (hc.len z (hm z hz)).2, hc.ascii z (hm z hz)⟩⟩
variable {a b : Int} {U V : List Int} {bs : List (List Int)}
theorem UV.flat (h : UV a b U V) (hb : ∀ x ∈ bs, x = U ∨ x = V) : (∀ z ∈ bs.flatten, z ∈ [a, b]) ∧ bs.flatten.length ≤ 10 * bs.length := by
  induction bs with
  | nil => exact ⟨(fun _ h => by simp at h), Nat.le_refl _⟩
  | cons x r ih =>
    obtain ⟨q1, q2⟩ := ih fun y hy => hb y (.tail _ hy)
    have z : (∀ z ∈ x, z ∈ [a, b]) ∧ x.length ≤ 10 := by
      rcases hb x (.head _) with rfl | rfl
      · exact ⟨h.mU, h.lU⟩
      · exact ⟨h.mV, h.lV⟩
    refine ⟨fun y hy => ?_, ?_⟩
    · rw [List.flatten_cons, List.mem_append] at hy
      exact hy.elim (z.1 y) (q1 y)
    · rw [List.flatten_cons, List.length_append, List.length_cons]
      have := z.2
      omega
theorem UV.swap (h : UV a b U V) : UV a b V U := ⟨h.pV, h.pU, h.mV, h.mU, h.lV, h.lU, by have := h.lS; omega⟩
theorem rowU (hc : CodeOk c [a, b]) (h : UV a b U V) : RowOk c [a, b] U := row_ok hc h.pU (by have := h.lU; omega) h.mU
theorem rowV (hc : CodeOk c [a, b]) (h : UV a b U V) : RowOk c [a, b] V := rowU hc h.swap
theorem rowUV (hc : CodeOk c [a, b]) (h : UV a b U V) : RowOk c [a, b] (U ++ V) :=
  row_ok hc (by rw [List.length_append]; have := h.pU; omega) (by rw [List.length_append]; have := h.lS; omega) fun z hz => (List.mem_append.mp hz).elim (h.mU z) (h.mV z)
theorem rowVU (hc : CodeOk c [a, b]) (h : UV a b U V) : RowOk c [a, b] (V ++ U) := rowUV hc h.swap
theorem rowM (hc : CodeOk c [a, b]) (h : UV a b U V) (hb : ∀ x ∈ bs, x = U ∨ x = V) (hl : bs.length ≤ 2) : RowOk c [a, b] (U ++ (bs.flatten ++ V)) := by
  obtain ⟨q1, q2⟩ := h.flat hb
  have h1 := h.pU
  have h2 := h.lS
  refine row_ok hc (by rw [List.length_append]; omega) (by rw [List.length_append, List.length_append]; omega) fun z hz => ?_
  rw [List.mem_append, List.mem_append] at hz
  exact hz.elim (h.mU z) fun hz => hz.elim (q1 z) (h.mV z)
theorem rowM' (hc : CodeOk c [a, b]) (h : UV a b U V) (hb : ∀ x ∈ bs, x = U ∨ x = V) (hl : bs.length ≤ 2) : RowOk c [a, b] (V ++ (bs.flatten ++ U)) := rowM hc h.swap (fun x hx => (hb x hx).symm) hl
end
section
variable {c : Int → Str} {oc : List Int}
theorem wl_len (c : Int → Str) (ns : List Int) : (wordC c ns).length = (wl c ns).length := by simp [wordC, wl, Str.length]
theorem wl_toList (c : Int → Str) (ns : List Int) : (wordC c ns).cps.toList = wl c ns := by simp [wordC, wl]
theorem wl_pos (hc : CodeOk c oc) {ns : List Int} (h0 : 0 < ns.length) (hm : ∀ z ∈ ns, z ∈ oc) : 0 < (wl c ns).length := by
  cases ns with
  | nil => simp at h0
  | cons z r =>
    have := (hc.len z (hm z (.head _))).1
    simp only [wl, List.flatMap_cons, List.length_append, Array.length_toList]
    simp only [Str.length] at this
    omega
theorem wl_le (hc : CodeOk c oc) : ∀ {ns : List Int}, (∀ z ∈ ns, z ∈ oc) → (wl c ns).length ≤ 3 * ns.length
  | [], _ => Nat.le_refl _
  | z :: r, hm => by
    have h1 := (hc.len z (hm z (.head _))).2
    have h2 := wl_le hc (ns := r) fun y hy => hm y (.tail _ hy)
    simp only [wl, List.flatMap_cons, List.length_append, Array.length_toList, List.length_cons] at h2 ⊢
    simp only [Str.length] at h1
    omega
theorem comm_gcd (x y : Nat) (h : y < 64) : comm12 (x : Int) (y : Int) = ((Nat.gcd x y : Nat) : Int) := by
  have step : ∀ (l : List Int) (p : Nat × Nat), List.foldl (fun (p : Int × Int) (_ : Int) => (if ¬p.snd = 0 then p.snd else p.fst, if ¬p.snd = 0 then p.fst.fmod p.snd else p.snd)) ((p.1 : Int), (p.2 : Int)) l = (((eus l.length p).1 : Int), ((eus l.length p).2 : Int)) := by
    intro l
    induction l with
    | nil => intro p; rfl
    | cons z r ih =>
      intro p
      rw [List.foldl_cons, List.length_cons]
      show _ = (((eus r.length (eu p)).1 : Int), ((eus r.length (eu p)).2 : Int))
      rw [← ih (eu p)]
      congr 1
      unfold eu
      by_cases h0 : p.2 = 0
      · simp [h0]
      · have : ¬ ((p.2 : Nat) : Int) = 0 := by omega
        rw [if_pos this, if_pos this, if_neg h0]
        show ((p.2 : Int), _) = _
        rw [Int.fmod_eq_emod_of_nonneg _ (by omega)]
        rfl
  unfold comm12
  have e := step (rangeKs 0 12) (x, y)
  have l12 : (rangeKs 0 12).length = 12 := by decide
  rw [l12] at e
  rw [e, eus_12 x y h]
theorem str_eq_of {x y : Str} (h : x.cps.toList = y.cps.toList) : x = y := by
  apply Str.ext'
  exact Array.toList_inj.mp h
theorem cut_list {x : Str} {n : Nat} (h : n ≤ x.length) : (Txt.slice x none (some (n : Int))).cps.toList = x.cps.toList.take n := by
  rw [slice_to (by omega) (by omega)]
  simp
theorem app_list (c : Int → Str) (X Y : List Int) : (wordC c X ++ wordC c Y).cps.toList = wl c X ++ wl c Y := by
  show ((wordC c X).cps ++ (wordC c Y).cps).toList = _
  rw [Array.toList_append, wl_toList, wl_toList]
theorem first_is (x : List Str) (y : List Str) (c : Int → Str) (X Y : List Int) (hp : PartsOk c oc) (hX : ∀ z ∈ X, z ∈ oc) (hY : ∀ z ∈ Y, z ∈ oc) (hl : X.length = Y.length) (e : fdiff x y = fdiff (wl c X) (wl c Y)) : firstV (parts x y) = dueV c X Y := by
  funext t
  unfold firstV dueV
  rw [find_signs, e, due_is hp X Y 0 hX hY hl]
  cases fdiff (wl c X) (wl c Y) with
  | none => rfl
  | some k => show Value.int (k : Int) t = Value.int (0 + (k : Int)) t; rw [Int.zero_add]
theorem mul_rep (x : Str) (n : Nat) : (Txt.mul x (n : Int)).cps.toList = rep n x.cps.toList := by
  unfold Txt.mul
  split
  · have : n = 0 := by omega
    subst this; rfl
  · rename_i h0
    have hf : ∀ (k : Nat) (acc : Array Nat), ((List.replicate k x.cps).foldl (· ++ ·) acc).toList = acc.toList ++ rep k x.cps.toList := by
      intro k
      induction k with
      | zero => intro acc; simp
      | succ k ih =>
        intro acc
        rw [List.replicate_succ, List.foldl_cons, ih, Array.toList_append, rep_succ, List.append_assoc]
    split
    · rename_i h1
      rw [Bool.or_eq_true] at h1
      rcases h1 with h1 | h1
      · have : n = 1 := by have := eq_of_beq h1; omega
        subst this; simp
      · have hx : x.cps.toList = [] := by
          have h2 : x.cps.size = 0 := eq_of_beq h1
          exact List.eq_nil_of_length_eq_zero (by simpa using h2)
        rw [hx]
        have : ∀ k : Nat, rep k ([] : List Nat) = [] := fun k => by simp [rep]
        rw [this]
    · rw [Int.toNat_natCast, hf]
      simp
end
end
-- part P3
section
open PySem PySem.W PyProof.Rows
set_option maxRecDepth 100000
section
variable {c : Int → Str} {a b : Int} {U V : List Int} {bs bs' : List (List Int)}
noncomputable abbrev roomW (c : Int → Str) (U V : List Int) : Nat := (wl c U).length + (wl c V).length - Nat.gcd (wl c U).length (wl c V).length
theorem roomW_le (c : Int → Str) (U V : List Int) : roomW c U V ≤ (wl c U).length + (wl c V).length := Nat.sub_le _ _
theorem wl_30 (hc : CodeOk c [a, b]) (h : UV a b U V) : (wl c U).length ≤ 30 := Nat.le_trans (wl_le hc h.mU) (by have := h.lU; omega)
theorem wl_one (hc : CodeOk c [a, b]) (h : UV a b U V) : 0 < (wl c U).length := wl_pos hc h.pU h.mU
theorem gcd_l (hc : CodeOk c [a, b]) (h : UV a b U V) : Nat.gcd (wl c U).length (wl c V).length ≤ (wl c U).length := Nat.le_of_dvd (wl_one hc h) (Nat.gcd_dvd_left ..)
theorem gcd_r (hc : CodeOk c [a, b]) (h : UV a b U V) : Nat.gcd (wl c U).length (wl c V).length ≤ (wl c V).length := Nat.le_of_dvd (wl_one hc h.swap) (Nat.gcd_dvd_right ..)
theorem comI_is (hc : CodeOk c [a, b]) (h : UV a b U V) : comI c U V = ((Nat.gcd (wl c U).length (wl c V).length : Nat) : Int) := by
  show comm12 _ _ = _
  rw [wl_len, wl_len]
  exact comm_gcd _ _ (by have := wl_30 hc h.swap; omega)
theorem roomI_is (hc : CodeOk c [a, b]) (h : UV a b U V) : roomI c U V = ((roomW c U V : Nat) : Int) := by
  have e : roomI c U V = ((wordC c U).length : Int) + ((wordC c V).length : Int) - comI c U V := rfl
  rw [e, comI_is hc h, wl_len, wl_len]
  have := gcd_l hc h
  simp only [roomW]
  omega
theorem roomN_is (hc : CodeOk c [a, b]) (h : UV a b U V) : roomN c U V = roomW c U V := by
  unfold roomN
  rw [roomI_is hc h]
  rfl
theorem ne_of_len {l : List Nat} (h : 0 < l.length) : l ≠ [] := List.length_pos_iff.mp h
theorem wl_mid (c : Int → Str) (U V : List Int) (bs : List (List Int)) : wl c (U ++ (bs.flatten ++ V)) = wl c U ++ (bs.map (wl c) ++ [wl c V]).flatten := by
  have e : wl c bs.flatten = (bs.map (wl c)).flatten := by
    induction bs with
    | nil => rfl
    | cons x r ih => rw [List.flatten_cons, wl_append, ih, List.map_cons, List.flatten_cons]
  rw [wl_append, wl_append, e, List.flatten_append]
  simp
theorem blocks_of (hb : ∀ x ∈ bs, x = U ∨ x = V) : Blocks (wl c U) (wl c V) (bs.map (wl c) ++ [wl c V]) := by
  intro x hx
  rcases List.mem_append.mp hx with hx | hx
  · obtain ⟨y, hy, rfl⟩ := List.mem_map.mp hx
    rcases hb y hy with rfl | rfl
    · exact .inl rfl
    · exact .inr rfl
  · exact .inr (List.mem_singleton.mp hx)
theorem blocks_of' (hb : ∀ x ∈ bs, x = U ∨ x = V) : Blocks (wl c U) (wl c V) (bs.map (wl c) ++ [wl c U]) := by
  intro x hx
  rcases List.mem_append.mp hx with hx | hx
  · obtain ⟨y, hy, rfl⟩ := List.mem_map.mp hx
    rcases hb y hy with rfl | rfl
    · exact .inl rfl
    · exact .inr rfl
  · exact .inl (List.mem_singleton.mp hx)
theorem mid_len (c : Int → Str) (U V : List Int) (bs : List (List Int)) : (wl c U).length + (wl c V).length ≤ (wl c (U ++ (bs.flatten ++ V))).length := by
  rw [wl_append, wl_append, List.length_append, List.length_append]
  omega
/-- the cut messages part where the two orders do -/
theorem cut_parts (hc : CodeOk c [a, b]) (h : UV a b U V) (hb : ∀ x ∈ bs, x = U ∨ x = V) (hb' : ∀ x ∈ bs', x = U ∨ x = V) :
    fdiff ((wl c (U ++ (bs.flatten ++ V))).take (roomW c U V)) ((wl c (V ++ (bs'.flatten ++ U))).take (roomW c U V)) = fdiff (wl c (U ++ V)) (wl c (V ++ U)) := by
  have l1 := mid_len c U V bs
  have l2 := mid_len c V U bs'
  rw [wl_mid c U V bs] at l1 ⊢
  rw [wl_mid c V U bs'] at l2 ⊢
  rw [parts_alike (ne_of_len (wl_one hc h)) (ne_of_len (wl_one hc h.swap)) (blocks_of hb) (blocks_of' hb') (by omega) (by omega), wl_append, wl_append]
theorem mem_mid (h : UV a b U V) (hb : ∀ x ∈ bs, x = U ∨ x = V) : ∀ z ∈ U ++ (bs.flatten ++ V), z ∈ [a, b] := fun z hz => by
  rw [List.mem_append, List.mem_append] at hz
  exact hz.elim (h.mU z) fun hz => hz.elim ((h.flat hb).1 z) (h.mV z)
theorem mem_two (h : UV a b U V) : ∀ z ∈ U ++ V, z ∈ [a, b] := fun z hz => (List.mem_append.mp hz).elim (h.mU z) (h.mV z)
theorem wl_ascii (hc : CodeOk c [a, b]) {ns : List Int} (hm : ∀ z ∈ ns, z ∈ [a, b]) : ∀ q ∈ wl c ns, q < 128 := by
  intro q hq
  simp only [wl, List.mem_flatMap] at hq
  obtain ⟨z, hz, hq⟩ := hq
  exact hc.ascii z (hm z hz) q hq
theorem cut_ok (hc : CodeOk c [a, b]) (h : UV a b U V) {ns : List Int} (hm : ∀ z ∈ ns, z ∈ [a, b]) (hl : (wl c U).length + (wl c V).length ≤ (wl c ns).length) :
    (Txt.slice (wordC c ns) none (some (roomI c U V))).cps.toList = (wl c ns).take (roomW c U V) ∧ (Txt.slice (wordC c ns) none (some (roomI c U V))).length = roomW c U V ∧ (Txt.slice (wordC c ns) none (some (roomI c U V))).cps.all (· < 128) = true := by
  have hR := roomW_le c U V
  have e : (Txt.slice (wordC c ns) none (some (roomI c U V))).cps.toList = (wl c ns).take (roomW c U V) := by
    rw [roomI_is hc h, cut_list (by rw [wl_len]; omega), wl_toList]
  refine ⟨e, ?_, ?_⟩
  · show Array.size _ = _
    rw [← Array.length_toList, e, List.length_take]
    omega
  · rw [← Array.all_toList, e, List.all_eq_true]
    exact fun q hq => decide_eq_true (wl_ascii hc hm q (List.mem_of_mem_take hq))
theorem firstIs_of (hc : CodeOk c [a, b]) (h : UV a b U V) (hb : ∀ x ∈ bs, x = U ∨ x = V) (hb' : ∀ x ∈ bs', x = U ∨ x = V) :
    FirstIs c (U ++ V) (V ++ U) (Txt.slice (wordC c (U ++ (bs.flatten ++ V))) none (some (roomI c U V))) (Txt.slice (wordC c (V ++ (bs'.flatten ++ U))) none (some (roomI c U V))) := by
  obtain ⟨e1, e2, e3⟩ := cut_ok hc h (mem_mid h hb) (mid_len c U V bs)
  obtain ⟨f1, f2, f3⟩ := cut_ok hc h (mem_mid h.swap fun x hx => (hb' x hx).symm) (by have := mid_len c V U bs'; omega)
  have w1 := wl_30 hc h
  have w2 := wl_30 hc h.swap
  have hR := roomW_le c U V
  refine ⟨by rw [e2]; omega, by rw [f2]; omega, by rw [e2, f2], e3, f3, ?_⟩
  refine first_is _ _ c _ _ hc.parts (mem_two h) (mem_two h.swap) (by rw [List.length_append, List.length_append]; omega) ?_
  unfold signs
  rw [fdiff_map sign_inj, e1, f1]
  exact cut_parts hc h hb hb'
theorem item_of {x : Str} {i q : Nat} (h : x.cps.toList[i]? = some q) : Txt.item x ((i : Nat) : Int) = ⟨#[q]⟩ := by
  have hi : i < x.length := by
    have := (List.getElem?_eq_some_iff.mp h).1
    simpa [Str.length] using this
  have e : Txt.charAt x (i : Int) = some q := by
    unfold Txt.charAt
    rw [show seqIndex? ((i : Nat) : Int) x.length = some i from by rw [StrLaws.seqIndex_nonneg (by omega) (by omega)]; rfl]
    show x.cps[i]? = some q
    rw [← Array.getElem?_toList]
    exact h
  unfold Txt.item
  rw [e]
  rfl
theorem endl_is {W : Str} (hW : 0 < W.length) (n : Nat) : endl W n = ((rep (n + 1) W.cps.toList).take n).map fun q => (⟨#[q]⟩ : Str) := by
  have hl : W.cps.toList.length = W.length := by simp [Str.length]
  have hn : n ≤ (n + 1) * W.cps.toList.length := by
    rw [hl]
    exact Nat.le_trans (Nat.le_succ n) (Nat.le_mul_of_pos_right _ hW)
  have := rep_cyc (W := W.cps.toList) (by rw [hl]; exact hW) hn (fun i => Txt.item W ((i : Nat) : Int)) (fun q => (⟨#[q]⟩ : Str)) fun i q hq => item_of hq
  rw [hl] at this
  exact this
theorem endl_short {W : Str} {n : Nat} : ∀ x ∈ endl W n, x.length ≤ 300 := by
  intro x hx
  simp only [endl, List.mem_map] at hx
  obtain ⟨i, _, rfl⟩ := hx
  exact Nat.le_of_ble_eq_true rfl
theorem blocks_rep_l {x y : List Nat} (n : Nat) : Blocks x y (List.replicate n x) := fun _ hb => .inl (List.eq_of_mem_replicate hb)
theorem blocks_rep_r {x y : List Nat} (n : Nat) : Blocks x y (List.replicate n y) := fun _ hb => .inr (List.eq_of_mem_replicate hb)
theorem endless_parts (hc : CodeOk c [a, b]) (h : UV a b U V) : firstV (Mine.parts (endl (wordC c U) (roomN c U V)) (endl (wordC c V) (roomN c U V))) = dueV c (U ++ V) (V ++ U) := by
  have p1 := wl_one hc h
  have p2 := wl_one hc h.swap
  refine first_is _ _ c _ _ hc.parts (mem_two h) (mem_two h.swap) (by rw [List.length_append, List.length_append]; omega) ?_
  rw [endl_is (by rw [wl_len]; exact p1), endl_is (by rw [wl_len]; exact p2), fdiff_map sign_inj, roomN_is hc h, wl_toList, wl_toList, rep_succ, rep_succ]
  have l1 : roomW c U V ≤ (wl c U ++ rep (roomW c U V) (wl c U)).length := by
    rw [List.length_append, rep_length]
    have := Nat.le_mul_of_pos_right (roomW c U V) p1
    omega
  have l2 : roomW c U V ≤ (wl c V ++ rep (roomW c U V) (wl c V)).length := by
    rw [List.length_append, rep_length]
    have := Nat.le_mul_of_pos_right (roomW c U V) p2
    omega
  have := parts_alike (ne_of_len p1) (ne_of_len p2) (bs := List.replicate (roomW c U V) (wl c U)) (bs' := List.replicate (roomW c U V) (wl c V)) (blocks_rep_l _) (blocks_rep_r _) l1 l2
  rw [wl_append, wl_append]
  exact this
theorem first_good {ns : List Int} {k : Nat} (h : FirstGood ns k) : firstN ns k := by
  have key : ∀ j, goodS ns j ↔ goodN ns j := by
    intro j
    have e : ((ns.length : Int).fdiv (j : Int)).toNat = ns.length / j := by
      rw [Int.fdiv_eq_ediv_of_nonneg _ (by omega)]
      rfl
    unfold goodS goodN rep
    rw [e]
  exact ⟨h.1, h.2.1, (key k).mp h.2.2.1, fun j h1 h2 q => h.2.2.2 j h1 h2 ((key j).mpr q)⟩
theorem words_comm (hc : CodeOk c [a, b]) (h : UV a b U V) : (U ++ V = V ++ U) ↔ wordC c U ++ wordC c V = wordC c V ++ wordC c U := by
  constructor
  · intro e
    apply str_eq_of
    rw [app_list, app_list, ← wl_append, ← wl_append, e]
  · intro e
    refine wl_inj hc.parts (mem_two h) (mem_two h.swap) (by rw [List.length_append, List.length_append]; omega) ?_
    have := congrArg (fun x : Str => x.cps.toList) e
    simp only [app_list] at this
    rw [wl_append, wl_append]
    exact this
theorem pow_one (hc : CodeOk c [a, b]) (h : UV a b U V) (e : wordC c U ++ wordC c V = wordC c V ++ wordC c U) :
    Txt.mul (Txt.slice (wordC c U) none (some (comI c U V))) (((wordC c U).length : Int).fdiv (comI c U V)) = wordC c U ∧
    Txt.mul (Txt.slice (wordC c U) none (some (comI c U V))) (((wordC c V).length : Int).fdiv (comI c U V)) = wordC c V := by
  have e' : wl c U ++ wl c V = wl c V ++ wl c U := by
    have := congrArg (fun x : Str => x.cps.toList) e
    simpa only [app_list] using this
  have p1 := wl_one hc h
  have p2 := wl_one hc h.swap
  obtain ⟨r, x, y, hr, hl, hx, hy⟩ := commute_rep _ _ _ (Nat.le_refl _) (ne_of_len p1) (ne_of_len p2) e'
  have hg : 0 < Nat.gcd (wl c U).length (wl c V).length := Nat.gcd_pos_of_pos_left _ p1
  have lx : (wl c U).length / Nat.gcd (wl c U).length (wl c V).length = x := by
    have : (wl c U).length = x * r.length := by conv => lhs; rw [hx, rep_length]
    rw [← hl, this, Nat.mul_div_cancel _ (by omega)]
  have ly : (wl c V).length / Nat.gcd (wl c U).length (wl c V).length = y := by
    have : (wl c V).length = y * r.length := by conv => lhs; rw [hy, rep_length]
    rw [← hl, this, Nat.mul_div_cancel _ (by omega)]
  have fd : ∀ n : Nat, ((n : Nat) : Int).fdiv ((Nat.gcd (wl c U).length (wl c V).length : Nat) : Int) = ((n / Nat.gcd (wl c U).length (wl c V).length : Nat) : Int) := fun n => by
    rw [Int.fdiv_eq_ediv_of_nonneg _ (by omega)]; rfl
  have cut : (Txt.slice (wordC c U) none (some ((Nat.gcd (wl c U).length (wl c V).length : Nat) : Int))).cps.toList = r := by
    rw [cut_list (by rw [wl_len]; exact gcd_l hc h), wl_toList, ← hr]
  rw [comI_is hc h, wl_len, wl_len, fd, fd, lx, ly]
  constructor
  · apply str_eq_of
    rw [mul_rep, cut, wl_toList, ← hx]
  · apply str_eq_of
    rw [mul_rep, cut, wl_toList, ← hy]
theorem kept_ok (hc : CodeOk c [a, b]) (h : UV a b U V) (hb : ∀ x ∈ bs, x = U ∨ x = V) (hb' : ∀ x ∈ bs', x = U ∨ x = V) :
    KeptOk c U V (U ++ V) (V ++ U) (U ++ (bs.flatten ++ V)) (V ++ (bs'.flatten ++ U)) where
  pos0 := by rw [wl_len]; exact wl_one hc h
  pos1 := by rw [wl_len]; exact wl_one hc h.swap
  com0 := by rw [comI_is hc h]; have := Nat.gcd_pos_of_pos_left (wl c V).length (wl_one hc h); omega
  com1 := by rw [comI_is hc h, wl_len]; have := gcd_l hc h; omega
  com2 := by rw [comI_is hc h, wl_len]; have := gcd_r hc h; omega
  room2 := by rw [roomI_is hc h, wl_len, wl_append, List.length_append]; have := roomW_le c U V; omega
  f23 := firstIs_of (bs := []) (bs' := []) hc h (fun _ h => by simp at h) (fun _ h => by simp at h)
  f45 := firstIs_of hc h hb hb'
  e0 := endl_short
  e1 := endl_short
  fE := endless_parts hc h
  roots := fun k j hk hj => (roots_iff (first_good hk) (first_good hj)).trans (words_comm hc h)
  pow0 := fun e => (pow_one hc h e).1
  pow1 := fun e => (pow_one hc h e).2
end
end
-- part P4
section
open PySem PySem.W PyProof.Rows
set_option maxRecDepth 100000
theorem join_list (sep : Str) (hs : sep.cps.toList = []) : ∀ l : List Str, (Str.join sep l).cps.toList = l.flatMap (·.cps.toList)
  | [] => rfl
  | [x] => by simp [Str.join]
  | x :: y :: r => by
    show ((x.cps ++ sep.cps) ++ (Str.join sep (y :: r)).cps).toList = _
    rw [Array.toList_append, Array.toList_append, hs, join_list sep hs (y :: r), List.append_nil]
    simp
theorem join_any (sep : Str) : ∀ (x y : Str) (r : List Str), (Str.join sep (x :: y :: r)).cps.toList = x.cps.toList ++ (sep.cps.toList ++ (Str.join sep (y :: r)).cps.toList) := fun x y r => by
  show ((x.cps ++ sep.cps) ++ (Str.join sep (y :: r)).cps).toList = _
  rw [Array.toList_append, Array.toList_append, List.append_assoc]
theorem flat_free (z : List Nat) (c : Nat) : ∀ l : List Nat, c ∉ l → l.flatMap (fun q => if q = c then z else [q]) = l
  | [], _ => rfl
  | a :: l, h => by
    rw [List.flatMap_cons, flat_free z c l fun hm => h (.tail _ hm), if_neg (fun e : a = c => h (by rw [e]; exact .head _))]
    rfl
theorem join_swap (z : Str) (c : Nat) : ∀ l : List Str, (∀ p ∈ l, c ∉ p.cps.toList) → (Str.join z l).cps.toList = (Str.join ⟨#[c]⟩ l).cps.toList.flatMap (fun q => if q = c then z.cps.toList else [q])
  | [], _ => rfl
  | [x], h => (flat_free _ c _ (h x (.head _))).symm
  | x :: y :: r, h => by
    rw [join_any, join_any, List.flatMap_append, List.flatMap_append, flat_free _ c _ (h x (.head _)), ← join_swap z c (y :: r) fun p hp => h p (.tail _ hp)]
    simp
theorem replace_flat (x z : Str) (c : Nat) : (Txt.replace x ⟨#[c]⟩ z).cps.toList = x.cps.toList.flatMap (fun q => if q = c then z.cps.toList else [q]) := by
  rw [StrLaws.replace_one, join_swap z c _ (StrLaws.split_free x c), StrLaws.join_split]
/-- the rows that decode reads -/
noncomputable def psC (ns : List Int) : List (Bool × Int) := ns.map fun z => (plainI z, z)
noncomputable def psE (ns : List Int) : List (Bool × Int) := ns.map fun z => (false, z)
theorem hx_ne95 : ∀ n : Nat, n < 16 → hx n ≠ 95 := by decide +kernel
theorem esc_free {z : Int} (h : Oct z) : 95 ∉ (escS z).cps.toList := by
  rw [esc_cps]
  have h1 := h.1
  have h2 := h.2
  intro hm
  simp only [List.mem_cons, List.not_mem_nil, or_false] at hm
  rcases hm with e | e | e
  · omega
  · exact hx_ne95 _ (by omega) e.symm
  · exact hx_ne95 _ (by omega) e.symm
theorem under_is : (Str.ofString "_") = ⟨#[95]⟩ := by decide +kernel
theorem blank_is : (Str.ofString "=20").cps.toList = [61, 50, 48] := by decide +kernel
theorem piece_esc (z : Int) : pieceL (false, z) = (escS z).cps.toList := rfl
theorem flat_enc (c : Int → Str) (p : Int → Bool) (z : List Nat) {ns : List Int} (h : ∀ n ∈ ns, (c n).cps.toList.flatMap (fun q => if q = 95 then z else [q]) = pieceL (p n, n)) :
    (wl c ns).flatMap (fun q => if q = 95 then z else [q]) = encL (ns.map fun n => (p n, n)) := by
  induction ns with
  | nil => rfl
  | cons a r ih =>
    have e : wl c (a :: r) = (c a).cps.toList ++ wl c r := by simp [wl]
    rw [e, List.flatMap_append, h a (.head _), ih fun n hn => h n (.tail _ hn)]
    simp [encL]
theorem dec_row (ns : List Int) (p : Int → Bool) : decT (ns.map fun n => (p n, n)) = wordC chrS ns := by
  apply str_eq_of
  rw [wl_toList]
  show ((ns.map fun n => (p n, n)).map fun q => q.2.toNat).toArray.toList = _
  induction ns with
  | nil => rfl
  | cons a r ih =>
    have e : wl chrS (a :: r) = [a.toNat] ++ wl chrS r := by simp [wl, chrS]
    rw [e, ← ih]
    simp
theorem dec_of {c : Int → Str} {a b : Int} (p : Int → Bool) (h : ∀ z ∈ [a, b], (c z).cps.toList.flatMap (fun q => if q = 95 then [61, 50, 48] else [q]) = pieceL (p z, z)) (hp : ∀ z ∈ [a, b], p z = true → plainI z = true) : DecOk c [a, b] := by
  intro ns hr
  refine ⟨ns.map fun n => (p n, n), ?_, ?_, by rw [List.length_map]; exact hr.2.1, by rw [List.length_map]; have := hr.2.2.1; omega, dec_row ns p⟩
  · apply str_eq_of
    rw [under_is, replace_flat, blank_is, wl_toList, flat_enc c p _ fun n hn => h n (hr.mem hn)]
    rfl
  · intro q hq
    obtain ⟨n, hn, rfl⟩ := List.mem_map.mp hq
    exact ⟨hr.1 n hn, hp n (hr.mem hn)⟩
theorem decE {a b : Int} (oa : Oct a) (ob : Oct b) : DecOk escS [a, b] :=
  dec_of (fun _ => false) (fun z hz => by rw [piece_esc]; exact flat_free _ _ _ (esc_free (octs_two oa ob z hz))) fun _ _ h => nomatch h
theorem piece_32 : pieceL (false, 32) = [61, 50, 48] := by decide +kernel
theorem plain_32 : plainI 32 = false := by decide +kernel
theorem decC {a b : Int} (oa : Oct a) (ob : Oct b) : DecOk codeS [a, b] := by
  refine dec_of plainI (fun z hz => ?_) fun _ _ h => h
  have oz := octs_two oa ob z hz
  by_cases hp : plainI z = true
  · rcases code_kinds oz with e | ⟨q, e, _, _, k⟩
    · exfalso
      have h32 : z ≠ 32 := fun q => by rw [q, plain_32] at hp; cases hp
      unfold codeS at e
      rw [if_neg h32, if_pos hp] at e
      have h13 : (1 : Nat) = 3 := congrArg (fun x : Str => x.length) e
      exact absurd h13 (by decide)
    · rcases k with ⟨k1, k2⟩ | ⟨k1, k2, k3, _⟩
      · rw [k1, plain_32] at hp; cases hp
      · rw [e, hp]
        show [q].flatMap _ = [z.toNat]
        rw [← k2]
        simp [k3]
  · have hp' : plainI z = false := by simpa using hp
    rcases code_kinds oz with e | ⟨q, e, _, _, k⟩
    · rw [e, hp', piece_esc]; exact flat_free _ _ _ (esc_free oz)
    · rcases k with ⟨k1, k2⟩ | ⟨k1, k2, k3, k4⟩
      · rw [e, hp', k1, piece_32, k2]; rfl
      · rw [k4] at hp'; cases hp'
end
-- part L2
section
open PySem PySem.W PyProof.Rows
set_option maxRecDepth 100000
set_option maxHeartbeats 8000000
variable {w : World} {p : Program} {loose : List Str} {mean : ExcName → Option Value} {mg mb : Str → Option Value}

theorem keptC {a b : Int} {U V : List Int} {bs bs' : List (List Int)} (h : UV a b U V) (oa : Oct a) (ob : Oct b) (hb : ∀ x ∈ bs, x = U ∨ x = V) (hb' : ∀ x ∈ bs', x = U ∨ x = V) : KeptOk codeS U V (U ++ V) (V ++ U) (U ++ (bs.flatten ++ V)) (V ++ (bs'.flatten ++ U)) := kept_ok (codeOkC oa ob) h hb hb'
theorem keptE {a b : Int} {U V : List Int} {bs bs' : List (List Int)} (h : UV a b U V) (oa : Oct a) (ob : Oct b) (hb : ∀ x ∈ bs, x = U ∨ x = V) (hb' : ∀ x ∈ bs', x = U ∨ x = V) : KeptOk escS U V (U ++ V) (V ++ U) (U ++ (bs.flatten ++ V)) (V ++ (bs'.flatten ++ U)) := kept_ok (codeOkE oa ob) h hb hb'
noncomputable def TwoRows (_ _ : Row) : Prop := True
section
variable {prog : Program} {A : Around} {E : Value → Shared → Prop} {s : Shared} {h₀ : Heap} {L : Addr} {m : Str → Option Value} {env : Env} {elt : PySem.Expr} {x : Str} {scope : Scope} {cl : List (Str × Addr)} {news : List (Addr × Obj)}
open LCg in
theorem src_bitsT {Fin : Shared → List Value → List (Addr × Obj) → Prop} {l : Addr} {vs : List Value} {k : Nat} {bs : List Int} {R0 R1 : Row} (_ : TwoRows R0 R1) (hh : A.handled = none) (F : Fr h₀ L s.heap m) (N : News h₀ L s.heap news) (hm : (l, listOf vs.toArray k) ∈ news) (hi : IntsAre vs bs) (hb : ∀ b ∈ bs, b = 0 ∨ b = 1) (hz : bs.length ≤ 2)
    (fin : ∀ h (rws : List Row), (∀ r ∈ rws, r = R0 ∨ r = R1) → rws.length ≤ 2 → Fin { s with heap := h } (rws.map fun r => Value.ref r.a) news)
    (turn0 : ∀ t I oI C oC D m₂ ys h tk (E' : Value → Shared → Prop), NsObj oC m₂ → m₂ x = some (.int 0 t) → Fr h₀ L h m → News h₀ L h ((I, oI) :: (C, oC) :: (D, lst ys) :: news) → Off3 I C D news → ((@Ne Nat I C) ∧ (@Ne Nat I D) ∧ (@Ne Nat C D)) →
      wpAny (model prog w) A (eval elt (compEnvC scope cl C env)) (CompEnd h₀ L m { s with heap := h, toks := tk } I oI C oC D (lst ys) (fun _ => True) (fun y nw => nw = news ∧ y = .ref R0.a)) E' { s with heap := h, toks := tk })
    (turn1 : ∀ t I oI C oC D m₂ ys h tk (E' : Value → Shared → Prop), NsObj oC m₂ → m₂ x = some (.int 1 t) → Fr h₀ L h m → News h₀ L h ((I, oI) :: (C, oC) :: (D, lst ys) :: news) → Off3 I C D news → ((@Ne Nat I C) ∧ (@Ne Nat I D) ∧ (@Ne Nat C D)) →
      wpAny (model prog w) A (eval elt (compEnvC scope cl C env)) (CompEnd h₀ L m { s with heap := h, toks := tk } I oI C oC D (lst ys) (fun _ => True) (fun y nw => nw = news ∧ y = .ref R1.a)) E' { s with heap := h, toks := tk }) :
    CompSrc prog w A h₀ L m env elt x scope cl Fin (.ref l) s :=
  src_bits R0 R1 hh F N hm hi hb (Nat.le_trans hz (by decide)) (fun h rws h1 h2 => fin h rws h1 (Nat.le_trans (Nat.le_of_eq h2) hz)) turn0 turn1
variable {a b : Int}
theorem src2_uv {Fin : Shared → List Value → List (Addr × Obj) → Prop} {l : Addr} {k : Nat} {rws : List Row} {R0 R1 : Row} (_ : TwoRows R0 R1) (h : UV a b R0.ns R1.ns) (hh : A.handled = none) (F : Fr h₀ L s.heap m) (N : News h₀ L s.heap news) (hm : (l, listOf (([.ref R0.a] ++ rws.map fun r => Value.ref r.a) ++ [.ref R1.a] : List Value).toArray k) ∈ news)
    (hr : ∀ r ∈ rws, r = R0 ∨ r = R1) (hl : rws.length ≤ 2) (m0 : (R0.a, listOf R0.vs.toArray R0.k) ∈ news) (m1 : (R1.a, listOf R1.vs.toArray R1.k) ∈ news) (i0 : IntsAre R0.vs R0.ns) (i1 : IntsAre R1.vs R1.ns)
    (fin : ∀ ys (bs : List (List Int)), (∀ x ∈ bs, x = R0.ns ∨ x = R1.ns) → bs.length ≤ 2 → IntsAre ys (R0.ns ++ (bs.flatten ++ R1.ns)) → Fin s ys news) : Src2 A h₀ L m Fin (.ref l) s :=
  src2_mk hh F N hm hr (.inl ⟨rfl, rfl⟩) m0 m1 i0 i1 h.lU h.lV hl fin
theorem src2_vu {Fin : Shared → List Value → List (Addr × Obj) → Prop} {l : Addr} {k : Nat} {rws : List Row} {R0 R1 : Row} (_ : TwoRows R0 R1) (h : UV a b R0.ns R1.ns) (hh : A.handled = none) (F : Fr h₀ L s.heap m) (N : News h₀ L s.heap news) (hm : (l, listOf (([.ref R1.a] ++ rws.map fun r => Value.ref r.a) ++ [.ref R0.a] : List Value).toArray k) ∈ news)
    (hr : ∀ r ∈ rws, r = R0 ∨ r = R1) (hl : rws.length ≤ 2) (m0 : (R0.a, listOf R0.vs.toArray R0.k) ∈ news) (m1 : (R1.a, listOf R1.vs.toArray R1.k) ∈ news) (i0 : IntsAre R0.vs R0.ns) (i1 : IntsAre R1.vs R1.ns)
    (fin : ∀ ys (bs : List (List Int)), (∀ x ∈ bs, x = R0.ns ∨ x = R1.ns) → bs.length ≤ 2 → IntsAre ys (R1.ns ++ (bs.flatten ++ R0.ns)) → Fin s ys news) : Src2 A h₀ L m Fin (.ref l) s :=
  src2_mk hh F N hm hr (.inr ⟨rfl, rfl⟩) m0 m1 i0 i1 h.lU h.lV hl fin
end
theorem seg_F {dp un : Nat} {gd : Option (List Code)} {A₀ : Around} {base h₀ h : Heap} {L fa cdv : Addr} {m : Str → Option Value} {tk : Nat} {s : Shared} {PF : Flow → Shared → Prop} {EE : Value → Shared → Prop}
    (lu lv lb lo : Addr) (vu vv vb vo : List Value) (ku kv kb ko : Nat) (U V B0 B1 : List Int) (iu : IntsAre vu U) (iv : IntsAre vv V) (ib : IntsAre vb B0) (io : IntsAre vo B1) (hb0 : ∀ b ∈ B0, b = 0 ∨ b = 1) (hb1 : ∀ b ∈ B1, b = 0 ∨ b = 1) (lb0 : B0.length ≤ 2) (lb1 : B1.length ≤ 2)
    (nm : Str) (tn : MTok) (hnm : nm.length < 20) (a b : Int) (ta tb : MTok) (oa : Oct a) (ob : Oct b) (hUV : UV a b U V) (o1 o2 o3 : Obj) (d2 : o2.data = .cell (some (.ref lu))) (d3 : o3.data = .cell (some (.ref lv)))
    (B : Below A₀ base [] h₀) (F : Fr h₀ L h m) (X : (K w.params).In h₀) (T : Top p loose mean mg mb h₀) (XB : (K w.params).In base) (TB : Top p loose mean mg mb base) (N : News h₀ L h ((L + 1 + 1 + 1, o3) :: (L + 1 + 1, o2) :: (L + 1, o1) :: (lu, listOf vu.toArray ku) :: (lv, listOf vv.toArray kv) :: (lb, listOf vb.toArray kb) :: (lo, listOf vo.toArray ko) :: []))
    (e_bits : m (Str.ofString "bits") = some (.ref lb)) (e_others : m (Str.ofString "others") = some (.ref lo)) (e_name : m (Str.ofString "name") = some (.str nm tn)) (e_octet : m (Str.ofString "octet") = some (.int a ta)) (e_other : m (Str.ofString "other") = some (.int b tb))
    (hd : dp + 40 < recursionLimit) (hu : un + 8 * 40 < cLine) (hE : PassesOwn (model PySem.Challenge.pw_ku0005_01 w) (topA dp un gd (envOfC (Str.ofString "law") (fdS 40) L fa (Value.ref cdv)) []) (envOfC (Str.ofString "law") (fdS 40) L fa (Value.ref cdv)) EE)
    (hQ : ∀ h' tk' m' news', Fr h₀ L h' m' → News h₀ L h' news' → PF (.ret (.bool true)) { s with heap := h', toks := tk' }) :
    wpAny (model PySem.Challenge.pw_ku0005_01 w) (topA dp un gd (envOfC (Str.ofString "law") (fdS 40) L fa (Value.ref cdv)) []) (execs ((fdB 40).drop 11) (envOfC (Str.ofString "law") (fdS 40) L fa (Value.ref cdv))) PF EE { s with heap := h, toks := tk } := by
  have hT : TwoRows ⟨lu, vu, ku, U⟩ ⟨lv, vv, kv, V⟩ := True.intro
  have hS := hUV.lS
  replace F := fr_tops [(Str.ofString "bits", .ref lb), (Str.ofString "others", .ref lo), (Str.ofString "name", .str nm tn), (Str.ofString "octet", .int a ta), (Str.ofString "other", .int b tb)] F (List.forall_mem_cons.mpr ⟨e_bits, List.forall_mem_cons.mpr ⟨e_others, List.forall_mem_cons.mpr ⟨e_name, List.forall_mem_cons.mpr ⟨e_octet, List.forall_mem_cons.mpr ⟨e_other, List.forall_mem_nil _⟩⟩⟩⟩⟩)
  dsimp only [tops] at F
  clear e_bits e_others e_name e_octet e_other
  show wpAny _ _ (execs (List.cons _ _) _) _ _ _
  repeat' (first
    | ((with_reducible show wpAny _ _ (PySem.exec _ _) _ _ _); k_fold)
    | ((with_reducible show wpAny _ _ (PySem.execs _ _) _ _ _); k_fold)
    | ((with_reducible show wpAny _ _ (PySem.execs _ _) _ _ _); dsimp only)
    | ((with_reducible show wpAny _ _ (execs (List.cons (PySem.Stmt.If _ _ _ _) _) _) _ _ _); first | with_reducible (((with_unfolding_all (refine' seg_G _ _ _ _ ?ghn _ _ _ _ ?goa ?gob _ _ _ _ ?gh0 ?gC0 ?gE0 _ _ _ _ ?gh1 ?gC1 ?gE1 _ _ _ _ ?gh2 ?gC2 ?gE2 _ _ _ _ ?gh3 ?gC3 ?gE3 _ _ _ _ ?gh4 ?gC4 ?gE4 _ _ _ _ ?gh5 ?gC5 ?gE5 ?gKC ?gKE ?gDC ?gDE ?gB ?gF ?gX ?gT ?gXB ?gTB ?gN ?ge1 ?ge2 ?ge3 ?ge4 ?ghd ?ghu ?ghE ?_)); (case gF => k_asm); (case ge1 => with_unfolding_all rfl); (case ge2 => with_unfolding_all rfl); (case ge3 => with_unfolding_all rfl); (case ge4 => with_unfolding_all rfl); (case gN => (refine kst_newsOf (by k_asm) ?_; (repeat' (first | exact List.forall_mem_nil _ | refine List.forall_mem_cons.mpr ⟨by with_unfolding_all k_mem, ?_⟩)))); (case ghn => assumption); (case goa => assumption); (case gob => assumption); (case gB => k_asm); (case gX => k_asm); (case gT => k_asm); (case gXB => assumption); (case gTB => assumption); (case gh0 => assumption); (case gC0 => exact rowU (codeOkC (by assumption) (by assumption)) (by assumption)); (case gE0 => exact rowU (codeOkE (by assumption) (by assumption)) (by assumption)); (case gh1 => assumption); (case gC1 => exact rowV (codeOkC (by assumption) (by assumption)) (by assumption)); (case gE1 => exact rowV (codeOkE (by assumption) (by assumption)) (by assumption)); (case gh2 => assumption); (case gC2 => exact rowUV (codeOkC (by assumption) (by assumption)) (by assumption)); (case gE2 => exact rowUV (codeOkE (by assumption) (by assumption)) (by assumption)); (case gh3 => assumption); (case gC3 => exact rowVU (codeOkC (by assumption) (by assumption)) (by assumption)); (case gE3 => exact rowVU (codeOkE (by assumption) (by assumption)) (by assumption)); (case gh4 => assumption); (case gC4 => exact rowM (codeOkC (by assumption) (by assumption)) (by assumption) (by assumption) (by assumption)); (case gE4 => exact rowM (codeOkE (by assumption) (by assumption)) (by assumption) (by assumption) (by assumption)); (case gh5 => assumption); (case gC5 => exact rowM' (codeOkC (by assumption) (by assumption)) (by assumption) (by assumption) (by assumption)); (case gE5 => exact rowM' (codeOkE (by assumption) (by assumption)) (by assumption) (by assumption) (by assumption)); (case gKC => exact keptC (by assumption) (by assumption) (by assumption) (by assumption) (by assumption)); (case gKE => exact keptE (by assumption) (by assumption) (by assumption) (by assumption) (by assumption)); (case gDC => exact decC (by assumption) (by assumption)); (case gDE => exact decE (by assumption) (by assumption)); (case ghd => assumption); (case ghu => assumption); (case ghE => passes_own); (intro h9 tk9 m9 nw9 F9 N9; (try dsimp only)))) | (((with_unfolding_all (refine' seg_G _ _ _ _ ?ghn _ _ _ _ ?goa ?gob _ _ _ _ ?gh0 ?gC0 ?gE0 _ _ _ _ ?gh1 ?gC1 ?gE1 _ _ _ _ ?gh2 ?gC2 ?gE2 _ _ _ _ ?gh3 ?gC3 ?gE3 _ _ _ _ ?gh4 ?gC4 ?gE4 _ _ _ _ ?gh5 ?gC5 ?gE5 ?gKC ?gKE ?gDC ?gDE ?gB ?gF ?gX ?gT ?gXB ?gTB ?gN ?ge1 ?ge2 ?ge3 ?ge4 ?ghd ?ghu ?ghE ?_)); (case gF => k_asm); (case ge1 => with_unfolding_all rfl); (case ge2 => with_unfolding_all rfl); (case ge3 => with_unfolding_all rfl); (case ge4 => with_unfolding_all rfl); (case gN => (refine kst_newsOf (by k_asm) ?_; (repeat' (first | exact List.forall_mem_nil _ | refine List.forall_mem_cons.mpr ⟨by with_unfolding_all k_mem, ?_⟩)))); (case ghn => assumption); (case goa => assumption); (case gob => assumption); (case gB => k_asm); (case gX => k_asm); (case gT => k_asm); (case gXB => assumption); (case gTB => assumption); (case gh0 => assumption); (case gC0 => exact rowU (codeOkC (by assumption) (by assumption)) (by assumption)); (case gE0 => exact rowU (codeOkE (by assumption) (by assumption)) (by assumption)); (case gh1 => assumption); (case gC1 => exact rowV (codeOkC (by assumption) (by assumption)) (by assumption)); (case gE1 => exact rowV (codeOkE (by assumption) (by assumption)) (by assumption)); (case gh2 => assumption); (case gC2 => exact rowUV (codeOkC (by assumption) (by assumption)) (by assumption)); (case gE2 => exact rowUV (codeOkE (by assumption) (by assumption)) (by assumption)); (case gh3 => assumption); (case gC3 => exact rowVU (codeOkC (by assumption) (by assumption)) (by assumption)); (case gE3 => exact rowVU (codeOkE (by assumption) (by assumption)) (by assumption)); (case gh4 => assumption); (case gC4 => exact rowM (codeOkC (by assumption) (by assumption)) (by assumption) (by assumption) (by assumption)); (case gE4 => exact rowM (codeOkE (by assumption) (by assumption)) (by assumption) (by assumption) (by assumption)); (case gh5 => assumption); (case gC5 => exact rowM' (codeOkC (by assumption) (by assumption)) (by assumption) (by assumption) (by assumption)); (case gE5 => exact rowM' (codeOkE (by assumption) (by assumption)) (by assumption) (by assumption) (by assumption)); (case gKC => exact keptC (by assumption) (by assumption) (by assumption) (by assumption) (by assumption)); (case gKE => exact keptE (by assumption) (by assumption) (by assumption) (by assumption) (by assumption)); (case gDC => exact decC (by assumption) (by assumption)); (case gDE => exact decE (by assumption) (by assumption)); (case ghd => assumption); (case ghu => assumption); (case ghE => passes_own); (intro h9 tk9 m9 nw9 F9 N9; (try dsimp only)))))
    | ((with_reducible show Src2 _ _ _ _ _ _ _); first | with_reducible ((first | ((refine' src2_uv ?sT ?sh ?shh ?sF ?sN ?sm ?sr ?sl ?sm0 ?sm1 ?si0 ?si1 ?_); (case sT => assumption); (case sh => assumption); (case shh => with_unfolding_all rfl); (case sF => k_asm); (case sN => k_asm); (case sm => with_unfolding_all k_mem); (case sr => assumption); (case sl => assumption); (case sm0 => with_unfolding_all k_mem); (case sm1 => with_unfolding_all k_mem); (case si0 => assumption); (case si1 => assumption); (intro ys9 bs9 hb9 lb9 iy9; (try dsimp only at hb9 iy9); (try dsimp only); (try (intro D9 h9 tk9 F9 N9 o9; (try dsimp only))))) | ((refine' src2_vu ?sT ?sh ?shh ?sF ?sN ?sm ?sr ?sl ?sm0 ?sm1 ?si0 ?si1 ?_); (case sT => assumption); (case sh => assumption); (case shh => with_unfolding_all rfl); (case sF => k_asm); (case sN => k_asm); (case sm => with_unfolding_all k_mem); (case sr => assumption); (case sl => assumption); (case sm0 => with_unfolding_all k_mem); (case sm1 => with_unfolding_all k_mem); (case si0 => assumption); (case si1 => assumption); (intro ys9 bs9 hb9 lb9 iy9; (try dsimp only at hb9 iy9); (try dsimp only); (try (intro D9 h9 tk9 F9 N9 o9; (try dsimp only))))))) | ((first | ((refine' src2_uv ?sT ?sh ?shh ?sF ?sN ?sm ?sr ?sl ?sm0 ?sm1 ?si0 ?si1 ?_); (case sT => assumption); (case sh => assumption); (case shh => with_unfolding_all rfl); (case sF => k_asm); (case sN => k_asm); (case sm => with_unfolding_all k_mem); (case sr => assumption); (case sl => assumption); (case sm0 => with_unfolding_all k_mem); (case sm1 => with_unfolding_all k_mem); (case si0 => assumption); (case si1 => assumption); (intro ys9 bs9 hb9 lb9 iy9; (try dsimp only at hb9 iy9); (try dsimp only); (try (intro D9 h9 tk9 F9 N9 o9; (try dsimp only))))) | ((refine' src2_vu ?sT ?sh ?shh ?sF ?sN ?sm ?sr ?sl ?sm0 ?sm1 ?si0 ?si1 ?_); (case sT => assumption); (case sh => assumption); (case shh => with_unfolding_all rfl); (case sF => k_asm); (case sN => k_asm); (case sm => with_unfolding_all k_mem); (case sr => assumption); (case sl => assumption); (case sm0 => with_unfolding_all k_mem); (case sm1 => with_unfolding_all k_mem); (case si0 => assumption); (case si1 => assumption); (intro ys9 bs9 hb9 lb9 iy9; (try dsimp only at hb9 iy9); (try dsimp only); (try (intro D9 h9 tk9 F9 N9 o9; (try dsimp only))))))))
    | ((with_reducible show wpAny _ _ (PySem.binaryOp .Add (Value.ref _) (Value.ref _)) _ _ _); first | with_reducible (((refine' add_ints_L ?ar1 ?ar2 ?ar3 ?ar4 ?ai1 ?ai2 ?ar5 ?_); (case ar1 => k_asm); (case ar2 => k_asm); (case ar3 => with_unfolding_all k_mem); (case ar4 => with_unfolding_all k_mem); (case ai1 => assumption); (case ai2 => assumption); (case ar5 => omega)); intro D9 h9 F9 N9 i9 l9; (try k_lt l9); (try dsimp only)) | (((refine' add_ints_L ?ar1 ?ar2 ?ar3 ?ar4 ?ai1 ?ai2 ?ar5 ?_); (case ar1 => k_asm); (case ar2 => k_asm); (case ar3 => with_unfolding_all k_mem); (case ar4 => with_unfolding_all k_mem); (case ai1 => assumption); (case ai2 => assumption); (case ar5 => omega)); intro D9 h9 F9 N9 i9 l9; (try k_lt l9); (try dsimp only)))
    | ((with_reducible show wpAny _ _ (PySem.binaryOp .Add (Value.ref _) (Value.ref _)) _ _ _); first | with_reducible (((refine' add_refs_L ?ar1 ?ar2 ?ar3 ?ar4 ?ar5 ?_); (case ar1 => k_asm); (case ar2 => k_asm); (case ar3 => with_unfolding_all k_mem); (case ar4 => with_unfolding_all k_mem); (case ar5 => (simp only [List.length_append, List.length_map, List.length_cons, List.length_nil]; omega))); intro D9 h9 F9 N9 l9; (try k_lt l9); (try dsimp only)) | (((refine' add_refs_L ?ar1 ?ar2 ?ar3 ?ar4 ?ar5 ?_); (case ar1 => k_asm); (case ar2 => k_asm); (case ar3 => with_unfolding_all k_mem); (case ar4 => with_unfolding_all k_mem); (case ar5 => (simp only [List.length_append, List.length_map, List.length_cons, List.length_nil]; omega))); intro D9 h9 F9 N9 l9; (try k_lt l9); (try dsimp only)))
    | ((with_reducible show LCg.CompEnd _ _ _ _ _ _ _ _ _ _ _ _ _ _); first | with_reducible ((refine' end_none ?ceF ?ceN ?ces ?ceo True.intro ⟨rfl, rfl⟩); (case ceN => k_asm); (case ceF => k_asm); (case ces => kcf_all); (case ceo => first | with_unfolding_all assumption | (with_unfolding_all exact And.right (by assumption)))) | ((refine' end_none ?ceF ?ceN ?ces ?ceo True.intro ⟨rfl, rfl⟩); (case ceN => k_asm); (case ceF => k_asm); (case ces => kcf_all); (case ceo => first | with_unfolding_all assumption | (with_unfolding_all exact And.right (by assumption)))))
    | ((with_reducible show LCg.CompSrc _ _ _ _ _ _ _ (PySem.Expr.Subscript (PySem.Expr.Tuple _ _ _) _ _) _ _ _ _ _ _); first | with_reducible (((refine' src_bitsT ?tT ?thh ?tF ?tN ?tm ?ti ?tb ?tz ?_ ?_ ?_); (case tT => assumption); (case thh => with_unfolding_all rfl); (case tF => k_asm); (case tN => k_asm); (case tm => with_unfolding_all k_mem); (case ti => assumption); (case tb => assumption); (case tz => assumption); (intro g9 rws9 hr9 hl9; (try dsimp only)); rotate_left; (intro t9 I9 oI9 C9 oC9 D9 m9 ys9 h9 tk9 E9 hC9 hx9 F9 N9 off9 ne9; (try dsimp only)); rotate_left; (intro t9 I9 oI9 C9 oC9 D9 m9 ys9 h9 tk9 E9 hC9 hx9 F9 N9 off9 ne9; (try dsimp only)); rotate_left)) | (((refine' src_bitsT ?tT ?thh ?tF ?tN ?tm ?ti ?tb ?tz ?_ ?_ ?_); (case tT => assumption); (case thh => with_unfolding_all rfl); (case tF => k_asm); (case tN => k_asm); (case tm => with_unfolding_all k_mem); (case ti => assumption); (case tb => assumption); (case tz => assumption); (intro g9 rws9 hr9 hl9; (try dsimp only)); rotate_left; (intro t9 I9 oI9 C9 oC9 D9 m9 ys9 h9 tk9 E9 hC9 hx9 F9 N9 off9 ne9; (try dsimp only)); rotate_left; (intro t9 I9 oI9 C9 oC9 D9 m9 ys9 h9 tk9 E9 hC9 hx9 F9 N9 off9 ne9; (try dsimp only)); rotate_left)))
    | ((with_reducible show wpAny _ _ (eval (PySem.Expr.ListComp (PySem.Expr.Subscript (PySem.Expr.Tuple _ _ _) _ _) _ _ _) _) _ _ _); first | with_reducible ((k_dflt (refine LCg.ListComp_U (F₀ := by k_asm) (by with_unfolding_all rfl) (by decide) (by rfl) (by decide) (by rfl) ?_))) | ((k_dflt (refine LCg.ListComp_U (F₀ := by k_asm) (by with_unfolding_all rfl) (by decide) (by rfl) (by decide) (by rfl) ?_))))
    | ((with_reducible show wpAny _ _ (exec (PySem.Stmt.Assign _ (PySem.Expr.ListComp (PySem.Expr.Name _ _) (List.cons _ (List.cons _ _)) _ _) _) _) _ _ _); first | with_reducible (((refine' Assign_ListComp_two ?aF ?aL ?asw ?ahy ?ahp ?acl ?ace ?aki ?ana ?ax1 ?ax2 ?ad1 ?ad2 ?as1 ?_ ?as0); (case aF => k_asm); (case aL => with_unfolding_all rfl); (case asw => with_unfolding_all rfl); (case ahy => with_unfolding_all rfl); (case ahp => with_unfolding_all rfl); (case acl => with_unfolding_all rfl); (case ace => decide +kernel); (case aki => with_unfolding_all rfl); (case ana => decide +kernel); (case ax1 => with_unfolding_all rfl); (case ax2 => with_unfolding_all rfl); (case ad1 => decide +kernel); (case ad2 => decide +kernel); (case as1 => (intro _ _; with_unfolding_all rfl)); (case as0 => (intro _; with_unfolding_all rfl)))) | (((refine' Assign_ListComp_two ?aF ?aL ?asw ?ahy ?ahp ?acl ?ace ?aki ?ana ?ax1 ?ax2 ?ad1 ?ad2 ?as1 ?_ ?as0); (case aF => k_asm); (case aL => with_unfolding_all rfl); (case asw => with_unfolding_all rfl); (case ahy => with_unfolding_all rfl); (case ahp => with_unfolding_all rfl); (case acl => with_unfolding_all rfl); (case ace => decide +kernel); (case aki => with_unfolding_all rfl); (case ana => decide +kernel); (case ax1 => with_unfolding_all rfl); (case ax2 => with_unfolding_all rfl); (case ad1 => decide +kernel); (case ad2 => decide +kernel); (case as1 => (intro _ _; with_unfolding_all rfl)); (case as0 => (intro _; with_unfolding_all rfl)))))
    | (k_unfold; (try dsimp only)) | (k_end; wrow_close) | walk1 | (dsimp only; walk1) | (leave1; try dsimp only) | fail "no step")
  all_goals exact hQ _ _ _ _ (by assumption) (by assumption)
end
-- part L3
section
open PySem PySem.W PyProof.Rows
set_option maxRecDepth 100000
set_option maxHeartbeats 8000000
variable {w : World} {p : Program} {loose : List Str} {mean : ExcName → Option Value} {mg mb : Str → Option Value}

theorem fmod_two (x : Int) : x.fmod 2 = 0 ∨ x.fmod 2 = 1 := by
  rw [Int.fmod_eq_emod_of_nonneg _ (by decide)]; omega
theorem fmod_three (x : Int) : 0 ≤ x.fmod 3 ∧ x.fmod 3 ≤ 2 := by
  rw [Int.fmod_eq_emod_of_nonneg _ (by decide)]; omega
theorem emod_two (x : Int) : x % 2 = 0 ∨ x % 2 = 1 := by omega
theorem emod_three (x : Int) : 0 ≤ x % 3 ∧ x % 3 ≤ 2 := by omega
section
variable {prog : Program} {A : Around} {E : Value → Shared → Prop} {s : Shared} {h₀ : Heap} {L : Addr} {m : Str → Option Value} {news : List (Addr × Obj)} {Q : Value → Shared → Prop}
theorem slice_bits {value slice : PySem.Expr} {l : Addr} {x y k : Int} {t u tk : MTok} {kk : Nat} (F : Fr h₀ L s.heap m) (N : News h₀ L s.heap news) (hm : (l, listOf ([.int x t, .int y u] : List Value).toArray kk) ∈ news) (hx : x = 0 ∨ x = 1) (hy : y = 0 ∨ y = 1) (hk : 0 ≤ k ∧ k ≤ 2)
    (h : ∀ D h' ws B, Fr h₀ L h' m → News h₀ L h' ((D, listOf (List.toArray ws) 0) :: news) → IntsAre ws B → (∀ b ∈ B, b = 0 ∨ b = 1) → B.length ≤ 2 → (∀ p ∈ news, p.1 < D) → Q (.ref D) { s with heap := h' })
    (hs : subscripted slice false (.ref l) (.ref s.heap.objs.size) = operate [.ref s.heap.objs.size, .ref l] (getItem (.ref l) (.ref s.heap.objs.size))) (ht : ∀ r, letTemporaryGo value (.ref l) r = pure ()) :
    wpAny (model prog w) A (subscriptTail value slice (.ref l) (.ref s.heap.objs.size)) Q E { s with heap := s.heap.push { cls := .type "slice", data := .fields #[.none, .int k tk, .none] } } := by
  have hk' : k = 0 ∨ k = 1 ∨ k = 2 := by omega
  have hl := News.isList N hm
  rcases hk' with rfl | rfl | rfl
  · refine kmk_slice_lit F N hl .none (.int _ _) (zs := []) rfl (fun D h' F' N' lt => h D h' [] [] F' N' .nil (fun _ h => by simp at h) (Nat.zero_le _) lt) hs ht (by show 2 ≤ sizeLine; rw [sizeLine_eq]; decide)
  · refine kmk_slice_lit F N hl .none (.int _ _) (zs := [.int x t]) rfl (fun D h' F' N' lt => h D h' [.int x t] [x] F' N' (.cons _ _ .nil) (fun b hb => by simp at hb; rw [hb]; exact hx) (by show 1 ≤ 2; decide) lt) hs ht (by show 2 ≤ sizeLine; rw [sizeLine_eq]; decide)
  · refine kmk_slice_lit F N hl .none (.int _ _) (zs := [.int x t, .int y u]) rfl (fun D h' F' N' lt => h D h' [.int x t, .int y u] [x, y] F' N' (.cons _ _ (.cons _ _ .nil)) (fun b hb => by simp at hb; rcases hb with rfl | rfl <;> assumption) (Nat.le_refl _) lt) hs ht (by show 2 ≤ sizeLine; rw [sizeLine_eq]; decide)
end
theorem seg_D {dp un : Nat} {gd : Option (List Code)} {A₀ : Around} {base h₀ h : Heap} {L fa cdv : Addr} {m : Str → Option Value} {tk : Nat} {s : Shared} {PF : Flow → Shared → Prop} {EE : Value → Shared → Prop}
    (lu lv : Addr) (vu vv : List Value) (ku kv : Nat) (U V : List Int) (iu : IntsAre vu U) (iv : IntsAre vv V) (dr : Addr) (kd : Nat) (d0 d1 d2 d3 d4 : Int) (t0 t1 t2 t3 t4 : MTok) (hd0 : 0 ≤ d0 ∧ d0 < 1000000) (hd1 : 0 ≤ d1 ∧ d1 < 1000000) (hd2 : 0 ≤ d2 ∧ d2 < 1000000) (hd3 : 0 ≤ d3 ∧ d3 < 1000000) (hd4 : 0 ≤ d4 ∧ d4 < 1000000)
    (nm : Str) (tn : MTok) (hnm : nm.length < 20) (a b : Int) (ta tb : MTok) (oa : Oct a) (ob : Oct b) (hUV : UV a b U V) (o1 o2 o3 : Obj) (e2 : o2.data = .cell (some (.ref lu))) (e3 : o3.data = .cell (some (.ref lv)))
    (B : Below A₀ base [] h₀) (F : Fr h₀ L h m) (X : (K w.params).In h₀) (T : Top p loose mean mg mb h₀) (XB : (K w.params).In base) (TB : Top p loose mean mg mb base) (N : News h₀ L h ((L + 1 + 1 + 1, o3) :: (L + 1 + 1, o2) :: (L + 1, o1) :: (lu, listOf vu.toArray ku) :: (lv, listOf vv.toArray kv) :: (dr, listOf ([.int d0 t0, .int d1 t1, .int d2 t2, .int d3 t3, .int d4 t4] : List Value).toArray kd) :: []))
    (e_draws : m (Str.ofString "draws") = some (.ref dr)) (e_name : m (Str.ofString "name") = some (.str nm tn)) (e_octet : m (Str.ofString "octet") = some (.int a ta)) (e_other : m (Str.ofString "other") = some (.int b tb))
    (hd : dp + 40 < recursionLimit) (hu : un + 8 * 40 < cLine) (hE : PassesOwn (model PySem.Challenge.pw_ku0005_01 w) (topA dp un gd (envOfC (Str.ofString "law") (fdS 40) L fa (Value.ref cdv)) []) (envOfC (Str.ofString "law") (fdS 40) L fa (Value.ref cdv)) EE)
    (hQ : ∀ h' tk' m' news', Fr h₀ L h' m' → News h₀ L h' news' → PF (.ret (.bool true)) { s with heap := h', toks := tk' }) :
    wpAny (model PySem.Challenge.pw_ku0005_01 w) (topA dp un gd (envOfC (Str.ofString "law") (fdS 40) L fa (Value.ref cdv)) []) (execs ((fdB 40).drop 9) (envOfC (Str.ofString "law") (fdS 40) L fa (Value.ref cdv))) PF EE { s with heap := h, toks := tk } := by
  replace F := fr_tops [(Str.ofString "draws", .ref dr), (Str.ofString "name", .str nm tn), (Str.ofString "octet", .int a ta), (Str.ofString "other", .int b tb)] F (List.forall_mem_cons.mpr ⟨e_draws, List.forall_mem_cons.mpr ⟨e_name, List.forall_mem_cons.mpr ⟨e_octet, List.forall_mem_cons.mpr ⟨e_other, List.forall_mem_nil _⟩⟩⟩⟩)
  dsimp only [tops] at F
  clear e_draws e_name e_octet e_other
  show wpAny _ _ (execs (List.cons _ _) _) _ _ _
  repeat' (first
    | ((with_reducible show wpAny _ _ (PySem.exec _ _) _ _ _); k_fold)
    | ((with_reducible show wpAny _ _ (PySem.execs _ _) _ _ _); k_fold)
    | ((with_reducible show wpAny _ _ (PySem.execs _ _) _ _ _); dsimp only)
    | ((with_reducible show wpAny _ _ (execs (List.cons (PySem.Stmt.Assign _ (PySem.Expr.ListComp _ _ _ _) _) _) _) _ _ _); first | with_reducible (((with_unfolding_all (refine' seg_F _ _ _ _ _ _ _ _ _ _ _ _ _ _ _ _ ?giu ?giv ?gib ?gio ?gb0 ?gb1 ?gl0 ?gl1 _ _ ?ghn _ _ _ _ ?goa ?gob ?gUV _ _ _ ?gd2 ?gd3 ?gB ?gF ?gX ?gT ?gXB ?gTB ?gN ?ge1 ?ge2 ?ge3 ?ge4 ?ge5 ?ghd ?ghu ?ghE ?_)); (case gF => k_asm); (case ge1 => with_unfolding_all rfl); (case ge2 => with_unfolding_all rfl); (case ge3 => with_unfolding_all rfl); (case ge4 => with_unfolding_all rfl); (case ge5 => with_unfolding_all rfl); (case gUV => assumption); (case giu => assumption); (case giv => assumption); (case gN => (refine kst_newsOf (by k_asm) ?_; (repeat' (first | exact List.forall_mem_nil _ | refine List.forall_mem_cons.mpr ⟨by with_unfolding_all k_mem, ?_⟩)))); (case gd2 => assumption); (case gd3 => assumption); (case gib => assumption); (case gio => assumption); (case gb0 => assumption); (case gb1 => assumption); (case gl0 => assumption); (case gl1 => assumption); (case ghn => assumption); (case goa => assumption); (case gob => assumption); (case gB => k_asm); (case gX => k_asm); (case gT => k_asm); (case gXB => assumption); (case gTB => assumption); (case ghd => assumption); (case ghu => assumption); (case ghE => passes_own); (intro h9 tk9 m9 nw9 F9 N9; (try dsimp only)))) | (((with_unfolding_all (refine' seg_F _ _ _ _ _ _ _ _ _ _ _ _ _ _ _ _ ?giu ?giv ?gib ?gio ?gb0 ?gb1 ?gl0 ?gl1 _ _ ?ghn _ _ _ _ ?goa ?gob ?gUV _ _ _ ?gd2 ?gd3 ?gB ?gF ?gX ?gT ?gXB ?gTB ?gN ?ge1 ?ge2 ?ge3 ?ge4 ?ge5 ?ghd ?ghu ?ghE ?_)); (case gF => k_asm); (case ge1 => with_unfolding_all rfl); (case ge2 => with_unfolding_all rfl); (case ge3 => with_unfolding_all rfl); (case ge4 => with_unfolding_all rfl); (case ge5 => with_unfolding_all rfl); (case gUV => assumption); (case giu => assumption); (case giv => assumption); (case gN => (refine kst_newsOf (by k_asm) ?_; (repeat' (first | exact List.forall_mem_nil _ | refine List.forall_mem_cons.mpr ⟨by with_unfolding_all k_mem, ?_⟩)))); (case gd2 => assumption); (case gd3 => assumption); (case gib => assumption); (case gio => assumption); (case gb0 => assumption); (case gb1 => assumption); (case gl0 => assumption); (case gl1 => assumption); (case ghn => assumption); (case goa => assumption); (case gob => assumption); (case gB => k_asm); (case gX => k_asm); (case gT => k_asm); (case gXB => assumption); (case gTB => assumption); (case ghd => assumption); (case ghu => assumption); (case ghE => passes_own); (intro h9 tk9 m9 nw9 F9 N9; (try dsimp only)))))
    | ((with_reducible show wpAny _ _ (subscriptTail (PySem.Expr.Name _ _) (PySem.Expr.Slice none (some _) none _) (Value.ref _) (Value.ref _)) _ _ _); first | with_reducible (((refine' slice_bits ?slF ?slN ?slm ?slx ?sly ?slk ?_ ?sls ?slt); (case slF => k_asm); (case slN => k_asm); (case slm => with_unfolding_all k_mem); (case slx => first | exact fmod_two _ | exact emod_two _ | omega); (case sly => first | exact fmod_two _ | exact emod_two _ | omega); (case slk => first | exact fmod_three _ | exact emod_three _ | omega); (case sls => with_unfolding_all rfl); (case slt => kmk_pure)); intro D9 h9 ws9 B9 F9 N9 i9 b9 z9 l9; (try k_lt l9); (try dsimp only)) | (((refine' slice_bits ?slF ?slN ?slm ?slx ?sly ?slk ?_ ?sls ?slt); (case slF => k_asm); (case slN => k_asm); (case slm => with_unfolding_all k_mem); (case slx => first | exact fmod_two _ | exact emod_two _ | omega); (case sly => first | exact fmod_two _ | exact emod_two _ | omega); (case slk => first | exact fmod_three _ | exact emod_three _ | omega); (case sls => with_unfolding_all rfl); (case slt => kmk_pure)); intro D9 h9 ws9 B9 F9 N9 i9 b9 z9 l9; (try k_lt l9); (try dsimp only)))
    | (k_unfold; (try dsimp only)) | (k_end; wrow_close) | walk1 | (dsimp only; walk1) | (leave1; try dsimp only) | fail "no step")
  all_goals exact hQ _ _ _ _ (by assumption) (by assumption)
end
-- part G16
section
open PySem PySem.W PyProof.Rows PySem.Calls
set_option maxRecDepth 100000
set_option maxHeartbeats 2000000
open LCg
/-- the two rows on their way: each of B octets at the most, both of C -/
structure UVi (a b : Int) (B C : Nat) (U V : List Int) : Prop where
  pU : 0 < U.length
  pV : 0 < V.length
  mU : ∀ z ∈ U, z ∈ [a, b]
  mV : ∀ z ∈ V, z ∈ [a, b]
  lU : U.length ≤ B
  lV : V.length ≤ B
  lS : U.length + V.length ≤ C
section
variable {a b : Int} {B C : Nat} {U V : List Int}
theorem UVi.swap (h : UVi a b B C U V) : UVi a b B C V U := ⟨h.pV, h.pU, h.mV, h.mU, h.lV, h.lU, by have := h.lS; omega⟩
theorem UVi.u1 (h : UVi a b B C U V) (hBC : B ≤ C) : UVi a b C (C + B) (U ++ V) V where
  pU := by rw [List.length_append]; have := h.pU; omega
  pV := h.pV
  mU := fun z hz => (List.mem_append.mp hz).elim (h.mU z) (h.mV z)
  mV := h.mV
  lU := by rw [List.length_append]; exact h.lS
  lV := Nat.le_trans h.lV hBC
  lS := by rw [List.length_append]; have := h.lS; have := h.lV; omega
theorem UVi.u2 (h : UVi a b B C U V) (hBC : B ≤ C) : UVi a b C (C + B) (V ++ U) V where
  pU := by rw [List.length_append]; have := h.pU; omega
  pV := h.pV
  mU := fun z hz => (List.mem_append.mp hz).elim (h.mV z) (h.mU z)
  mV := h.mV
  lU := by rw [List.length_append]; have := h.lS; omega
  lV := Nat.le_trans h.lV hBC
  lS := by rw [List.length_append]; have := h.lS; have := h.lV; omega
theorem UVi.v1 (h : UVi a b B C U V) (hBC : B ≤ C) : UVi a b C (C + B) U (U ++ V) := (h.swap.u2 hBC).swap
theorem UVi.v2 (h : UVi a b B C U V) (hBC : B ≤ C) : UVi a b C (C + B) U (V ++ U) := (h.swap.u1 hBC).swap
end
noncomputable def bnd : Nat → Nat × Nat
  | 0 => (2, 4)
  | i + 1 => ((bnd i).2, (bnd i).2 + (bnd i).1)
theorem bnd_le : ∀ i, (bnd i).1 ≤ (bnd i).2 ∧ (bnd i).2 ≤ 2 * (bnd i).1
  | 0 => ⟨by decide, by decide⟩
  | i + 1 => by
    have h := bnd_le i
    show (bnd i).2 ≤ (bnd i).2 + (bnd i).1 ∧ (bnd i).2 + (bnd i).1 ≤ 2 * (bnd i).2
    omega
noncomputable abbrev UVn (a b : Int) (i : Nat) (U V : List Int) : Prop := UVi a b (bnd i).1 (bnd i).2 U V
theorem uvn_end {a b : Int} {U V : List Int} (h : UVn a b 3 U V) : UV a b U V := ⟨h.pU, h.pV, h.mU, h.mV, h.lU, h.lV, h.lS⟩
noncomputable abbrev cellsL (L : Addr) (o1 o2 o3 : Obj) (rest : List (Addr × Obj)) : List (Addr × Obj) := (L + 1 + 1 + 1, o3) :: (L + 1 + 1, o2) :: (L + 1, o1) :: rest
section
variable {prog : Program} {w : World} {A : Around} {s : Shared} {env : Env} {h₀ : Heap}
/-- what stands behind i steps -/
inductive StepJ (L : Addr) (a b : Int) (m0 : Str → Option Value) (rest : List (Addr × Obj)) (i : Nat) (m' : Str → Option Value) (nw : List (Addr × Obj)) : Prop
  | intro (lu lv : Addr) (vu vv : List Value) (ku kv : Nat) (U V : List Int) (o1 o2 o3 : Obj) (sv : Option Value) (_ : nw = cellsL L o1 o2 o3 ((lu, listOf vu.toArray ku) :: (lv, listOf vv.toArray kv) :: rest)) (_ : o2.data = .cell (some (.ref lu))) (_ : o3.data = .cell (some (.ref lv))) (_ : IntsAre vu U) (_ : IntsAre vv V) (_ : UVn a b i U V) (_ : @LT.lt Nat _ (L + 1 + 1 + 1) lu) (_ : @LT.lt Nat _ (L + 1 + 1 + 1) lv) (_ : m' = fun z => if z = Str.ofString "step" then sv else m0 z) : StepJ L a b m0 rest i m' nw
noncomputable def StepEnd (h₀ : Heap) (L : Addr) (a b : Int) (m0 : Str → Option Value) (rest : List (Addr × Obj)) (s : Shared) (I : Addr) (oI : Obj) (i : Nat) (fl : Flow) (s₃ : Shared) : Prop := match fl with
  | .next => ∃ h' tk' m' nw, s₃ = { s with heap := h', toks := tk' } ∧ Fr h₀ L h' m' ∧ News h₀ L h' ((I, oI) :: nw) ∧ (∀ p ∈ nw, p.1 ≠ I) ∧ StepJ L a b m0 rest (i + 1) m' nw
  | _ => False
theorem stepEnd_mk {L : Addr} {a b : Int} {m0 : Str → Option Value} {rest all : List (Addr × Obj)} {I : Addr} {oI : Obj} {i : Nat} {h' : Heap} {tk' : Nat} {lu lv : Addr} {vu vv : List Value} {ku kv : Nat} {U V : List Int} {o1 o2 o3 : Obj} {sv : Option Value}
    (F : Fr h₀ L h' (fun z => if z = Str.ofString "step" then sv else m0 z)) (N : News h₀ L h' all) (m3 : (L + 1 + 1 + 1, o3) ∈ all) (m2 : (L + 1 + 1, o2) ∈ all) (m1 : (L + 1, o1) ∈ all) (mI : (I, oI) ∈ all) (d2 : o2.data = .cell (some (.ref lu))) (d3 : o3.data = .cell (some (.ref lv)))
    (mu : (lu, listOf vu.toArray ku) ∈ all) (mv : (lv, listOf vv.toArray kv) ∈ all) (iu : IntsAre vu U) (iv : IntsAre vv V) (hUV : UVn a b (i + 1) U V) (sub : ∀ p ∈ rest, p ∈ all) (l2 : @LT.lt Nat _ (L + 1 + 1 + 1) lu) (l3 : @LT.lt Nat _ (L + 1 + 1 + 1) lv) (lI : @LT.lt Nat _ (L + 1 + 1 + 1) I) (nr : ∀ p ∈ rest, p.1 ≠ I) (nu : @Ne Nat lu I) (nv : @Ne Nat lv I) :
    StepEnd h₀ L a b m0 rest s I oI i .next { s with heap := h', toks := tk' } := by
  refine ⟨h', tk', _, cellsL L o1 o2 o3 ((lu, listOf vu.toArray ku) :: (lv, listOf vv.toArray kv) :: rest), rfl, F, fun p hp => ?_, fun p hp => ?_, lu, lv, vu, vv, ku, kv, U, V, o1, o2, o3, sv, rfl, d2, d3, iu, iv, hUV, l2, l3, rfl⟩
  · simp only [cellsL, List.mem_cons] at hp
    rcases hp with rfl | rfl | rfl | rfl | rfl | rfl | hp
    · exact N _ mI
    · exact N _ m3
    · exact N _ m2
    · exact N _ m1
    · exact N _ mu
    · exact N _ mv
    · exact N _ (sub _ hp)
  simp only [cellsL, List.mem_cons] at hp
  rcases hp with rfl | rfl | rfl | rfl | rfl | hp
  · show @Ne Nat (L + 1 + 1 + 1) I; omega
  · show @Ne Nat (L + 1 + 1) I; omega
  · show @Ne Nat (L + 1) I; omega
  · exact nu
  · exact nv
  · exact nr p hp
inductive SrcSt (prog : Program) (w : World) (A : Around) (E : Value → Shared → Prop) (h₀ : Heap) (env : Env) (body : List Stmt) (Q : Flow → Shared → Prop) (a b : Int) (xv : Value) (s₁ : Shared) : Prop
  | intro (l : Addr) (vs : List Value) (xs : List Int) (kk : Nat) (m0 : Str → Option Value) (rest nw : List (Addr × Obj)) (_ : xv = .ref l) (_ : A.handled = none) (_ : Fr h₀ env.locals s₁.heap m0) (_ : News h₀ env.locals s₁.heap nw) (_ : StepJ env.locals a b m0 rest 0 m0 nw) (_ : (l, listOf vs.toArray kk) ∈ rest) (_ : IntsAre vs xs) (_ : vs.length = 3) (_ : ∀ i k t I oI h tk lu lv vu vv ku kv U V o1 o2 o3, Fr h₀ env.locals h (fun z => if z = Str.ofString "step" then some (.int k t) else m0 z) → News h₀ env.locals h ((I, oI) :: cellsL env.locals o1 o2 o3 ((lu, listOf vu.toArray ku) :: (lv, listOf vv.toArray kv) :: rest)) → o2.data = .cell (some (.ref lu)) → o3.data = .cell (some (.ref lv)) → IntsAre vu U → IntsAre vv V → UVn a b i U V → U.length + V.length ≤ 1000 → @LT.lt Nat _ (env.locals + 1 + 1 + 1) lu → @LT.lt Nat _ (env.locals + 1 + 1 + 1) lv → @LT.lt Nat _ (env.locals + 1 + 1 + 1) I → (∀ p ∈ rest, p.1 ≠ I) → @Ne Nat lu I → @Ne Nat lv I → wpAny (model prog w) A (execs body env) (StepEnd h₀ env.locals a b m0 rest s₁ I oI i) E { s₁ with heap := h, toks := tk }) (_ : ∀ h tk lu lv vu vv ku kv U V o1 o2 o3 sv, Fr h₀ env.locals h (fun z => if z = Str.ofString "step" then sv else m0 z) → News h₀ env.locals h (cellsL env.locals o1 o2 o3 ((lu, listOf vu.toArray ku) :: (lv, listOf vv.toArray kv) :: rest)) → o2.data = .cell (some (.ref lu)) → o3.data = .cell (some (.ref lv)) → IntsAre vu U → IntsAre vv V → UV a b U V → Q .next { s₁ with heap := h, toks := tk }) : SrcSt prog w A E h₀ env body Q a b xv s₁
theorem For_St {E : Value → Shared → Prop} {Q : Flow → Shared → Prop} {iter : Expr} {p : Pos} {body : List Stmt} {pos : Pos} {a b : Int} {m₀ : Str → Option Value} (_ : Fr h₀ env.locals s.heap m₀) (hx : env.kindOf (Str.ofString "step") = some .local) (hp : (env.scope.kind == .class || (env.scope.kind == .module && env.locals != env.globals)) = false)
    (h : wpAny (model prog w) A (eval iter env) (SrcSt prog w A E h₀ env body Q a b) E s)
    (hs : ∀ x, foldedSetIterable iter env x = pure x) (hE : PassesOwn (model prog w) A env E) :
    wpAny (model prog w) A (exec (.For (.Name (Str.ofString "step") p) iter body [] pos) env) Q E s := by
  refine wpAny_For (wpAny_mono h (fun xv s₁ h₁ => ?_) fun _ _ e => e) hs
  clear h
  obtain ⟨l, vs, xs, kk, m, rest, nw, rfl, hh, F, N, J, hm, hxs, hv3, turn, done⟩ := h₁
  have hmn : ∀ {i m' nw}, StepJ env.locals a b m rest i m' nw → (l, listOf vs.toArray kk) ∈ nw := by
    rintro i m' nw ⟨lu, lv, vu, vv, ku, kv, U, V, o1, o2, o3, sv, rfl, _⟩
    simp only [cellsL, List.mem_cons]
    exact .inr (.inr (.inr (.inr (.inr hm))))
  have hl : s₁.heap.IsList l vs.toArray := News.isList N (hmn J)
  have hlt : l < s₁.heap.objs.size := by obtain ⟨_, e, _⟩ := hl; exact Heap.lt_size e
  refine wpAny_pyIter_list hl ?_
  have hcell : (env.locals + 1 + 1 + 1 : Nat) < s₁.heap.objs.size := by
    obtain ⟨lu, lv, vu, vv, ku, kv, U, V, o1, o2, o3, sv, rfl, _⟩ := J
    exact Heap.lt_size (N _ (.head _)).1
  generalize hI : s₁.heap.objs.size = I at *
  have W := Walks.list (prog := prog) (w := w) hh I l (Nat.ne_of_lt hlt) vs.toArray
  have up : ∀ b o, s₁.heap.get? b = some o → (s₁.heap.push { cls := .type "list_iterator", data := .fields #[.ref l, .int 0 0] }).get? b = some o := fun b o e => Heap.get?_push_of_some _ e
  have FI := F.keeps up
  have hLI : env.locals ≠ I := hI ▸ Nat.ne_of_lt F.ns.lt
  have below : ∀ p ∈ rest, p.1 < I := fun p hp => by
    obtain ⟨lu, lv, vu, vv, ku, kv, U, V, o1, o2, o3, sv, rfl, _⟩ := J
    exact hI ▸ Heap.lt_size (N p (by simp only [cellsL, List.mem_cons]; exact .inr (.inr (.inr (.inr (.inr hp)))))).1
  have NI : News h₀ env.locals (s₁.heap.push { cls := .type "list_iterator", data := .fields #[.ref l, .int 0 0] }) ((I, ({ cls := .type "list_iterator", data := .fields #[.ref l, .int 0 0] } : Obj)) :: nw) := fun p hp => by
    rcases List.mem_cons.mp hp with rfl | hp
    · exact ⟨hI ▸ Heap.get?_push_size _ rfl, Ne.symm hLI, hI ▸ next_is_new F⟩
    · exact N.grown up p hp
  have offI : ∀ p ∈ nw, p.1 ≠ I := fun p hp => hI ▸ Nat.ne_of_lt (Heap.lt_size (N p hp).1)
  have stI : (fun (i : Nat) (h : Heap) => h.IsListIter I l i ∧ h.IsList l vs.toArray) 0 (s₁.heap.push { cls := .type "list_iterator", data := .fields #[.ref l, .int 0 0] }) := ⟨⟨_, (NI _ (.head _)).1, rfl, rfl⟩, hl.push _⟩
  generalize (s₁.heap.push { cls := .type "list_iterator", data := .fields #[.ref l, .int 0 0] }) = g at FI NI stI ⊢
  refine codeAny_forLoop_any
    (fun k s' => ∃ h' tk m' nw i oI, s' = { s₁ with heap := h', toks := tk } ∧ i ≤ vs.length ∧ k = vs.length + 1 - i ∧ (h'.IsListIter I l i ∧ h'.IsList l vs.toArray) ∧ Fr h₀ env.locals h' m' ∧ News h₀ env.locals h' ((I, oI) :: nw) ∧ (∀ p ∈ nw, p.1 ≠ I) ∧ StepJ env.locals a b m rest i m' nw) ?_ (vs.length + 1)
    ⟨_, _, m, nw, 0, _, rfl, Nat.zero_le _, rfl, stI, FI, NI, offI, J⟩
  clear FI NI stI F N J offI
  rintro k s' ⟨H, tk, m', nw', i, oI, rfl, hi, rfl, hst', F', N', off', J'⟩
  have hI₀ : h₀.get? I = none := (N' _ (.head _)).2.2
  have next : ∀ h₁ : Heap, (∀ b o, b ∉ [I] → H.get? b = some o → h₁.get? b = some o) → Fr h₀ env.locals h₁ m' ∧ News h₀ env.locals h₁ nw' := fun h₁ hk₁ =>
    ⟨fr_but F' hk₁ hLI hI₀, news_but (fun p hp => N' p (.tail _ hp)) hk₁ off'⟩
  have hml := hmn J'
  obtain ⟨lu, lv, vu, vv, ku, kv, U, V, o1, o2, o3, sv, rfl, d2, d3, iu, iv, hUV, l2, l3, rfl⟩ := J'
  by_cases hlt' : i < vs.length
  · refine W.item i _ _ _ (by simpa using hlt') hst' fun v h₂ tk₂ hPv hst₂ hk₂ => ?_
    obtain ⟨z, t, hz, rfl⟩ : ∃ z t, xs[i]? = some z ∧ v = .int z t := by
      obtain ⟨z, hz, ha⟩ := hxs.areOf.get i v (by simpa using hPv)
      obtain ⟨t, rfl⟩ := ItemKind.int_is ha
      exact ⟨z, t, hz, rfl⟩
    obtain ⟨F₂, N₂⟩ := next h₂ hk₂
    obtain ⟨oI₂, heI, hoI⟩ := hst₂.1
    refine letGo_listiter ⟨oI₂, heI, hoI⟩ ?_
    refine wpAny_passesOwn hE (wpAny_assign_Name (wpAny_storeName_local hx F₂.ns (fun h₃ hn₃ hs₃ => ?_) hp))
    have hL₀ : h₀.get? env.locals = none := Heap.get?_none_of_le F₂.above
    have F₃ : Fr h₀ env.locals h₃ (fun z' => if z' = Str.ofString "step" then some (.int z t) else m z') := by
      refine ⟨?_, fun b o e => hs₃.extBut b o (fun q => by rw [q, hL₀] at e; cases e) (F₂.keep b o e), F₂.above⟩
      have e : (fun x => if x = Str.ofString "step" then some (Value.int z t) else (fun z => if z = Str.ofString "step" then sv else m z) x) = fun z' => if z' = Str.ofString "step" then some (.int z t) else m z' := by
        funext x
        by_cases hx' : x = Str.ofString "step"
        · simp [hx']
        · simp [hx']
      rw [← e]
      exact hn₃
    have N₃ : News h₀ env.locals h₃ ((I, oI₂) :: cellsL env.locals o1 o2 o3 ((lu, listOf vu.toArray ku) :: (lv, listOf vv.toArray kv) :: rest)) := fun p hp => by
      rcases List.mem_cons.mp hp with rfl | hp
      · exact ⟨hs₃.extBut _ _ (Ne.symm hLI) heI, Ne.symm hLI, hI₀⟩
      · exact ⟨hs₃.extBut _ _ (N₂ p hp).2.1 (N₂ p hp).1, (N₂ p hp).2⟩
    have hbn : U.length + V.length ≤ 1000 := by
      have h1 := hUV.lS
      have h3 : i = 0 ∨ i = 1 ∨ i = 2 := by omega
      rcases h3 with rfl | rfl | rfl
      · exact Nat.le_trans h1 (by decide)
      · exact Nat.le_trans h1 (by decide)
      · exact Nat.le_trans h1 (by decide)
    have hlow : ∀ p ∈ (lu, listOf vu.toArray ku) :: (lv, listOf vv.toArray kv) :: rest, p.1 ≠ I := fun p hp => off' p (by simp only [cellsL, List.mem_cons] at hp ⊢; exact .inr (.inr (.inr hp)))
    refine wpAny_passesOwn hE (wpAny_mono (turn i z t I oI₂ h₃ _ lu lv vu vv ku kv U V o1 o2 o3 F₃ N₃ d2 d3 iu iv hUV hbn l2 l3 hcell (fun p hp => Nat.ne_of_lt (below p hp)) (hlow _ (.head _)) (hlow _ (.tail _ (.head _)))) (fun f s₄ h₄ => ?_) fun _ _ e => e)
    cases f with
    | ret v => exact h₄.elim
    | brk => exact h₄.elim
    | cont => exact h₄.elim
    | next =>
      obtain ⟨h₅, tk₅, m₅, nw₅, rfl, F₅, N₅, off₅, J₅⟩ := h₄
      exact ⟨vs.length + 1 - (i + 1), by omega, h₅, tk₅, m₅, nw₅, i + 1, oI₂, rfl, hlt', rfl, ⟨⟨oI₂, (N₅ _ (.head _)).1, hoI⟩, News.isList (fun p hp => N₅ p (.tail _ hp)) (hmn J₅)⟩, F₅, N₅, off₅, J₅⟩
  · obtain rfl : i = vs.length := Nat.le_antisymm hi (Nat.not_lt.mp hlt')
    refine W.done _ _ _ (by simpa using hst') fun h₂ tk₂ hk₂ => ?_
    obtain ⟨F₂, N₂⟩ := next h₂ hk₂
    rw [hv3] at hUV
    exact wpAny_passesOwn hE (wpAny_execs_nil (done h₂ _ lu lv vu vv ku kv U V o1 o2 o3 sv F₂ N₂ d2 d3 iu iv (uvn_end hUV)))
end
end
-- part L4
section
open PySem PySem.W PyProof.Rows
set_option maxRecDepth 100000
set_option maxHeartbeats 8000000
variable {w : World} {p : Program} {loose : List Str} {mean : ExcName → Option Value} {mg mb : Str → Option Value}

theorem uvn_u1 {a b : Int} {i : Nat} {U V : List Int} (h : UVn a b i U V) : UVn a b (i + 1) (U ++ V) V := UVi.u1 h (bnd_le i).1
theorem uvn_u2 {a b : Int} {i : Nat} {U V : List Int} (h : UVn a b i U V) : UVn a b (i + 1) (V ++ U) V := UVi.u2 h (bnd_le i).1
theorem uvn_v1 {a b : Int} {i : Nat} {U V : List Int} (h : UVn a b i U V) : UVn a b (i + 1) U (U ++ V) := UVi.v1 h (bnd_le i).1
theorem uvn_v2 {a b : Int} {i : Nat} {U V : List Int} (h : UVn a b i U V) : UVn a b (i + 1) U (V ++ U) := UVi.v2 h (bnd_le i).1
section
variable {dp un : Nat} {gd : Option (List Code)} {env : Env} {outer : List Env} {A₀ : Around} {base h₀ : Heap} {L : Addr} {m : Str → Option Value} {s : Shared} {Q E : Value → Shared → Prop} {news : List (Addr × Obj)}
theorem concat_use {l b : Addr} {vs ws : List Value} {k j : Nat} {ns ms : List Int} (B : Below A₀ base outer h₀) (F : Fr h₀ L s.heap m) (X : (K w.params).In h₀) (N : News h₀ L s.heap news) (T : Top p loose mean mg mb h₀)
    (hf : env.frame = some L) (hk : env.scope.kind = .function) (hd : dp + 1 < recursionLimit) (hu : un + 8 * 1 < cLine) (ma : (l, listOf vs.toArray k) ∈ news) (mb' : (b, listOf ws.toArray j) ∈ news) (hi : IntsAre vs ns) (hj : IntsAre ws ms) (hz : ns.length + ms.length ≤ 1000)
    (ret : ∀ D h' tk', Fr h₀ L h' m → News h₀ L h' ((D, listOf (vs ++ ws).toArray 0) :: news) → IntsAre (vs ++ ws) (ns ++ ms) → (∀ p ∈ news, p.1 < D) → Q (.ref D) { s with heap := h', toks := tk' }) :
    wpAny (model PySem.Challenge.pw_ku0005_01 w) (topA dp un gd env outer) (call (.ref 114) [.ref l, .ref b]) Q E s :=
  GivesO.use (concatL_gives l b vs ws k j (by rw [hi.length, hj.length]; exact hz) news) B F X (kst_newsOf N (List.forall_mem_cons.mpr ⟨ma, List.forall_mem_cons.mpr ⟨mb', fun _ hp => hp⟩⟩)) T hf hk hd hu fun r new h' tk' F' N' lt ho => by
    obtain ⟨D, rfl, rfl⟩ := ho
    exact ret D h' tk' F' (fun q hq => N' q (by
      rcases List.mem_cons.mp hq with rfl | hq
      · exact .head _
      · exact .tail _ (.tail _ (.tail _ hq)))) (hi.append hj) fun p hp => lt p (.tail _ (.tail _ hp)) _ (.head _)
end
section
variable {prog : Program} {A : Around} {s : Shared} {env : Env} {h₀ : Heap} {E : Value → Shared → Prop} {Q : Flow → Shared → Prop}
theorem srcSt_mk {L : Addr} {body : List Stmt} {a b : Int} {l : Addr} {x0 x1 x2 : Int} {y0 y1 y2 : MTok} {kk : Nat} {m0 : Str → Option Value} {rest : List (Addr × Obj)} {lu lv : Addr} {vu vv : List Value} {ku kv : Nat} {U V : List Int} {o1 o2 o3 : Obj}
    (hL : env.locals = L) (hUV : UVn a b 0 U V) (iu : IntsAre vu U) (iv : IntsAre vv V) (hh : A.handled = none) (F : Fr h₀ L s.heap m0) (N : News h₀ L s.heap ((l, listOf ([.int x0 y0, .int x1 y1, .int x2 y2] : List Value).toArray kk) :: cellsL L o1 o2 o3 ((lu, listOf vu.toArray ku) :: (lv, listOf vv.toArray kv) :: rest)))
    (d2 : o2.data = .cell (some (.ref lu))) (d3 : o3.data = .cell (some (.ref lv))) (l2 : @LT.lt Nat _ (L + 1 + 1 + 1) lu) (l3 : @LT.lt Nat _ (L + 1 + 1 + 1) lv) (ll : @LT.lt Nat _ (L + 1 + 1 + 1) l) (e0 : ∃ sv, m0 = fun z => if z = Str.ofString "step" then sv else m0 z)
    (turn : ∀ i k t I oI h tk lu lv vu vv ku kv U V o1 o2 o3, Fr h₀ L h (fun z => if z = Str.ofString "step" then some (.int k t) else m0 z) → News h₀ L h ((I, oI) :: cellsL L o1 o2 o3 ((lu, listOf (List.toArray vu) ku) :: (lv, listOf (List.toArray vv) kv) :: (l, listOf ([.int x0 y0, .int x1 y1, .int x2 y2] : List Value).toArray kk) :: rest)) → o2.data = .cell (some (.ref lu)) → o3.data = .cell (some (.ref lv)) →
      IntsAre vu U → IntsAre vv V → UVn a b i U V → U.length + V.length ≤ 1000 → @LT.lt Nat _ (L + 1 + 1 + 1) lu → @LT.lt Nat _ (L + 1 + 1 + 1) lv → @LT.lt Nat _ (L + 1 + 1 + 1) I → (∀ p ∈ (l, listOf ([.int x0 y0, .int x1 y1, .int x2 y2] : List Value).toArray kk) :: rest, p.1 ≠ I) → @Ne Nat lu I → @Ne Nat lv I →
      wpAny (model prog w) A (execs body env) (StepEnd h₀ L a b m0 ((l, listOf ([.int x0 y0, .int x1 y1, .int x2 y2] : List Value).toArray kk) :: rest) s I oI i) E { s with heap := h, toks := tk })
    (done : ∀ h tk lu lv vu vv ku kv U V o1 o2 o3 sv, Fr h₀ L h (fun z => if z = Str.ofString "step" then sv else m0 z) → News h₀ L h (cellsL L o1 o2 o3 ((lu, listOf (List.toArray vu) ku) :: (lv, listOf (List.toArray vv) kv) :: (l, listOf ([.int x0 y0, .int x1 y1, .int x2 y2] : List Value).toArray kk) :: rest)) → o2.data = .cell (some (.ref lu)) → o3.data = .cell (some (.ref lv)) →
      IntsAre vu U → IntsAre vv V → UV a b U V → Q .next { s with heap := h, toks := tk }) : SrcSt prog w A E h₀ env body Q a b (.ref l) s := by
  subst hL
  obtain ⟨sv, e0⟩ := e0
  refine ⟨l, _, [x0, x1, x2], kk, m0, (l, listOf ([.int x0 y0, .int x1 y1, .int x2 y2] : List Value).toArray kk) :: rest, cellsL env.locals o1 o2 o3 ((lu, listOf vu.toArray ku) :: (lv, listOf vv.toArray kv) :: (l, listOf ([.int x0 y0, .int x1 y1, .int x2 y2] : List Value).toArray kk) :: rest), rfl, hh, F, kst_newsOf N ?_, ⟨lu, lv, vu, vv, ku, kv, U, V, o1, o2, o3, sv, rfl, d2, d3, iu, iv, hUV, l2, l3, e0⟩, .head _, .cons _ _ (.cons _ _ (.cons _ _ .nil)), rfl, turn, done⟩
  intro q hq
  simp only [cellsL, List.mem_cons] at hq ⊢
  rcases hq with h | h | h | h | h | h | h <;> simp [h]
theorem lt_of_news {h : Heap} {L : Addr} {o3 : Obj} {rest : List (Addr × Obj)} (N : News h₀ L h ((L + 1 + 1 + 1, o3) :: rest)) : @LT.lt Nat _ (L + 1 + 1 + 1) h.objs.size := Heap.lt_size (N _ (.head _)).1
theorem top_step {m : Str → Option Value} {v : Option Value} (h : m (Str.ofString "step") = v) : ∃ sv, m = fun z => if z = Str.ofString "step" then sv else m z := by
  refine ⟨v, ?_⟩
  funext z
  by_cases hz : z = Str.ofString "step"
  · rw [if_pos hz, hz, h]
  · rw [if_neg hz]
theorem self_step {m : Str → Option Value} : ∃ sv, m = fun z => if z = Str.ofString "step" then sv else m z := top_step rfl
end
theorem seg_C {dp un : Nat} {gd : Option (List Code)} {A₀ : Around} {base h₀ h : Heap} {L fa cdv : Addr} {m : Str → Option Value} {tk : Nat} {s : Shared} {PF : Flow → Shared → Prop} {EE : Value → Shared → Prop}
    (lu lv : Addr) (vu vv : List Value) (ku kv : Nat) (U V : List Int) (iu : IntsAre vu U) (iv : IntsAre vv V) (dr : Addr) (kd : Nat) (d0 d1 d2 d3 d4 : Int) (t0 t1 t2 t3 t4 : MTok) (hd0 : 0 ≤ d0 ∧ d0 < 1000000) (hd1 : 0 ≤ d1 ∧ d1 < 1000000) (hd2 : 0 ≤ d2 ∧ d2 < 1000000) (hd3 : 0 ≤ d3 ∧ d3 < 1000000) (hd4 : 0 ≤ d4 ∧ d4 < 1000000)
    (nm : Str) (tn : MTok) (hnm : nm.length < 20) (a b : Int) (ta tb : MTok) (oa : Oct a) (ob : Oct b) (hUV : UVn a b 0 U V) (o1 o2 o3 : Obj) (e2 : o2.data = .cell (some (.ref lu))) (e3 : o3.data = .cell (some (.ref lv))) (l2 : @LT.lt Nat _ (L + 1 + 1 + 1) lu) (l3 : @LT.lt Nat _ (L + 1 + 1 + 1) lv) (l4 : @Ne Nat dr (L + 1) ∧ @Ne Nat dr (L + 1 + 1) ∧ @Ne Nat dr (L + 1 + 1 + 1))
    (B : Below A₀ base [] h₀) (F : Fr h₀ L h m) (X : (K w.params).In h₀) (T : Top p loose mean mg mb h₀) (XB : (K w.params).In base) (TB : Top p loose mean mg mb base) (N : News h₀ L h ((L + 1 + 1 + 1, o3) :: (L + 1 + 1, o2) :: (L + 1, o1) :: (lu, listOf vu.toArray ku) :: (lv, listOf vv.toArray kv) :: (dr, listOf ([.int d0 t0, .int d1 t1, .int d2 t2, .int d3 t3, .int d4 t4] : List Value).toArray kd) :: []))
    (e_draws : m (Str.ofString "draws") = some (.ref dr)) (e_name : m (Str.ofString "name") = some (.str nm tn)) (e_octet : m (Str.ofString "octet") = some (.int a ta)) (e_other : m (Str.ofString "other") = some (.int b tb))
    (hd : dp + 40 < recursionLimit) (hu : un + 8 * 40 < cLine) (hE : PassesOwn (model PySem.Challenge.pw_ku0005_01 w) (topA dp un gd (envOfC (Str.ofString "law") (fdS 40) L fa (Value.ref cdv)) []) (envOfC (Str.ofString "law") (fdS 40) L fa (Value.ref cdv)) EE)
    (hQ : ∀ h' tk' m' news', Fr h₀ L h' m' → News h₀ L h' news' → PF (.ret (.bool true)) { s with heap := h', toks := tk' }) :
    wpAny (model PySem.Challenge.pw_ku0005_01 w) (topA dp un gd (envOfC (Str.ofString "law") (fdS 40) L fa (Value.ref cdv)) []) (execs ((fdB 40).drop 8) (envOfC (Str.ofString "law") (fdS 40) L fa (Value.ref cdv))) PF EE { s with heap := h, toks := tk } := by
  replace F := fr_tops [(Str.ofString "draws", .ref dr), (Str.ofString "name", .str nm tn), (Str.ofString "octet", .int a ta), (Str.ofString "other", .int b tb)] F (List.forall_mem_cons.mpr ⟨e_draws, List.forall_mem_cons.mpr ⟨e_name, List.forall_mem_cons.mpr ⟨e_octet, List.forall_mem_cons.mpr ⟨e_other, List.forall_mem_nil _⟩⟩⟩⟩)
  dsimp only [tops] at F
  clear e_draws e_name e_octet e_other
  show wpAny _ _ (execs (List.cons _ _) _) _ _ _
  repeat' (first
    | ((with_reducible show wpAny _ _ (PySem.exec _ _) _ _ _); k_fold)
    | ((with_reducible show wpAny _ _ (PySem.execs _ _) _ _ _); k_fold)
    | ((with_reducible show wpAny _ _ (PySem.execs _ _) _ _ _); dsimp only)
    | ((with_reducible show wpAny _ _ (execs (List.cons (PySem.Stmt.Assign _ (PySem.Expr.Subscript (PySem.Expr.List _ _) (PySem.Expr.Slice _ _ _ _) _) _) _) _) _ _ _); first | with_reducible (((with_unfolding_all (refine' seg_D _ _ _ _ _ _ _ _ ?giu ?giv _ _ _ _ _ _ _ _ _ _ _ _ ?gx0 ?gx1 ?gx2 ?gx3 ?gx4 _ _ ?ghn _ _ _ _ ?goa ?gob ?gUV _ _ _ ?gd2 ?gd3 ?gB ?gF ?gX ?gT ?gXB ?gTB ?gN ?ge1 ?ge2 ?ge3 ?ge4 ?ghd ?ghu ?ghE ?_)); (case gF => k_asm); (case ge1 => with_unfolding_all rfl); (case ge2 => with_unfolding_all rfl); (case ge3 => with_unfolding_all rfl); (case ge4 => with_unfolding_all rfl); (case gUV => assumption); (case giu => assumption); (case giv => assumption); (case gN => (refine kst_newsOf (by k_asm) ?_; (repeat' (first | exact List.forall_mem_nil _ | refine List.forall_mem_cons.mpr ⟨by with_unfolding_all k_mem, ?_⟩)))); (case gd2 => assumption); (case gd3 => assumption); (case gx0 => assumption); (case gx1 => assumption); (case gx2 => assumption); (case gx3 => assumption); (case gx4 => assumption); (case ghn => assumption); (case goa => assumption); (case gob => assumption); (case gB => k_asm); (case gX => k_asm); (case gT => k_asm); (case gXB => assumption); (case gTB => assumption); (case ghd => assumption); (case ghu => assumption); (case ghE => passes_own); (intro h9 tk9 m9 nw9 F9 N9; (try dsimp only)))) | (((with_unfolding_all (refine' seg_D _ _ _ _ _ _ _ _ ?giu ?giv _ _ _ _ _ _ _ _ _ _ _ _ ?gx0 ?gx1 ?gx2 ?gx3 ?gx4 _ _ ?ghn _ _ _ _ ?goa ?gob ?gUV _ _ _ ?gd2 ?gd3 ?gB ?gF ?gX ?gT ?gXB ?gTB ?gN ?ge1 ?ge2 ?ge3 ?ge4 ?ghd ?ghu ?ghE ?_)); (case gF => k_asm); (case ge1 => with_unfolding_all rfl); (case ge2 => with_unfolding_all rfl); (case ge3 => with_unfolding_all rfl); (case ge4 => with_unfolding_all rfl); (case gUV => assumption); (case giu => assumption); (case giv => assumption); (case gN => (refine kst_newsOf (by k_asm) ?_; (repeat' (first | exact List.forall_mem_nil _ | refine List.forall_mem_cons.mpr ⟨by with_unfolding_all k_mem, ?_⟩)))); (case gd2 => assumption); (case gd3 => assumption); (case gx0 => assumption); (case gx1 => assumption); (case gx2 => assumption); (case gx3 => assumption); (case gx4 => assumption); (case ghn => assumption); (case goa => assumption); (case gob => assumption); (case gB => k_asm); (case gX => k_asm); (case gT => k_asm); (case gXB => assumption); (case gTB => assumption); (case ghd => assumption); (case ghu => assumption); (case ghE => passes_own); (intro h9 tk9 m9 nw9 F9 N9; (try dsimp only)))))
    | ((with_reducible show StepEnd _ _ _ _ _ _ _ _ _ _ _ _); first | with_reducible (((refine' stepEnd_mk ?eF ?eN ?e3 ?e2 ?e1 ?eI ?ed2 ?ed3 ?emu ?emv ?eiu ?eiv ?eUV ?esub ?el2 ?el3 ?elI ?enr ?enu ?env); (case eF => with_unfolding_all k_asm); (case eN => with_unfolding_all k_asm); (case e3 => with_unfolding_all k_mem); (case e2 => with_unfolding_all k_mem); (case e1 => with_unfolding_all k_mem); (case eI => with_unfolding_all k_mem); (case ed2 => assumption); (case ed3 => assumption); (case emu => with_unfolding_all k_mem); (case emv => with_unfolding_all k_mem); (case eiu => assumption); (case eiv => assumption); (case eUV => first | exact uvn_u1 (by assumption) | exact uvn_u2 (by assumption) | exact uvn_v1 (by assumption) | exact uvn_v2 (by assumption)); (case esub => kcf_all); (case el2 => first | (with_unfolding_all assumption) | (show @LT.lt Nat _ _ _; omega)); (case el3 => first | (with_unfolding_all assumption) | (show @LT.lt Nat _ _ _; omega)); (case elI => with_unfolding_all assumption); (case enr => assumption); (case enu => first | assumption | (show @Ne Nat _ _; omega)); (case env => first | assumption | (show @Ne Nat _ _; omega)))) | (((refine' stepEnd_mk ?eF ?eN ?e3 ?e2 ?e1 ?eI ?ed2 ?ed3 ?emu ?emv ?eiu ?eiv ?eUV ?esub ?el2 ?el3 ?elI ?enr ?enu ?env); (case eF => with_unfolding_all k_asm); (case eN => with_unfolding_all k_asm); (case e3 => with_unfolding_all k_mem); (case e2 => with_unfolding_all k_mem); (case e1 => with_unfolding_all k_mem); (case eI => with_unfolding_all k_mem); (case ed2 => assumption); (case ed3 => assumption); (case emu => with_unfolding_all k_mem); (case emv => with_unfolding_all k_mem); (case eiu => assumption); (case eiv => assumption); (case eUV => first | exact uvn_u1 (by assumption) | exact uvn_u2 (by assumption) | exact uvn_v1 (by assumption) | exact uvn_v2 (by assumption)); (case esub => kcf_all); (case el2 => first | (with_unfolding_all assumption) | (show @LT.lt Nat _ _ _; omega)); (case el3 => first | (with_unfolding_all assumption) | (show @LT.lt Nat _ _ _; omega)); (case elI => with_unfolding_all assumption); (case enr => assumption); (case enu => first | assumption | (show @Ne Nat _ _; omega)); (case env => first | assumption | (show @Ne Nat _ _; omega)))))
    | ((with_reducible show SrcSt _ _ _ _ _ _ _ _ _ _ _ _); first | with_reducible (((refine' srcSt_mk ?sL ?sUV ?siu ?siv ?shh ?sF ?sN ?sd2 ?sd3 ?sl2 ?sl3 ?sll ?se0 ?_ ?_); (case sF => k_asm); (case sL => with_unfolding_all rfl); (case sUV => assumption); (case siu => assumption); (case siv => assumption); (case shh => with_unfolding_all rfl); (case sN => k_asm); (case sd2 => assumption); (case sd3 => assumption); (case sl2 => with_unfolding_all assumption); (case sl3 => with_unfolding_all assumption); (case sll => first | (with_unfolding_all exact lt_of_news (by assumption)) | (show @LT.lt Nat _ _ _; omega)); (case se0 => exact self_step); (have sll9 := lt_of_news (by assumption)); (intro i9 k9 t9 I9 oI9 h9 tk9 lu9 lv9 vu9 vv9 ku9 kv9 U9 V9 o19 o29 o39 F9 N9 d29 d39 iu9 iv9 uv9 le9 l29 l39 lI9 nr9 nu9 nv9; (try dsimp only [cellsL] at N9); (try dsimp only)); rotate_left; (intro h9 tk9 lu9 lv9 vu9 vv9 ku9 kv9 U9 V9 o19 o29 o39 sv9 F9 N9 d29 d39 iu9 iv9 uv9; (try dsimp only [cellsL] at N9); (try dsimp only)); rotate_left)) | (((refine' srcSt_mk ?sL ?sUV ?siu ?siv ?shh ?sF ?sN ?sd2 ?sd3 ?sl2 ?sl3 ?sll ?se0 ?_ ?_); (case sF => k_asm); (case sL => with_unfolding_all rfl); (case sUV => assumption); (case siu => assumption); (case siv => assumption); (case shh => with_unfolding_all rfl); (case sN => k_asm); (case sd2 => assumption); (case sd3 => assumption); (case sl2 => with_unfolding_all assumption); (case sl3 => with_unfolding_all assumption); (case sll => first | (with_unfolding_all exact lt_of_news (by assumption)) | (show @LT.lt Nat _ _ _; omega)); (case se0 => exact self_step); (have sll9 := lt_of_news (by assumption)); (intro i9 k9 t9 I9 oI9 h9 tk9 lu9 lv9 vu9 vv9 ku9 kv9 U9 V9 o19 o29 o39 F9 N9 d29 d39 iu9 iv9 uv9 le9 l29 l39 lI9 nr9 nu9 nv9; (try dsimp only [cellsL] at N9); (try dsimp only)); rotate_left; (intro h9 tk9 lu9 lv9 vu9 vv9 ku9 kv9 U9 V9 o19 o29 o39 sv9 F9 N9 d29 d39 iu9 iv9 uv9; (try dsimp only [cellsL] at N9); (try dsimp only)); rotate_left)))
    | ((with_reducible show wpAny _ _ (PySem.exec (PySem.Stmt.For (PySem.Expr.Name _ _) (PySem.Expr.List _ _) _ _ _) _) _ _ _); first | with_reducible (((refine' For_St ?fF ?fx ?fp ?_ ?fs ?fE); (case fF => with_unfolding_all k_asm); (case fx => with_unfolding_all rfl); (case fp => with_unfolding_all rfl); (case fs => (intro _; with_unfolding_all rfl)); (case fE => first | assumption | passes_own))) | (((refine' For_St ?fF ?fx ?fp ?_ ?fs ?fE); (case fF => with_unfolding_all k_asm); (case fx => with_unfolding_all rfl); (case fp => with_unfolding_all rfl); (case fs => (intro _; with_unfolding_all rfl)); (case fE => first | assumption | passes_own))))
    | ((with_reducible show wpAny _ _ (call (Value.ref 114) [Value.ref _, Value.ref _]) _ _ _); first | with_reducible ((k_dflt (refine' concat_use ?cB ?cF ?cX ?cN ?cT ?cf ?ck ?cd ?cu ?cma ?cmb ?chi ?chj ?chz ?_; (case cB => k_asm); (case cF => k_asm); (case cX => k_asm); (case cN => k_asm); (case cT => k_asm); (case cf => first | exact rfl | assumption); (case ck => first | exact rfl | assumption); (case cd => first | omega | ktr_room); (case cu => first | omega | ktr_units); (case cma => with_unfolding_all k_mem); (case cmb => with_unfolding_all k_mem); (case chi => assumption); (case chj => assumption); (case chz => omega); k_whole); intro D9 h9 tk9 F9 N9 i9 l9; (try k_lt l9); (try dsimp only); (try k_fold))) | ((k_dflt (refine' concat_use ?cB ?cF ?cX ?cN ?cT ?cf ?ck ?cd ?cu ?cma ?cmb ?chi ?chj ?chz ?_; (case cB => k_asm); (case cF => k_asm); (case cX => k_asm); (case cN => k_asm); (case cT => k_asm); (case cf => first | exact rfl | assumption); (case ck => first | exact rfl | assumption); (case cd => first | omega | ktr_room); (case cu => first | omega | ktr_units); (case cma => with_unfolding_all k_mem); (case cmb => with_unfolding_all k_mem); (case chi => assumption); (case chj => assumption); (case chz => omega); k_whole); intro D9 h9 tk9 F9 N9 i9 l9; (try k_lt l9); (try dsimp only); (try k_fold))))
    | (k_unfold; (try dsimp only)) | (k_end; wrow_close) | walk1 | (dsimp only; walk1) | (leave1; try dsimp only) | fail "no step")
  all_goals (try exact hQ _ _ _ _ (by assumption) (by assumption))
  all_goals k_data
end
-- part L5
section
open PySem PySem.W PyProof.Rows
set_option maxRecDepth 100000
set_option maxHeartbeats 8000000
variable {w : World} {p : Program} {loose : List Str} {mean : ExcName → Option Value} {mg mb : Str → Option Value}

theorem one_two_f (x : Int) : 1 + x.fmod 2 = 1 ∨ 1 + x.fmod 2 = 2 := by
  rw [Int.fmod_eq_emod_of_nonneg _ (by decide)]; omega
theorem one_two_e (x : Int) : 1 + x % 2 = 1 ∨ 1 + x % 2 = 2 := by omega
/-- some octets, one and the same -/
noncomputable def Ones (a : Int) (W : List Int) : Prop := 0 < W.length ∧ W.length ≤ 2 ∧ ∀ z ∈ W, z = a
theorem uvn_ones {a b : Int} {U V : List Int} (hu : Ones a U) (hv : Ones b V) : UVn a b 0 U V where
  pU := hu.1
  pV := hv.1
  mU := fun z hz => by rw [hu.2.2 z hz]; exact .head _
  mV := fun z hz => by rw [hv.2.2 z hz]; exact .tail _ (.head _)
  lU := hu.2.1
  lV := hv.2.1
  lS := by have := hu.2.1; have := hv.2.1; show _ ≤ 4; omega
theorem uvn_both {a b : Int} : UVn a b 0 [a, b] [a, b] where
  pU := by show 0 < 2; decide
  pV := by show 0 < 2; decide
  mU := fun _ h => h
  mV := fun _ h => h
  lU := Nat.le_refl _
  lV := Nat.le_refl _
  lS := Nat.le_refl _
theorem mul_one_L {prog : Program} {A : Around} {E : Value → Shared → Prop} {s : Shared} {h₀ : Heap} {L : Addr} {m : Str → Option Value} {news : List (Addr × Obj)} {l : Addr} {a k : Int} {ta u : MTok} {kk : Nat} {Q : Value → Shared → Prop} (F : Fr h₀ L s.heap m) (N : News h₀ L s.heap news) (hm : (l, listOf ([.int a ta] : List Value).toArray kk) ∈ news) (hk : k = 1 ∨ k = 2)
    (h : ∀ D h' ws W, Fr h₀ L h' m → News h₀ L h' ((D, listOf (List.toArray ws) 0) :: news) → (∀ p ∈ news, p.1 < D) → IntsAre ws W → Ones a W → Q (.ref D) { s with heap := h' }) :
    wpAny (model prog w) A (binaryOp .Mult (.ref l) (.int k u)) Q E s := by
  have hi : IntsAre [.int a ta] [a] := .cons _ _ .nil
  refine KM.mul F N (News.isList N hm) hi (by omega) (by omega) ?_ fun D h' F' N' l1 i1 _ _ _ _ _ => h D h' _ _ F' N' l1 i1 ?_
  · have h2 : k.toNat ≤ 2 := by omega
    exact Nat.le_trans (Nat.mul_le_mul (Nat.le_refl 1) h2) (by decide)
  · have e : (List.replicate k.toNat [a]).flatten = List.replicate k.toNat a := by
      rcases hk with rfl | rfl <;> rfl
    rw [e]
    refine ⟨by rw [List.length_replicate]; omega, by rw [List.length_replicate]; omega, fun z hz => List.eq_of_mem_replicate hz⟩
theorem ints_two {a b : Int} {ta tb : MTok} : IntsAre [.int a ta, .int b tb] [a, b] := .cons _ _ (.cons _ _ .nil)
theorem seg_B {dp un : Nat} {gd : Option (List Code)} {A₀ : Around} {base h₀ h : Heap} {L fa cdv : Addr} {m : Str → Option Value} {tk : Nat} {s : Shared} {PF : Flow → Shared → Prop} {EE : Value → Shared → Prop}
    (dr : Addr) (kd : Nat) (d0 d1 d2 d3 d4 : Int) (t0 t1 t2 t3 t4 : MTok) (hd0 : 0 ≤ d0 ∧ d0 < 1000000) (hd1 : 0 ≤ d1 ∧ d1 < 1000000) (hd2 : 0 ≤ d2 ∧ d2 < 1000000) (hd3 : 0 ≤ d3 ∧ d3 < 1000000) (hd4 : 0 ≤ d4 ∧ d4 < 1000000)
    (nm : Str) (tn : MTok) (hnm : nm.length < 20) (a b : Int) (ta tb : MTok) (oa : Oct a) (ob : Oct b) (o1 o2 o3 : Obj) (e2 : o2.data = .cell none) (e3 : o3.data = .cell none) (l4 : @Ne Nat dr (L + 1) ∧ @Ne Nat dr (L + 1 + 1) ∧ @Ne Nat dr (L + 1 + 1 + 1))
    (B : Below A₀ base [] h₀) (F : Fr h₀ L h m) (X : (K w.params).In h₀) (T : Top p loose mean mg mb h₀) (XB : (K w.params).In base) (TB : Top p loose mean mg mb base) (N : News h₀ L h ((L + 1 + 1 + 1, o3) :: (L + 1 + 1, o2) :: (L + 1, o1) :: (dr, listOf ([.int d0 t0, .int d1 t1, .int d2 t2, .int d3 t3, .int d4 t4] : List Value).toArray kd) :: []))
    (e_draws : m (Str.ofString "draws") = some (.ref dr)) (e_name : m (Str.ofString "name") = some (.str nm tn)) (e_octet : m (Str.ofString "octet") = some (.int a ta)) (e_other : m (Str.ofString "other") = some (.int b tb))
    (hd : dp + 40 < recursionLimit) (hu : un + 8 * 40 < cLine) (hE : PassesOwn (model PySem.Challenge.pw_ku0005_01 w) (topA dp un gd (envOfC (Str.ofString "law") (fdS 40) L fa (Value.ref cdv)) []) (envOfC (Str.ofString "law") (fdS 40) L fa (Value.ref cdv)) EE)
    (hQ : ∀ h' tk' m' news', Fr h₀ L h' m' → News h₀ L h' news' → PF (.ret (.bool true)) { s with heap := h', toks := tk' }) :
    wpAny (model PySem.Challenge.pw_ku0005_01 w) (topA dp un gd (envOfC (Str.ofString "law") (fdS 40) L fa (Value.ref cdv)) []) (execs ((fdB 40).drop 5) (envOfC (Str.ofString "law") (fdS 40) L fa (Value.ref cdv))) PF EE { s with heap := h, toks := tk } := by
  replace F := fr_tops [(Str.ofString "draws", .ref dr), (Str.ofString "name", .str nm tn), (Str.ofString "octet", .int a ta), (Str.ofString "other", .int b tb)] F (List.forall_mem_cons.mpr ⟨e_draws, List.forall_mem_cons.mpr ⟨e_name, List.forall_mem_cons.mpr ⟨e_octet, List.forall_mem_cons.mpr ⟨e_other, List.forall_mem_nil _⟩⟩⟩⟩)
  dsimp only [tops] at F
  clear e_draws e_name e_octet e_other
  show wpAny _ _ (execs (List.cons _ _) _) _ _ _
  repeat' (first
    | ((with_reducible show wpAny _ _ (PySem.exec _ _) _ _ _); k_fold)
    | ((with_reducible show wpAny _ _ (PySem.execs _ _) _ _ _); k_fold)
    | ((with_reducible show wpAny _ _ (PySem.execs _ _) _ _ _); dsimp only)
    | ((with_reducible show wpAny _ _ (execs (List.cons (PySem.Stmt.For _ _ _ _ _) _) _) _ _ _); first | with_reducible (((with_unfolding_all (refine' seg_C _ _ _ _ _ _ _ _ ?giu ?giv _ _ _ _ _ _ _ _ _ _ _ _ ?gx0 ?gx1 ?gx2 ?gx3 ?gx4 _ _ ?ghn _ _ _ _ ?goa ?gob ?gUV _ _ _ ?gd2 ?gd3 ?gl2 ?gl3 ?gl4 ?gB ?gF ?gX ?gT ?gXB ?gTB (kst_newsOf ?gN (List.forall_mem_cons.mpr ⟨?gm3, List.forall_mem_cons.mpr ⟨?gm2, List.forall_mem_cons.mpr ⟨?gm1, List.forall_mem_cons.mpr ⟨?gmu, List.forall_mem_cons.mpr ⟨?gmv, List.forall_mem_cons.mpr ⟨?gmd, List.forall_mem_nil _⟩⟩⟩⟩⟩⟩)) ?ge1 ?ge2 ?ge3 ?ge4 ?ghd ?ghu ?ghE ?_)); (case gF => k_asm); (case ge1 => with_unfolding_all rfl); (case ge2 => with_unfolding_all rfl); (case ge3 => with_unfolding_all rfl); (case ge4 => with_unfolding_all rfl); (case gN => k_asm); (case gm3 => with_unfolding_all k_mem); (case gm2 => with_unfolding_all k_mem); (case gm1 => with_unfolding_all k_mem); (case gmd => with_unfolding_all k_mem); (case gd2 => assumption); (case gd3 => assumption); (case gmu => with_unfolding_all k_mem); (case gmv => with_unfolding_all k_mem); (case giu => first | assumption | exact ints_two); (case giv => first | assumption | exact ints_two); (case gUV => first | (exact uvn_ones (by assumption) (by assumption)) | (exact uvn_both)); (case gl2 => first | assumption | (with_unfolding_all assumption) | (show @LT.lt Nat _ _ _; omega)); (case gl3 => first | assumption | (with_unfolding_all assumption) | (show @LT.lt Nat _ _ _; omega)); (case gl4 => assumption); (case gx0 => assumption); (case gx1 => assumption); (case gx2 => assumption); (case gx3 => assumption); (case gx4 => assumption); (case ghn => assumption); (case goa => assumption); (case gob => assumption); (case gB => k_asm); (case gX => k_asm); (case gT => k_asm); (case gXB => assumption); (case gTB => assumption); (case ghd => assumption); (case ghu => assumption); (case ghE => passes_own); (intro h9 tk9 m9 nw9 F9 N9; (try dsimp only)))) | (((with_unfolding_all (refine' seg_C _ _ _ _ _ _ _ _ ?giu ?giv _ _ _ _ _ _ _ _ _ _ _ _ ?gx0 ?gx1 ?gx2 ?gx3 ?gx4 _ _ ?ghn _ _ _ _ ?goa ?gob ?gUV _ _ _ ?gd2 ?gd3 ?gl2 ?gl3 ?gl4 ?gB ?gF ?gX ?gT ?gXB ?gTB (kst_newsOf ?gN (List.forall_mem_cons.mpr ⟨?gm3, List.forall_mem_cons.mpr ⟨?gm2, List.forall_mem_cons.mpr ⟨?gm1, List.forall_mem_cons.mpr ⟨?gmu, List.forall_mem_cons.mpr ⟨?gmv, List.forall_mem_cons.mpr ⟨?gmd, List.forall_mem_nil _⟩⟩⟩⟩⟩⟩)) ?ge1 ?ge2 ?ge3 ?ge4 ?ghd ?ghu ?ghE ?_)); (case gF => k_asm); (case ge1 => with_unfolding_all rfl); (case ge2 => with_unfolding_all rfl); (case ge3 => with_unfolding_all rfl); (case ge4 => with_unfolding_all rfl); (case gN => k_asm); (case gm3 => with_unfolding_all k_mem); (case gm2 => with_unfolding_all k_mem); (case gm1 => with_unfolding_all k_mem); (case gmd => with_unfolding_all k_mem); (case gd2 => assumption); (case gd3 => assumption); (case gmu => with_unfolding_all k_mem); (case gmv => with_unfolding_all k_mem); (case giu => first | assumption | exact ints_two); (case giv => first | assumption | exact ints_two); (case gUV => first | (exact uvn_ones (by assumption) (by assumption)) | (exact uvn_both)); (case gl2 => first | assumption | (with_unfolding_all assumption) | (show @LT.lt Nat _ _ _; omega)); (case gl3 => first | assumption | (with_unfolding_all assumption) | (show @LT.lt Nat _ _ _; omega)); (case gl4 => assumption); (case gx0 => assumption); (case gx1 => assumption); (case gx2 => assumption); (case gx3 => assumption); (case gx4 => assumption); (case ghn => assumption); (case goa => assumption); (case gob => assumption); (case gB => k_asm); (case gX => k_asm); (case gT => k_asm); (case gXB => assumption); (case gTB => assumption); (case ghd => assumption); (case ghu => assumption); (case ghE => passes_own); (intro h9 tk9 m9 nw9 F9 N9; (try dsimp only)))))
    | ((with_reducible show wpAny _ _ (PySem.binaryOp .Mult (Value.ref _) (Value.int _ _)) _ _ _); first | with_reducible (((refine' mul_one_L ?mF ?mN ?mm ?mk ?_); (case mF => k_asm); (case mN => k_asm); (case mm => with_unfolding_all k_mem); (case mk => first | exact one_two_f _ | exact one_two_e _ | omega)); (intro D9 h9 ws9 W9 F9 N9 l9 i9 on9); (try k_lt l9); (try dsimp only)) | (((refine' mul_one_L ?mF ?mN ?mm ?mk ?_); (case mF => k_asm); (case mN => k_asm); (case mm => with_unfolding_all k_mem); (case mk => first | exact one_two_f _ | exact one_two_e _ | omega)); (intro D9 h9 ws9 W9 F9 N9 l9 i9 on9); (try k_lt l9); (try dsimp only)))
    | (k_unfold; (try dsimp only)) | (k_end; wrow_close) | walk1 | (dsimp only; walk1) | (leave1; try dsimp only) | fail "no step")
  all_goals (try exact hQ _ _ _ _ (by assumption) (by assumption))
  all_goals k_data
end
-- part G17
section
open PySem PySem.W PyProof.Rows PySem.Calls
set_option maxRecDepth 100000
set_option maxHeartbeats 2000000
open LCg LCp
theorem intsAre_of : ∀ {ws : List Value}, (∀ v ∈ ws, ∃ z t, v = .int z t) → ∃ ms, IntsAre ws ms ∧ ms.length = ws.length
  | [], _ => ⟨[], .nil, rfl⟩
  | v :: ws, h => by
    obtain ⟨z, t, rfl⟩ := h v (.head _)
    obtain ⟨ms, h1, h2⟩ := intsAre_of fun x hx => h x (.tail _ hx)
    exact ⟨z :: ms, .cons _ _ h1, by rw [List.length_cons, List.length_cons, h2]⟩
theorem ints_elem : ∀ {vs : List Value} {ns : List Int}, IntsAre vs ns → ∀ v ∈ vs, ∃ z t, v = .int z t
  | _, _, .nil, _, h => by simp at h
  | _, _, .cons z t h, v, hv => by
    rcases List.mem_cons.mp hv with rfl | hv
    · exact ⟨z, t, rfl⟩
    · exact ints_elem h v hv
theorem slice_elem {vs : List Value} {ns : List Int} (hi : IntsAre vs ns) (lo up st : Option Int) : ∃ ms, IntsAre (slicePick vs.toArray lo up st).toList ms ∧ ms.length ≤ ns.length := by
  obtain ⟨ms, h1, h2⟩ := intsAre_of (ws := (slicePick vs.toArray lo up st).toList) fun v hv => by
    unfold slicePick at hv
    simp only [List.mem_filterMap] at hv
    obtain ⟨i, _, hi'⟩ := hv
    refine ints_elem hi v ?_
    simp only [List.getElem?_toArray] at hi'
    exact List.mem_of_getElem? hi'
  refine ⟨ms, h1, ?_⟩
  have h3 := slicePick_size_le vs.toArray lo up st
  have h4 : vs.toArray.size = ns.length := by rw [List.size_toArray, hi.length]
  rw [h2, Array.length_toList]
  omega
section
variable {prog : Program} {w : World} {A : Around} {E : Value → Shared → Prop} {s : Shared} {h₀ : Heap} {L : Addr} {m : Str → Option Value} {env : Env} {news : List (Addr × Obj)}
theorem slice_any2 {value slice : Expr} {l : Addr} {vs : List Value} {ns : List Int} {vl vu : Value} {lo up : Option Int} {Q : Value → Shared → Prop} (F : Fr h₀ L s.heap m) (N : News h₀ L s.heap news) (hl : s.heap.IsList l vs.toArray) (hi : IntsAre vs ns) (hz : ns.length ≤ 1000) (pl : IsPart vl lo) (pu : IsPart vu up)
    (h : ∀ D h' ws ms, Fr h₀ L h' m → News h₀ L h' ((D, listOf (List.toArray ws) 0) :: news) → (∀ p ∈ news, p.1 < D) → IntsAre ws ms → ms.length ≤ ns.length → Q (.ref D) { s with heap := h' })
    (hs : subscripted slice false (.ref l) (.ref s.heap.objs.size) = operate [.ref s.heap.objs.size, .ref l] (getItem (.ref l) (.ref s.heap.objs.size))) (ht : ∀ r, letTemporaryGo value (.ref l) r = pure ()) :
    wpAny (model prog w) A (subscriptTail value slice (.ref l) (.ref s.heap.objs.size)) Q E { s with heap := s.heap.push { cls := .type "slice", data := .fields #[vl, vu, .none] } } := by
  obtain ⟨ms, h1, h2⟩ := slice_elem hi lo up none
  exact kmk_slice_lit F N hl pl pu rfl (fun D h' F' N' lt => h D h' _ ms F' N' lt h1 h2) hs ht (by rw [List.size_toArray, hi.length]; exact Nat.le_trans hz (by decide))
theorem slice_any3 {value slice : Expr} {l : Addr} {vs : List Value} {ns : List Int} {vl vu vk : Value} {lo up st : Option Int} {ops : List Value} {Q : Value → Shared → Prop} (F : Fr h₀ L s.heap m) (N : News h₀ L s.heap news) (hl : s.heap.IsList l vs.toArray) (hi : IntsAre vs ns) (hz : ns.length ≤ 1000) (pl : IsPart vl lo) (pu : IsPart vu up) (pk : IsPart vk st) (h0 : st ≠ some 0)
    (h : ∀ D h' ws ms, Fr h₀ L h' m → News h₀ L h' ((D, listOf (List.toArray ws) 0) :: news) → (∀ p ∈ news, p.1 < D) → IntsAre ws ms → ms.length ≤ ns.length → Q (.ref D) { s with heap := h' })
    (hs : subscripted slice false (.ref l) (.ref s.heap.objs.size) = operate ops (getItem (.ref l) (.ref s.heap.objs.size))) (ht : ∀ r, letTemporaryGo value (.ref l) r = pure ()) :
    wpAny (model prog w) A (subscriptTail value slice (.ref l) (.ref s.heap.objs.size)) Q E { s with heap := s.heap.push { cls := .type "slice", data := .fields #[vl, vu, vk] } } := by
  obtain ⟨ms, h1, h2⟩ := slice_elem hi lo up st
  exact kmk_slice3_lit F N hl pl pu pk h0 rfl (fun D h' F' N' lt => h D h' _ ms F' N' lt h1 h2) hs ht (by rw [List.size_toArray, hi.length]; exact Nat.le_trans hz (by decide))
/-- a comprehension over an enumerate of ints, each item an int that Ok tells -/
inductive SrcEn (prog : Program) (w : World) (A : Around) (h₀ : Heap) (L : Addr) (m : Str → Option Value) (env : Env) (elt : Expr) (x x₂ : Str) (scope : Scope) (cl : List (Str × Addr)) (Fin : Shared → List Value → List (Addr × Obj) → Prop) (xv : Value) (s₁ : Shared) : Prop
  | intro (I : Addr) (fp wr : List Addr) (n : Nat) (Pt : Nat → Array Value → Prop) (P2 : Nat → Value → Value → Prop) (St : Nat → Heap → Prop) (Mid : Nat → Addr → Heap → Prop) (news : List (Addr × Obj)) (J : Nat → List Value → Prop) (_ : xv = .ref I) (_ : WalksT prog w A I fp wr n Pt St Mid) (_ : I ∈ fp) (_ : ∀ i vals, Pt i vals → ∃ v0 v1, vals = #[v0, v1] ∧ P2 i v0 v1) (_ : n ≤ sizeLine) (_ : ∀ i h, St i h → ∃ o, h.get? I = some o) (_ : A.handled = none) (_ : St 0 s₁.heap) (_ : ∀ b ∈ fp, b < s₁.heap.objs.size) (_ : Fr h₀ L s₁.heap m) (_ : News h₀ L s₁.heap news) (_ : L ∉ fp) (_ : ∀ b ∈ fp, h₀.get? b = none) (_ : ∀ p ∈ news, p.1 ∉ wr) (_ : ∀ p ∈ news, p.1 ≠ I) (_ : J 0 []) (_ : ∀ i v0 v1 oI C oC D m₂ ys own h tk (E' : Value → Shared → Prop), i < n → P2 i v0 v1 → J i ys → NsObj oC m₂ → m₂ x = some v0 → m₂ x₂ = some v1 → Fr h₀ L h m → News h₀ L h ((I, oI) :: (C, oC) :: (D, lst ys) :: (own ++ news)) → Off3 I C D (own ++ news) → ((@Ne Nat I C) ∧ (@Ne Nat I D) ∧ (@Ne Nat C D)) → wpAny (model prog w) A (eval elt (compEnvC scope cl C env)) (CompEnd h₀ L m { s₁ with heap := h, toks := tk } I oI C oC D (lst ys) (fun nw => ∀ p ∈ own ++ news, p ∈ nw) (fun y _ => J (i + 1) (ys ++ [y]))) E' { s₁ with heap := h, toks := tk }) (_ : ∀ ys, ys.length = n → J n ys → Fin s₁ ys news) : SrcEn prog w A h₀ L m env elt x x₂ scope cl Fin xv s₁
theorem Assign_ListComp_En {elt iter : Expr} {x x₂ y : Str} {px px₂ tp py : Pos} {tk} {scope : Scope} {cl : List (Str × Addr)} {pos spos : Pos} {Q : Flow → Shared → Prop} (_ : Fr h₀ L s.heap m) (hLe : env.locals = L)
    (hsw : swapsWith (.ListComp elt [⟨.Tuple [.Name x px, .Name x₂ px₂] tk tp, iter, [], 0⟩] scope pos) (some (.Name y py)) spos.line env = pure true) (hy : env.kindOf y = some .local) (hp : (env.scope.kind == .class || (env.scope.kind == .module && env.locals != env.globals)) = false)
    (hclos : closureFor scope env = pure cl) (hcell : ∀ y ∈ scope.names, y.2 ≠ .cell) (hkind : scope.kind = .function)
    (hnames : ∀ y ∈ scope.names, y.2 = .local → scope.names.lookup y.1 = some .local) (hx : scope.names.lookup x = some .local) (hx₂ : scope.names.lookup x₂ = some .local) (hxx : x ≠ x₂)
    (h : wpAny (model prog w) A (eval iter env) (SrcEn prog w A h₀ L m env elt x x₂ scope cl (fun s₂ ys news => FinA h₀ L m s₂ y Q ys news)) E s)
    (hs : ∀ x, foldedSetIterable iter env x = pure x) :
    wpAny (model prog w) A (exec (.Assign [.Name y py] (.ListComp elt [⟨.Tuple [.Name x px, .Name x₂ px₂] tk tp, iter, [], 0⟩] scope pos) spos) env) Q E s := by
  subst hLe
  rw [exec_Assign_Name_used _ _ _ _ hsw]
  refine wpAny_bind (wpAny_standAt (wpAny_bind ?_))
  show wpAny _ A (do let _ ← comprehension (.ListComp elt [⟨.Tuple [.Name x px, .Name x₂ px₂] tk tp, iter, [], 0⟩] scope pos) scope env _ (newList []) false (eval iter env) (some (assign (.Name y py) env))) _ _ s
  refine wpAny_bind (wpAny_mono (wpAny_comprehension_free (use := some (assign (.Name y py) env)) (Q := fun _ s' => Q .next s') rfl hs hclos hkind hnames
    (wpAny_mono h (fun xv s₁ h₁ => ?_) fun _ _ e => e)) (fun _ s' hq => wpAny_pure (wpAny_pure hq)) fun _ _ e => e)
  obtain ⟨I, fp, wr, n, Pt, P2, St, Mid, news, J, rfl, W, hI, hPt, hsz, hlive, hh, hst, hfp, F, N, hLf, hnew, off, offI, h0, turn, fin⟩ := h₁
  refine W.self 0 _ _ _ hst ?_
  refine block_T J W hI hPt hsz hlive hcell hkind hx hx₂ hxx hh hst hfp F N hLf hnew off offI h0 turn ?_
  intro D C h' tk m' ys F' N' o1 hn hC₀ hD₀ hCL hDL hCD offC hyl hJ
  show wpAny _ A (assign (.Name y py) env (.ref D)) _ _ _
  refine wpAny_assign_Name (wpAny_storeName_local hy F'.ns (fun h₂ hn₂ hs₂ => ?_) hp)
  have hL₀ : h₀.get? env.locals = none := Heap.get?_none_of_le F'.above
  have F₂ : Fr h₀ env.locals h₂ (fun z => if z = y then some (.ref D) else m z) := ⟨hn₂, fun b o e => hs₂.extBut b o (fun q => by rw [q, hL₀] at e; cases e) (F'.keep b o e), F'.above⟩
  refine ⟨m', hn.sameBut hs₂ hCL, fun h'' hs'' => fin ys hyl hJ D h'' _ (F₂.change hs'' hCL hC₀) (fun p hp => ?_) o1⟩
  have z : h₂.get? p.1 = some p.2 := hs₂.extBut _ _ (N' p hp).2.1 (N' p hp).1
  refine ⟨hs''.extBut _ _ ?_ z, (N' p hp).2⟩
  rcases List.mem_cons.mp hp with rfl | hp
  · exact Ne.symm hCD
  · exact offC p hp
/-- what is made so far: ints, each within its bounds -/
noncomputable def DrawJ (i : Nat) (ys : List Value) : Prop := ∃ ds : List Int, IntsAre ys ds ∧ ds.length = i ∧ ∀ d ∈ ds, 0 ≤ d ∧ d < 1000000
theorem DrawJ.next {i : Nat} {ys : List Value} {d : Int} {t : Tok} (h : DrawJ i ys) (hd : 0 ≤ d ∧ d < 1000000) : DrawJ (i + 1) (ys ++ [.int d t]) := by
  obtain ⟨ds, h1, h2, h3⟩ := h
  refine ⟨ds ++ [d], h1.append (.cons _ _ .nil), by rw [List.length_append, h2]; rfl, fun x hx => ?_⟩
  rcases List.mem_append.mp hx with hx | hx
  · exact h3 x hx
  · rw [List.mem_singleton.mp hx]; exact hd
theorem enum_draws {Fin : Shared → List Value → List (Addr × Obj) → Prop} {elt : Expr} {x x₂ : Str} {scope : Scope} {cl : List (Str × Addr)} {l : Addr} {vs : List Value} {xs : List Int} {k : Nat} (hh : A.handled = none) (F : Fr h₀ L s.heap m) (N : News h₀ L s.heap news) (hm : (l, listOf vs.toArray k) ∈ news) (hi : IntsAre vs xs) (hz : xs.length ≤ 5)
    (fin : ∀ h ys ds, IntsAre ys ds → ds.length = xs.length → (∀ d ∈ ds, 0 ≤ d ∧ d < 1000000) → Fin { s with heap := h } ys news)
    (turn : ∀ (i : Nat) z t u I oI C oC D m₂ ys own h tk (E' : Value → Shared → Prop), i < 5 → NsObj oC m₂ → m₂ x = some (.int (i : Int) t) → m₂ x₂ = some (.int z u) → Fr h₀ L h m → News h₀ L h ((I, oI) :: (C, oC) :: (D, lst ys) :: (own ++ news)) → Off3 I C D (own ++ news) → ((@Ne Nat I C) ∧ (@Ne Nat I D) ∧ (@Ne Nat C D)) →
      wpAny (model prog w) A (eval elt (compEnvC scope cl C env)) (CompEnd h₀ L m { s with heap := h, toks := tk } I oI C oC D (lst ys) (fun nw => ∀ p ∈ own ++ news, p ∈ nw) (fun y _ => ∃ d t, y = .int d t ∧ 0 ≤ d ∧ d < 1000000)) E' { s with heap := h, toks := tk }) :
    wpAny (model prog w) A (call (.type "enumerate") [.ref l]) (SrcEn prog w A h₀ L m env elt x x₂ scope cl Fin) E s := by
  have hl : s.heap.IsList l vs.toArray := News.isList N hm
  have a1 : l < s.heap.objs.size := Heap.lt_size (N _ hm).1
  have hLs : L < s.heap.objs.size := F.ns.lt
  have hab : h₀.objs.size ≤ L := F.above
  refine call_enumerate_list hl fun h' he hit hsz hk => ?_
  have F' : Fr h₀ L h' m := ⟨F.ns.keeps hk, fun b o e => hk b o (F.keep b o e), F.above⟩
  have N' : News h₀ L h' news := fun p hp => ⟨hk _ _ (N p hp).1, (N p hp).2⟩
  have nw : ∀ k, h₀.get? (s.heap.objs.size + k) = none := fun k => Heap.get?_none_of_le (Nat.le_trans hab (Nat.le_trans (Nat.le_of_lt hLs) (Nat.le_add_right _ k)))
  have up : ∀ k, L ≠ s.heap.objs.size + k := fun k e => Nat.ne_of_lt (Nat.lt_of_lt_of_le hLs (Nat.le_add_right _ k)) e
  have W := WalksT.enumerate (prog := prog) (w := w) hh (s.heap.objs.size + 1) s.heap.objs.size l (Nat.succ_ne_self _) (Nat.ne_of_lt (Nat.lt_succ_of_lt a1)) (Nat.ne_of_lt a1) vs.toArray
  have hst : (∃ old, IsEnum h' (s.heap.objs.size + 1) s.heap.objs.size ((0 : Nat) : Int) old) ∧ h'.IsListIter s.heap.objs.size l 0 ∧ h'.IsList l vs.toArray := ⟨⟨_, he⟩, hit, hl.at fun o e => hk l o e⟩
  have hn : vs.toArray.size = xs.length := by simp [hi.length]
  refine ⟨s.heap.objs.size + 1, _, _, _, _, (fun i v0 v1 => ∃ z t u, v0 = .int (i : Int) t ∧ v1 = .int z u), _, _, news, DrawJ, rfl, W, List.mem_cons_self .., ?_, by rw [hn]; exact Nat.le_trans hz (by decide), ?_, hh, hst, ?_, F', N', ?_, ?_, ?_, ?_, ⟨[], .nil, rfl, fun d hd => by simp at hd⟩, ?_, ?_⟩
  · rintro i vals ⟨t, v, hv, rfl⟩
    obtain ⟨z, u, rfl⟩ := ints_elem hi v (by
      simp only [List.getElem?_toArray] at hv
      exact List.mem_of_getElem? hv)
    exact ⟨_, _, rfl, z, t, u, rfl, rfl⟩
  · rintro i h ⟨⟨old, st⟩, _⟩
    exact ⟨_, st⟩
  · intro b hb
    show b < h'.objs.size
    rw [hsz]
    simp only [List.mem_cons, List.not_mem_nil, or_false] at hb
    rcases hb with rfl | rfl | rfl
    · exact Nat.lt_succ_self _
    · exact Nat.lt_add_of_pos_right (by decide)
    · exact Nat.lt_of_lt_of_le a1 (Nat.le_add_right _ _)
  · intro hm'
    simp only [List.mem_cons, List.not_mem_nil, or_false] at hm'
    rcases hm' with e | e | e
    · exact up 1 e
    · exact up 0 e
    · exact (N _ hm).2.1 e.symm
  · intro b hb
    simp only [List.mem_cons, List.not_mem_nil, or_false] at hb
    rcases hb with rfl | rfl | rfl
    · exact nw 1
    · exact nw 0
    · exact (N _ hm).2.2
  · intro p hp hm'
    have := Heap.lt_size (N p hp).1
    simp only [List.mem_cons, List.not_mem_nil, or_false] at hm'
    rcases hm' with e | e
    · rw [e] at this; exact absurd this (Nat.not_lt.mpr (Nat.le_add_right _ _))
    · rw [e] at this; exact absurd this (Nat.lt_irrefl _)
  · intro p hp e
    have := Heap.lt_size (N p hp).1
    rw [e] at this
    exact absurd this (Nat.not_lt.mpr (Nat.le_add_right _ _))
  · rintro i v0 v1 oI C oC D m₂ ys own h tk E' hlt ⟨z, t, u, rfl, rfl⟩ hJ hC h1 h2 F₂ N₂ o₂ ne₂
    refine wpAny_mono (turn i z t u _ oI C oC D m₂ ys own h tk E' (by rw [hn] at hlt; omega) hC h1 h2 F₂ N₂ o₂ ne₂) (fun y s₂ hq => ?_) fun _ _ e => e
    obtain ⟨h₃, tk₃, nw', e, F₃, N₃, o₃, hS, d, t', rfl, hd⟩ := hq
    exact ⟨h₃, tk₃, nw', e, F₃, N₃, o₃, hS, hJ.next hd⟩
  · rintro ys hyl ⟨ds, h1, h2, h3⟩
    exact fin h' ys ds h1 (h2.trans hn) h3
/-- one of four octets, at a place within -/
theorem pick_oct {value slice : Expr} {l : Addr} {x0 x1 x2 x3 k : Int} {t0 t1 t2 t3 u : Tok} {kk : Nat} {Ok : Int → Prop} {Q : Value → Shared → Prop} (N : News h₀ L s.heap news) (hm : (l, listOf ([.int x0 t0, .int x1 t1, .int x2 t2, .int x3 t3] : List Value).toArray kk) ∈ news) (h0 : Ok x0) (h1 : Ok x1) (h2 : Ok x2) (h3 : Ok x3) (hk : 0 ≤ k ∧ k < 4)
    (h : ∀ y t, Ok y → Q (.int y t) s) (hs : subscripted slice false (.ref l) (.int k u) = operate [.ref l, .int k u] (getItem (.ref l) (.int k u))) :
    wpAny (model prog w) A (subscriptTail value slice (.ref l) (.int k u)) Q E s := by
  have hl : s.heap.IsList l ([.int x0 t0, .int x1 t1, .int x2 t2, .int x3 t3] : List Value).toArray := News.isList N hm
  have key : ∀ y t, ([.int x0 t0, .int x1 t1, .int x2 t2, .int x3 t3] : List Value)[k.toNat]? = some (.int y t) → Ok y → wpAny (model prog w) A (subscriptTail value slice (.ref l) (.int k u)) Q E s := fun y t hx ho =>
    tail_any hl.typeIs slot_list_getitem.lookup (wpAny_getItem_list hl hk.1 (by omega) (by simpa using hx) (h y t ho)) hs
  have hk' : k = 0 ∨ k = 1 ∨ k = 2 ∨ k = 3 := by omega
  rcases hk' with rfl | rfl | rfl | rfl
  · exact key x0 t0 rfl h0
  · exact key x1 t1 rfl h1
  · exact key x2 t2 rfl h2
  · exact key x3 t3 rfl h3
/-- one of three names -/
theorem pick_name {value slice : Expr} {l : Addr} {x0 x1 x2 : Str} {k : Int} {t0 t1 t2 u : Tok} {kk : Nat} {Ok : Str → Prop} {Q : Value → Shared → Prop} (N : News h₀ L s.heap news) (hm : (l, listOf ([.str x0 t0, .str x1 t1, .str x2 t2] : List Value).toArray kk) ∈ news) (h0 : Ok x0) (h1 : Ok x1) (h2 : Ok x2) (hk : 0 ≤ k ∧ k < 3)
    (h : ∀ y t, Ok y → Q (.str y t) s) (hs : subscripted slice false (.ref l) (.int k u) = operate [.ref l, .int k u] (getItem (.ref l) (.int k u))) :
    wpAny (model prog w) A (subscriptTail value slice (.ref l) (.int k u)) Q E s := by
  have hl : s.heap.IsList l ([.str x0 t0, .str x1 t1, .str x2 t2] : List Value).toArray := News.isList N hm
  have key : ∀ y t, ([.str x0 t0, .str x1 t1, .str x2 t2] : List Value)[k.toNat]? = some (.str y t) → Ok y → wpAny (model prog w) A (subscriptTail value slice (.ref l) (.int k u)) Q E s := fun y t hx ho =>
    tail_any hl.typeIs slot_list_getitem.lookup (wpAny_getItem_list hl hk.1 (by omega) (by simpa using hx) (h y t ho)) hs
  have hk' : k = 0 ∨ k = 1 ∨ k = 2 := by omega
  rcases hk' with rfl | rfl | rfl
  · exact key x0 t0 rfl h0
  · exact key x1 t1 rfl h1
  · exact key x2 t2 rfl h2
end
end
-- part L6
section
open PySem PySem.W PyProof.Rows
set_option maxRecDepth 100000
set_option maxHeartbeats 8000000
variable {w : World} {p : Program} {loose : List Str} {mean : ExcName → Option Value} {mg mb : Str → Option Value}

theorem xor_gives (i j : Int) (t u : MTok) (news) : GivesV w p loose mean mg mb 1 107 [.int i t, .int j u] news (fun t => .int (Builtin.bitXor i j) t) := by
  intro dp un gd env outer A₀ base h₀ L m s Q E B F X N T hf hk hd hu hret
  refine wpAny_call ?_
  k_dflt cell_enter
  repeat' (first
    | ((with_reducible show wpAny _ _ (PySem.exec _ _) _ _ _); k_fold)
    | ((with_reducible show wpAny _ _ (PySem.execs _ _) _ _ _); k_fold)
    | ((with_reducible show wpAny _ _ (PySem.execs _ _) _ _ _); dsimp only)
    | (k_unfold; (try dsimp only)) | (k_end; wrow_close) | walk1 | (dsimp only; walk1) | (leave1; try dsimp only) | fail "no step")
  exact cb_retI hret (by rfl) (by k_asm) (by k_asm)
theorem xor_1 : ∀ n : Nat, n < 256 → (decide (0 ≤ Builtin.bitXor (n : Int) 1 ∧ Builtin.bitXor (n : Int) 1 < 256)) = true := by decide +kernel
theorem xor_16 : ∀ n : Nat, n < 256 → (decide (0 ≤ Builtin.bitXor (n : Int) 16 ∧ Builtin.bitXor (n : Int) 16 < 256)) = true := by decide +kernel
theorem oct_x1 {i : Int} (h : Oct i) : Oct (Builtin.bitXor i 1) := by
  obtain ⟨n, hn, rfl⟩ := h.nat
  have q := of_decide_eq_true (xor_1 n hn)
  exact q
theorem oct_x16 {i : Int} (h : Oct i) : Oct (Builtin.bitXor i 16) := by
  obtain ⟨n, hn, rfl⟩ := h.nat
  have q := of_decide_eq_true (xor_16 n hn)
  exact q
theorem oct_f (x : Int) : Oct (x.fmod 256) := by
  rw [Int.fmod_eq_emod_of_nonneg _ (by decide)]
  exact ⟨by omega, by omega⟩
theorem oct_e (x : Int) : Oct (x % 256) := ⟨by omega, by omega⟩
theorem four_f (x : Int) : 0 ≤ x.fmod 4 ∧ x.fmod 4 < 4 := by
  rw [Int.fmod_eq_emod_of_nonneg _ (by decide)]; omega
theorem four_e (x : Int) : 0 ≤ x % 4 ∧ x % 4 < 4 := by omega
theorem three_f (x : Int) : 0 ≤ x.fmod 3 ∧ x.fmod 3 < 3 := by
  rw [Int.fmod_eq_emod_of_nonneg _ (by decide)]; omega
theorem three_e (x : Int) : 0 ≤ x % 3 ∧ x % 3 < 3 := by omega
theorem mil_f (x : Int) : 0 ≤ x.fmod 1000000 ∧ x.fmod 1000000 < 1000000 := by
  rw [Int.fmod_eq_emod_of_nonneg _ (by decide)]; omega
theorem mil_e (x : Int) : 0 ≤ x % 1000000 ∧ x % 1000000 < 1000000 := by omega
noncomputable def Short (x : Str) : Prop := x.length < 20
theorem short_1 : Short (Str.ofString "Big5") := by unfold Short; decide +kernel
theorem short_2 : Short (Str.ofString "utf-8") := by unfold Short; decide +kernel
theorem short_3 : Short (Str.ofString "iso-8859-1") := by unfold Short; decide +kernel
theorem Short.lt {x : Str} (h : Short x) : x.length < 20 := h
theorem seg_A2 {dp un : Nat} {gd : Option (List Code)} {A₀ : Around} {base h₀ h : Heap} {L fa cdv : Addr} {m : Str → Option Value} {tk : Nat} {s : Shared} {PF : Flow → Shared → Prop} {EE : Value → Shared → Prop}
    (dr : Addr) (kd : Nat) (d0 d1 d2 d3 d4 : Int) (t0 t1 t2 t3 t4 : MTok) (hd0 : 0 ≤ d0 ∧ d0 < 1000000) (hd1 : 0 ≤ d1 ∧ d1 < 1000000) (hd2 : 0 ≤ d2 ∧ d2 < 1000000) (hd3 : 0 ≤ d3 ∧ d3 < 1000000) (hd4 : 0 ≤ d4 ∧ d4 < 1000000)
    (o1 o2 o3 : Obj) (e2 : o2.data = .cell none) (e3 : o3.data = .cell none) (l4 : @Ne Nat dr (L + 1) ∧ @Ne Nat dr (L + 1 + 1) ∧ @Ne Nat dr (L + 1 + 1 + 1))
    (B : Below A₀ base [] h₀) (F : Fr h₀ L h m) (X : (K w.params).In h₀) (T : Top p loose mean mg mb h₀) (XB : (K w.params).In base) (TB : Top p loose mean mg mb base) (N : News h₀ L h ((L + 1 + 1 + 1, o3) :: (L + 1 + 1, o2) :: (L + 1, o1) :: (dr, listOf ([.int d0 t0, .int d1 t1, .int d2 t2, .int d3 t3, .int d4 t4] : List Value).toArray kd) :: []))
    (e_draws : m (Str.ofString "draws") = some (.ref dr))
    (hd : dp + 40 < recursionLimit) (hu : un + 8 * 40 < cLine) (hE : PassesOwn (model PySem.Challenge.pw_ku0005_01 w) (topA dp un gd (envOfC (Str.ofString "law") (fdS 40) L fa (Value.ref cdv)) []) (envOfC (Str.ofString "law") (fdS 40) L fa (Value.ref cdv)) EE)
    (hQ : ∀ h' tk' m' news', Fr h₀ L h' m' → News h₀ L h' news' → PF (.ret (.bool true)) { s with heap := h', toks := tk' }) :
    wpAny (model PySem.Challenge.pw_ku0005_01 w) (topA dp un gd (envOfC (Str.ofString "law") (fdS 40) L fa (Value.ref cdv)) []) (execs ((fdB 40).drop 2) (envOfC (Str.ofString "law") (fdS 40) L fa (Value.ref cdv))) PF EE { s with heap := h, toks := tk } := by
  replace F := fr_tops [(Str.ofString "draws", .ref dr)] F (List.forall_mem_cons.mpr ⟨e_draws, List.forall_mem_nil _⟩)
  dsimp only [tops] at F
  clear e_draws
  show wpAny _ _ (execs (List.cons _ _) _) _ _ _
  repeat' (first
    | ((with_reducible show wpAny _ _ (PySem.exec _ _) _ _ _); k_fold)
    | ((with_reducible show wpAny _ _ (PySem.execs _ _) _ _ _); k_fold)
    | ((with_reducible show wpAny _ _ (PySem.execs _ _) _ _ _); dsimp only)
    | ((with_reducible show wpAny _ _ (execs (List.cons (PySem.Stmt.Assign _ (PySem.Expr.BinOp (PySem.Expr.List _ _) _ _ _) _) _) _) _ _ _); first | with_reducible (((with_unfolding_all (refine' seg_B _ _ _ _ _ _ _ _ _ _ _ _ ?gx0 ?gx1 ?gx2 ?gx3 ?gx4 _ _ ?ghn _ _ _ _ ?goa ?gob _ _ _ ?gd2 ?gd3 ?gl4 ?gB ?gF ?gX ?gT ?gXB ?gTB (kst_newsOf ?gN (List.forall_mem_cons.mpr ⟨?gm3, List.forall_mem_cons.mpr ⟨?gm2, List.forall_mem_cons.mpr ⟨?gm1, List.forall_mem_cons.mpr ⟨?gmd, List.forall_mem_nil _⟩⟩⟩⟩)) ?ge1 ?ge2 ?ge3 ?ge4 ?ghd ?ghu ?ghE ?_)); (case gF => k_asm); (case ge1 => with_unfolding_all rfl); (case ge2 => with_unfolding_all rfl); (case ge3 => with_unfolding_all rfl); (case ge4 => with_unfolding_all rfl); (case gN => k_asm); (case gm3 => with_unfolding_all k_mem); (case gm2 => with_unfolding_all k_mem); (case gm1 => with_unfolding_all k_mem); (case gmd => with_unfolding_all k_mem); (case gd2 => assumption); (case gd3 => assumption); (case gl4 => assumption); (case gx0 => assumption); (case gx1 => assumption); (case gx2 => assumption); (case gx3 => assumption); (case gx4 => assumption); (case ghn => assumption); (case goa => first | assumption | exact oct_f _ | exact oct_e _ | exact oct_x1 (oct_f _) | exact oct_x1 (oct_e _) | exact oct_x16 (oct_f _) | exact oct_x16 (oct_e _)); (case gob => first | assumption | exact oct_f _ | exact oct_e _ | exact oct_x1 (oct_f _) | exact oct_x1 (oct_e _) | exact oct_x16 (oct_f _) | exact oct_x16 (oct_e _)); (case gB => k_asm); (case gX => k_asm); (case gT => k_asm); (case gXB => assumption); (case gTB => assumption); (case ghd => assumption); (case ghu => assumption); (case ghE => passes_own); (intro h9 tk9 m9 nw9 F9 N9; (try dsimp only)))) | (((with_unfolding_all (refine' seg_B _ _ _ _ _ _ _ _ _ _ _ _ ?gx0 ?gx1 ?gx2 ?gx3 ?gx4 _ _ ?ghn _ _ _ _ ?goa ?gob _ _ _ ?gd2 ?gd3 ?gl4 ?gB ?gF ?gX ?gT ?gXB ?gTB (kst_newsOf ?gN (List.forall_mem_cons.mpr ⟨?gm3, List.forall_mem_cons.mpr ⟨?gm2, List.forall_mem_cons.mpr ⟨?gm1, List.forall_mem_cons.mpr ⟨?gmd, List.forall_mem_nil _⟩⟩⟩⟩)) ?ge1 ?ge2 ?ge3 ?ge4 ?ghd ?ghu ?ghE ?_)); (case gF => k_asm); (case ge1 => with_unfolding_all rfl); (case ge2 => with_unfolding_all rfl); (case ge3 => with_unfolding_all rfl); (case ge4 => with_unfolding_all rfl); (case gN => k_asm); (case gm3 => with_unfolding_all k_mem); (case gm2 => with_unfolding_all k_mem); (case gm1 => with_unfolding_all k_mem); (case gmd => with_unfolding_all k_mem); (case gd2 => assumption); (case gd3 => assumption); (case gl4 => assumption); (case gx0 => assumption); (case gx1 => assumption); (case gx2 => assumption); (case gx3 => assumption); (case gx4 => assumption); (case ghn => assumption); (case goa => first | assumption | exact oct_f _ | exact oct_e _ | exact oct_x1 (oct_f _) | exact oct_x1 (oct_e _) | exact oct_x16 (oct_f _) | exact oct_x16 (oct_e _)); (case gob => first | assumption | exact oct_f _ | exact oct_e _ | exact oct_x1 (oct_f _) | exact oct_x1 (oct_e _) | exact oct_x16 (oct_f _) | exact oct_x16 (oct_e _)); (case gB => k_asm); (case gX => k_asm); (case gT => k_asm); (case gXB => assumption); (case gTB => assumption); (case ghd => assumption); (case ghu => assumption); (case ghE => passes_own); (intro h9 tk9 m9 nw9 F9 N9; (try dsimp only)))))
    | ((with_reducible show wpAny _ _ (subscriptTail _ _ (Value.ref _) (Value.int _ _)) _ _ _); first | with_reducible ((refine' pick_name (Ok := Short) ?pN ?pm ?p0 ?p1 ?p2 ?pk ?_ ?ps); (case pN => k_asm); (case pm => with_unfolding_all k_mem); (case p0 => exact short_1); (case p1 => exact short_2); (case p2 => exact short_3); (case pk => first | exact three_f _ | exact three_e _ | omega); (case ps => with_unfolding_all rfl); (intro y9 t9 oy9; (have sy9 := Short.lt oy9); clear oy9; (try dsimp only))) | ((refine' pick_name (Ok := Short) ?pN ?pm ?p0 ?p1 ?p2 ?pk ?_ ?ps); (case pN => k_asm); (case pm => with_unfolding_all k_mem); (case p0 => exact short_1); (case p1 => exact short_2); (case p2 => exact short_3); (case pk => first | exact three_f _ | exact three_e _ | omega); (case ps => with_unfolding_all rfl); (intro y9 t9 oy9; (have sy9 := Short.lt oy9); clear oy9; (try dsimp only))))
    | ((with_reducible show wpAny _ _ (subscriptTail _ _ (Value.ref _) (Value.int _ _)) _ _ _); first | with_reducible ((refine' pick_oct (Ok := Oct) ?pN ?pm ?p0 ?p1 ?p2 ?p3 ?pk ?_ ?ps); (case pN => k_asm); (case pm => with_unfolding_all k_mem); (case p0 => first | assumption | exact oct_f _ | exact oct_e _ | exact oct_x1 (oct_f _) | exact oct_x1 (oct_e _) | exact oct_x16 (oct_f _) | exact oct_x16 (oct_e _)); (case p1 => first | assumption | exact oct_f _ | exact oct_e _ | exact oct_x1 (oct_f _) | exact oct_x1 (oct_e _) | exact oct_x16 (oct_f _) | exact oct_x16 (oct_e _)); (case p2 => first | assumption | exact oct_f _ | exact oct_e _ | exact oct_x1 (oct_f _) | exact oct_x1 (oct_e _) | exact oct_x16 (oct_f _) | exact oct_x16 (oct_e _)); (case p3 => first | assumption | exact oct_f _ | exact oct_e _ | exact oct_x1 (oct_f _) | exact oct_x1 (oct_e _) | exact oct_x16 (oct_f _) | exact oct_x16 (oct_e _)); (case pk => first | exact four_f _ | exact four_e _ | omega); (case ps => with_unfolding_all rfl); (intro y9 t9 oy9; (try dsimp only))) | ((refine' pick_oct (Ok := Oct) ?pN ?pm ?p0 ?p1 ?p2 ?p3 ?pk ?_ ?ps); (case pN => k_asm); (case pm => with_unfolding_all k_mem); (case p0 => first | assumption | exact oct_f _ | exact oct_e _ | exact oct_x1 (oct_f _) | exact oct_x1 (oct_e _) | exact oct_x16 (oct_f _) | exact oct_x16 (oct_e _)); (case p1 => first | assumption | exact oct_f _ | exact oct_e _ | exact oct_x1 (oct_f _) | exact oct_x1 (oct_e _) | exact oct_x16 (oct_f _) | exact oct_x16 (oct_e _)); (case p2 => first | assumption | exact oct_f _ | exact oct_e _ | exact oct_x1 (oct_f _) | exact oct_x1 (oct_e _) | exact oct_x16 (oct_f _) | exact oct_x16 (oct_e _)); (case p3 => first | assumption | exact oct_f _ | exact oct_e _ | exact oct_x1 (oct_f _) | exact oct_x1 (oct_e _) | exact oct_x16 (oct_f _) | exact oct_x16 (oct_e _)); (case pk => first | exact four_f _ | exact four_e _ | omega); (case ps => with_unfolding_all rfl); (intro y9 t9 oy9; (try dsimp only))))
    | ((with_reducible show wpAny _ _ (call (Value.ref 107) _) _ _ _); first | with_reducible ((k_dflt (refine' GivesV.use (xor_gives _ _ _ _ _) ?k1x107 ?k2x107 ?k3x107 ?k4x107 ?k5x107 ?kfx107 ?kKx107 ?kdx107 ?kux107 ?_;  (case k1x107 => k_asm); (case k2x107 => k_asm); (case k3x107 => k_asm); (case k4x107 => k_asm); (case k5x107 => k_asm); (case kfx107 => first | exact rfl | assumption); (case kKx107 => first | exact rfl | assumption); (case kdx107 => ktr_room); (case kux107 => ktr_units); k_whole); intro t9 h9 tk9 F9 N9; (try dsimp only); (try k_fold))) | ((k_dflt (refine' GivesV.use (xor_gives _ _ _ _ _) ?k1x107 ?k2x107 ?k3x107 ?k4x107 ?k5x107 ?kfx107 ?kKx107 ?kdx107 ?kux107 ?_;  (case k1x107 => k_asm); (case k2x107 => k_asm); (case k3x107 => k_asm); (case k4x107 => k_asm); (case k5x107 => k_asm); (case kfx107 => first | exact rfl | assumption); (case kKx107 => first | exact rfl | assumption); (case kdx107 => ktr_room); (case kux107 => ktr_units); k_whole); intro t9 h9 tk9 F9 N9; (try dsimp only); (try k_fold))))
    | (k_unfold; (try dsimp only)) | (k_end; wrow_close) | walk1 | (dsimp only; walk1) | (leave1; try dsimp only) | fail "no step")
  all_goals (try exact hQ _ _ _ _ (by assumption) (by assumption))
  all_goals k_data
end
-- part L7
section
open PySem PySem.W PyProof.Rows
set_option maxRecDepth 100000
set_option maxHeartbeats 8000000
variable {w : World} {p : Program} {loose : List Str} {mean : ExcName → Option Value} {mg mb : Str → Option Value}

theorem five_ints {ys : List Value} {ds : List Int} (h : IntsAre ys ds) (hl : ds.length = 5) : ∃ d0 d1 d2 d3 d4 t0 t1 t2 t3 t4, ys = [.int d0 t0, .int d1 t1, .int d2 t2, .int d3 t3, .int d4 t4] ∧ ds = [d0, d1, d2, d3, d4] := by
  cases h with | nil => simp at hl | cons d0 t0 h =>
  cases h with | nil => simp at hl | cons d1 t1 h =>
  cases h with | nil => simp at hl | cons d2 t2 h =>
  cases h with | nil => simp at hl | cons d3 t3 h =>
  cases h with | nil => simp at hl | cons d4 t4 h =>
  cases h with
  | nil => exact ⟨d0, d1, d2, d3, d4, t0, t1, t2, t3, t4, rfl, rfl⟩
  | cons d5 t5 h => simp at hl
theorem five_bnd {d0 d1 d2 d3 d4 : Int} (h : ∀ d ∈ [d0, d1, d2, d3, d4], 0 ≤ d ∧ d < 1000000) : (0 ≤ d0 ∧ d0 < 1000000) ∧ (0 ≤ d1 ∧ d1 < 1000000) ∧ (0 ≤ d2 ∧ d2 < 1000000) ∧ (0 ≤ d3 ∧ d3 < 1000000) ∧ (0 ≤ d4 ∧ d4 < 1000000) :=
  ⟨h _ (.head _), h _ (.tail _ (.head _)), h _ (.tail _ (.tail _ (.head _))), h _ (.tail _ (.tail _ (.tail _ (.head _)))), h _ (.tail _ (.tail _ (.tail _ (.tail _ (.head _)))))⟩
theorem ints_five {t0 t1 t2 t3 t4 : MTok} {a b c d e : Int} : IntsAre [.int a t0, .int b t1, .int c t2, .int d t3, .int e t4] [a, b, c, d, e] := .cons _ _ (.cons _ _ (.cons _ _ (.cons _ _ (.cons _ _ .nil))))
theorem own_last {h₀ h : Heap} {L I C D : Addr} {oI oC oD : Obj} {own news : List (Addr × Obj)} (N : News h₀ L h ((I, oI) :: (C, oC) :: (D, oD) :: (own ++ news))) : News h₀ L h ((I, oI) :: (C, oC) :: (D, oD) :: (news ++ own)) :=
  kst_newsOf N (by intro p hp; simp only [List.mem_append, List.mem_cons] at hp ⊢; rcases hp with h | h | h | h | h <;> simp [h])
theorem isList_up {h₀ h : Heap} {L l : Addr} {m : Str → Option Value} {vs : Array Value} (hl : h₀.IsList l vs) (F : Fr h₀ L h m) : h.IsList l vs := hl.at fun o e => F.keep _ o e
theorem seg_A {dp un : Nat} {gd : Option (List Code)} {A₀ : Around} {base h₀ h : Heap} {L fa cdv : Addr} {m : Str → Option Value} {tk : Nat} {s : Shared} {PF : Flow → Shared → Prop} {EE : Value → Shared → Prop}
    (ls : Addr) (vs : List Value) (ns : List Int) (hl : h₀.IsList ls vs.toArray) (hi : IntsAre vs ns) (hz : ns.length ≤ 63) (o1 o2 o3 : Obj) (e1 : o1.data = .cell none) (e2 : o2.data = .cell none) (e3 : o3.data = .cell none)
    (B : Below A₀ base [] h₀) (F : Fr h₀ L h m) (X : (K w.params).In h₀) (T : Top p loose mean mg mb h₀) (XB : (K w.params).In base) (TB : Top p loose mean mg mb base) (N : News h₀ L h ((L + 1 + 1 + 1, o3) :: (L + 1 + 1, o2) :: (L + 1, o1) :: []))
    (e_script : m (Str.ofString "script") = some (.ref ls))
    (hd : dp + 40 < recursionLimit) (hu : un + 8 * 40 < cLine) (hE : PassesOwn (model PySem.Challenge.pw_ku0005_01 w) (topA dp un gd (envOfC (Str.ofString "law") (fdS 40) L fa (Value.ref cdv)) []) (envOfC (Str.ofString "law") (fdS 40) L fa (Value.ref cdv)) EE)
    (hQ : ∀ h' tk' m' news', Fr h₀ L h' m' → News h₀ L h' news' → PF (.ret (.bool true)) { s with heap := h', toks := tk' }) :
    wpAny (model PySem.Challenge.pw_ku0005_01 w) (topA dp un gd (envOfC (Str.ofString "law") (fdS 40) L fa (Value.ref cdv)) []) (execs (fdB 40) (envOfC (Str.ofString "law") (fdS 40) L fa (Value.ref cdv))) PF EE { s with heap := h, toks := tk } := by
  replace F := fr_tops [(Str.ofString "script", .ref ls)] F (List.forall_mem_cons.mpr ⟨e_script, List.forall_mem_nil _⟩)
  dsimp only [tops] at F
  clear e_script
  show wpAny _ _ (execs (List.cons _ _) _) _ _ _
  repeat' (first
    | ((with_reducible show wpAny _ _ (PySem.exec _ _) _ _ _); k_fold)
    | ((with_reducible show wpAny _ _ (PySem.execs _ _) _ _ _); k_fold)
    | ((with_reducible show wpAny _ _ (PySem.execs _ _) _ _ _); dsimp only)
    | ((with_reducible show wpAny _ _ (execs (List.cons (PySem.Stmt.Assign _ (PySem.Expr.BinOp (PySem.Expr.Subscript _ _ _) _ _ _) _) _) _) _ _ _); first | with_reducible (((with_unfolding_all (refine' seg_A2 _ _ _ _ _ _ _ _ _ _ _ _ ?gx0 ?gx1 ?gx2 ?gx3 ?gx4 _ _ _ ?gd2 ?gd3 ?gl4 ?gB ?gF ?gX ?gT ?gXB ?gTB (kst_newsOf ?gN (List.forall_mem_cons.mpr ⟨?gm3, List.forall_mem_cons.mpr ⟨?gm2, List.forall_mem_cons.mpr ⟨?gm1, List.forall_mem_cons.mpr ⟨?gmd, List.forall_mem_nil _⟩⟩⟩⟩)) ?ge1 ?ghd ?ghu ?ghE ?_)); (case gF => k_asm); (case ge1 => with_unfolding_all rfl); (case gN => k_asm); (case gm3 => with_unfolding_all k_mem); (case gm2 => with_unfolding_all k_mem); (case gm1 => with_unfolding_all k_mem); (case gmd => with_unfolding_all k_mem); (case gd2 => assumption); (case gd3 => assumption); (case gl4 => (refine ⟨?_, ?_, ?_⟩ <;> (show @Ne Nat _ _; omega))); (case gx0 => assumption); (case gx1 => assumption); (case gx2 => assumption); (case gx3 => assumption); (case gx4 => assumption); (case gB => k_asm); (case gX => k_asm); (case gT => k_asm); (case gXB => assumption); (case gTB => assumption); (case ghd => assumption); (case ghu => assumption); (case ghE => passes_own); (intro h9 tk9 m9 nw9 F9 N9; (try dsimp only)))) | (((with_unfolding_all (refine' seg_A2 _ _ _ _ _ _ _ _ _ _ _ _ ?gx0 ?gx1 ?gx2 ?gx3 ?gx4 _ _ _ ?gd2 ?gd3 ?gl4 ?gB ?gF ?gX ?gT ?gXB ?gTB (kst_newsOf ?gN (List.forall_mem_cons.mpr ⟨?gm3, List.forall_mem_cons.mpr ⟨?gm2, List.forall_mem_cons.mpr ⟨?gm1, List.forall_mem_cons.mpr ⟨?gmd, List.forall_mem_nil _⟩⟩⟩⟩)) ?ge1 ?ghd ?ghu ?ghE ?_)); (case gF => k_asm); (case ge1 => with_unfolding_all rfl); (case gN => k_asm); (case gm3 => with_unfolding_all k_mem); (case gm2 => with_unfolding_all k_mem); (case gm1 => with_unfolding_all k_mem); (case gmd => with_unfolding_all k_mem); (case gd2 => assumption); (case gd3 => assumption); (case gl4 => (refine ⟨?_, ?_, ?_⟩ <;> (show @Ne Nat _ _; omega))); (case gx0 => assumption); (case gx1 => assumption); (case gx2 => assumption); (case gx3 => assumption); (case gx4 => assumption); (case gB => k_asm); (case gX => k_asm); (case gT => k_asm); (case gXB => assumption); (case gTB => assumption); (case ghd => assumption); (case ghu => assumption); (case ghE => passes_own); (intro h9 tk9 m9 nw9 F9 N9; (try dsimp only)))))
    | ((with_reducible show LCg.CompEnd _ _ _ _ _ _ _ _ _ _ _ _ _ _); first | with_reducible ((refine' end_none ?ceF ?ceN ?ces ?ceo ?ceS ⟨_, _, rfl, ?ceb⟩); (case ceS => exact fun _ h => h); (case ceN => k_asm); (case ceF => k_asm); (case ces => kcf_all); (case ceo => first | with_unfolding_all assumption | (with_unfolding_all exact And.right (by assumption))); (case ceb => first | exact mil_f _ | exact mil_e _ | omega)) | ((refine' end_none ?ceF ?ceN ?ces ?ceo ?ceS ⟨_, _, rfl, ?ceb⟩); (case ceS => exact fun _ h => h); (case ceN => k_asm); (case ceF => k_asm); (case ces => kcf_all); (case ceo => first | with_unfolding_all assumption | (with_unfolding_all exact And.right (by assumption))); (case ceb => first | exact mil_f _ | exact mil_e _ | omega)))
    | ((with_reducible show wpAny _ _ (PySem.call (Value.type "enumerate") _) _ _ _); first | with_reducible (((refine' enum_draws (xs := [_, _, _, _, _]) ?eh ?eF ?eN ?em ?ei ?ez ?_ ?_); (case eh => with_unfolding_all rfl); (case eF => k_asm); (case eN => k_asm); (case em => with_unfolding_all k_mem); (case ei => exact ints_five); (case ez => exact Nat.le_of_ble_eq_true rfl); (intro g9 ys9 ds9 iy9 ly9 by9; obtain ⟨d0, d1, d2, d3, d4, t0, t1, t2, t3, t4, q1, q2⟩ := five_ints iy9 (ly9.trans rfl); subst q1; subst q2; (replace by9 := five_bnd by9); (obtain ⟨b0, b1, b2, b3, b4⟩ := by9); (try dsimp only); (try (intro D9 h9 tk9 F9 N9 o9; (try simp only [LCg.Off1, and_true] at o9); (try dsimp only)))); rotate_left; (intro i9 z9 t9 u9 I9 oI9 C9 oC9 D9 m9 ys9 own9 h9 tk9 E9 hi9 hC9 hx9 hy9 F9 N9 off9 ne9; (replace N9 := own_last N9); (try simp only [List.cons_append, List.nil_append] at N9); (try dsimp only)); rotate_left)) | (((refine' enum_draws (xs := [_, _, _, _, _]) ?eh ?eF ?eN ?em ?ei ?ez ?_ ?_); (case eh => with_unfolding_all rfl); (case eF => k_asm); (case eN => k_asm); (case em => with_unfolding_all k_mem); (case ei => exact ints_five); (case ez => exact Nat.le_of_ble_eq_true rfl); (intro g9 ys9 ds9 iy9 ly9 by9; obtain ⟨d0, d1, d2, d3, d4, t0, t1, t2, t3, t4, q1, q2⟩ := five_ints iy9 (ly9.trans rfl); subst q1; subst q2; (replace by9 := five_bnd by9); (obtain ⟨b0, b1, b2, b3, b4⟩ := by9); (try dsimp only); (try (intro D9 h9 tk9 F9 N9 o9; (try simp only [LCg.Off1, and_true] at o9); (try dsimp only)))); rotate_left; (intro i9 z9 t9 u9 I9 oI9 C9 oC9 D9 m9 ys9 own9 h9 tk9 E9 hi9 hC9 hx9 hy9 F9 N9 off9 ne9; (replace N9 := own_last N9); (try simp only [List.cons_append, List.nil_append] at N9); (try dsimp only)); rotate_left)))
    | ((with_reducible show wpAny _ _ (exec (PySem.Stmt.Assign _ (PySem.Expr.ListComp _ (List.cons (PySem.Comprehension.mk (PySem.Expr.Tuple _ _ _) _ _ _) List.nil) _ _) _) _) _ _ _); first | with_reducible (((refine' Assign_ListComp_En ?aF ?aL ?asw ?ahy ?ahp ?acl ?ace ?aki ?ana ?ax1 ?ax2 ?axx ?_ ?as0); (case aF => k_asm); (case aL => with_unfolding_all rfl); (case asw => with_unfolding_all rfl); (case ahy => with_unfolding_all rfl); (case ahp => with_unfolding_all rfl); (case acl => with_unfolding_all rfl); (case ace => decide +kernel); (case aki => with_unfolding_all rfl); (case ana => decide +kernel); (case ax1 => with_unfolding_all rfl); (case ax2 => with_unfolding_all rfl); (case axx => decide +kernel); (case as0 => (intro _; with_unfolding_all rfl)))) | (((refine' Assign_ListComp_En ?aF ?aL ?asw ?ahy ?ahp ?acl ?ace ?aki ?ana ?ax1 ?ax2 ?axx ?_ ?as0); (case aF => k_asm); (case aL => with_unfolding_all rfl); (case asw => with_unfolding_all rfl); (case ahy => with_unfolding_all rfl); (case ahp => with_unfolding_all rfl); (case acl => with_unfolding_all rfl); (case ace => decide +kernel); (case aki => with_unfolding_all rfl); (case ana => decide +kernel); (case ax1 => with_unfolding_all rfl); (case ax2 => with_unfolding_all rfl); (case axx => decide +kernel); (case as0 => (intro _; with_unfolding_all rfl)))))
    | ((with_reducible show wpAny _ _ (subscriptTail _ (PySem.Expr.Slice (some _) none (some _) _) (Value.ref _) (Value.ref _)) _ _ _); first | with_reducible (((refine' slice_any3 ?slF ?slN ?sll ?sli ?slz ?slp ?slq ?slk ?sl0 ?_ ?sls ?slt); (case slF => k_asm); (case slN => k_asm); (case sll => exact News.isList (by k_asm) (by with_unfolding_all k_mem)); (case sli => assumption); (case slz => omega); (case slp => kmk_part); (case slq => kmk_part); (case slk => kmk_part); (case sl0 => decide); (case sls => with_unfolding_all rfl); (case slt => kmk_pure)); intro D9 h9 ws9 ms9 F9 N9 l9 i9 z9; (try k_lt l9); (try dsimp only)) | (((refine' slice_any3 ?slF ?slN ?sll ?sli ?slz ?slp ?slq ?slk ?sl0 ?_ ?sls ?slt); (case slF => k_asm); (case slN => k_asm); (case sll => exact News.isList (by k_asm) (by with_unfolding_all k_mem)); (case sli => assumption); (case slz => omega); (case slp => kmk_part); (case slq => kmk_part); (case slk => kmk_part); (case sl0 => decide); (case sls => with_unfolding_all rfl); (case slt => kmk_pure)); intro D9 h9 ws9 ms9 F9 N9 l9 i9 z9; (try k_lt l9); (try dsimp only)))
    | ((with_reducible show wpAny _ _ (subscriptTail _ (PySem.Expr.Slice none (some _) none _) (Value.ref _) (Value.ref _)) _ _ _); first | with_reducible (((refine' slice_any2 ?slF ?slN ?sll ?sli ?slz ?slp ?slq ?_ ?sls ?slt); (case slF => k_asm); (case slN => k_asm); (case sll => exact isList_up (by assumption) (by k_asm)); (case sli => assumption); (case slz => omega); (case slp => kmk_part); (case slq => kmk_part); (case sls => with_unfolding_all rfl); (case slt => kmk_pure)); intro D9 h9 ws9 ms9 F9 N9 l9 i9 z9; (try k_lt l9); (try dsimp only)) | (((refine' slice_any2 ?slF ?slN ?sll ?sli ?slz ?slp ?slq ?_ ?sls ?slt); (case slF => k_asm); (case slN => k_asm); (case sll => exact isList_up (by assumption) (by k_asm)); (case sli => assumption); (case slz => omega); (case slp => kmk_part); (case slq => kmk_part); (case sls => with_unfolding_all rfl); (case slt => kmk_pure)); intro D9 h9 ws9 ms9 F9 N9 l9 i9 z9; (try k_lt l9); (try dsimp only)))
    | (k_unfold; (try dsimp only)) | (k_end; wrow_close) | walk1 | (dsimp only; walk1) | (leave1; try dsimp only) | fail "no step")
  all_goals (try exact hQ _ _ _ _ (by assumption) (by assumption))
  all_goals k_data
end
-- part L8
section
open PySem PySem.W PyProof.Rows
set_option maxRecDepth 100000
set_option maxHeartbeats 8000000
theorem to_seg {M : Model} {Ac : Around} {n : Str} {b : List Stmt} {sc : Scope} {L a : Addr} {cd : Value} {Q : Flow → Shared → Prop} {Qa : Value → Unit → Shared → Prop} {Qb : Value → Value → Shared → Prop} {s : Shared} (e1 : n = Str.ofString "law") (e2 : b = fdB 40) (e3 : sc = fdS 40)
    (h : wpAny M (Ac.deeper (envOfC (Str.ofString "law") (fdS 40) L a cd)) (execs (fdB 40) (envOfC (Str.ofString "law") (fdS 40) L a cd)) Q (fun x s' => wpAny M (Ac.deeper (envOfC (Str.ofString "law") (fdS 40) L a cd)) (leaving (envOfC (Str.ofString "law") (fdS 40) L a cd) x) (Qa x) (Qb x) s') s) :
    wpAny M (Ac.deeper (envOfC n sc L a cd)) (execs b (envOfC n sc L a cd)) Q (fun x s' => wpAny M (Ac.deeper (envOfC n sc L a cd)) (leaving (envOfC n sc L a cd) x) (Qa x) (Qb x) s') s := by
  subst e1; subst e2; subst e3; exact h
theorem law_holds : PySem.Challenge.rw_ku0005_01.Holds := by
  w_on
  refine holds_law (by decide +kernel) fun said => ?_
  refine holds_open (q := qv) (loose := lv) (Xt := xt) (XP := XL qv []) (Yf := (kHook K kAddrs kAddrs_eq).obs) (Ya := (kHook K kAddrs kAddrs_eq).val) (YP := (kHook K kAddrs kAddrs_eq).says) (N := 40000) left (kHook K kAddrs kAddrs_eq).of (kHook K kAddrs kAddrs_eq).keeps (fun s e => xl_of s (Bool.and_eq_true_iff.mp e).1) XL.keeps (by rfl) (by rfl) (by rfl) (fun s e => recFacts_of (Bool.and_eq_true_iff.mp e).2) (by rfl) (by first | assumption | decide +kernel) (by decide +kernel) ⟨rfl, rfl, rfl, rfl, rfl, by decide +kernel⟩ ?hw ?hc
  case hw => w_witness2
  k_fill
  intro w s₀ s₁ mg mb G Y fa o pm cd doc dV kV ho hd hcd hD hmg hg args vals as hpre hlay hrd hwl hlo
  have KX := kIn_of Y
  have X := (Ground.X G).1
  have V := (Ground.X G).2
  have GL := glob_more (Ground.glob G (by decide +kernel) (by decide +kernel)) V
  refine Ground.open G ?_
  intro T B D TE TW
  try (refine guard_noD D (by decide +kernel) ?_; clear D)
  obtain ⟨_, _, M⟩ := bmod_of_top T
  have TA := at_of_top T
  try (obtain ⟨_, _, he, B0⟩ := based_of_top T rfl hmg ho hd; have he' : cd = _ := he; subst he'; clear he)
  clear hmg
  wrow_args hpre hlay hrd hwl hlo
  first | refine callC_kw (enter_call ?_) | refine enter_call ?_ | refine callC_kw (enter_callW ?_) | refine enter_callW ?_
  w_top on
  try refine codeAny_mono ?_ (fun _ _ g => GoodW.toG g)
  have K0 := below_caller (Top.heap T)
  w_call any ho hd hcd hD T F
  clear hd TA
  k_drop
  refine to_seg ?e1 ?e2 ?e3 ?_
  case e1 => kernel_rfl
  case e2 => kernel_rfl
  case e3 => kernel_rfl
  refine' seg_A _ _ _ ?hl ?hi ?hz _ _ _ ?d1 ?d2 ?d3 ?B ?F ?X ?T ?XB ?TB ?N ?es ?hd ?hu ?hE ?hQ
  case N => (assumption)
  case F => (assumption)
  case T => (assumption)
  case X => (assumption)
  case B => ((with_unfolding_all assumption))
  case XB => ((with_unfolding_all assumption))
  case TB => ((with_unfolding_all assumption))
  case hl => (assumption)
  case hi => (assumption)
  case es => (kernel_rfl)
  case hz => (omega)
  case d1 => ((refine cell_eq (by assumption) ?_; kernel_rfl))
  case d2 => ((refine cell_eq (by assumption) ?_; kernel_rfl))
  case d3 => ((refine cell_eq (by assumption) ?_; kernel_rfl))
  case hd => ((first | decide | ktr_room))
  case hu => ((first | decide | ktr_units))
  case hE => (passes_own)
  intro h9 tk9 m9 nw9 F9 N9
  dsimp only
  first | (k_end; wrow_close) | (walk1)
end
end
end Mine
theorem PySem.Challenge.cw_ku0005_01_holds : PySem.Challenge.rw_ku0005_01.Holds := by
  exact Mine.law_holds
