import PyProof.Rows.All
import Wide.All
import OpenK.AllK
import Wide.FinOn
import PySem.Challenge.RW_wy0003_01
set_option Elab.async false

section PartHd1
open PySem PySem.W PyProof.Rows
namespace Mine.Hd
noncomputable section
set_option maxRecDepth 100000
def pw : Program := PySem.Challenge.pw_wy0003_01
def t (l : List Nat) (k : Nat) : Value := .str ⟨⟨l⟩⟩ k
def e (P : Params) (x : String) (k : Nat) (v : Value) : DictEntry := ⟨PyData.keyHash P (Str.ofString x), .str (Str.ofString x) k, v⟩
-- the value that the start-up gave to the name of the loader (object 3, entry 3)
noncomputable def ldr (P : Params) : Value := match (boot_o_3 P).data with | .dict es _ => (match es.toList.drop 3 with | d :: _ => d.val | [] => .none) | _ => .none
def fnA (i : Nat) : Arguments := match pw.main.body[i]? with | some (.FunctionDef _ a _ _ _ _ _ _ _ _) => a | _ => default
def fnB (i : Nat) : List Stmt := match pw.main.body[i]? with | some (.FunctionDef _ _ b _ _ _ _ _ _ _) => b | _ => []
def fnS (i : Nat) : Scope := match pw.main.body[i]? with | some (.FunctionDef _ _ _ _ _ _ s _ _ _) => s | _ => default
noncomputable def tab17 : List Value := [t [61, 48, 48] 197, t [61, 48, 49] 201, t [61, 48, 50] 205, t [61, 48, 51] 209, t [61, 48, 52] 213, t [61, 48, 53] 217, t [61, 48, 54] 221, t [61, 48, 55] 225, t [61, 48, 56] 229, t [61, 48, 57] 233, t [61, 48, 65] 237, t [61, 48, 66] 241, t [61, 48, 67] 245, t [61, 48, 68] 249, t [61, 48, 69] 253, t [61, 48, 70] 257, t [61, 49, 48] 261, t [61, 49, 49] 265, t [61, 49, 50] 269, t [61, 49, 51] 273, t [61, 49, 52] 277, t [61, 49, 53] 281, t [61, 49, 54] 285, t [61, 49, 55] 289, t [61, 49, 56] 293, t [61, 49, 57] 297, t [61, 49, 65] 301, t [61, 49, 66] 305, t [61, 49, 67] 309, t [61, 49, 68] 313, t [61, 49, 69] 317, t [61, 49, 70] 321, t [61, 50, 48] 325, t [61, 50, 49] 329, t [61, 50, 50] 333, t [61, 50, 51] 337, t [61, 50, 52] 341, t [61, 50, 53] 345, t [61, 50, 54] 349, t [61, 50, 55] 353, t [61, 50, 56] 357, t [61, 50, 57] 361, t [61, 50, 65] 365, t [61, 50, 66] 369, t [61, 50, 67] 373, t [61, 50, 68] 377, t [61, 50, 69] 381, t [61, 50, 70] 385, t [61, 51, 48] 389, t [61, 51, 49] 393, t [61, 51, 50] 397, t [61, 51, 51] 401, t [61, 51, 52] 405, t [61, 51, 53] 409, t [61, 51, 54] 413, t [61, 51, 55] 417, t [61, 51, 56] 421, t [61, 51, 57] 425, t [61, 51, 65] 429, t [61, 51, 66] 433, t [61, 51, 67] 437, t [61, 51, 68] 441, t [61, 51, 69] 445, t [61, 51, 70] 449, t [61, 52, 48] 453, t [61, 52, 49] 457, t [61, 52, 50] 461, t [61, 52, 51] 465, t [61, 52, 52] 469, t [61, 52, 53] 473, t [61, 52, 54] 477, t [61, 52, 55] 481, t [61, 52, 56] 485, t [61, 52, 57] 489, t [61, 52, 65] 493, t [61, 52, 66] 497, t [61, 52, 67] 501, t [61, 52, 68] 505, t [61, 52, 69] 509, t [61, 52, 70] 513, t [61, 53, 48] 517, t [61, 53, 49] 521, t [61, 53, 50] 525, t [61, 53, 51] 529, t [61, 53, 52] 533, t [61, 53, 53] 537, t [61, 53, 54] 541, t [61, 53, 55] 545, t [61, 53, 56] 549, t [61, 53, 57] 553, t [61, 53, 65] 557, t [61, 53, 66] 561, t [61, 53, 67] 565, t [61, 53, 68] 569, t [61, 53, 69] 573, t [61, 53, 70] 577, t [61, 54, 48] 581, t [61, 54, 49] 585, t [61, 54, 50] 589, t [61, 54, 51] 593, t [61, 54, 52] 597, t [61, 54, 53] 601, t [61, 54, 54] 605, t [61, 54, 55] 609, t [61, 54, 56] 613, t [61, 54, 57] 617, t [61, 54, 65] 621, t [61, 54, 66] 625, t [61, 54, 67] 629, t [61, 54, 68] 633, t [61, 54, 69] 637, t [61, 54, 70] 641, t [61, 55, 48] 645, t [61, 55, 49] 649, t [61, 55, 50] 653, t [61, 55, 51] 657, t [61, 55, 52] 661, t [61, 55, 53] 665, t [61, 55, 54] 669, t [61, 55, 55] 673, t [61, 55, 56] 677, t [61, 55, 57] 681, t [61, 55, 65] 685, t [61, 55, 66] 689, t [61, 55, 67] 693, t [61, 55, 68] 697, t [61, 55, 69] 701, t [61, 55, 70] 705, t [61, 56, 48] 709, t [61, 56, 49] 713, t [61, 56, 50] 717, t [61, 56, 51] 721, t [61, 56, 52] 725, t [61, 56, 53] 729, t [61, 56, 54] 733, t [61, 56, 55] 737, t [61, 56, 56] 741, t [61, 56, 57] 745, t [61, 56, 65] 749, t [61, 56, 66] 753, t [61, 56, 67] 757, t [61, 56, 68] 761, t [61, 56, 69] 765, t [61, 56, 70] 769, t [61, 57, 48] 773, t [61, 57, 49] 777, t [61, 57, 50] 781, t [61, 57, 51] 785, t [61, 57, 52] 789, t [61, 57, 53] 793, t [61, 57, 54] 797, t [61, 57, 55] 801, t [61, 57, 56] 805, t [61, 57, 57] 809, t [61, 57, 65] 813, t [61, 57, 66] 817, t [61, 57, 67] 821, t [61, 57, 68] 825, t [61, 57, 69] 829, t [61, 57, 70] 833, t [61, 65, 48] 837, t [61, 65, 49] 841, t [61, 65, 50] 845, t [61, 65, 51] 849, t [61, 65, 52] 853, t [61, 65, 53] 857, t [61, 65, 54] 861, t [61, 65, 55] 865, t [61, 65, 56] 869, t [61, 65, 57] 873, t [61, 65, 65] 877, t [61, 65, 66] 881, t [61, 65, 67] 885, t [61, 65, 68] 889, t [61, 65, 69] 893, t [61, 65, 70] 897, t [61, 66, 48] 901, t [61, 66, 49] 905, t [61, 66, 50] 909, t [61, 66, 51] 913, t [61, 66, 52] 917, t [61, 66, 53] 921, t [61, 66, 54] 925, t [61, 66, 55] 929, t [61, 66, 56] 933, t [61, 66, 57] 937, t [61, 66, 65] 941, t [61, 66, 66] 945, t [61, 66, 67] 949, t [61, 66, 68] 953, t [61, 66, 69] 957, t [61, 66, 70] 961, t [61, 67, 48] 965, t [61, 67, 49] 969, t [61, 67, 50] 973, t [61, 67, 51] 977, t [61, 67, 52] 981, t [61, 67, 53] 985, t [61, 67, 54] 989, t [61, 67, 55] 993, t [61, 67, 56] 997, t [61, 67, 57] 1001, t [61, 67, 65] 1005, t [61, 67, 66] 1009, t [61, 67, 67] 1013, t [61, 67, 68] 1017, t [61, 67, 69] 1021, t [61, 67, 70] 1025, t [61, 68, 48] 1029, t [61, 68, 49] 1033, t [61, 68, 50] 1037, t [61, 68, 51] 1041, t [61, 68, 52] 1045, t [61, 68, 53] 1049, t [61, 68, 54] 1053, t [61, 68, 55] 1057, t [61, 68, 56] 1061, t [61, 68, 57] 1065, t [61, 68, 65] 1069, t [61, 68, 66] 1073, t [61, 68, 67] 1077, t [61, 68, 68] 1081, t [61, 68, 69] 1085, t [61, 68, 70] 1089, t [61, 69, 48] 1093, t [61, 69, 49] 1097, t [61, 69, 50] 1101, t [61, 69, 51] 1105, t [61, 69, 52] 1109, t [61, 69, 53] 1113, t [61, 69, 54] 1117, t [61, 69, 55] 1121, t [61, 69, 56] 1125, t [61, 69, 57] 1129, t [61, 69, 65] 1133, t [61, 69, 66] 1137, t [61, 69, 67] 1141, t [61, 69, 68] 1145, t [61, 69, 69] 1149, t [61, 69, 70] 1153, t [61, 70, 48] 1157, t [61, 70, 49] 1161, t [61, 70, 50] 1165, t [61, 70, 51] 1169, t [61, 70, 52] 1173, t [61, 70, 53] 1177, t [61, 70, 54] 1181, t [61, 70, 55] 1185, t [61, 70, 56] 1189, t [61, 70, 57] 1193, t [61, 70, 65] 1197, t [61, 70, 66] 1201, t [61, 70, 67] 1205, t [61, 70, 68] 1209, t [61, 70, 69] 1213, t [61, 70, 70] 1217]
noncomputable def tab22 : List Value := [t [61, 48, 48] 197, t [61, 48, 49] 201, t [61, 48, 50] 205, t [61, 48, 51] 209, t [61, 48, 52] 213, t [61, 48, 53] 217, t [61, 48, 54] 221, t [61, 48, 55] 225, t [61, 48, 56] 229, t [61, 48, 57] 233, t [61, 48, 65] 237, t [61, 48, 66] 241, t [61, 48, 67] 245, t [61, 48, 68] 249, t [61, 48, 69] 253, t [61, 48, 70] 257, t [61, 49, 48] 261, t [61, 49, 49] 265, t [61, 49, 50] 269, t [61, 49, 51] 273, t [61, 49, 52] 277, t [61, 49, 53] 281, t [61, 49, 54] 285, t [61, 49, 55] 289, t [61, 49, 56] 293, t [61, 49, 57] 297, t [61, 49, 65] 301, t [61, 49, 66] 305, t [61, 49, 67] 309, t [61, 49, 68] 313, t [61, 49, 69] 317, t [61, 49, 70] 321, t [95] 1444, t [33] 1248, t [61, 50, 50] 333, t [61, 50, 51] 337, t [61, 50, 52] 341, t [61, 50, 53] 345, t [61, 50, 54] 349, t [61, 50, 55] 353, t [61, 50, 56] 357, t [61, 50, 57] 361, t [42] 1251, t [43] 1254, t [61, 50, 67] 373, t [45] 1245, t [61, 50, 69] 381, t [47] 1257, t [48] 1416, t [49] 1419, t [50] 1422, t [51] 1425, t [52] 1428, t [53] 1431, t [54] 1434, t [55] 1437, t [56] 1440, t [57] 1443, t [61, 51, 65] 429, t [61, 51, 66] 433, t [61, 51, 67] 437, t [61, 51, 68] 441, t [61, 51, 69] 445, t [61, 51, 70] 449, t [61, 52, 48] 453, t [65] 1338, t [66] 1341, t [67] 1344, t [68] 1347, t [69] 1350, t [70] 1353, t [71] 1356, t [72] 1359, t [73] 1362, t [74] 1365, t [75] 1368, t [76] 1371, t [77] 1374, t [78] 1377, t [79] 1380, t [80] 1383, t [81] 1386, t [82] 1389, t [83] 1392, t [84] 1395, t [85] 1398, t [86] 1401, t [87] 1404, t [88] 1407, t [89] 1410, t [90] 1413, t [61, 53, 66] 561, t [61, 53, 67] 565, t [61, 53, 68] 569, t [61, 53, 69] 573, t [61, 53, 70] 577, t [61, 54, 48] 581, t [97] 1260, t [98] 1263, t [99] 1266, t [100] 1269, t [101] 1272, t [102] 1275, t [103] 1278, t [104] 1281, t [105] 1284, t [106] 1287, t [107] 1290, t [108] 1293, t [109] 1296, t [110] 1299, t [111] 1302, t [112] 1305, t [113] 1308, t [114] 1311, t [115] 1314, t [116] 1317, t [117] 1320, t [118] 1323, t [119] 1326, t [120] 1329, t [121] 1332, t [122] 1335, t [61, 55, 66] 689, t [61, 55, 67] 693, t [61, 55, 68] 697, t [61, 55, 69] 701, t [61, 55, 70] 705, t [61, 56, 48] 709, t [61, 56, 49] 713, t [61, 56, 50] 717, t [61, 56, 51] 721, t [61, 56, 52] 725, t [61, 56, 53] 729, t [61, 56, 54] 733, t [61, 56, 55] 737, t [61, 56, 56] 741, t [61, 56, 57] 745, t [61, 56, 65] 749, t [61, 56, 66] 753, t [61, 56, 67] 757, t [61, 56, 68] 761, t [61, 56, 69] 765, t [61, 56, 70] 769, t [61, 57, 48] 773, t [61, 57, 49] 777, t [61, 57, 50] 781, t [61, 57, 51] 785, t [61, 57, 52] 789, t [61, 57, 53] 793, t [61, 57, 54] 797, t [61, 57, 55] 801, t [61, 57, 56] 805, t [61, 57, 57] 809, t [61, 57, 65] 813, t [61, 57, 66] 817, t [61, 57, 67] 821, t [61, 57, 68] 825, t [61, 57, 69] 829, t [61, 57, 70] 833, t [61, 65, 48] 837, t [61, 65, 49] 841, t [61, 65, 50] 845, t [61, 65, 51] 849, t [61, 65, 52] 853, t [61, 65, 53] 857, t [61, 65, 54] 861, t [61, 65, 55] 865, t [61, 65, 56] 869, t [61, 65, 57] 873, t [61, 65, 65] 877, t [61, 65, 66] 881, t [61, 65, 67] 885, t [61, 65, 68] 889, t [61, 65, 69] 893, t [61, 65, 70] 897, t [61, 66, 48] 901, t [61, 66, 49] 905, t [61, 66, 50] 909, t [61, 66, 51] 913, t [61, 66, 52] 917, t [61, 66, 53] 921, t [61, 66, 54] 925, t [61, 66, 55] 929, t [61, 66, 56] 933, t [61, 66, 57] 937, t [61, 66, 65] 941, t [61, 66, 66] 945, t [61, 66, 67] 949, t [61, 66, 68] 953, t [61, 66, 69] 957, t [61, 66, 70] 961, t [61, 67, 48] 965, t [61, 67, 49] 969, t [61, 67, 50] 973, t [61, 67, 51] 977, t [61, 67, 52] 981, t [61, 67, 53] 985, t [61, 67, 54] 989, t [61, 67, 55] 993, t [61, 67, 56] 997, t [61, 67, 57] 1001, t [61, 67, 65] 1005, t [61, 67, 66] 1009, t [61, 67, 67] 1013, t [61, 67, 68] 1017, t [61, 67, 69] 1021, t [61, 67, 70] 1025, t [61, 68, 48] 1029, t [61, 68, 49] 1033, t [61, 68, 50] 1037, t [61, 68, 51] 1041, t [61, 68, 52] 1045, t [61, 68, 53] 1049, t [61, 68, 54] 1053, t [61, 68, 55] 1057, t [61, 68, 56] 1061, t [61, 68, 57] 1065, t [61, 68, 65] 1069, t [61, 68, 66] 1073, t [61, 68, 67] 1077, t [61, 68, 68] 1081, t [61, 68, 69] 1085, t [61, 68, 70] 1089, t [61, 69, 48] 1093, t [61, 69, 49] 1097, t [61, 69, 50] 1101, t [61, 69, 51] 1105, t [61, 69, 52] 1109, t [61, 69, 53] 1113, t [61, 69, 54] 1117, t [61, 69, 55] 1121, t [61, 69, 56] 1125, t [61, 69, 57] 1129, t [61, 69, 65] 1133, t [61, 69, 66] 1137, t [61, 69, 67] 1141, t [61, 69, 68] 1145, t [61, 69, 69] 1149, t [61, 69, 70] 1153, t [61, 70, 48] 1157, t [61, 70, 49] 1161, t [61, 70, 50] 1165, t [61, 70, 51] 1169, t [61, 70, 52] 1173, t [61, 70, 53] 1177, t [61, 70, 54] 1181, t [61, 70, 55] 1185, t [61, 70, 56] 1189, t [61, 70, 57] 1193, t [61, 70, 65] 1197, t [61, 70, 66] 1201, t [61, 70, 67] 1205, t [61, 70, 68] 1209, t [61, 70, 69] 1213, t [61, 70, 70] 1217]
noncomputable def tab24 : List Value := [t [61, 48, 48] 197, t [61, 48, 49] 201, t [61, 48, 50] 205, t [61, 48, 51] 209, t [61, 48, 52] 213, t [61, 48, 53] 217, t [61, 48, 54] 221, t [61, 48, 55] 225, t [61, 48, 56] 229, t [9] 1732, t [61, 48, 65] 237, t [61, 48, 66] 241, t [61, 48, 67] 245, t [61, 48, 68] 249, t [61, 48, 69] 253, t [61, 48, 70] 257, t [61, 49, 48] 261, t [61, 49, 49] 265, t [61, 49, 50] 269, t [61, 49, 51] 273, t [61, 49, 52] 277, t [61, 49, 53] 281, t [61, 49, 54] 285, t [61, 49, 55] 289, t [61, 49, 56] 293, t [61, 49, 57] 297, t [61, 49, 65] 301, t [61, 49, 66] 305, t [61, 49, 67] 309, t [61, 49, 68] 313, t [61, 49, 69] 317, t [61, 49, 70] 321, t [32] 1450, t [33] 1453, t [34] 1456, t [35] 1459, t [36] 1462, t [37] 1465, t [38] 1468, t [39] 1471, t [40] 1474, t [41] 1477, t [42] 1480, t [43] 1483, t [44] 1486, t [45] 1489, t [46] 1492, t [47] 1495, t [48] 1498, t [49] 1501, t [50] 1504, t [51] 1507, t [52] 1510, t [53] 1513, t [54] 1516, t [55] 1519, t [56] 1522, t [57] 1525, t [58] 1528, t [59] 1531, t [60] 1534, t [61, 51, 68] 441, t [62] 1537, t [63] 1540, t [64] 1543, t [65] 1546, t [66] 1549, t [67] 1552, t [68] 1555, t [69] 1558, t [70] 1561, t [71] 1564, t [72] 1567, t [73] 1570, t [74] 1573, t [75] 1576, t [76] 1579, t [77] 1582, t [78] 1585, t [79] 1588, t [80] 1591, t [81] 1594, t [82] 1597, t [83] 1600, t [84] 1603, t [85] 1606, t [86] 1609, t [87] 1612, t [88] 1615, t [89] 1618, t [90] 1621, t [91] 1624, t [92] 1627, t [93] 1630, t [94] 1633, t [95] 1636, t [96] 1639, t [97] 1642, t [98] 1645, t [99] 1648, t [100] 1651, t [101] 1654, t [102] 1657, t [103] 1660, t [104] 1663, t [105] 1666, t [106] 1669, t [107] 1672, t [108] 1675, t [109] 1678, t [110] 1681, t [111] 1684, t [112] 1687, t [113] 1690, t [114] 1693, t [115] 1696, t [116] 1699, t [117] 1702, t [118] 1705, t [119] 1708, t [120] 1711, t [121] 1714, t [122] 1717, t [123] 1720, t [124] 1723, t [125] 1726, t [126] 1729, t [61, 55, 70] 705, t [61, 56, 48] 709, t [61, 56, 49] 713, t [61, 56, 50] 717, t [61, 56, 51] 721, t [61, 56, 52] 725, t [61, 56, 53] 729, t [61, 56, 54] 733, t [61, 56, 55] 737, t [61, 56, 56] 741, t [61, 56, 57] 745, t [61, 56, 65] 749, t [61, 56, 66] 753, t [61, 56, 67] 757, t [61, 56, 68] 761, t [61, 56, 69] 765, t [61, 56, 70] 769, t [61, 57, 48] 773, t [61, 57, 49] 777, t [61, 57, 50] 781, t [61, 57, 51] 785, t [61, 57, 52] 789, t [61, 57, 53] 793, t [61, 57, 54] 797, t [61, 57, 55] 801, t [61, 57, 56] 805, t [61, 57, 57] 809, t [61, 57, 65] 813, t [61, 57, 66] 817, t [61, 57, 67] 821, t [61, 57, 68] 825, t [61, 57, 69] 829, t [61, 57, 70] 833, t [61, 65, 48] 837, t [61, 65, 49] 841, t [61, 65, 50] 845, t [61, 65, 51] 849, t [61, 65, 52] 853, t [61, 65, 53] 857, t [61, 65, 54] 861, t [61, 65, 55] 865, t [61, 65, 56] 869, t [61, 65, 57] 873, t [61, 65, 65] 877, t [61, 65, 66] 881, t [61, 65, 67] 885, t [61, 65, 68] 889, t [61, 65, 69] 893, t [61, 65, 70] 897, t [61, 66, 48] 901, t [61, 66, 49] 905, t [61, 66, 50] 909, t [61, 66, 51] 913, t [61, 66, 52] 917, t [61, 66, 53] 921, t [61, 66, 54] 925, t [61, 66, 55] 929, t [61, 66, 56] 933, t [61, 66, 57] 937, t [61, 66, 65] 941, t [61, 66, 66] 945, t [61, 66, 67] 949, t [61, 66, 68] 953, t [61, 66, 69] 957, t [61, 66, 70] 961, t [61, 67, 48] 965, t [61, 67, 49] 969, t [61, 67, 50] 973, t [61, 67, 51] 977, t [61, 67, 52] 981, t [61, 67, 53] 985, t [61, 67, 54] 989, t [61, 67, 55] 993, t [61, 67, 56] 997, t [61, 67, 57] 1001, t [61, 67, 65] 1005, t [61, 67, 66] 1009, t [61, 67, 67] 1013, t [61, 67, 68] 1017, t [61, 67, 69] 1021, t [61, 67, 70] 1025, t [61, 68, 48] 1029, t [61, 68, 49] 1033, t [61, 68, 50] 1037, t [61, 68, 51] 1041, t [61, 68, 52] 1045, t [61, 68, 53] 1049, t [61, 68, 54] 1053, t [61, 68, 55] 1057, t [61, 68, 56] 1061, t [61, 68, 57] 1065, t [61, 68, 65] 1069, t [61, 68, 66] 1073, t [61, 68, 67] 1077, t [61, 68, 68] 1081, t [61, 68, 69] 1085, t [61, 68, 70] 1089, t [61, 69, 48] 1093, t [61, 69, 49] 1097, t [61, 69, 50] 1101, t [61, 69, 51] 1105, t [61, 69, 52] 1109, t [61, 69, 53] 1113, t [61, 69, 54] 1117, t [61, 69, 55] 1121, t [61, 69, 56] 1125, t [61, 69, 57] 1129, t [61, 69, 65] 1133, t [61, 69, 66] 1137, t [61, 69, 67] 1141, t [61, 69, 68] 1145, t [61, 69, 69] 1149, t [61, 69, 70] 1153, t [61, 70, 48] 1157, t [61, 70, 49] 1161, t [61, 70, 50] 1165, t [61, 70, 51] 1169, t [61, 70, 52] 1173, t [61, 70, 53] 1177, t [61, 70, 54] 1181, t [61, 70, 55] 1185, t [61, 70, 56] 1189, t [61, 70, 57] 1193, t [61, 70, 65] 1197, t [61, 70, 66] 1201, t [61, 70, 67] 1205, t [61, 70, 68] 1209, t [61, 70, 69] 1213, t [61, 70, 70] 1217]
noncomputable def tab46 : List Value := [t [61, 48, 48] 197, t [61, 48, 49] 201, t [61, 48, 50] 205, t [61, 48, 51] 209, t [61, 48, 52] 213, t [61, 48, 53] 217, t [61, 48, 54] 221, t [61, 48, 55] 225, t [61, 48, 56] 229, t [9] 1732, t [10] 1754, t [61, 48, 66] 241, t [61, 48, 67] 245, t [13] 1751, t [61, 48, 69] 253, t [61, 48, 70] 257, t [61, 49, 48] 261, t [61, 49, 49] 265, t [61, 49, 50] 269, t [61, 49, 51] 273, t [61, 49, 52] 277, t [61, 49, 53] 281, t [61, 49, 54] 285, t [61, 49, 55] 289, t [61, 49, 56] 293, t [61, 49, 57] 297, t [61, 49, 65] 301, t [61, 49, 66] 305, t [61, 49, 67] 309, t [61, 49, 68] 313, t [61, 49, 69] 317, t [61, 49, 70] 321, t [32] 1450, t [33] 1453, t [34] 1456, t [35] 1459, t [36] 1462, t [37] 1465, t [38] 1468, t [39] 1471, t [40] 1474, t [41] 1477, t [42] 1480, t [43] 1483, t [44] 1486, t [45] 1489, t [46] 1492, t [47] 1495, t [48] 1498, t [49] 1501, t [50] 1504, t [51] 1507, t [52] 1510, t [53] 1513, t [54] 1516, t [55] 1519, t [56] 1522, t [57] 1525, t [58] 1528, t [59] 1531, t [60] 1534, t [61, 51, 68] 441, t [62] 1537, t [63] 1540, t [64] 1543, t [65] 1546, t [66] 1549, t [67] 1552, t [68] 1555, t [69] 1558, t [70] 1561, t [71] 1564, t [72] 1567, t [73] 1570, t [74] 1573, t [75] 1576, t [76] 1579, t [77] 1582, t [78] 1585, t [79] 1588, t [80] 1591, t [81] 1594, t [82] 1597, t [83] 1600, t [84] 1603, t [85] 1606, t [86] 1609, t [87] 1612, t [88] 1615, t [89] 1618, t [90] 1621, t [91] 1624, t [92] 1627, t [93] 1630, t [94] 1633, t [95] 1636, t [96] 1639, t [97] 1642, t [98] 1645, t [99] 1648, t [100] 1651, t [101] 1654, t [102] 1657, t [103] 1660, t [104] 1663, t [105] 1666, t [106] 1669, t [107] 1672, t [108] 1675, t [109] 1678, t [110] 1681, t [111] 1684, t [112] 1687, t [113] 1690, t [114] 1693, t [115] 1696, t [116] 1699, t [117] 1702, t [118] 1705, t [119] 1708, t [120] 1711, t [121] 1714, t [122] 1717, t [123] 1720, t [124] 1723, t [125] 1726, t [126] 1729, t [61, 55, 70] 705, t [61, 56, 48] 709, t [61, 56, 49] 713, t [61, 56, 50] 717, t [61, 56, 51] 721, t [61, 56, 52] 725, t [61, 56, 53] 729, t [61, 56, 54] 733, t [61, 56, 55] 737, t [61, 56, 56] 741, t [61, 56, 57] 745, t [61, 56, 65] 749, t [61, 56, 66] 753, t [61, 56, 67] 757, t [61, 56, 68] 761, t [61, 56, 69] 765, t [61, 56, 70] 769, t [61, 57, 48] 773, t [61, 57, 49] 777, t [61, 57, 50] 781, t [61, 57, 51] 785, t [61, 57, 52] 789, t [61, 57, 53] 793, t [61, 57, 54] 797, t [61, 57, 55] 801, t [61, 57, 56] 805, t [61, 57, 57] 809, t [61, 57, 65] 813, t [61, 57, 66] 817, t [61, 57, 67] 821, t [61, 57, 68] 825, t [61, 57, 69] 829, t [61, 57, 70] 833, t [61, 65, 48] 837, t [61, 65, 49] 841, t [61, 65, 50] 845, t [61, 65, 51] 849, t [61, 65, 52] 853, t [61, 65, 53] 857, t [61, 65, 54] 861, t [61, 65, 55] 865, t [61, 65, 56] 869, t [61, 65, 57] 873, t [61, 65, 65] 877, t [61, 65, 66] 881, t [61, 65, 67] 885, t [61, 65, 68] 889, t [61, 65, 69] 893, t [61, 65, 70] 897, t [61, 66, 48] 901, t [61, 66, 49] 905, t [61, 66, 50] 909, t [61, 66, 51] 913, t [61, 66, 52] 917, t [61, 66, 53] 921, t [61, 66, 54] 925, t [61, 66, 55] 929, t [61, 66, 56] 933, t [61, 66, 57] 937, t [61, 66, 65] 941, t [61, 66, 66] 945, t [61, 66, 67] 949, t [61, 66, 68] 953, t [61, 66, 69] 957, t [61, 66, 70] 961, t [61, 67, 48] 965, t [61, 67, 49] 969, t [61, 67, 50] 973, t [61, 67, 51] 977, t [61, 67, 52] 981, t [61, 67, 53] 985, t [61, 67, 54] 989, t [61, 67, 55] 993, t [61, 67, 56] 997, t [61, 67, 57] 1001, t [61, 67, 65] 1005, t [61, 67, 66] 1009, t [61, 67, 67] 1013, t [61, 67, 68] 1017, t [61, 67, 69] 1021, t [61, 67, 70] 1025, t [61, 68, 48] 1029, t [61, 68, 49] 1033, t [61, 68, 50] 1037, t [61, 68, 51] 1041, t [61, 68, 52] 1045, t [61, 68, 53] 1049, t [61, 68, 54] 1053, t [61, 68, 55] 1057, t [61, 68, 56] 1061, t [61, 68, 57] 1065, t [61, 68, 65] 1069, t [61, 68, 66] 1073, t [61, 68, 67] 1077, t [61, 68, 68] 1081, t [61, 68, 69] 1085, t [61, 68, 70] 1089, t [61, 69, 48] 1093, t [61, 69, 49] 1097, t [61, 69, 50] 1101, t [61, 69, 51] 1105, t [61, 69, 52] 1109, t [61, 69, 53] 1113, t [61, 69, 54] 1117, t [61, 69, 55] 1121, t [61, 69, 56] 1125, t [61, 69, 57] 1129, t [61, 69, 65] 1133, t [61, 69, 66] 1137, t [61, 69, 67] 1141, t [61, 69, 68] 1145, t [61, 69, 69] 1149, t [61, 69, 70] 1153, t [61, 70, 48] 1157, t [61, 70, 49] 1161, t [61, 70, 50] 1165, t [61, 70, 51] 1169, t [61, 70, 52] 1173, t [61, 70, 53] 1177, t [61, 70, 54] 1181, t [61, 70, 55] 1185, t [61, 70, 56] 1189, t [61, 70, 57] 1193, t [61, 70, 65] 1197, t [61, 70, 66] 1201, t [61, 70, 67] 1205, t [61, 70, 68] 1209, t [61, 70, 69] 1213, t [61, 70, 70] 1217]
noncomputable def b3 (P : Params) : Obj := ⟨.type "dict", none, .dict #[e P "__name__" 165 (.str (Str.ofString "law_wy0003_01") 1788), e P "__doc__" 166 (.none), e P "__package__" 167 (.none), e P "__loader__" 168 (ldr P), e P "__spec__" 169 (.none), e P "__annotations__" 170 (.ref 6), e P "__builtins__" 171 (.ref 4), e P "__file__" 173 (.str (Str.ofString "/claim/cut.py") 172), e P "__cached__" 174 (.none), e P "CRLF" 188 (.str (Str.ofString "\x0d\n") 187), e P "NL" 190 (.str (Str.ofString "\n") 189), e P "_QUOPRI_MAP" 1218 (.ref 17), e P "_QUOPRI_HEADER_MAP" 1219 (.ref 22), e P "_QUOPRI_BODY_MAP" 1220 (.ref 24), e P "ascii_lowercase" 1222 (.str (Str.ofString "abcdefghijklmnopqrstuvwxyz") 1221), e P "ascii_uppercase" 1224 (.str (Str.ofString "ABCDEFGHIJKLMNOPQRSTUVWXYZ") 1223), e P "ascii_letters" 1226 (.str (Str.ofString "abcdefghijklmnopqrstuvwxyzABCDEFGHIJKLMNOPQRSTUVWXYZ") 1225), e P "digits" 1228 (.str (Str.ofString "0123456789") 1227), e P "hexdigits" 1233 (.str (Str.ofString "0123456789abcdefABCDEF") 1232), e P "unquote" 1739 (.ref 37), e P "quote" 1746 (.ref 44), e P "_QUOPRI_BODY_ENCODE_MAP" 1747 (.ref 46), e P "body_encode" 1774 (.ref 57), e P "decode" 1787 (.ref 65), e P "_law_refused" 1797 (.ref 72), e P "law" 1803 (.ref 77)] 28, #[]⟩
noncomputable def b11 : Obj := ⟨.type "tuple", none, .seq #[] 0, #[]⟩
noncomputable def b12 : Obj := ⟨.none, none, .fields #[.int 17 0, .int 0 0, .ref 36, .int 19 0, .int 0 0, .ref 43, .int 25 0, .int 0 0, .ref 56, .int 63 0, .int 0 0, .ref 64, .int 94 0, .int 0 0, .ref 71, .int 100 0, .int 0 0, .ref 76], #[]⟩
noncomputable def b13 : Obj := ⟨.type "code", none, .fields #[.str (Str.ofString "<module>") 182, .str (Str.ofString "<module>") 183, .str (Str.ofString "/claim/cut.py") 184, .int 1 0, .int 0 0, .int 0 0, .int 0 0, .int 0 0, .ref 11, .bool false, .int 181 0, .ref 12, .none, .none, .none, .none, .int 185 0, .int 1 0, .str (Str.ofString "/claim/cut.py") 186], #[]⟩
noncomputable def b14 : Obj := ⟨.type "frame", none, .plain, #[some (.ref 13), some (.ref 3), some (.ref 3), none, some (.str (Str.ofString "__main__") 164), none, some (.ref 0)]⟩
noncomputable def b15 : Obj := ⟨.type "range", none, .fields #[.int 0 192, .int 256 191, .int 1 193], #[]⟩
noncomputable def b16 : Obj := ⟨.type "range_iterator", none, .fields #[.int 256 0, .int 0 0, .int 1 0], #[]⟩
noncomputable def b17 : Obj := ⟨.type "list", none, .seq tab17.toArray 256, #[]⟩
noncomputable def b18 : Obj := ⟨.type "dict", none, .dict #[] 2, #[]⟩
noncomputable def b19 : Obj := ⟨.type "tuple", none, .seq #[] 0, #[]⟩
noncomputable def b20 : Obj := ⟨.type "StopIteration", none, .fields #[.ref 19, .none, .none, .none, .bool false, .none], #[]⟩
noncomputable def b21 : Obj := ⟨.type "slice", none, .fields #[.none, .none, .none], #[]⟩
noncomputable def b22 : Obj := ⟨.type "list", none, .seq tab22.toArray 0, #[]⟩
noncomputable def b23 : Obj := ⟨.type "slice", none, .fields #[.none, .none, .none], #[]⟩
noncomputable def b24 : Obj := ⟨.type "list", none, .seq tab24.toArray 0, #[]⟩
noncomputable def b25 : Obj := ⟨.type "bytes_iterator", none, .fields #[.none, .int 67 0], #[]⟩
noncomputable def b26 : Obj := ⟨.type "tuple", none, .seq #[] 0, #[]⟩
noncomputable def b27 : Obj := ⟨.type "StopIteration", none, .fields #[.ref 26, .none, .none, .none, .bool false, .none], #[]⟩
noncomputable def b28 : Obj := ⟨.type "bytes_iterator", none, .fields #[.none, .int 95 0], #[]⟩
noncomputable def b29 : Obj := ⟨.type "tuple", none, .seq #[] 0, #[]⟩
noncomputable def b30 : Obj := ⟨.type "StopIteration", none, .fields #[.ref 29, .none, .none, .none, .bool false, .none], #[]⟩
noncomputable def b31 : Obj := ⟨.type "tuple", none, .seq #[] 0, #[]⟩
noncomputable def b32 : Obj := ⟨.none, none, .fields #[], #[]⟩
noncomputable def b33 : Obj := ⟨.type "tuple", none, .seq #[.str (Str.ofString "s") 1736] 0, #[]⟩
noncomputable def b34 : Obj := ⟨.type "tuple", none, .seq #[] 0, #[]⟩
noncomputable def b35 : Obj := ⟨.none, none, .func { name := (Str.ofString "unquote"), qualname := (Str.ofString "unquote"), params := fnA 14, body := .stmts (fnB 14), scope := fnS 14, globals := 0, closure := [], defaults := .none, kwdefaults := .none, doc := .none, pyModule := .none, annotations := none, code := .none, closureTuple := .none, builtins := 0 }, #[]⟩
noncomputable def b36 : Obj := ⟨.type "code", none, .fields #[.str (Str.ofString "unquote") 1733, .str (Str.ofString "unquote") 1734, .str (Str.ofString "/claim/cut.py") 1735, .int 17 0, .int 1 0, .int 0 0, .int 0 0, .int 3 0, .ref 31, .bool true, .int 181 0, .ref 32, .none, .ref 33, .ref 34, .ref 35, .int 1737 0, .int 17 0, .str (Str.ofString "/claim/cut.py") 1738], #[]⟩
noncomputable def r37 : Obj := ⟨.type "function", none, .func { name := (Str.ofString "unquote"), qualname := (Str.ofString "unquote"), params := fnA 14, body := .stmts (fnB 14), scope := fnS 14, globals := 3, closure := [], defaults := .none, kwdefaults := .none, doc := .none, pyModule := .str (Str.ofString "cpy313.email.quoprimime") 1234, annotations := none, code := .ref 36, closureTuple := .none, builtins := 0 }, #[]⟩
noncomputable def q37 : { o : Obj // r37 = o } := ⟨_, by unfold r37 fnA fnB fnS pw PySem.Challenge.pw_wy0003_01; dsimp only [List.getElem?_cons_succ, List.getElem?_cons_zero]⟩
noncomputable def b37 : Obj := q37.1
noncomputable def b38 : Obj := ⟨.type "tuple", none, .seq #[] 0, #[]⟩
noncomputable def b39 : Obj := ⟨.none, none, .fields #[], #[]⟩
noncomputable def b40 : Obj := ⟨.type "tuple", none, .seq #[.str (Str.ofString "c") 1743] 0, #[]⟩
noncomputable def b41 : Obj := ⟨.type "tuple", none, .seq #[] 0, #[]⟩
noncomputable def b42 : Obj := ⟨.none, none, .func { name := (Str.ofString "quote"), qualname := (Str.ofString "quote"), params := fnA 15, body := .stmts (fnB 15), scope := fnS 15, globals := 0, closure := [], defaults := .none, kwdefaults := .none, doc := .none, pyModule := .none, annotations := none, code := .none, closureTuple := .none, builtins := 0 }, #[]⟩
noncomputable def b43 : Obj := ⟨.type "code", none, .fields #[.str (Str.ofString "quote") 1740, .str (Str.ofString "quote") 1741, .str (Str.ofString "/claim/cut.py") 1742, .int 19 0, .int 1 0, .int 0 0, .int 0 0, .int 3 0, .ref 38, .bool true, .int 181 0, .ref 39, .none, .ref 40, .ref 41, .ref 42, .int 1744 0, .int 19 0, .str (Str.ofString "/claim/cut.py") 1745], #[]⟩
noncomputable def r44 : Obj := ⟨.type "function", none, .func { name := (Str.ofString "quote"), qualname := (Str.ofString "quote"), params := fnA 15, body := .stmts (fnB 15), scope := fnS 15, globals := 3, closure := [], defaults := .none, kwdefaults := .none, doc := .none, pyModule := .str (Str.ofString "cpy313.email.quoprimime") 1234, annotations := none, code := .ref 43, closureTuple := .none, builtins := 0 }, #[]⟩
noncomputable def q44 : { o : Obj // r44 = o } := ⟨_, by unfold r44 fnA fnB fnS pw PySem.Challenge.pw_wy0003_01; dsimp only [List.getElem?_cons_succ, List.getElem?_cons_zero]⟩
noncomputable def b44 : Obj := q44.1
noncomputable def b45 : Obj := ⟨.type "slice", none, .fields #[.none, .none, .none], #[]⟩
noncomputable def b46 : Obj := ⟨.type "list", none, .seq tab46.toArray 0, #[]⟩
noncomputable def b47 : Obj := ⟨.type "bytes_iterator", none, .fields #[.none, .int 2 0], #[]⟩
noncomputable def b48 : Obj := ⟨.type "tuple", none, .seq #[] 0, #[]⟩
noncomputable def b49 : Obj := ⟨.type "StopIteration", none, .fields #[.ref 48, .none, .none, .none, .bool false, .none], #[]⟩
noncomputable def b50 : Obj := ⟨.type "tuple", none, .seq #[.int 76 1755, .str (Str.ofString "\n") 189] 0, #[]⟩
noncomputable def b51 : Obj := ⟨.type "tuple", none, .seq #[] 0, #[]⟩
noncomputable def b52 : Obj := ⟨.none, none, .fields #[], #[]⟩
noncomputable def b53 : Obj := ⟨.type "tuple", none, .seq #[.str (Str.ofString "body") 1759, .str (Str.ofString "maxlinelen") 1760, .str (Str.ofString "eol") 1761, .str (Str.ofString "soft_break") 1762, .str (Str.ofString "maxlinelen1") 1763, .str (Str.ofString "encoded_body") 1764, .str (Str.ofString "append") 1765, .str (Str.ofString "line") 1766, .str (Str.ofString "start") 1767, .str (Str.ofString "laststart") 1768, .str (Str.ofString "stop") 1769, .str (Str.ofString "room") 1770, .str (Str.ofString "q") 1771] 0, #[]⟩
noncomputable def b54 : Obj := ⟨.type "tuple", none, .seq #[] 0, #[]⟩
noncomputable def b55 : Obj := ⟨.none, none, .func { name := (Str.ofString "body_encode"), qualname := (Str.ofString "body_encode"), params := fnA 19, body := .stmts (fnB 19), scope := fnS 19, globals := 0, closure := [], defaults := .none, kwdefaults := .none, doc := .none, pyModule := .none, annotations := none, code := .none, closureTuple := .none, builtins := 0 }, #[]⟩
noncomputable def b56 : Obj := ⟨.type "code", none, .fields #[.str (Str.ofString "body_encode") 1756, .str (Str.ofString "body_encode") 1757, .str (Str.ofString "/claim/cut.py") 1758, .int 25 0, .int 3 0, .int 0 0, .int 0 0, .int 3 0, .ref 51, .bool true, .int 181 0, .ref 52, .none, .ref 53, .ref 54, .ref 55, .int 1772 0, .int 25 0, .str (Str.ofString "/claim/cut.py") 1773], #[]⟩
noncomputable def r57 : Obj := ⟨.type "function", none, .func { name := (Str.ofString "body_encode"), qualname := (Str.ofString "body_encode"), params := fnA 19, body := .stmts (fnB 19), scope := fnS 19, globals := 3, closure := [], defaults := .ref 50, kwdefaults := .none, doc := .none, pyModule := .str (Str.ofString "cpy313.email.quoprimime") 1234, annotations := none, code := .ref 56, closureTuple := .none, builtins := 0 }, #[]⟩
noncomputable def q57 : { o : Obj // r57 = o } := ⟨_, by unfold r57 fnA fnB fnS pw PySem.Challenge.pw_wy0003_01; dsimp only [List.getElem?_cons_succ, List.getElem?_cons_zero]⟩
noncomputable def b57 : Obj := q57.1
noncomputable def b58 : Obj := ⟨.type "tuple", none, .seq #[.str (Str.ofString "\n") 189] 0, #[]⟩
noncomputable def b59 : Obj := ⟨.type "tuple", none, .seq #[] 0, #[]⟩
noncomputable def b60 : Obj := ⟨.none, none, .fields #[], #[]⟩
noncomputable def b61 : Obj := ⟨.type "tuple", none, .seq #[.str (Str.ofString "encoded") 1778, .str (Str.ofString "eol") 1779, .str (Str.ofString "decoded") 1780, .str (Str.ofString "line") 1781, .str (Str.ofString "i") 1782, .str (Str.ofString "n") 1783, .str (Str.ofString "c") 1784] 0, #[]⟩
noncomputable def b62 : Obj := ⟨.type "tuple", none, .seq #[] 0, #[]⟩
noncomputable def b63 : Obj := ⟨.none, none, .func { name := (Str.ofString "decode"), qualname := (Str.ofString "decode"), params := fnA 20, body := .stmts (fnB 20), scope := fnS 20, globals := 0, closure := [], defaults := .none, kwdefaults := .none, doc := .none, pyModule := .none, annotations := none, code := .none, closureTuple := .none, builtins := 0 }, #[]⟩
noncomputable def b64 : Obj := ⟨.type "code", none, .fields #[.str (Str.ofString "decode") 1775, .str (Str.ofString "decode") 1776, .str (Str.ofString "/claim/cut.py") 1777, .int 63 0, .int 2 0, .int 0 0, .int 0 0, .int 3 0, .ref 59, .bool true, .int 181 0, .ref 60, .none, .ref 61, .ref 62, .ref 63, .int 1785 0, .int 63 0, .str (Str.ofString "/claim/cut.py") 1786], #[]⟩
noncomputable def r65 : Obj := ⟨.type "function", none, .func { name := (Str.ofString "decode"), qualname := (Str.ofString "decode"), params := fnA 20, body := .stmts (fnB 20), scope := fnS 20, globals := 3, closure := [], defaults := .ref 58, kwdefaults := .none, doc := .none, pyModule := .str (Str.ofString "cpy313.email.quoprimime") 1234, annotations := none, code := .ref 64, closureTuple := .none, builtins := 0 }, #[]⟩
noncomputable def q65 : { o : Obj // r65 = o } := ⟨_, by unfold r65 fnA fnB fnS pw PySem.Challenge.pw_wy0003_01; dsimp only [List.getElem?_cons_succ, List.getElem?_cons_zero]⟩
noncomputable def b65 : Obj := q65.1
noncomputable def b66 : Obj := ⟨.type "tuple", none, .seq #[] 0, #[]⟩
noncomputable def b67 : Obj := ⟨.none, none, .fields #[], #[]⟩
noncomputable def b68 : Obj := ⟨.type "tuple", none, .seq #[.str (Str.ofString "text") 1793, .str (Str.ofString "width") 1794] 0, #[]⟩
noncomputable def b69 : Obj := ⟨.type "tuple", none, .seq #[] 0, #[]⟩
noncomputable def b70 : Obj := ⟨.none, none, .func { name := (Str.ofString "_law_refused"), qualname := (Str.ofString "_law_refused"), params := fnA 22, body := .stmts (fnB 22), scope := fnS 22, globals := 0, closure := [], defaults := .none, kwdefaults := .none, doc := .none, pyModule := .none, annotations := none, code := .none, closureTuple := .none, builtins := 0 }, #[]⟩
noncomputable def b71 : Obj := ⟨.type "code", none, .fields #[.str (Str.ofString "_law_refused") 1790, .str (Str.ofString "_law_refused") 1791, .str (Str.ofString "/claim/cut.py") 1792, .int 94 0, .int 2 0, .int 0 0, .int 0 0, .int 3 0, .ref 66, .bool true, .int 181 0, .ref 67, .none, .ref 68, .ref 69, .ref 70, .int 1795 0, .int 94 0, .str (Str.ofString "/claim/cut.py") 1796], #[]⟩
noncomputable def r72 : Obj := ⟨.type "function", none, .func { name := (Str.ofString "_law_refused"), qualname := (Str.ofString "_law_refused"), params := fnA 22, body := .stmts (fnB 22), scope := fnS 22, globals := 3, closure := [], defaults := .none, kwdefaults := .none, doc := .none, pyModule := .str (Str.ofString "law_wy0003_01") 1788, annotations := none, code := .ref 71, closureTuple := .none, builtins := 0 }, #[]⟩
noncomputable def q72 : { o : Obj // r72 = o } := ⟨_, by unfold r72 fnA fnB fnS pw PySem.Challenge.pw_wy0003_01; dsimp only [List.getElem?_cons_succ, List.getElem?_cons_zero]⟩
noncomputable def b72 : Obj := q72.1
noncomputable def b73 : Obj := ⟨.type "tuple", none, .seq #[] 0, #[]⟩
noncomputable def b74 : Obj := ⟨.none, none, .fields #[], #[]⟩
noncomputable def b75 : Obj := ⟨.none, none, .func { name := (Str.ofString "law"), qualname := (Str.ofString "law"), params := fnA 23, body := .stmts (fnB 23), scope := fnS 23, globals := 0, closure := [], defaults := .none, kwdefaults := .none, doc := .none, pyModule := .none, annotations := none, code := .none, closureTuple := .none, builtins := 0 }, #[]⟩
noncomputable def b76 : Obj := ⟨.type "code", none, .fields #[.str (Str.ofString "law") 1798, .str (Str.ofString "law") 1799, .str (Str.ofString "/claim/cut.py") 1800, .int 100 0, .int 1 0, .int 0 0, .int 0 0, .int 3 0, .ref 73, .bool true, .int 181 0, .ref 74, .none, .none, .none, .ref 75, .int 1801 0, .int 100 0, .str (Str.ofString "/claim/cut.py") 1802], #[]⟩
noncomputable def r77 : Obj := ⟨.type "function", none, .func { name := (Str.ofString "law"), qualname := (Str.ofString "law"), params := fnA 23, body := .stmts (fnB 23), scope := fnS 23, globals := 3, closure := [], defaults := .none, kwdefaults := .none, doc := .none, pyModule := .str (Str.ofString "law_wy0003_01") 1788, annotations := none, code := .ref 76, closureTuple := .none, builtins := 0 }, #[]⟩
noncomputable def q77 : { o : Obj // r77 = o } := ⟨_, by unfold r77 fnA fnB fnS pw PySem.Challenge.pw_wy0003_01; dsimp only [List.getElem?_cons_succ, List.getElem?_cons_zero]⟩
noncomputable def b77 : Obj := q77.1
noncomputable def xa3 (P : Params) : Obj := ⟨.type "dict", none, .dict #[e P "__name__" 165 (.str (Str.ofString "cpy313.email.quoprimime") 1234), e P "__doc__" 166 (.none), e P "__package__" 167 (.none), e P "__loader__" 168 (ldr P), e P "__spec__" 169 (.none), e P "__annotations__" 170 (.ref 6), e P "__builtins__" 171 (.ref 4), e P "__file__" 173 (.str (Str.ofString "/claim/cut.py") 172), e P "__cached__" 174 (.none), e P "CRLF" 188 (.str (Str.ofString "\x0d\n") 187), e P "NL" 190 (.str (Str.ofString "\n") 189), e P "_QUOPRI_MAP" 1218 (.ref 17), e P "_QUOPRI_HEADER_MAP" 1219 (.ref 22), e P "_QUOPRI_BODY_MAP" 1220 (.ref 24), e P "ascii_lowercase" 1222 (.str (Str.ofString "abcdefghijklmnopqrstuvwxyz") 1221), e P "ascii_uppercase" 1224 (.str (Str.ofString "ABCDEFGHIJKLMNOPQRSTUVWXYZ") 1223), e P "ascii_letters" 1226 (.str (Str.ofString "abcdefghijklmnopqrstuvwxyzABCDEFGHIJKLMNOPQRSTUVWXYZ") 1225), e P "digits" 1228 (.str (Str.ofString "0123456789") 1227), e P "hexdigits" 1233 (.str (Str.ofString "0123456789abcdefABCDEF") 1232), e P "c" 1244 (.int 45 1243)] 20, #[]⟩
noncomputable def xa12 : Obj := ⟨.none, none, .fields #[], #[]⟩
noncomputable def xatab22 : List Value := [t [61, 48, 48] 197, t [61, 48, 49] 201, t [61, 48, 50] 205, t [61, 48, 51] 209, t [61, 48, 52] 213, t [61, 48, 53] 217, t [61, 48, 54] 221, t [61, 48, 55] 225, t [61, 48, 56] 229, t [61, 48, 57] 233, t [61, 48, 65] 237, t [61, 48, 66] 241, t [61, 48, 67] 245, t [61, 48, 68] 249, t [61, 48, 69] 253, t [61, 48, 70] 257, t [61, 49, 48] 261, t [61, 49, 49] 265, t [61, 49, 50] 269, t [61, 49, 51] 273, t [61, 49, 52] 277, t [61, 49, 53] 281, t [61, 49, 54] 285, t [61, 49, 55] 289, t [61, 49, 56] 293, t [61, 49, 57] 297, t [61, 49, 65] 301, t [61, 49, 66] 305, t [61, 49, 67] 309, t [61, 49, 68] 313, t [61, 49, 69] 317, t [61, 49, 70] 321, t [61, 50, 48] 325, t [61, 50, 49] 329, t [61, 50, 50] 333, t [61, 50, 51] 337, t [61, 50, 52] 341, t [61, 50, 53] 345, t [61, 50, 54] 349, t [61, 50, 55] 353, t [61, 50, 56] 357, t [61, 50, 57] 361, t [61, 50, 65] 365, t [61, 50, 66] 369, t [61, 50, 67] 373, t [45] 1245, t [61, 50, 69] 381, t [61, 50, 70] 385, t [61, 51, 48] 389, t [61, 51, 49] 393, t [61, 51, 50] 397, t [61, 51, 51] 401, t [61, 51, 52] 405, t [61, 51, 53] 409, t [61, 51, 54] 413, t [61, 51, 55] 417, t [61, 51, 56] 421, t [61, 51, 57] 425, t [61, 51, 65] 429, t [61, 51, 66] 433, t [61, 51, 67] 437, t [61, 51, 68] 441, t [61, 51, 69] 445, t [61, 51, 70] 449, t [61, 52, 48] 453, t [61, 52, 49] 457, t [61, 52, 50] 461, t [61, 52, 51] 465, t [61, 52, 52] 469, t [61, 52, 53] 473, t [61, 52, 54] 477, t [61, 52, 55] 481, t [61, 52, 56] 485, t [61, 52, 57] 489, t [61, 52, 65] 493, t [61, 52, 66] 497, t [61, 52, 67] 501, t [61, 52, 68] 505, t [61, 52, 69] 509, t [61, 52, 70] 513, t [61, 53, 48] 517, t [61, 53, 49] 521, t [61, 53, 50] 525, t [61, 53, 51] 529, t [61, 53, 52] 533, t [61, 53, 53] 537, t [61, 53, 54] 541, t [61, 53, 55] 545, t [61, 53, 56] 549, t [61, 53, 57] 553, t [61, 53, 65] 557, t [61, 53, 66] 561, t [61, 53, 67] 565, t [61, 53, 68] 569, t [61, 53, 69] 573, t [61, 53, 70] 577, t [61, 54, 48] 581, t [61, 54, 49] 585, t [61, 54, 50] 589, t [61, 54, 51] 593, t [61, 54, 52] 597, t [61, 54, 53] 601, t [61, 54, 54] 605, t [61, 54, 55] 609, t [61, 54, 56] 613, t [61, 54, 57] 617, t [61, 54, 65] 621, t [61, 54, 66] 625, t [61, 54, 67] 629, t [61, 54, 68] 633, t [61, 54, 69] 637, t [61, 54, 70] 641, t [61, 55, 48] 645, t [61, 55, 49] 649, t [61, 55, 50] 653, t [61, 55, 51] 657, t [61, 55, 52] 661, t [61, 55, 53] 665, t [61, 55, 54] 669, t [61, 55, 55] 673, t [61, 55, 56] 677, t [61, 55, 57] 681, t [61, 55, 65] 685, t [61, 55, 66] 689, t [61, 55, 67] 693, t [61, 55, 68] 697, t [61, 55, 69] 701, t [61, 55, 70] 705, t [61, 56, 48] 709, t [61, 56, 49] 713, t [61, 56, 50] 717, t [61, 56, 51] 721, t [61, 56, 52] 725, t [61, 56, 53] 729, t [61, 56, 54] 733, t [61, 56, 55] 737, t [61, 56, 56] 741, t [61, 56, 57] 745, t [61, 56, 65] 749, t [61, 56, 66] 753, t [61, 56, 67] 757, t [61, 56, 68] 761, t [61, 56, 69] 765, t [61, 56, 70] 769, t [61, 57, 48] 773, t [61, 57, 49] 777, t [61, 57, 50] 781, t [61, 57, 51] 785, t [61, 57, 52] 789, t [61, 57, 53] 793, t [61, 57, 54] 797, t [61, 57, 55] 801, t [61, 57, 56] 805, t [61, 57, 57] 809, t [61, 57, 65] 813, t [61, 57, 66] 817, t [61, 57, 67] 821, t [61, 57, 68] 825, t [61, 57, 69] 829, t [61, 57, 70] 833, t [61, 65, 48] 837, t [61, 65, 49] 841, t [61, 65, 50] 845, t [61, 65, 51] 849, t [61, 65, 52] 853, t [61, 65, 53] 857, t [61, 65, 54] 861, t [61, 65, 55] 865, t [61, 65, 56] 869, t [61, 65, 57] 873, t [61, 65, 65] 877, t [61, 65, 66] 881, t [61, 65, 67] 885, t [61, 65, 68] 889, t [61, 65, 69] 893, t [61, 65, 70] 897, t [61, 66, 48] 901, t [61, 66, 49] 905, t [61, 66, 50] 909, t [61, 66, 51] 913, t [61, 66, 52] 917, t [61, 66, 53] 921, t [61, 66, 54] 925, t [61, 66, 55] 929, t [61, 66, 56] 933, t [61, 66, 57] 937, t [61, 66, 65] 941, t [61, 66, 66] 945, t [61, 66, 67] 949, t [61, 66, 68] 953, t [61, 66, 69] 957, t [61, 66, 70] 961, t [61, 67, 48] 965, t [61, 67, 49] 969, t [61, 67, 50] 973, t [61, 67, 51] 977, t [61, 67, 52] 981, t [61, 67, 53] 985, t [61, 67, 54] 989, t [61, 67, 55] 993, t [61, 67, 56] 997, t [61, 67, 57] 1001, t [61, 67, 65] 1005, t [61, 67, 66] 1009, t [61, 67, 67] 1013, t [61, 67, 68] 1017, t [61, 67, 69] 1021, t [61, 67, 70] 1025, t [61, 68, 48] 1029, t [61, 68, 49] 1033, t [61, 68, 50] 1037, t [61, 68, 51] 1041, t [61, 68, 52] 1045, t [61, 68, 53] 1049, t [61, 68, 54] 1053, t [61, 68, 55] 1057, t [61, 68, 56] 1061, t [61, 68, 57] 1065, t [61, 68, 65] 1069, t [61, 68, 66] 1073, t [61, 68, 67] 1077, t [61, 68, 68] 1081, t [61, 68, 69] 1085, t [61, 68, 70] 1089, t [61, 69, 48] 1093, t [61, 69, 49] 1097, t [61, 69, 50] 1101, t [61, 69, 51] 1105, t [61, 69, 52] 1109, t [61, 69, 53] 1113, t [61, 69, 54] 1117, t [61, 69, 55] 1121, t [61, 69, 56] 1125, t [61, 69, 57] 1129, t [61, 69, 65] 1133, t [61, 69, 66] 1137, t [61, 69, 67] 1141, t [61, 69, 68] 1145, t [61, 69, 69] 1149, t [61, 69, 70] 1153, t [61, 70, 48] 1157, t [61, 70, 49] 1161, t [61, 70, 50] 1165, t [61, 70, 51] 1169, t [61, 70, 52] 1173, t [61, 70, 53] 1177, t [61, 70, 54] 1181, t [61, 70, 55] 1185, t [61, 70, 56] 1189, t [61, 70, 57] 1193, t [61, 70, 65] 1197, t [61, 70, 66] 1201, t [61, 70, 67] 1205, t [61, 70, 68] 1209, t [61, 70, 69] 1213, t [61, 70, 70] 1217]
noncomputable def xa22 : Obj := ⟨.type "list", none, .seq xatab22.toArray 0, #[]⟩
noncomputable def xa24 : Obj := ⟨.type "list", none, .seq tab17.toArray 0, #[]⟩
noncomputable def xa25 : Obj := ⟨.type "bytes_iterator", none, .fields #[.bytes #[45, 33, 42, 43, 47, 97, 98, 99, 100, 101, 102, 103, 104, 105, 106, 107, 108, 109, 110, 111, 112, 113, 114, 115, 116, 117, 118, 119, 120, 121, 122, 65, 66, 67, 68, 69, 70, 71, 72, 73, 74, 75, 76, 77, 78, 79, 80, 81, 82, 83, 84, 85, 86, 87, 88, 89, 90, 48, 49, 50, 51, 52, 53, 54, 55, 56, 57] 1242, .int 1 0], #[]⟩
noncomputable def trxa (P : Params) : BT := (.node (boot_o_0 P) (.node (boot_o_1 P) (.node (xa3 P) (.node (boot_o_7 P) (.node b15 .nil .nil) (.node b23 .nil .nil)) (.node b11 (.node b19 .nil .nil) .nil)) (.node (boot_o_5 P) (.node (boot_o_9 P) (.node b17 .nil .nil) (.node xa25 .nil .nil)) (.node b13 (.node b21 .nil .nil) .nil))) (.node (boot_o_2 P) (.node (boot_o_4 P) (.node (boot_o_8 P) (.node b16 .nil .nil) (.node xa24 .nil .nil)) (.node xa12 (.node b20 .nil .nil) .nil)) (.node (boot_o_6 P) (.node (boot_o_10 P) (.node b18 .nil .nil) .nil) (.node b14 (.node xa22 .nil .nil) .nil))))
noncomputable def xb3 (P : Params) : Obj := ⟨.type "dict", none, .dict #[e P "__name__" 165 (.str (Str.ofString "cpy313.email.quoprimime") 1234), e P "__doc__" 166 (.none), e P "__package__" 167 (.none), e P "__loader__" 168 (ldr P), e P "__spec__" 169 (.none), e P "__annotations__" 170 (.ref 6), e P "__builtins__" 171 (.ref 4), e P "__file__" 173 (.str (Str.ofString "/claim/cut.py") 172), e P "__cached__" 174 (.none), e P "CRLF" 188 (.str (Str.ofString "\x0d\n") 187), e P "NL" 190 (.str (Str.ofString "\n") 189), e P "_QUOPRI_MAP" 1218 (.ref 17), e P "_QUOPRI_HEADER_MAP" 1219 (.ref 22), e P "_QUOPRI_BODY_MAP" 1220 (.ref 24), e P "ascii_lowercase" 1222 (.str (Str.ofString "abcdefghijklmnopqrstuvwxyz") 1221), e P "ascii_uppercase" 1224 (.str (Str.ofString "ABCDEFGHIJKLMNOPQRSTUVWXYZ") 1223), e P "ascii_letters" 1226 (.str (Str.ofString "abcdefghijklmnopqrstuvwxyzABCDEFGHIJKLMNOPQRSTUVWXYZ") 1225), e P "digits" 1228 (.str (Str.ofString "0123456789") 1227), e P "hexdigits" 1233 (.str (Str.ofString "0123456789abcdefABCDEF") 1232), e P "c" 1244 (.int 67 1342)] 20, #[]⟩
noncomputable def xb12 : Obj := ⟨.none, none, .fields #[], #[]⟩
noncomputable def xbtab22 : List Value := [t [61, 48, 48] 197, t [61, 48, 49] 201, t [61, 48, 50] 205, t [61, 48, 51] 209, t [61, 48, 52] 213, t [61, 48, 53] 217, t [61, 48, 54] 221, t [61, 48, 55] 225, t [61, 48, 56] 229, t [61, 48, 57] 233, t [61, 48, 65] 237, t [61, 48, 66] 241, t [61, 48, 67] 245, t [61, 48, 68] 249, t [61, 48, 69] 253, t [61, 48, 70] 257, t [61, 49, 48] 261, t [61, 49, 49] 265, t [61, 49, 50] 269, t [61, 49, 51] 273, t [61, 49, 52] 277, t [61, 49, 53] 281, t [61, 49, 54] 285, t [61, 49, 55] 289, t [61, 49, 56] 293, t [61, 49, 57] 297, t [61, 49, 65] 301, t [61, 49, 66] 305, t [61, 49, 67] 309, t [61, 49, 68] 313, t [61, 49, 69] 317, t [61, 49, 70] 321, t [61, 50, 48] 325, t [33] 1248, t [61, 50, 50] 333, t [61, 50, 51] 337, t [61, 50, 52] 341, t [61, 50, 53] 345, t [61, 50, 54] 349, t [61, 50, 55] 353, t [61, 50, 56] 357, t [61, 50, 57] 361, t [42] 1251, t [43] 1254, t [61, 50, 67] 373, t [45] 1245, t [61, 50, 69] 381, t [47] 1257, t [61, 51, 48] 389, t [61, 51, 49] 393, t [61, 51, 50] 397, t [61, 51, 51] 401, t [61, 51, 52] 405, t [61, 51, 53] 409, t [61, 51, 54] 413, t [61, 51, 55] 417, t [61, 51, 56] 421, t [61, 51, 57] 425, t [61, 51, 65] 429, t [61, 51, 66] 433, t [61, 51, 67] 437, t [61, 51, 68] 441, t [61, 51, 69] 445, t [61, 51, 70] 449, t [61, 52, 48] 453, t [65] 1338, t [66] 1341, t [67] 1344, t [61, 52, 52] 469, t [61, 52, 53] 473, t [61, 52, 54] 477, t [61, 52, 55] 481, t [61, 52, 56] 485, t [61, 52, 57] 489, t [61, 52, 65] 493, t [61, 52, 66] 497, t [61, 52, 67] 501, t [61, 52, 68] 505, t [61, 52, 69] 509, t [61, 52, 70] 513, t [61, 53, 48] 517, t [61, 53, 49] 521, t [61, 53, 50] 525, t [61, 53, 51] 529, t [61, 53, 52] 533, t [61, 53, 53] 537, t [61, 53, 54] 541, t [61, 53, 55] 545, t [61, 53, 56] 549, t [61, 53, 57] 553, t [61, 53, 65] 557, t [61, 53, 66] 561, t [61, 53, 67] 565, t [61, 53, 68] 569, t [61, 53, 69] 573, t [61, 53, 70] 577, t [61, 54, 48] 581, t [97] 1260, t [98] 1263, t [99] 1266, t [100] 1269, t [101] 1272, t [102] 1275, t [103] 1278, t [104] 1281, t [105] 1284, t [106] 1287, t [107] 1290, t [108] 1293, t [109] 1296, t [110] 1299, t [111] 1302, t [112] 1305, t [113] 1308, t [114] 1311, t [115] 1314, t [116] 1317, t [117] 1320, t [118] 1323, t [119] 1326, t [120] 1329, t [121] 1332, t [122] 1335, t [61, 55, 66] 689, t [61, 55, 67] 693, t [61, 55, 68] 697, t [61, 55, 69] 701, t [61, 55, 70] 705, t [61, 56, 48] 709, t [61, 56, 49] 713, t [61, 56, 50] 717, t [61, 56, 51] 721, t [61, 56, 52] 725, t [61, 56, 53] 729, t [61, 56, 54] 733, t [61, 56, 55] 737, t [61, 56, 56] 741, t [61, 56, 57] 745, t [61, 56, 65] 749, t [61, 56, 66] 753, t [61, 56, 67] 757, t [61, 56, 68] 761, t [61, 56, 69] 765, t [61, 56, 70] 769, t [61, 57, 48] 773, t [61, 57, 49] 777, t [61, 57, 50] 781, t [61, 57, 51] 785, t [61, 57, 52] 789, t [61, 57, 53] 793, t [61, 57, 54] 797, t [61, 57, 55] 801, t [61, 57, 56] 805, t [61, 57, 57] 809, t [61, 57, 65] 813, t [61, 57, 66] 817, t [61, 57, 67] 821, t [61, 57, 68] 825, t [61, 57, 69] 829, t [61, 57, 70] 833, t [61, 65, 48] 837, t [61, 65, 49] 841, t [61, 65, 50] 845, t [61, 65, 51] 849, t [61, 65, 52] 853, t [61, 65, 53] 857, t [61, 65, 54] 861, t [61, 65, 55] 865, t [61, 65, 56] 869, t [61, 65, 57] 873, t [61, 65, 65] 877, t [61, 65, 66] 881, t [61, 65, 67] 885, t [61, 65, 68] 889, t [61, 65, 69] 893, t [61, 65, 70] 897, t [61, 66, 48] 901, t [61, 66, 49] 905, t [61, 66, 50] 909, t [61, 66, 51] 913, t [61, 66, 52] 917, t [61, 66, 53] 921, t [61, 66, 54] 925, t [61, 66, 55] 929, t [61, 66, 56] 933, t [61, 66, 57] 937, t [61, 66, 65] 941, t [61, 66, 66] 945, t [61, 66, 67] 949, t [61, 66, 68] 953, t [61, 66, 69] 957, t [61, 66, 70] 961, t [61, 67, 48] 965, t [61, 67, 49] 969, t [61, 67, 50] 973, t [61, 67, 51] 977, t [61, 67, 52] 981, t [61, 67, 53] 985, t [61, 67, 54] 989, t [61, 67, 55] 993, t [61, 67, 56] 997, t [61, 67, 57] 1001, t [61, 67, 65] 1005, t [61, 67, 66] 1009, t [61, 67, 67] 1013, t [61, 67, 68] 1017, t [61, 67, 69] 1021, t [61, 67, 70] 1025, t [61, 68, 48] 1029, t [61, 68, 49] 1033, t [61, 68, 50] 1037, t [61, 68, 51] 1041, t [61, 68, 52] 1045, t [61, 68, 53] 1049, t [61, 68, 54] 1053, t [61, 68, 55] 1057, t [61, 68, 56] 1061, t [61, 68, 57] 1065, t [61, 68, 65] 1069, t [61, 68, 66] 1073, t [61, 68, 67] 1077, t [61, 68, 68] 1081, t [61, 68, 69] 1085, t [61, 68, 70] 1089, t [61, 69, 48] 1093, t [61, 69, 49] 1097, t [61, 69, 50] 1101, t [61, 69, 51] 1105, t [61, 69, 52] 1109, t [61, 69, 53] 1113, t [61, 69, 54] 1117, t [61, 69, 55] 1121, t [61, 69, 56] 1125, t [61, 69, 57] 1129, t [61, 69, 65] 1133, t [61, 69, 66] 1137, t [61, 69, 67] 1141, t [61, 69, 68] 1145, t [61, 69, 69] 1149, t [61, 69, 70] 1153, t [61, 70, 48] 1157, t [61, 70, 49] 1161, t [61, 70, 50] 1165, t [61, 70, 51] 1169, t [61, 70, 52] 1173, t [61, 70, 53] 1177, t [61, 70, 54] 1181, t [61, 70, 55] 1185, t [61, 70, 56] 1189, t [61, 70, 57] 1193, t [61, 70, 65] 1197, t [61, 70, 66] 1201, t [61, 70, 67] 1205, t [61, 70, 68] 1209, t [61, 70, 69] 1213, t [61, 70, 70] 1217]
noncomputable def xb22 : Obj := ⟨.type "list", none, .seq xbtab22.toArray 0, #[]⟩
noncomputable def xb24 : Obj := ⟨.type "list", none, .seq tab17.toArray 0, #[]⟩
noncomputable def xb25 : Obj := ⟨.type "bytes_iterator", none, .fields #[.bytes #[45, 33, 42, 43, 47, 97, 98, 99, 100, 101, 102, 103, 104, 105, 106, 107, 108, 109, 110, 111, 112, 113, 114, 115, 116, 117, 118, 119, 120, 121, 122, 65, 66, 67, 68, 69, 70, 71, 72, 73, 74, 75, 76, 77, 78, 79, 80, 81, 82, 83, 84, 85, 86, 87, 88, 89, 90, 48, 49, 50, 51, 52, 53, 54, 55, 56, 57] 1242, .int 34 0], #[]⟩
noncomputable def trxb (P : Params) : BT := (.node (boot_o_0 P) (.node (boot_o_1 P) (.node (xb3 P) (.node (boot_o_7 P) (.node b15 .nil .nil) (.node b23 .nil .nil)) (.node b11 (.node b19 .nil .nil) .nil)) (.node (boot_o_5 P) (.node (boot_o_9 P) (.node b17 .nil .nil) (.node xb25 .nil .nil)) (.node b13 (.node b21 .nil .nil) .nil))) (.node (boot_o_2 P) (.node (boot_o_4 P) (.node (boot_o_8 P) (.node b16 .nil .nil) (.node xb24 .nil .nil)) (.node xb12 (.node b20 .nil .nil) .nil)) (.node (boot_o_6 P) (.node (boot_o_10 P) (.node b18 .nil .nil) .nil) (.node b14 (.node xb22 .nil .nil) .nil))))
noncomputable def xc3 (P : Params) : Obj := ⟨.type "dict", none, .dict #[e P "__name__" 165 (.str (Str.ofString "cpy313.email.quoprimime") 1234), e P "__doc__" 166 (.none), e P "__package__" 167 (.none), e P "__loader__" 168 (ldr P), e P "__spec__" 169 (.none), e P "__annotations__" 170 (.ref 6), e P "__builtins__" 171 (.ref 4), e P "__file__" 173 (.str (Str.ofString "/claim/cut.py") 172), e P "__cached__" 174 (.none), e P "CRLF" 188 (.str (Str.ofString "\x0d\n") 187), e P "NL" 190 (.str (Str.ofString "\n") 189), e P "_QUOPRI_MAP" 1218 (.ref 17), e P "_QUOPRI_HEADER_MAP" 1219 (.ref 22), e P "_QUOPRI_BODY_MAP" 1220 (.ref 24), e P "ascii_lowercase" 1222 (.str (Str.ofString "abcdefghijklmnopqrstuvwxyz") 1221), e P "ascii_uppercase" 1224 (.str (Str.ofString "ABCDEFGHIJKLMNOPQRSTUVWXYZ") 1223), e P "ascii_letters" 1226 (.str (Str.ofString "abcdefghijklmnopqrstuvwxyzABCDEFGHIJKLMNOPQRSTUVWXYZ") 1225), e P "digits" 1228 (.str (Str.ofString "0123456789") 1227), e P "hexdigits" 1233 (.str (Str.ofString "0123456789abcdefABCDEF") 1232), e P "c" 1244 (.int 57 1441)] 20, #[]⟩
noncomputable def xc12 : Obj := ⟨.none, none, .fields #[], #[]⟩
noncomputable def xctab22 : List Value := [t [61, 48, 48] 197, t [61, 48, 49] 201, t [61, 48, 50] 205, t [61, 48, 51] 209, t [61, 48, 52] 213, t [61, 48, 53] 217, t [61, 48, 54] 221, t [61, 48, 55] 225, t [61, 48, 56] 229, t [61, 48, 57] 233, t [61, 48, 65] 237, t [61, 48, 66] 241, t [61, 48, 67] 245, t [61, 48, 68] 249, t [61, 48, 69] 253, t [61, 48, 70] 257, t [61, 49, 48] 261, t [61, 49, 49] 265, t [61, 49, 50] 269, t [61, 49, 51] 273, t [61, 49, 52] 277, t [61, 49, 53] 281, t [61, 49, 54] 285, t [61, 49, 55] 289, t [61, 49, 56] 293, t [61, 49, 57] 297, t [61, 49, 65] 301, t [61, 49, 66] 305, t [61, 49, 67] 309, t [61, 49, 68] 313, t [61, 49, 69] 317, t [61, 49, 70] 321, t [61, 50, 48] 325, t [33] 1248, t [61, 50, 50] 333, t [61, 50, 51] 337, t [61, 50, 52] 341, t [61, 50, 53] 345, t [61, 50, 54] 349, t [61, 50, 55] 353, t [61, 50, 56] 357, t [61, 50, 57] 361, t [42] 1251, t [43] 1254, t [61, 50, 67] 373, t [45] 1245, t [61, 50, 69] 381, t [47] 1257, t [48] 1416, t [49] 1419, t [50] 1422, t [51] 1425, t [52] 1428, t [53] 1431, t [54] 1434, t [55] 1437, t [56] 1440, t [57] 1443, t [61, 51, 65] 429, t [61, 51, 66] 433, t [61, 51, 67] 437, t [61, 51, 68] 441, t [61, 51, 69] 445, t [61, 51, 70] 449, t [61, 52, 48] 453, t [65] 1338, t [66] 1341, t [67] 1344, t [68] 1347, t [69] 1350, t [70] 1353, t [71] 1356, t [72] 1359, t [73] 1362, t [74] 1365, t [75] 1368, t [76] 1371, t [77] 1374, t [78] 1377, t [79] 1380, t [80] 1383, t [81] 1386, t [82] 1389, t [83] 1392, t [84] 1395, t [85] 1398, t [86] 1401, t [87] 1404, t [88] 1407, t [89] 1410, t [90] 1413, t [61, 53, 66] 561, t [61, 53, 67] 565, t [61, 53, 68] 569, t [61, 53, 69] 573, t [61, 53, 70] 577, t [61, 54, 48] 581, t [97] 1260, t [98] 1263, t [99] 1266, t [100] 1269, t [101] 1272, t [102] 1275, t [103] 1278, t [104] 1281, t [105] 1284, t [106] 1287, t [107] 1290, t [108] 1293, t [109] 1296, t [110] 1299, t [111] 1302, t [112] 1305, t [113] 1308, t [114] 1311, t [115] 1314, t [116] 1317, t [117] 1320, t [118] 1323, t [119] 1326, t [120] 1329, t [121] 1332, t [122] 1335, t [61, 55, 66] 689, t [61, 55, 67] 693, t [61, 55, 68] 697, t [61, 55, 69] 701, t [61, 55, 70] 705, t [61, 56, 48] 709, t [61, 56, 49] 713, t [61, 56, 50] 717, t [61, 56, 51] 721, t [61, 56, 52] 725, t [61, 56, 53] 729, t [61, 56, 54] 733, t [61, 56, 55] 737, t [61, 56, 56] 741, t [61, 56, 57] 745, t [61, 56, 65] 749, t [61, 56, 66] 753, t [61, 56, 67] 757, t [61, 56, 68] 761, t [61, 56, 69] 765, t [61, 56, 70] 769, t [61, 57, 48] 773, t [61, 57, 49] 777, t [61, 57, 50] 781, t [61, 57, 51] 785, t [61, 57, 52] 789, t [61, 57, 53] 793, t [61, 57, 54] 797, t [61, 57, 55] 801, t [61, 57, 56] 805, t [61, 57, 57] 809, t [61, 57, 65] 813, t [61, 57, 66] 817, t [61, 57, 67] 821, t [61, 57, 68] 825, t [61, 57, 69] 829, t [61, 57, 70] 833, t [61, 65, 48] 837, t [61, 65, 49] 841, t [61, 65, 50] 845, t [61, 65, 51] 849, t [61, 65, 52] 853, t [61, 65, 53] 857, t [61, 65, 54] 861, t [61, 65, 55] 865, t [61, 65, 56] 869, t [61, 65, 57] 873, t [61, 65, 65] 877, t [61, 65, 66] 881, t [61, 65, 67] 885, t [61, 65, 68] 889, t [61, 65, 69] 893, t [61, 65, 70] 897, t [61, 66, 48] 901, t [61, 66, 49] 905, t [61, 66, 50] 909, t [61, 66, 51] 913, t [61, 66, 52] 917, t [61, 66, 53] 921, t [61, 66, 54] 925, t [61, 66, 55] 929, t [61, 66, 56] 933, t [61, 66, 57] 937, t [61, 66, 65] 941, t [61, 66, 66] 945, t [61, 66, 67] 949, t [61, 66, 68] 953, t [61, 66, 69] 957, t [61, 66, 70] 961, t [61, 67, 48] 965, t [61, 67, 49] 969, t [61, 67, 50] 973, t [61, 67, 51] 977, t [61, 67, 52] 981, t [61, 67, 53] 985, t [61, 67, 54] 989, t [61, 67, 55] 993, t [61, 67, 56] 997, t [61, 67, 57] 1001, t [61, 67, 65] 1005, t [61, 67, 66] 1009, t [61, 67, 67] 1013, t [61, 67, 68] 1017, t [61, 67, 69] 1021, t [61, 67, 70] 1025, t [61, 68, 48] 1029, t [61, 68, 49] 1033, t [61, 68, 50] 1037, t [61, 68, 51] 1041, t [61, 68, 52] 1045, t [61, 68, 53] 1049, t [61, 68, 54] 1053, t [61, 68, 55] 1057, t [61, 68, 56] 1061, t [61, 68, 57] 1065, t [61, 68, 65] 1069, t [61, 68, 66] 1073, t [61, 68, 67] 1077, t [61, 68, 68] 1081, t [61, 68, 69] 1085, t [61, 68, 70] 1089, t [61, 69, 48] 1093, t [61, 69, 49] 1097, t [61, 69, 50] 1101, t [61, 69, 51] 1105, t [61, 69, 52] 1109, t [61, 69, 53] 1113, t [61, 69, 54] 1117, t [61, 69, 55] 1121, t [61, 69, 56] 1125, t [61, 69, 57] 1129, t [61, 69, 65] 1133, t [61, 69, 66] 1137, t [61, 69, 67] 1141, t [61, 69, 68] 1145, t [61, 69, 69] 1149, t [61, 69, 70] 1153, t [61, 70, 48] 1157, t [61, 70, 49] 1161, t [61, 70, 50] 1165, t [61, 70, 51] 1169, t [61, 70, 52] 1173, t [61, 70, 53] 1177, t [61, 70, 54] 1181, t [61, 70, 55] 1185, t [61, 70, 56] 1189, t [61, 70, 57] 1193, t [61, 70, 65] 1197, t [61, 70, 66] 1201, t [61, 70, 67] 1205, t [61, 70, 68] 1209, t [61, 70, 69] 1213, t [61, 70, 70] 1217]
noncomputable def xc22 : Obj := ⟨.type "list", none, .seq xctab22.toArray 0, #[]⟩
noncomputable def xc24 : Obj := ⟨.type "list", none, .seq tab17.toArray 0, #[]⟩
noncomputable def xc25 : Obj := ⟨.type "bytes_iterator", none, .fields #[.bytes #[45, 33, 42, 43, 47, 97, 98, 99, 100, 101, 102, 103, 104, 105, 106, 107, 108, 109, 110, 111, 112, 113, 114, 115, 116, 117, 118, 119, 120, 121, 122, 65, 66, 67, 68, 69, 70, 71, 72, 73, 74, 75, 76, 77, 78, 79, 80, 81, 82, 83, 84, 85, 86, 87, 88, 89, 90, 48, 49, 50, 51, 52, 53, 54, 55, 56, 57] 1242, .int 67 0], #[]⟩
noncomputable def trxc (P : Params) : BT := (.node (boot_o_0 P) (.node (boot_o_1 P) (.node (xc3 P) (.node (boot_o_7 P) (.node b15 .nil .nil) (.node b23 .nil .nil)) (.node b11 (.node b19 .nil .nil) .nil)) (.node (boot_o_5 P) (.node (boot_o_9 P) (.node b17 .nil .nil) (.node xc25 .nil .nil)) (.node b13 (.node b21 .nil .nil) .nil))) (.node (boot_o_2 P) (.node (boot_o_4 P) (.node (boot_o_8 P) (.node b16 .nil .nil) (.node xc24 .nil .nil)) (.node xc12 (.node b20 .nil .nil) .nil)) (.node (boot_o_6 P) (.node (boot_o_10 P) (.node b18 .nil .nil) .nil) (.node b14 (.node xc22 .nil .nil) .nil))))
noncomputable def ya3 (P : Params) : Obj := ⟨.type "dict", none, .dict #[e P "__name__" 165 (.str (Str.ofString "cpy313.email.quoprimime") 1234), e P "__doc__" 166 (.none), e P "__package__" 167 (.none), e P "__loader__" 168 (ldr P), e P "__spec__" 169 (.none), e P "__annotations__" 170 (.ref 6), e P "__builtins__" 171 (.ref 4), e P "__file__" 173 (.str (Str.ofString "/claim/cut.py") 172), e P "__cached__" 174 (.none), e P "CRLF" 188 (.str (Str.ofString "\x0d\n") 187), e P "NL" 190 (.str (Str.ofString "\n") 189), e P "_QUOPRI_MAP" 1218 (.ref 17), e P "_QUOPRI_HEADER_MAP" 1219 (.ref 22), e P "_QUOPRI_BODY_MAP" 1220 (.ref 24), e P "ascii_lowercase" 1222 (.str (Str.ofString "abcdefghijklmnopqrstuvwxyz") 1221), e P "ascii_uppercase" 1224 (.str (Str.ofString "ABCDEFGHIJKLMNOPQRSTUVWXYZ") 1223), e P "ascii_letters" 1226 (.str (Str.ofString "abcdefghijklmnopqrstuvwxyzABCDEFGHIJKLMNOPQRSTUVWXYZ") 1225), e P "digits" 1228 (.str (Str.ofString "0123456789") 1227), e P "hexdigits" 1233 (.str (Str.ofString "0123456789abcdefABCDEF") 1232), e P "c" 1244 (.int 32 1448)] 20, #[]⟩
noncomputable def ya12 : Obj := ⟨.none, none, .fields #[], #[]⟩
noncomputable def yatab24 : List Value := [t [61, 48, 48] 197, t [61, 48, 49] 201, t [61, 48, 50] 205, t [61, 48, 51] 209, t [61, 48, 52] 213, t [61, 48, 53] 217, t [61, 48, 54] 221, t [61, 48, 55] 225, t [61, 48, 56] 229, t [61, 48, 57] 233, t [61, 48, 65] 237, t [61, 48, 66] 241, t [61, 48, 67] 245, t [61, 48, 68] 249, t [61, 48, 69] 253, t [61, 48, 70] 257, t [61, 49, 48] 261, t [61, 49, 49] 265, t [61, 49, 50] 269, t [61, 49, 51] 273, t [61, 49, 52] 277, t [61, 49, 53] 281, t [61, 49, 54] 285, t [61, 49, 55] 289, t [61, 49, 56] 293, t [61, 49, 57] 297, t [61, 49, 65] 301, t [61, 49, 66] 305, t [61, 49, 67] 309, t [61, 49, 68] 313, t [61, 49, 69] 317, t [61, 49, 70] 321, t [32] 1450, t [61, 50, 49] 329, t [61, 50, 50] 333, t [61, 50, 51] 337, t [61, 50, 52] 341, t [61, 50, 53] 345, t [61, 50, 54] 349, t [61, 50, 55] 353, t [61, 50, 56] 357, t [61, 50, 57] 361, t [61, 50, 65] 365, t [61, 50, 66] 369, t [61, 50, 67] 373, t [61, 50, 68] 377, t [61, 50, 69] 381, t [61, 50, 70] 385, t [61, 51, 48] 389, t [61, 51, 49] 393, t [61, 51, 50] 397, t [61, 51, 51] 401, t [61, 51, 52] 405, t [61, 51, 53] 409, t [61, 51, 54] 413, t [61, 51, 55] 417, t [61, 51, 56] 421, t [61, 51, 57] 425, t [61, 51, 65] 429, t [61, 51, 66] 433, t [61, 51, 67] 437, t [61, 51, 68] 441, t [61, 51, 69] 445, t [61, 51, 70] 449, t [61, 52, 48] 453, t [61, 52, 49] 457, t [61, 52, 50] 461, t [61, 52, 51] 465, t [61, 52, 52] 469, t [61, 52, 53] 473, t [61, 52, 54] 477, t [61, 52, 55] 481, t [61, 52, 56] 485, t [61, 52, 57] 489, t [61, 52, 65] 493, t [61, 52, 66] 497, t [61, 52, 67] 501, t [61, 52, 68] 505, t [61, 52, 69] 509, t [61, 52, 70] 513, t [61, 53, 48] 517, t [61, 53, 49] 521, t [61, 53, 50] 525, t [61, 53, 51] 529, t [61, 53, 52] 533, t [61, 53, 53] 537, t [61, 53, 54] 541, t [61, 53, 55] 545, t [61, 53, 56] 549, t [61, 53, 57] 553, t [61, 53, 65] 557, t [61, 53, 66] 561, t [61, 53, 67] 565, t [61, 53, 68] 569, t [61, 53, 69] 573, t [61, 53, 70] 577, t [61, 54, 48] 581, t [61, 54, 49] 585, t [61, 54, 50] 589, t [61, 54, 51] 593, t [61, 54, 52] 597, t [61, 54, 53] 601, t [61, 54, 54] 605, t [61, 54, 55] 609, t [61, 54, 56] 613, t [61, 54, 57] 617, t [61, 54, 65] 621, t [61, 54, 66] 625, t [61, 54, 67] 629, t [61, 54, 68] 633, t [61, 54, 69] 637, t [61, 54, 70] 641, t [61, 55, 48] 645, t [61, 55, 49] 649, t [61, 55, 50] 653, t [61, 55, 51] 657, t [61, 55, 52] 661, t [61, 55, 53] 665, t [61, 55, 54] 669, t [61, 55, 55] 673, t [61, 55, 56] 677, t [61, 55, 57] 681, t [61, 55, 65] 685, t [61, 55, 66] 689, t [61, 55, 67] 693, t [61, 55, 68] 697, t [61, 55, 69] 701, t [61, 55, 70] 705, t [61, 56, 48] 709, t [61, 56, 49] 713, t [61, 56, 50] 717, t [61, 56, 51] 721, t [61, 56, 52] 725, t [61, 56, 53] 729, t [61, 56, 54] 733, t [61, 56, 55] 737, t [61, 56, 56] 741, t [61, 56, 57] 745, t [61, 56, 65] 749, t [61, 56, 66] 753, t [61, 56, 67] 757, t [61, 56, 68] 761, t [61, 56, 69] 765, t [61, 56, 70] 769, t [61, 57, 48] 773, t [61, 57, 49] 777, t [61, 57, 50] 781, t [61, 57, 51] 785, t [61, 57, 52] 789, t [61, 57, 53] 793, t [61, 57, 54] 797, t [61, 57, 55] 801, t [61, 57, 56] 805, t [61, 57, 57] 809, t [61, 57, 65] 813, t [61, 57, 66] 817, t [61, 57, 67] 821, t [61, 57, 68] 825, t [61, 57, 69] 829, t [61, 57, 70] 833, t [61, 65, 48] 837, t [61, 65, 49] 841, t [61, 65, 50] 845, t [61, 65, 51] 849, t [61, 65, 52] 853, t [61, 65, 53] 857, t [61, 65, 54] 861, t [61, 65, 55] 865, t [61, 65, 56] 869, t [61, 65, 57] 873, t [61, 65, 65] 877, t [61, 65, 66] 881, t [61, 65, 67] 885, t [61, 65, 68] 889, t [61, 65, 69] 893, t [61, 65, 70] 897, t [61, 66, 48] 901, t [61, 66, 49] 905, t [61, 66, 50] 909, t [61, 66, 51] 913, t [61, 66, 52] 917, t [61, 66, 53] 921, t [61, 66, 54] 925, t [61, 66, 55] 929, t [61, 66, 56] 933, t [61, 66, 57] 937, t [61, 66, 65] 941, t [61, 66, 66] 945, t [61, 66, 67] 949, t [61, 66, 68] 953, t [61, 66, 69] 957, t [61, 66, 70] 961, t [61, 67, 48] 965, t [61, 67, 49] 969, t [61, 67, 50] 973, t [61, 67, 51] 977, t [61, 67, 52] 981, t [61, 67, 53] 985, t [61, 67, 54] 989, t [61, 67, 55] 993, t [61, 67, 56] 997, t [61, 67, 57] 1001, t [61, 67, 65] 1005, t [61, 67, 66] 1009, t [61, 67, 67] 1013, t [61, 67, 68] 1017, t [61, 67, 69] 1021, t [61, 67, 70] 1025, t [61, 68, 48] 1029, t [61, 68, 49] 1033, t [61, 68, 50] 1037, t [61, 68, 51] 1041, t [61, 68, 52] 1045, t [61, 68, 53] 1049, t [61, 68, 54] 1053, t [61, 68, 55] 1057, t [61, 68, 56] 1061, t [61, 68, 57] 1065, t [61, 68, 65] 1069, t [61, 68, 66] 1073, t [61, 68, 67] 1077, t [61, 68, 68] 1081, t [61, 68, 69] 1085, t [61, 68, 70] 1089, t [61, 69, 48] 1093, t [61, 69, 49] 1097, t [61, 69, 50] 1101, t [61, 69, 51] 1105, t [61, 69, 52] 1109, t [61, 69, 53] 1113, t [61, 69, 54] 1117, t [61, 69, 55] 1121, t [61, 69, 56] 1125, t [61, 69, 57] 1129, t [61, 69, 65] 1133, t [61, 69, 66] 1137, t [61, 69, 67] 1141, t [61, 69, 68] 1145, t [61, 69, 69] 1149, t [61, 69, 70] 1153, t [61, 70, 48] 1157, t [61, 70, 49] 1161, t [61, 70, 50] 1165, t [61, 70, 51] 1169, t [61, 70, 52] 1173, t [61, 70, 53] 1177, t [61, 70, 54] 1181, t [61, 70, 55] 1185, t [61, 70, 56] 1189, t [61, 70, 57] 1193, t [61, 70, 65] 1197, t [61, 70, 66] 1201, t [61, 70, 67] 1205, t [61, 70, 68] 1209, t [61, 70, 69] 1213, t [61, 70, 70] 1217]
noncomputable def ya24 : Obj := ⟨.type "list", none, .seq yatab24.toArray 0, #[]⟩
noncomputable def ya28 : Obj := ⟨.type "bytes_iterator", none, .fields #[.bytes #[32, 33, 34, 35, 36, 37, 38, 39, 40, 41, 42, 43, 44, 45, 46, 47, 48, 49, 50, 51, 52, 53, 54, 55, 56, 57, 58, 59, 60, 62, 63, 64, 65, 66, 67, 68, 69, 70, 71, 72, 73, 74, 75, 76, 77, 78, 79, 80, 81, 82, 83, 84, 85, 86, 87, 88, 89, 90, 91, 92, 93, 94, 95, 96, 97, 98, 99, 100, 101, 102, 103, 104, 105, 106, 107, 108, 109, 110, 111, 112, 113, 114, 115, 116, 117, 118, 119, 120, 121, 122, 123, 124, 125, 126, 9] 1447, .int 1 0], #[]⟩
noncomputable def trya (P : Params) : BT := (.node (boot_o_0 P) (.node (boot_o_1 P) (.node (ya3 P) (.node (boot_o_7 P) (.node b15 .nil .nil) (.node b23 .nil .nil)) (.node b11 (.node b19 .nil .nil) (.node b27 .nil .nil))) (.node (boot_o_5 P) (.node (boot_o_9 P) (.node b17 .nil .nil) (.node b25 .nil .nil)) (.node b13 (.node b21 .nil .nil) .nil))) (.node (boot_o_2 P) (.node (boot_o_4 P) (.node (boot_o_8 P) (.node b16 .nil .nil) (.node ya24 .nil .nil)) (.node ya12 (.node b20 .nil .nil) (.node ya28 .nil .nil))) (.node (boot_o_6 P) (.node (boot_o_10 P) (.node b18 .nil .nil) (.node b26 .nil .nil)) (.node b14 (.node b22 .nil .nil) .nil))))
noncomputable def yb3 (P : Params) : Obj := ⟨.type "dict", none, .dict #[e P "__name__" 165 (.str (Str.ofString "cpy313.email.quoprimime") 1234), e P "__doc__" 166 (.none), e P "__package__" 167 (.none), e P "__loader__" 168 (ldr P), e P "__spec__" 169 (.none), e P "__annotations__" 170 (.ref 6), e P "__builtins__" 171 (.ref 4), e P "__file__" 173 (.str (Str.ofString "/claim/cut.py") 172), e P "__cached__" 174 (.none), e P "CRLF" 188 (.str (Str.ofString "\x0d\n") 187), e P "NL" 190 (.str (Str.ofString "\n") 189), e P "_QUOPRI_MAP" 1218 (.ref 17), e P "_QUOPRI_HEADER_MAP" 1219 (.ref 22), e P "_QUOPRI_BODY_MAP" 1220 (.ref 24), e P "ascii_lowercase" 1222 (.str (Str.ofString "abcdefghijklmnopqrstuvwxyz") 1221), e P "ascii_uppercase" 1224 (.str (Str.ofString "ABCDEFGHIJKLMNOPQRSTUVWXYZ") 1223), e P "ascii_letters" 1226 (.str (Str.ofString "abcdefghijklmnopqrstuvwxyzABCDEFGHIJKLMNOPQRSTUVWXYZ") 1225), e P "digits" 1228 (.str (Str.ofString "0123456789") 1227), e P "hexdigits" 1233 (.str (Str.ofString "0123456789abcdefABCDEF") 1232), e P "c" 1244 (.int 80 1589)] 20, #[]⟩
noncomputable def yb12 : Obj := ⟨.none, none, .fields #[], #[]⟩
noncomputable def ybtab24 : List Value := [t [61, 48, 48] 197, t [61, 48, 49] 201, t [61, 48, 50] 205, t [61, 48, 51] 209, t [61, 48, 52] 213, t [61, 48, 53] 217, t [61, 48, 54] 221, t [61, 48, 55] 225, t [61, 48, 56] 229, t [61, 48, 57] 233, t [61, 48, 65] 237, t [61, 48, 66] 241, t [61, 48, 67] 245, t [61, 48, 68] 249, t [61, 48, 69] 253, t [61, 48, 70] 257, t [61, 49, 48] 261, t [61, 49, 49] 265, t [61, 49, 50] 269, t [61, 49, 51] 273, t [61, 49, 52] 277, t [61, 49, 53] 281, t [61, 49, 54] 285, t [61, 49, 55] 289, t [61, 49, 56] 293, t [61, 49, 57] 297, t [61, 49, 65] 301, t [61, 49, 66] 305, t [61, 49, 67] 309, t [61, 49, 68] 313, t [61, 49, 69] 317, t [61, 49, 70] 321, t [32] 1450, t [33] 1453, t [34] 1456, t [35] 1459, t [36] 1462, t [37] 1465, t [38] 1468, t [39] 1471, t [40] 1474, t [41] 1477, t [42] 1480, t [43] 1483, t [44] 1486, t [45] 1489, t [46] 1492, t [47] 1495, t [48] 1498, t [49] 1501, t [50] 1504, t [51] 1507, t [52] 1510, t [53] 1513, t [54] 1516, t [55] 1519, t [56] 1522, t [57] 1525, t [58] 1528, t [59] 1531, t [60] 1534, t [61, 51, 68] 441, t [62] 1537, t [63] 1540, t [64] 1543, t [65] 1546, t [66] 1549, t [67] 1552, t [68] 1555, t [69] 1558, t [70] 1561, t [71] 1564, t [72] 1567, t [73] 1570, t [74] 1573, t [75] 1576, t [76] 1579, t [77] 1582, t [78] 1585, t [79] 1588, t [80] 1591, t [61, 53, 49] 521, t [61, 53, 50] 525, t [61, 53, 51] 529, t [61, 53, 52] 533, t [61, 53, 53] 537, t [61, 53, 54] 541, t [61, 53, 55] 545, t [61, 53, 56] 549, t [61, 53, 57] 553, t [61, 53, 65] 557, t [61, 53, 66] 561, t [61, 53, 67] 565, t [61, 53, 68] 569, t [61, 53, 69] 573, t [61, 53, 70] 577, t [61, 54, 48] 581, t [61, 54, 49] 585, t [61, 54, 50] 589, t [61, 54, 51] 593, t [61, 54, 52] 597, t [61, 54, 53] 601, t [61, 54, 54] 605, t [61, 54, 55] 609, t [61, 54, 56] 613, t [61, 54, 57] 617, t [61, 54, 65] 621, t [61, 54, 66] 625, t [61, 54, 67] 629, t [61, 54, 68] 633, t [61, 54, 69] 637, t [61, 54, 70] 641, t [61, 55, 48] 645, t [61, 55, 49] 649, t [61, 55, 50] 653, t [61, 55, 51] 657, t [61, 55, 52] 661, t [61, 55, 53] 665, t [61, 55, 54] 669, t [61, 55, 55] 673, t [61, 55, 56] 677, t [61, 55, 57] 681, t [61, 55, 65] 685, t [61, 55, 66] 689, t [61, 55, 67] 693, t [61, 55, 68] 697, t [61, 55, 69] 701, t [61, 55, 70] 705, t [61, 56, 48] 709, t [61, 56, 49] 713, t [61, 56, 50] 717, t [61, 56, 51] 721, t [61, 56, 52] 725, t [61, 56, 53] 729, t [61, 56, 54] 733, t [61, 56, 55] 737, t [61, 56, 56] 741, t [61, 56, 57] 745, t [61, 56, 65] 749, t [61, 56, 66] 753, t [61, 56, 67] 757, t [61, 56, 68] 761, t [61, 56, 69] 765, t [61, 56, 70] 769, t [61, 57, 48] 773, t [61, 57, 49] 777, t [61, 57, 50] 781, t [61, 57, 51] 785, t [61, 57, 52] 789, t [61, 57, 53] 793, t [61, 57, 54] 797, t [61, 57, 55] 801, t [61, 57, 56] 805, t [61, 57, 57] 809, t [61, 57, 65] 813, t [61, 57, 66] 817, t [61, 57, 67] 821, t [61, 57, 68] 825, t [61, 57, 69] 829, t [61, 57, 70] 833, t [61, 65, 48] 837, t [61, 65, 49] 841, t [61, 65, 50] 845, t [61, 65, 51] 849, t [61, 65, 52] 853, t [61, 65, 53] 857, t [61, 65, 54] 861, t [61, 65, 55] 865, t [61, 65, 56] 869, t [61, 65, 57] 873, t [61, 65, 65] 877, t [61, 65, 66] 881, t [61, 65, 67] 885, t [61, 65, 68] 889, t [61, 65, 69] 893, t [61, 65, 70] 897, t [61, 66, 48] 901, t [61, 66, 49] 905, t [61, 66, 50] 909, t [61, 66, 51] 913, t [61, 66, 52] 917, t [61, 66, 53] 921, t [61, 66, 54] 925, t [61, 66, 55] 929, t [61, 66, 56] 933, t [61, 66, 57] 937, t [61, 66, 65] 941, t [61, 66, 66] 945, t [61, 66, 67] 949, t [61, 66, 68] 953, t [61, 66, 69] 957, t [61, 66, 70] 961, t [61, 67, 48] 965, t [61, 67, 49] 969, t [61, 67, 50] 973, t [61, 67, 51] 977, t [61, 67, 52] 981, t [61, 67, 53] 985, t [61, 67, 54] 989, t [61, 67, 55] 993, t [61, 67, 56] 997, t [61, 67, 57] 1001, t [61, 67, 65] 1005, t [61, 67, 66] 1009, t [61, 67, 67] 1013, t [61, 67, 68] 1017, t [61, 67, 69] 1021, t [61, 67, 70] 1025, t [61, 68, 48] 1029, t [61, 68, 49] 1033, t [61, 68, 50] 1037, t [61, 68, 51] 1041, t [61, 68, 52] 1045, t [61, 68, 53] 1049, t [61, 68, 54] 1053, t [61, 68, 55] 1057, t [61, 68, 56] 1061, t [61, 68, 57] 1065, t [61, 68, 65] 1069, t [61, 68, 66] 1073, t [61, 68, 67] 1077, t [61, 68, 68] 1081, t [61, 68, 69] 1085, t [61, 68, 70] 1089, t [61, 69, 48] 1093, t [61, 69, 49] 1097, t [61, 69, 50] 1101, t [61, 69, 51] 1105, t [61, 69, 52] 1109, t [61, 69, 53] 1113, t [61, 69, 54] 1117, t [61, 69, 55] 1121, t [61, 69, 56] 1125, t [61, 69, 57] 1129, t [61, 69, 65] 1133, t [61, 69, 66] 1137, t [61, 69, 67] 1141, t [61, 69, 68] 1145, t [61, 69, 69] 1149, t [61, 69, 70] 1153, t [61, 70, 48] 1157, t [61, 70, 49] 1161, t [61, 70, 50] 1165, t [61, 70, 51] 1169, t [61, 70, 52] 1173, t [61, 70, 53] 1177, t [61, 70, 54] 1181, t [61, 70, 55] 1185, t [61, 70, 56] 1189, t [61, 70, 57] 1193, t [61, 70, 65] 1197, t [61, 70, 66] 1201, t [61, 70, 67] 1205, t [61, 70, 68] 1209, t [61, 70, 69] 1213, t [61, 70, 70] 1217]
noncomputable def yb24 : Obj := ⟨.type "list", none, .seq ybtab24.toArray 0, #[]⟩
noncomputable def yb28 : Obj := ⟨.type "bytes_iterator", none, .fields #[.bytes #[32, 33, 34, 35, 36, 37, 38, 39, 40, 41, 42, 43, 44, 45, 46, 47, 48, 49, 50, 51, 52, 53, 54, 55, 56, 57, 58, 59, 60, 62, 63, 64, 65, 66, 67, 68, 69, 70, 71, 72, 73, 74, 75, 76, 77, 78, 79, 80, 81, 82, 83, 84, 85, 86, 87, 88, 89, 90, 91, 92, 93, 94, 95, 96, 97, 98, 99, 100, 101, 102, 103, 104, 105, 106, 107, 108, 109, 110, 111, 112, 113, 114, 115, 116, 117, 118, 119, 120, 121, 122, 123, 124, 125, 126, 9] 1447, .int 48 0], #[]⟩
noncomputable def tryb (P : Params) : BT := (.node (boot_o_0 P) (.node (boot_o_1 P) (.node (yb3 P) (.node (boot_o_7 P) (.node b15 .nil .nil) (.node b23 .nil .nil)) (.node b11 (.node b19 .nil .nil) (.node b27 .nil .nil))) (.node (boot_o_5 P) (.node (boot_o_9 P) (.node b17 .nil .nil) (.node b25 .nil .nil)) (.node b13 (.node b21 .nil .nil) .nil))) (.node (boot_o_2 P) (.node (boot_o_4 P) (.node (boot_o_8 P) (.node b16 .nil .nil) (.node yb24 .nil .nil)) (.node yb12 (.node b20 .nil .nil) (.node yb28 .nil .nil))) (.node (boot_o_6 P) (.node (boot_o_10 P) (.node b18 .nil .nil) (.node b26 .nil .nil)) (.node b14 (.node b22 .nil .nil) .nil))))
noncomputable def yc3 (P : Params) : Obj := ⟨.type "dict", none, .dict #[e P "__name__" 165 (.str (Str.ofString "cpy313.email.quoprimime") 1234), e P "__doc__" 166 (.none), e P "__package__" 167 (.none), e P "__loader__" 168 (ldr P), e P "__spec__" 169 (.none), e P "__annotations__" 170 (.ref 6), e P "__builtins__" 171 (.ref 4), e P "__file__" 173 (.str (Str.ofString "/claim/cut.py") 172), e P "__cached__" 174 (.none), e P "CRLF" 188 (.str (Str.ofString "\x0d\n") 187), e P "NL" 190 (.str (Str.ofString "\n") 189), e P "_QUOPRI_MAP" 1218 (.ref 17), e P "_QUOPRI_HEADER_MAP" 1219 (.ref 22), e P "_QUOPRI_BODY_MAP" 1220 (.ref 24), e P "ascii_lowercase" 1222 (.str (Str.ofString "abcdefghijklmnopqrstuvwxyz") 1221), e P "ascii_uppercase" 1224 (.str (Str.ofString "ABCDEFGHIJKLMNOPQRSTUVWXYZ") 1223), e P "ascii_letters" 1226 (.str (Str.ofString "abcdefghijklmnopqrstuvwxyzABCDEFGHIJKLMNOPQRSTUVWXYZ") 1225), e P "digits" 1228 (.str (Str.ofString "0123456789") 1227), e P "hexdigits" 1233 (.str (Str.ofString "0123456789abcdefABCDEF") 1232), e P "c" 1244 (.int 9 1730)] 20, #[]⟩
noncomputable def yc12 : Obj := ⟨.none, none, .fields #[], #[]⟩
noncomputable def yc28 : Obj := ⟨.type "bytes_iterator", none, .fields #[.bytes #[32, 33, 34, 35, 36, 37, 38, 39, 40, 41, 42, 43, 44, 45, 46, 47, 48, 49, 50, 51, 52, 53, 54, 55, 56, 57, 58, 59, 60, 62, 63, 64, 65, 66, 67, 68, 69, 70, 71, 72, 73, 74, 75, 76, 77, 78, 79, 80, 81, 82, 83, 84, 85, 86, 87, 88, 89, 90, 91, 92, 93, 94, 95, 96, 97, 98, 99, 100, 101, 102, 103, 104, 105, 106, 107, 108, 109, 110, 111, 112, 113, 114, 115, 116, 117, 118, 119, 120, 121, 122, 123, 124, 125, 126, 9] 1447, .int 95 0], #[]⟩
noncomputable def tryc (P : Params) : BT := (.node (boot_o_0 P) (.node (boot_o_1 P) (.node (yc3 P) (.node (boot_o_7 P) (.node b15 .nil .nil) (.node b23 .nil .nil)) (.node b11 (.node b19 .nil .nil) (.node b27 .nil .nil))) (.node (boot_o_5 P) (.node (boot_o_9 P) (.node b17 .nil .nil) (.node b25 .nil .nil)) (.node b13 (.node b21 .nil .nil) .nil))) (.node (boot_o_2 P) (.node (boot_o_4 P) (.node (boot_o_8 P) (.node b16 .nil .nil) (.node b24 .nil .nil)) (.node yc12 (.node b20 .nil .nil) (.node yc28 .nil .nil))) (.node (boot_o_6 P) (.node (boot_o_10 P) (.node b18 .nil .nil) (.node b26 .nil .nil)) (.node b14 (.node b22 .nil .nil) .nil))))
noncomputable def d3 (P : Params) : Obj := ⟨.type "dict", none, .dict #[e P "__name__" 165 (.str (Str.ofString "__main__") 164), e P "__doc__" 166 (.none), e P "__package__" 167 (.none), e P "__loader__" 168 (ldr P), e P "__spec__" 169 (.none), e P "__annotations__" 170 (.ref 6), e P "__builtins__" 171 (.ref 4), e P "__file__" 173 (.str (Str.ofString "/claim/cut.py") 172), e P "__cached__" 174 (.none)] 9, #[]⟩
noncomputable def d12 : Obj := ⟨.none, none, .fields #[], #[]⟩
noncomputable def trd (P : Params) : BT := (.node (boot_o_0 P) (.node (boot_o_1 P) (.node (d3 P) (.node (boot_o_7 P) .nil .nil) (.node b11 .nil .nil)) (.node (boot_o_5 P) (.node (boot_o_9 P) .nil .nil) (.node b13 .nil .nil))) (.node (boot_o_2 P) (.node (boot_o_4 P) (.node (boot_o_8 P) .nil .nil) (.node d12 .nil .nil)) (.node (boot_o_6 P) (.node (boot_o_10 P) .nil .nil) (.node b14 .nil .nil))))
noncomputable def hpd (P : Params) : Heap := ⟨⟨[(boot_o_0 P), (boot_o_1 P), (boot_o_2 P), (d3 P), (boot_o_4 P), (boot_o_5 P), (boot_o_6 P), (boot_o_7 P), (boot_o_8 P), (boot_o_9 P), (boot_o_10 P), b11, d12, b13, b14]⟩, {}⟩
noncomputable def g3 (P : Params) : Obj := ⟨.type "dict", none, .dict #[e P "__name__" 165 (.str (Str.ofString "__main__") 164), e P "__doc__" 166 (.none), e P "__package__" 167 (.none), e P "__loader__" 168 (ldr P), e P "__spec__" 169 (.none), e P "__annotations__" 170 (.ref 6), e P "__builtins__" 171 (.ref 4), e P "__file__" 173 (.str (Str.ofString "/claim/cut.py") 172), e P "__cached__" 174 (.none), e P "CRLF" 188 (.str (Str.ofString "\x0d\n") 187), e P "NL" 190 (.str (Str.ofString "\n") 189)] 11, #[]⟩
noncomputable def g12 : Obj := ⟨.none, none, .fields #[], #[]⟩
noncomputable def c3 (P : Params) : Obj := ⟨.type "dict", none, .dict #[e P "__name__" 165 (.str (Str.ofString "__main__") 164), e P "__doc__" 166 (.none), e P "__package__" 167 (.none), e P "__loader__" 168 (ldr P), e P "__spec__" 169 (.none), e P "__annotations__" 170 (.ref 6), e P "__builtins__" 171 (.ref 4), e P "__file__" 173 (.str (Str.ofString "/claim/cut.py") 172), e P "__cached__" 174 (.none), e P "CRLF" 188 (.str (Str.ofString "\x0d\n") 187), e P "NL" 190 (.str (Str.ofString "\n") 189), e P "_QUOPRI_MAP" 1218 (.ref 17)] 12, #[]⟩
noncomputable def c12 : Obj := ⟨.none, none, .fields #[], #[]⟩
noncomputable def trc (P : Params) : BT := (.node (boot_o_0 P) (.node (boot_o_1 P) (.node (c3 P) (.node (boot_o_7 P) (.node b15 .nil .nil) .nil) (.node b11 (.node b19 .nil .nil) .nil)) (.node (boot_o_5 P) (.node (boot_o_9 P) (.node b17 .nil .nil) .nil) (.node b13 .nil .nil))) (.node (boot_o_2 P) (.node (boot_o_4 P) (.node (boot_o_8 P) (.node b16 .nil .nil) .nil) (.node c12 (.node b20 .nil .nil) .nil)) (.node (boot_o_6 P) (.node (boot_o_10 P) (.node b18 .nil .nil) .nil) (.node b14 .nil .nil))))
noncomputable def x3 (P : Params) : Obj := ⟨.type "dict", none, .dict #[e P "__name__" 165 (.str (Str.ofString "cpy313.email.quoprimime") 1234), e P "__doc__" 166 (.none), e P "__package__" 167 (.none), e P "__loader__" 168 (ldr P), e P "__spec__" 169 (.none), e P "__annotations__" 170 (.ref 6), e P "__builtins__" 171 (.ref 4), e P "__file__" 173 (.str (Str.ofString "/claim/cut.py") 172), e P "__cached__" 174 (.none), e P "CRLF" 188 (.str (Str.ofString "\x0d\n") 187), e P "NL" 190 (.str (Str.ofString "\n") 189), e P "_QUOPRI_MAP" 1218 (.ref 17), e P "_QUOPRI_HEADER_MAP" 1219 (.ref 22), e P "_QUOPRI_BODY_MAP" 1220 (.ref 24), e P "ascii_lowercase" 1222 (.str (Str.ofString "abcdefghijklmnopqrstuvwxyz") 1221), e P "ascii_uppercase" 1224 (.str (Str.ofString "ABCDEFGHIJKLMNOPQRSTUVWXYZ") 1223), e P "ascii_letters" 1226 (.str (Str.ofString "abcdefghijklmnopqrstuvwxyzABCDEFGHIJKLMNOPQRSTUVWXYZ") 1225), e P "digits" 1228 (.str (Str.ofString "0123456789") 1227), e P "hexdigits" 1233 (.str (Str.ofString "0123456789abcdefABCDEF") 1232), e P "c" 1244 (.int 57 1441)] 20, #[]⟩
noncomputable def x12 : Obj := ⟨.none, none, .fields #[], #[]⟩
noncomputable def xtab22 : List Value := [t [61, 48, 48] 197, t [61, 48, 49] 201, t [61, 48, 50] 205, t [61, 48, 51] 209, t [61, 48, 52] 213, t [61, 48, 53] 217, t [61, 48, 54] 221, t [61, 48, 55] 225, t [61, 48, 56] 229, t [61, 48, 57] 233, t [61, 48, 65] 237, t [61, 48, 66] 241, t [61, 48, 67] 245, t [61, 48, 68] 249, t [61, 48, 69] 253, t [61, 48, 70] 257, t [61, 49, 48] 261, t [61, 49, 49] 265, t [61, 49, 50] 269, t [61, 49, 51] 273, t [61, 49, 52] 277, t [61, 49, 53] 281, t [61, 49, 54] 285, t [61, 49, 55] 289, t [61, 49, 56] 293, t [61, 49, 57] 297, t [61, 49, 65] 301, t [61, 49, 66] 305, t [61, 49, 67] 309, t [61, 49, 68] 313, t [61, 49, 69] 317, t [61, 49, 70] 321, t [61, 50, 48] 325, t [33] 1248, t [61, 50, 50] 333, t [61, 50, 51] 337, t [61, 50, 52] 341, t [61, 50, 53] 345, t [61, 50, 54] 349, t [61, 50, 55] 353, t [61, 50, 56] 357, t [61, 50, 57] 361, t [42] 1251, t [43] 1254, t [61, 50, 67] 373, t [45] 1245, t [61, 50, 69] 381, t [47] 1257, t [48] 1416, t [49] 1419, t [50] 1422, t [51] 1425, t [52] 1428, t [53] 1431, t [54] 1434, t [55] 1437, t [56] 1440, t [57] 1443, t [61, 51, 65] 429, t [61, 51, 66] 433, t [61, 51, 67] 437, t [61, 51, 68] 441, t [61, 51, 69] 445, t [61, 51, 70] 449, t [61, 52, 48] 453, t [65] 1338, t [66] 1341, t [67] 1344, t [68] 1347, t [69] 1350, t [70] 1353, t [71] 1356, t [72] 1359, t [73] 1362, t [74] 1365, t [75] 1368, t [76] 1371, t [77] 1374, t [78] 1377, t [79] 1380, t [80] 1383, t [81] 1386, t [82] 1389, t [83] 1392, t [84] 1395, t [85] 1398, t [86] 1401, t [87] 1404, t [88] 1407, t [89] 1410, t [90] 1413, t [61, 53, 66] 561, t [61, 53, 67] 565, t [61, 53, 68] 569, t [61, 53, 69] 573, t [61, 53, 70] 577, t [61, 54, 48] 581, t [97] 1260, t [98] 1263, t [99] 1266, t [100] 1269, t [101] 1272, t [102] 1275, t [103] 1278, t [104] 1281, t [105] 1284, t [106] 1287, t [107] 1290, t [108] 1293, t [109] 1296, t [110] 1299, t [111] 1302, t [112] 1305, t [113] 1308, t [114] 1311, t [115] 1314, t [116] 1317, t [117] 1320, t [118] 1323, t [119] 1326, t [120] 1329, t [121] 1332, t [122] 1335, t [61, 55, 66] 689, t [61, 55, 67] 693, t [61, 55, 68] 697, t [61, 55, 69] 701, t [61, 55, 70] 705, t [61, 56, 48] 709, t [61, 56, 49] 713, t [61, 56, 50] 717, t [61, 56, 51] 721, t [61, 56, 52] 725, t [61, 56, 53] 729, t [61, 56, 54] 733, t [61, 56, 55] 737, t [61, 56, 56] 741, t [61, 56, 57] 745, t [61, 56, 65] 749, t [61, 56, 66] 753, t [61, 56, 67] 757, t [61, 56, 68] 761, t [61, 56, 69] 765, t [61, 56, 70] 769, t [61, 57, 48] 773, t [61, 57, 49] 777, t [61, 57, 50] 781, t [61, 57, 51] 785, t [61, 57, 52] 789, t [61, 57, 53] 793, t [61, 57, 54] 797, t [61, 57, 55] 801, t [61, 57, 56] 805, t [61, 57, 57] 809, t [61, 57, 65] 813, t [61, 57, 66] 817, t [61, 57, 67] 821, t [61, 57, 68] 825, t [61, 57, 69] 829, t [61, 57, 70] 833, t [61, 65, 48] 837, t [61, 65, 49] 841, t [61, 65, 50] 845, t [61, 65, 51] 849, t [61, 65, 52] 853, t [61, 65, 53] 857, t [61, 65, 54] 861, t [61, 65, 55] 865, t [61, 65, 56] 869, t [61, 65, 57] 873, t [61, 65, 65] 877, t [61, 65, 66] 881, t [61, 65, 67] 885, t [61, 65, 68] 889, t [61, 65, 69] 893, t [61, 65, 70] 897, t [61, 66, 48] 901, t [61, 66, 49] 905, t [61, 66, 50] 909, t [61, 66, 51] 913, t [61, 66, 52] 917, t [61, 66, 53] 921, t [61, 66, 54] 925, t [61, 66, 55] 929, t [61, 66, 56] 933, t [61, 66, 57] 937, t [61, 66, 65] 941, t [61, 66, 66] 945, t [61, 66, 67] 949, t [61, 66, 68] 953, t [61, 66, 69] 957, t [61, 66, 70] 961, t [61, 67, 48] 965, t [61, 67, 49] 969, t [61, 67, 50] 973, t [61, 67, 51] 977, t [61, 67, 52] 981, t [61, 67, 53] 985, t [61, 67, 54] 989, t [61, 67, 55] 993, t [61, 67, 56] 997, t [61, 67, 57] 1001, t [61, 67, 65] 1005, t [61, 67, 66] 1009, t [61, 67, 67] 1013, t [61, 67, 68] 1017, t [61, 67, 69] 1021, t [61, 67, 70] 1025, t [61, 68, 48] 1029, t [61, 68, 49] 1033, t [61, 68, 50] 1037, t [61, 68, 51] 1041, t [61, 68, 52] 1045, t [61, 68, 53] 1049, t [61, 68, 54] 1053, t [61, 68, 55] 1057, t [61, 68, 56] 1061, t [61, 68, 57] 1065, t [61, 68, 65] 1069, t [61, 68, 66] 1073, t [61, 68, 67] 1077, t [61, 68, 68] 1081, t [61, 68, 69] 1085, t [61, 68, 70] 1089, t [61, 69, 48] 1093, t [61, 69, 49] 1097, t [61, 69, 50] 1101, t [61, 69, 51] 1105, t [61, 69, 52] 1109, t [61, 69, 53] 1113, t [61, 69, 54] 1117, t [61, 69, 55] 1121, t [61, 69, 56] 1125, t [61, 69, 57] 1129, t [61, 69, 65] 1133, t [61, 69, 66] 1137, t [61, 69, 67] 1141, t [61, 69, 68] 1145, t [61, 69, 69] 1149, t [61, 69, 70] 1153, t [61, 70, 48] 1157, t [61, 70, 49] 1161, t [61, 70, 50] 1165, t [61, 70, 51] 1169, t [61, 70, 52] 1173, t [61, 70, 53] 1177, t [61, 70, 54] 1181, t [61, 70, 55] 1185, t [61, 70, 56] 1189, t [61, 70, 57] 1193, t [61, 70, 65] 1197, t [61, 70, 66] 1201, t [61, 70, 67] 1205, t [61, 70, 68] 1209, t [61, 70, 69] 1213, t [61, 70, 70] 1217]
noncomputable def x22 : Obj := ⟨.type "list", none, .seq xtab22.toArray 0, #[]⟩
noncomputable def x24 : Obj := ⟨.type "list", none, .seq tab17.toArray 0, #[]⟩
noncomputable def trx (P : Params) : BT := (.node (boot_o_0 P) (.node (boot_o_1 P) (.node (x3 P) (.node (boot_o_7 P) (.node b15 .nil .nil) (.node b23 .nil .nil)) (.node b11 (.node b19 .nil .nil) (.node b27 .nil .nil))) (.node (boot_o_5 P) (.node (boot_o_9 P) (.node b17 .nil .nil) (.node b25 .nil .nil)) (.node b13 (.node b21 .nil .nil) .nil))) (.node (boot_o_2 P) (.node (boot_o_4 P) (.node (boot_o_8 P) (.node b16 .nil .nil) (.node x24 .nil .nil)) (.node x12 (.node b20 .nil .nil) .nil)) (.node (boot_o_6 P) (.node (boot_o_10 P) (.node b18 .nil .nil) (.node b26 .nil .nil)) (.node b14 (.node x22 .nil .nil) .nil))))
noncomputable def y3 (P : Params) : Obj := ⟨.type "dict", none, .dict #[e P "__name__" 165 (.str (Str.ofString "cpy313.email.quoprimime") 1234), e P "__doc__" 166 (.none), e P "__package__" 167 (.none), e P "__loader__" 168 (ldr P), e P "__spec__" 169 (.none), e P "__annotations__" 170 (.ref 6), e P "__builtins__" 171 (.ref 4), e P "__file__" 173 (.str (Str.ofString "/claim/cut.py") 172), e P "__cached__" 174 (.none), e P "CRLF" 188 (.str (Str.ofString "\x0d\n") 187), e P "NL" 190 (.str (Str.ofString "\n") 189), e P "_QUOPRI_MAP" 1218 (.ref 17), e P "_QUOPRI_HEADER_MAP" 1219 (.ref 22), e P "_QUOPRI_BODY_MAP" 1220 (.ref 24), e P "ascii_lowercase" 1222 (.str (Str.ofString "abcdefghijklmnopqrstuvwxyz") 1221), e P "ascii_uppercase" 1224 (.str (Str.ofString "ABCDEFGHIJKLMNOPQRSTUVWXYZ") 1223), e P "ascii_letters" 1226 (.str (Str.ofString "abcdefghijklmnopqrstuvwxyzABCDEFGHIJKLMNOPQRSTUVWXYZ") 1225), e P "digits" 1228 (.str (Str.ofString "0123456789") 1227), e P "hexdigits" 1233 (.str (Str.ofString "0123456789abcdefABCDEF") 1232), e P "c" 1244 (.int 9 1730)] 20, #[]⟩
noncomputable def y12 : Obj := ⟨.none, none, .fields #[], #[]⟩
noncomputable def try_ (P : Params) : BT := (.node (boot_o_0 P) (.node (boot_o_1 P) (.node (y3 P) (.node (boot_o_7 P) (.node b15 .nil .nil) (.node b23 .nil .nil)) (.node b11 (.node b19 .nil .nil) (.node b27 .nil .nil))) (.node (boot_o_5 P) (.node (boot_o_9 P) (.node b17 .nil .nil) (.node b25 .nil .nil)) (.node b13 (.node b21 .nil .nil) (.node b29 .nil .nil)))) (.node (boot_o_2 P) (.node (boot_o_4 P) (.node (boot_o_8 P) (.node b16 .nil .nil) (.node b24 .nil .nil)) (.node y12 (.node b20 .nil .nil) (.node b28 .nil .nil))) (.node (boot_o_6 P) (.node (boot_o_10 P) (.node b18 .nil .nil) (.node b26 .nil .nil)) (.node b14 (.node b22 .nil .nil) (.node b30 .nil .nil)))))
noncomputable def l16 (i : Nat) : Obj := ⟨.type "range_iterator", none, .fields #[.int i 0, .int (256 - i : Nat) 0, .int 1 0], #[]⟩
noncomputable def l17 (i : Nat) : Obj := ⟨.type "list", none, .seq (tab17.take i).toArray i, #[]⟩
noncomputable def l18 (P : Params) (i : Nat) : Obj := ⟨.type "dict", none, .dict #[e P "c" 195 (.int (i - 1 : Nat) (190 + 4 * i))] 1, #[]⟩
noncomputable def trl (i : Nat) (P : Params) : BT := (.node (boot_o_0 P) (.node (boot_o_1 P) (.node (g3 P) (.node (boot_o_7 P) (.node b15 .nil .nil) .nil) (.node b11 .nil .nil)) (.node (boot_o_5 P) (.node (boot_o_9 P) (.node (l17 i) .nil .nil) .nil) (.node b13 .nil .nil))) (.node (boot_o_2 P) (.node (boot_o_4 P) (.node (boot_o_8 P) (.node (l16 i) .nil .nil) .nil) (.node d12 .nil .nil)) (.node (boot_o_6 P) (.node (boot_o_10 P) (.node (l18 P i) .nil .nil) .nil) (.node b14 .nil .nil))))
noncomputable def trE (P : Params) : BT := (.node (boot_o_0 P) (.node (boot_o_1 P) (.node (b3 P) (.node (boot_o_7 P) (.node b15 (.node b31 (.node b63 .nil .nil) .nil) (.node b47 .nil .nil)) (.node b23 (.node b39 (.node b71 .nil .nil) .nil) (.node b55 .nil .nil))) (.node b11 (.node b19 (.node b35 (.node b67 .nil .nil) .nil) (.node b51 .nil .nil)) (.node b27 (.node b43 (.node b75 .nil .nil) .nil) (.node b59 .nil .nil)))) (.node (boot_o_5 P) (.node (boot_o_9 P) (.node b17 (.node b33 (.node b65 .nil .nil) .nil) (.node b49 .nil .nil)) (.node b25 (.node b41 (.node b73 .nil .nil) .nil) (.node b57 .nil .nil))) (.node b13 (.node b21 (.node b37 (.node b69 .nil .nil) .nil) (.node b53 .nil .nil)) (.node b29 (.node b45 (.node b77 .nil .nil) .nil) (.node b61 .nil .nil))))) (.node (boot_o_2 P) (.node (boot_o_4 P) (.node (boot_o_8 P) (.node b16 (.node b32 (.node b64 .nil .nil) .nil) (.node b48 .nil .nil)) (.node b24 (.node b40 (.node b72 .nil .nil) .nil) (.node b56 .nil .nil))) (.node b12 (.node b20 (.node b36 (.node b68 .nil .nil) .nil) (.node b52 .nil .nil)) (.node b28 (.node b44 (.node b76 .nil .nil) .nil) (.node b60 .nil .nil)))) (.node (boot_o_6 P) (.node (boot_o_10 P) (.node b18 (.node b34 (.node b66 .nil .nil) .nil) (.node b50 .nil .nil)) (.node b26 (.node b42 (.node b74 .nil .nil) .nil) (.node b58 .nil .nil))) (.node b14 (.node b22 (.node b38 (.node b70 .nil .nil) .nil) (.node b54 .nil .nil)) (.node b30 (.node b46 .nil .nil) (.node b62 .nil .nil))))))
noncomputable def hpE (P : Params) : Heap := ⟨⟨[(boot_o_0 P), (boot_o_1 P), (boot_o_2 P), (b3 P), (boot_o_4 P), (boot_o_5 P), (boot_o_6 P), (boot_o_7 P), (boot_o_8 P), (boot_o_9 P), (boot_o_10 P), b11, b12, b13, b14, b15, b16, b17, b18, b19, b20, b21, b22, b23, b24, b25, b26, b27, b28, b29, b30, b31, b32, b33, b34, b35, b36, b37, b38, b39, b40, b41, b42, b43, b44, b45, b46, b47, b48, b49, b50, b51, b52, b53, b54, b55, b56, b57, b58, b59, b60, b61, b62, b63, b64, b65, b66, b67, b68, b69, b70, b71, b72, b73, b74, b75, b76, b77]⟩, {}⟩
noncomputable def env : Env := { scope := pw.main.scope, locals := mainNs, globals := mainNs, cells := [], code := .ref 13, frame := some 14 }
noncomputable def body : List Stmt := behindTheImports pw
noncomputable def p0 : Pos := ⟨0, 0, 0, 0⟩
noncomputable def p3 : Pos := ⟨3, 0, 3, 11⟩
noncomputable def p12 : Pos := ⟨12, 9, 12, 74⟩
noncomputable def p14 : Pos := ⟨15, 9, 15, 110⟩
noncomputable def p24 : Pos := ⟨100, 0, 124, 58⟩
noncomputable def stD (w : World) (os : OsState) : SharedT := ⟨trd w.params, 15, {}, ⟨[]⟩, {}, 187, os⟩
noncomputable def stL (i : Nat) (w : World) (os : OsState) : SharedT := ⟨trl i w.params, 19, {}, ⟨[]⟩, {}, 194 + 4 * i, os⟩
noncomputable def stC (w : World) (os : OsState) : SharedT := ⟨trc w.params, 21, {}, ⟨[]⟩, {}, 1219, os⟩
noncomputable def stX (w : World) (os : OsState) : SharedT := ⟨trx w.params, 28, {}, ⟨[]⟩, {}, 1444, os⟩
noncomputable def stY (w : World) (os : OsState) : SharedT := ⟨try_ w.params, 31, {}, ⟨[]⟩, {}, 1733, os⟩
noncomputable def stE (w : World) (os : OsState) : SharedT := ⟨trE w.params, 78, {}, ⟨[]⟩, {}, 1804, os⟩
-- the comprehension of the third statement: its loop's code, a thread at a turn's start (over any continuation k)
noncomputable def cE : PySem.Expr := match pw.main.body[(2 : Nat)]? with | some (.Assign _ v _) => v | _ => .Constant .none 0 p0
noncomputable def cS : Scope := match cE with | .ListComp _ _ s _ => s | _ => default
noncomputable def cC : Code := .compLoop cE 0 (.ref 16) (.ref 17) { scope := cS, locals := 18, globals := mainNs, cells := [], code := .ref 13, frame := some 14 }
noncomputable def thL (dn : Code → Sem Fin) (k : Result → Sem Fin) : Thread := ⟨dn cC, cC, ⟨3, 15, 3, 26⟩, [.ret k none true [.ref 18, .ref 17] (.body body env) ⟨3, 36, 3, 46⟩ [], topFrame p0]⟩
noncomputable def firstK : Option (SharedT × Thread) → Result → Sem Fin
  | some (_, ⟨_, _, _, .ret k _ _ _ _ _ _ :: _⟩) => k
  | _ => fun _ => .pure (.done .next)
abbrev twSeg := @Fast.tw10295753902157049106
abbrev twRun := @Fast.tw10110043849684766642
abbrev twTab := Fast.tw14364793385576792824
abbrev twDen := Fast.tw11892475500146522536 twTab
noncomputable def pcs (l : List Stmt) (p : Pos) : Thread := ⟨(Fast.tw12563942051412417395 l env).wrap doneF deadEnd id id, .body body env, p, [topFrame p0]⟩
theorem pcs_eq (l : List Stmt) (p : Pos) : pcs l p = piecesOf l env (.body body env) p [topFrame p0] := by unfold pcs; rw [← Fast.te12563942051412417395]
noncomputable def th0 : Thread := pcs (body.take 3) p0
noncomputable def kk (n : Nat) (w : World) (os : OsState) : Result → Sem Fin := firstK (twSeg twTab pw w 11 (some (.ref 6)) 1 n (stD w os) th0)
noncomputable def enter (n : Nat) (w : World) : Prop := (fun os => twSeg twTab pw w 11 (some (.ref 6)) 1 n (stD w os) th0) = fun os => some (stL 1 w os, thL twDen (kk n w os))
noncomputable def leave (n N : Nat) (w : World) : Prop := (fun os => twRun twTab pw w 11 (some (.ref 6)) 1 N (stL 256 w os) (thL twDen (kk n w os))) = fun os => some (.next, stC w os, .body body env, p3)
theorem turn1 (w : World) (os : OsState) (k : Result → Sem Fin) : twSeg twTab pw w 11 (some (.ref 6)) 1 2331 (stL 1 w os) (thL twDen k) = some (stL 64 w os, thL twDen k) := by kernel_rfl
theorem turn2 (w : World) (os : OsState) (k : Result → Sem Fin) : twSeg twTab pw w 11 (some (.ref 6)) 1 2368 (stL 64 w os) (thL twDen k) = some (stL 128 w os, thL twDen k) := by kernel_rfl
theorem turn3 (w : World) (os : OsState) (k : Result → Sem Fin) : twSeg twTab pw w 11 (some (.ref 6)) 1 2368 (stL 128 w os) (thL twDen k) = some (stL 192 w os, thL twDen k) := by kernel_rfl
theorem turn4 (w : World) (os : OsState) (k : Result → Sem Fin) : twSeg twTab pw w 11 (some (.ref 6)) 1 2368 (stL 192 w os) (thL twDen k) = some (stL 256 w os, thL twDen k) := by kernel_rfl
abbrev ways (f t : World → Prop) : Prop := (∀ w : World, f ((w.withFollow "special-get-raises" false).withFollow "comprehension-iter-twice" false)) ∧ (∀ w : World, f ((w.withFollow "special-get-raises" true).withFollow "comprehension-iter-twice" false)) ∧
  (∀ w : World, t ((w.withFollow "special-get-raises" false).withFollow "comprehension-iter-twice" true)) ∧ ∀ w : World, t ((w.withFollow "special-get-raises" true).withFollow "comprehension-iter-twice" true)
theorem enters : ways (enter 107) (enter 97) := ⟨fun w => by unfold enter; kernel_rfl, fun w => by unfold enter; kernel_rfl, fun w => by unfold enter; kernel_rfl, fun w => by unfold enter; kernel_rfl⟩
theorem leaves : ways (leave 107 40) (leave 97 50) := ⟨fun w => by unfold leave; kernel_rfl, fun w => by unfold leave; kernel_rfl, fun w => by unfold leave; kernel_rfl, fun w => by unfold leave; kernel_rfl⟩
-- the two loops over bytes (statements 11 and 13), each with what stands ahead of it
noncomputable def stXa (w : World) (os : OsState) : SharedT := ⟨trxa w.params, 26, {}, ⟨[]⟩, {}, 1246, os⟩
noncomputable def stXb (w : World) (os : OsState) : SharedT := ⟨trxb w.params, 26, {}, ⟨[]⟩, {}, 1345, os⟩
noncomputable def stXc (w : World) (os : OsState) : SharedT := ⟨trxc w.params, 26, {}, ⟨[]⟩, {}, 1444, os⟩
noncomputable def stYa (w : World) (os : OsState) : SharedT := ⟨trya w.params, 29, {}, ⟨[]⟩, {}, 1451, os⟩
noncomputable def stYb (w : World) (os : OsState) : SharedT := ⟨tryb w.params, 29, {}, ⟨[]⟩, {}, 1592, os⟩
noncomputable def stYc (w : World) (os : OsState) : SharedT := ⟨tryc w.params, 29, {}, ⟨[]⟩, {}, 1733, os⟩
noncomputable def fX : Code := match pw.main.body[(11 : Nat)]? with | some (.For x _ b o _) => .forLoop x (.ref 25) b o env | _ => .block [] env
noncomputable def fY : Code := match pw.main.body[(13 : Nat)]? with | some (.For x _ b o _) => .forLoop x (.ref 28) b o env | _ => .block [] env
noncomputable def thX (k : Result → Sem Fin) : Thread := ⟨twDen fX, fX, ⟨13, 4, 13, 25⟩, [.ret k none false [] (.body body env) p12 [], topFrame p0]⟩
noncomputable def thY (k : Result → Sem Fin) : Thread := ⟨twDen fY, fY, ⟨16, 4, 16, 23⟩, [.ret k none false [] (.body body env) p14 [], topFrame p0]⟩
noncomputable def thX0 : Thread := pcs ((body.drop 3).take 9) p3
noncomputable def thY0 : Thread := pcs (((body.drop 3).drop 9).take 2) p12
noncomputable def kX (w : World) (os : OsState) : Result → Sem Fin := firstK (twSeg twTab pw w 11 (some (.ref 6)) 1 221 (stC w os) thX0)
noncomputable def kY (w : World) (os : OsState) : Result → Sem Fin := firstK (twSeg twTab pw w 11 (some (.ref 6)) 1 79 (stX w os) thY0)
noncomputable def enterX (w : World) : Prop := (fun os => twSeg twTab pw w 11 (some (.ref 6)) 1 221 (stC w os) thX0) = fun os => some (stXa w os, thX (kX w os))
noncomputable def leaveX (w : World) : Prop := (fun os => twRun twTab pw w 11 (some (.ref 6)) 1 30 (stXc w os) (thX (kX w os))) = fun os => some (.next, stX w os, .body body env, p12)
noncomputable def enterY (w : World) : Prop := (fun os => twSeg twTab pw w 11 (some (.ref 6)) 1 79 (stX w os) thY0) = fun os => some (stYa w os, thY (kY w os))
noncomputable def leaveY (w : World) : Prop := (fun os => twRun twTab pw w 11 (some (.ref 6)) 1 30 (stYc w os) (thY (kY w os))) = fun os => some (.next, stY w os, .body body env, p14)
theorem turnX1 (w : World) (os : OsState) (k : Result → Sem Fin) : twSeg twTab pw w 11 (some (.ref 6)) 1 1485 (stXa w os) (thX k) = some (stXb w os, thX k) := by kernel_rfl
theorem turnX2 (w : World) (os : OsState) (k : Result → Sem Fin) : twSeg twTab pw w 11 (some (.ref 6)) 1 1485 (stXb w os) (thX k) = some (stXc w os, thX k) := by kernel_rfl
theorem turnY1 (w : World) (os : OsState) (k : Result → Sem Fin) : twSeg twTab pw w 11 (some (.ref 6)) 1 2115 (stYa w os) (thY k) = some (stYb w os, thY k) := by kernel_rfl
theorem turnY2 (w : World) (os : OsState) (k : Result → Sem Fin) : twSeg twTab pw w 11 (some (.ref 6)) 1 2115 (stYb w os) (thY k) = some (stYc w os, thY k) := by kernel_rfl
theorem enterX_f (w : World) : enterX (w.withFollow "special-get-raises" false) := by unfold enterX; kernel_rfl
theorem enterX_t (w : World) : enterX (w.withFollow "special-get-raises" true) := by unfold enterX; kernel_rfl
theorem leaveX_f (w : World) : leaveX (w.withFollow "special-get-raises" false) := by unfold leaveX; kernel_rfl
theorem leaveX_t (w : World) : leaveX (w.withFollow "special-get-raises" true) := by unfold leaveX; kernel_rfl
theorem enterY_f (w : World) : enterY (w.withFollow "special-get-raises" false) := by unfold enterY; kernel_rfl
theorem enterY_t (w : World) : enterY (w.withFollow "special-get-raises" true) := by unfold enterY; kernel_rfl
theorem leaveY_f (w : World) : leaveY (w.withFollow "special-get-raises" false) := by unfold leaveY; kernel_rfl
theorem leaveY_t (w : World) : leaveY (w.withFollow "special-get-raises" true) := by unfold leaveY; kernel_rfl
noncomputable def goE (w : World) : Prop := (fun os => twRun twTab pw w 11 (some (.ref 6)) 1 1000 (stY w os) (pcs (((body.drop 3).drop 9).drop 2) p14)) = fun os => some (.next, stE w os, .body body env, p24)
theorem goE_f (w : World) : goE (w.withFollow "special-get-raises" false) := by unfold goE; kernel_rfl
theorem goE_t (w : World) : goE (w.withFollow "special-get-raises" true) := by unfold goE; kernel_rfl
section
variable {w : World} {os : OsState} {n N : Nat} {s : SharedT} {th : Thread}
theorem seg_tw {r : Option (SharedT × Thread)} (h : twSeg twTab pw w 11 (some (.ref 6)) 1 n s th = r) : segGoT treeTable pw w 11 (some (.ref 6)) 1 n s th = r := by
  rw [Fast.te10295753902157049106, Fast.te14364793385576792824]; exact h
theorem run_tw {r : Option (Flow × SharedT × Code × Pos)} (h : twRun twTab pw w 11 (some (.ref 6)) 1 n s th = r) : segRunT treeTable pw w 11 (some (.ref 6)) 1 n s th = r := by
  rw [Fast.te10110043849684766642, Fast.te14364793385576792824]; exact h
theorem chain (he : enter n w) (hl : leave n N w) (hN : n + (2331 + (2368 + (2368 + (2368 + N)))) = 9582) (os : OsState) : segRun treeTable pw w 11 (some (.ref 6)) 1 9582 (stD w os).abs th0 = some (.next, (stC w os).abs, .body body env, p3) := by
  rw [← hN]
  exact seg_go (segGo_of (seg_tw (congrFun he os))) (seg_go (segGo_of (seg_tw (turn1 w os _))) (seg_go (segGo_of (seg_tw (turn2 w os _))) (seg_go (segGo_of (seg_tw (turn3 w os _))) (seg_go (segGo_of (seg_tw (turn4 w os _))) (segRun_of (run_tw (congrFun hl os)))))))
end
noncomputable def segP (w : World) : Prop := ∀ os, segRun treeTable pw w 11 (some (.ref 6)) 1 9582 (stD w os).abs th0 = some (.next, (stC w os).abs, .body body env, p3)
theorem segC : ∀ w : World, segP w := byRow2 "comprehension-iter-twice" (P := segP)
  (byRow2 "special-get-raises" (P := fun w => segP (w.withFollow "comprehension-iter-twice" false)) (fun w => chain (enters.1 w) (leaves.1 w) (by decide)) fun w => chain (enters.2.1 w) (leaves.2.1 w) (by decide))
  (byRow2 "special-get-raises" (P := fun w => segP (w.withFollow "comprehension-iter-twice" true)) (fun w => chain (enters.2.2.1 w) (leaves.2.2.1 w) (by decide)) fun w => chain (enters.2.2.2 w) (leaves.2.2.2 w) (by decide))
theorem segX (w : World) (os : OsState) : segRun treeTable pw w 11 (some (.ref 6)) 1 3221 (stC w os).abs thX0 = some (.next, (stX w os).abs, .body body env, p12) := by
  rw [show 3221 = 221 + (1485 + (1485 + 30)) from by decide]
  exact seg_go (segGo_of (seg_tw (congrFun (byRow2 "special-get-raises" (P := enterX) enterX_f enterX_t w) os))) (seg_go (segGo_of (seg_tw (turnX1 w os _))) (seg_go (segGo_of (seg_tw (turnX2 w os _)))
    (segRun_of (run_tw (congrFun (byRow2 "special-get-raises" (P := leaveX) leaveX_f leaveX_t w) os)))))
theorem segY (w : World) (os : OsState) : segRun treeTable pw w 11 (some (.ref 6)) 1 4339 (stX w os).abs thY0 = some (.next, (stY w os).abs, .body body env, p14) := by
  rw [show 4339 = 79 + (2115 + (2115 + 30)) from by decide]
  exact seg_go (segGo_of (seg_tw (congrFun (byRow2 "special-get-raises" (P := enterY) enterY_f enterY_t w) os))) (seg_go (segGo_of (seg_tw (turnY1 w os _))) (seg_go (segGo_of (seg_tw (turnY2 w os _)))
    (segRun_of (run_tw (congrFun (byRow2 "special-get-raises" (P := leaveY) leaveY_f leaveY_t w) os)))))
theorem segE (w : World) (os : OsState) : segRun treeTable pw w 11 (some (.ref 6)) 1 1000 (stY w os).abs (pcs (((body.drop 3).drop 9).drop 2) p14) = some (.next, (stE w os).abs, .body body env, p24) :=
  segRun_of (run_tw (congrFun (byRow2 "special-get-raises" (P := goE) goE_f goE_t w) os))
end
end Mine.Hd
end PartHd1

section PartHd
open PySem PySem.W PyProof.Rows
namespace Mine.Hd
section
set_option maxRecDepth 100000
noncomputable def K (P : Params) : Frag := (nat_lit 2, (boot_o_2 P)) :: (nat_lit 3, (b3 P)) :: (nat_lit 6, (boot_o_6 P)) :: (nat_lit 17, b17) :: (nat_lit 22, b22) :: (nat_lit 24, b24) :: (nat_lit 31, b31) :: (nat_lit 33, b33) :: (nat_lit 34, b34) :: (nat_lit 36, b36) :: (nat_lit 37, b37) :: (nat_lit 38, b38) :: (nat_lit 40, b40) :: (nat_lit 41, b41) :: (nat_lit 43, b43) :: (nat_lit 44, b44) :: (nat_lit 46, b46) :: (nat_lit 50, b50) :: (nat_lit 51, b51) :: (nat_lit 53, b53) :: (nat_lit 54, b54) :: (nat_lit 56, b56) :: (nat_lit 57, b57) :: (nat_lit 58, b58) :: (nat_lit 59, b59) :: (nat_lit 61, b61) :: (nat_lit 62, b62) :: (nat_lit 64, b64) :: (nat_lit 65, b65) :: (nat_lit 66, b66) :: (nat_lit 68, b68) :: (nat_lit 69, b69) :: (nat_lit 71, b71) :: (nat_lit 72, b72) :: (nat_lit 73, b73) :: (nat_lit 76, b76) :: (nat_lit 77, b77) :: []
def pick {α : Type} : List Bool → List α → List α
  | [], _ => []
  | _ :: _, [] => []
  | true :: bs, a :: as => a :: pick bs as
  | false :: bs, _ :: as => pick bs as
noncomputable def kept : { l : List Stmt // pick [true, true, true, true, true, true, true, true, true, true, false, false, false, false, true, true, true, false, false, false, false, false, true, true] pw.main.body = l } := ⟨_, by unfold pw PySem.Challenge.pw_wy0003_01; dsimp only [pick]⟩
noncomputable def view : Program := { pw with main := { pw.main with body := kept.1 } }
noncomputable def loose : List Str := [Str.ofString "_QUOPRI_MAP", Str.ofString "_QUOPRI_HEADER_MAP", Str.ofString "_QUOPRI_BODY_MAP", Str.ofString "ascii_letters", Str.ofString "hexdigits", Str.ofString "_QUOPRI_BODY_ENCODE_MAP", Str.ofString "body_encode", Str.ofString "decode"]
noncomputable def lv : List (Str × WData) := [(Str.ofString "ascii_letters", .str ⟨#[97, 98, 99, 100, 101, 102, 103, 104, 105, 106, 107, 108, 109, 110, 111, 112, 113, 114, 115, 116, 117, 118, 119, 120, 121, 122, 65, 66, 67, 68, 69, 70, 71, 72, 73, 74, 75, 76, 77, 78, 79, 80, 81, 82, 83, 84, 85, 86, 87, 88, 89, 90]⟩),
  (Str.ofString "hexdigits", .str ⟨#[48, 49, 50, 51, 52, 53, 54, 55, 56, 57, 97, 98, 99, 100, 101, 102, 65, 66, 67, 68, 69, 70]⟩)]
noncomputable def kas : List Addr := [2, 3, 6, 17, 22, 24, 31, 33, 34, 36, 37, 38, 40, 41, 43, 44, 46, 50, 51, 53, 54, 56, 57, 58, 59, 61, 62, 64, 65, 66, 68, 69, 71, 72, 73, 76, 77]
theorem kas_eq (P : Params) : kas = (K P).map (·.1) := by kernel_rfl
noncomputable def hook : Hook := kHook K kas kas_eq
noncomputable def xt (s : Shared) : Bool := xlAt view lv s && recOk (RowW.records PySem.Challenge.rw_wy0003_01.row.toRowW) s
noncomputable def shD (w : World) (os : OsState) : Shared := ⟨hpd w.params, ⟨[]⟩, {}, 187, os⟩
noncomputable def shE (w : World) (os : OsState) : Shared := ⟨hpE w.params, ⟨[]⟩, {}, 1804, os⟩
theorem pre (w : World) (os : OsState) : topGo treeTable pw w 11 (some (.ref 6)) 12 ⟨boot_heap w.params, ⟨[]⟩, boot_drawn, boot_toks, os⟩ (topStub pw) = some (shD w os, ⟨denote treeTable (.body body env), .body body env, p0, [topFrame p0]⟩) := by kernel_rfl
theorem blk (w : World) (os : OsState) : segRun treeTable pw w 11 (some (.ref 6)) 1 1 (shD w os) (blockOf body env (.body body env) p0 [topFrame p0]) = some (.next, (stD w os).abs, .body body env, p0) := by kernel_rfl
theorem fin (w : World) (os : OsState) : topRun treeTable pw w 11 (some (.ref 6)) 2 (stE w os).abs ⟨doneF .next, .body body env, p24, [topFrame p0]⟩ = some (shE w os) := by kernel_rfl
theorem imp (w : World) : importEnds treeTable (opening pw) w 600 (start (opening pw)).1 (start (opening pw)).2 = some ⟨boot_heap w.params, ⟨[]⟩, boot_drawn, boot_toks, (start (opening pw)).1.os⟩ := by kernel_rfl
theorem fence (w : World) : (fun os => (fenceModules? pw ⟨boot_heap w.params, ⟨[]⟩, boot_drawn, boot_toks, os⟩).map (fun s => (s.heap, s.gens, s.drawn, s.toks))) = fun _ => some (boot_heap w.params, ⟨[]⟩, boot_drawn, boot_toks) := by kernel_rfl
theorem opens : ∀ w : World, (fencedOpening treeTable pw w 40000).map (fun s => (s.heap, s.gens, s.drawn, s.toks)) = some (boot_heap w.params, Array.mk [], boot_drawn, boot_toks) :=
  open_cut (He := boot_heap) (M := 600) imp (by kernel_rfl) fence
theorem size (w : World) : ((boot_heap w.params).isNs mainGlobals && (Array.mk [] : Array GenState).size == 0, (boot_heap w.params).objs.size, (boot_heap w.params).nsMap mainGlobals "__annotations__") = (true, 11, some (.ref 6)) := by kernel_rfl
theorem look1 (w : World) (os : OsState) : (staticsOk (importedModules pw.main.body) (boot_heap w.params) (hpE w.params) && namesBound pw (hpE w.params) && gensDone (shE w os) && laidKept (boot_heap w.params) (hpE w.params)) = true := by kernel_rfl
theorem look3 (w : World) (os : OsState) : Hook.obs hook (shE w os) = Hook.val hook w := by kernel_rfl
theorem look2 (w : World) (os : OsState) : openSeen view loose (importedModules pw.main.body) xt true (shE w os) = openGood view loose := by kernel_rfl
theorem pcC (w : World) (os : OsState) : segRun treeTable pw w 11 (some (.ref 6)) 1 9582 (stD w os).abs (piecesOf (body.take 3) env (.body body env) p0 [topFrame p0]) = some (.next, (stC w os).abs, .body body env, p3) := by
  rw [← pcs_eq]; exact segC w os
theorem pcX (w : World) (os : OsState) : segRun treeTable pw w 11 (some (.ref 6)) 1 3221 (stC w os).abs (piecesOf ((body.drop 3).take 9) env (.body body env) p3 [topFrame p0]) = some (.next, (stX w os).abs, .body body env, p12) := by
  rw [← pcs_eq]; exact segX w os
theorem pcY (w : World) (os : OsState) : segRun treeTable pw w 11 (some (.ref 6)) 1 4339 (stX w os).abs (piecesOf (((body.drop 3).drop 9).take 2) env (.body body env) p12 [topFrame p0]) = some (.next, (stY w os).abs, .body body env, p14) := by
  rw [← pcs_eq]; exact segY w os
theorem pcE (w : World) (os : OsState) : segRun treeTable pw w 11 (some (.ref 6)) 1 1000 (stY w os).abs (piecesOf (((body.drop 3).drop 9).drop 2) env (.body body env) p14 [topFrame p0]) = some (.next, (stE w os).abs, .body body env, p24) := by
  rw [← pcs_eq]; exact segE w os
theorem run (w : World) (os : OsState) : topRun treeTable pw w 11 (some (.ref 6)) (12 + (1 + (9582 + (3221 + (4339 + (1000 + 2)))))) ⟨boot_heap w.params, ⟨[]⟩, boot_drawn, boot_toks, os⟩ (topStub pw) = some (shE w os) := by
  have k := piece_app (pcC w os) (piece_app (pcX w os) (piece_app (pcY w os) (piece_app (rest := []) (pcE w os) (piece_nil (fin w os)))))
  rw [List.append_nil, List.take_append_drop, List.take_append_drop, List.take_append_drop] at k
  exact go_top (pre w os) (piece_block (blk w os) k)
theorem left : LeftO PySem.Challenge.rw_wy0003_01.row.prog view loose xt (Hook.obs hook) (Hook.val hook) 40000 :=
  LeftO.of_pieces (H₀ := boot_heap) (H₁ := hpE) opens size run (by decide) fun w => funext fun os => by
    refine looks_pair (look1 w os) (looks_pair (look2 w os) (look3 w os))
end
end Mine.Hd
end PartHd

section PartPl
open PySem PySem.Builtin PySem.Builtin.Str PySem.StrLaws
namespace Mine

abbrev S (l : List Nat) : Str := ⟨l.toArray⟩
theorem S_toList (l : List Nat) : (S l).cps.toList = l := rfl
theorem S_len (l : List Nat) : (S l).length = l.length := by simp [Str.length]
theorem S_app (a b : List Nat) : S a ++ S b = S (a ++ b) := Str.ext' (by simp [Str.cps_append])
theorem S_of (x : Str) : x = S x.cps.toList := Str.ext' (by simp)
theorem S_inj {a b : List Nat} (h : S a = S b) : a = b := by
  have := congrArg (fun x : Str => x.cps.toList) h
  simpa using this
theorem S_beq (a b : List Nat) : (S a == S b) = (a == b) := by
  rw [Bool.eq_iff_iff, beq_iff_eq, beq_iff_eq]
  exact ⟨S_inj, fun h => by rw [h]⟩

/-! ## the coded text as a row of items -/
def hexd (n : Nat) : Nat := if n < 10 then 48 + n else 55 + n
def hex2 (c : Nat) : List Nat := [hexd (c / 16), hexd (c % 16)]
inductive Item where
  | lit (c : Nat)
  | esc (c : Nat)
  | soft
  | hard
def Item.flat (eol : List Nat) : Item → List Nat
  | .lit c => [c]
  | .esc c => 61 :: hex2 c
  | .soft => 61 :: eol
  | .hard => eol
def flat (eol : List Nat) (l : List Item) : List Nat := l.flatMap (Item.flat eol)
def Item.txt : Item → List Nat
  | .lit c => [c]
  | .esc c => [c]
  | .soft => []
  | .hard => [10]
def txt (l : List Item) : List Nat := l.flatMap Item.txt
def Item.good : Item → Prop
  | .lit c => c = 97 ∨ c = 98 ∨ c = 32 ∨ c = 9
  | .esc c => c = 61 ∨ c = 233 ∨ c = 127 ∨ c = 1 ∨ c = 32 ∨ c = 9
  | .soft => True
  | .hard => True
def Item.isTok : Item → Prop
  | .lit _ => True
  | .esc _ => True
  | .soft => False
  | .hard => False
def ok (w : Nat) : Nat → Bool → List Item → Prop
  | _, _, [] => True
  | n, _, .lit c :: r => n + 1 ≤ w ∧ ok w (n + 1) (c == 32 || c == 9) r
  | n, _, .esc _ :: r => n + 3 ≤ w ∧ ok w (n + 3) false r
  | n, _, .soft :: r => n + 1 ≤ w ∧ ok w 0 false r
  | _, b, .hard :: r => b = false ∧ ok w 0 false r
def Alph (c : Nat) : Prop := c = 97 ∨ c = 98 ∨ c = 32 ∨ c = 61 ∨ c = 9 ∨ c = 10 ∨ c = 233 ∨ c = 127 ∨ c = 1
def tok (c : Nat) : Item := if c = 10 then .hard else if c = 97 ∨ c = 98 ∨ c = 32 ∨ c = 9 then .lit c else .esc c
def tr (c : Nat) : List Nat := (tok c).flat [10]

/-! ## splitting at one sign -/
def joinL (sep : List Nat) : List (List Nat) → List Nat
  | [] => []
  | [x] => x
  | x :: rest => x ++ sep ++ joinL sep rest
theorem join_S (sep : List Nat) : ∀ ps : List (List Nat), Str.join (S sep) (ps.map S) = S (joinL sep ps)
  | [] => rfl
  | [x] => rfl
  | x :: y :: r => by
    show S x ++ S sep ++ Str.join (S sep) ((y :: r).map S) = S (x ++ sep ++ joinL sep (y :: r))
    rw [join_S sep (y :: r), S_app, S_app]

def sp : List Nat → List (List Nat)
  | [] => [[]]
  | c :: r => if c = 10 then [] :: sp r else match sp r with
    | [] => [[c]]
    | a :: t => (c :: a) :: t
theorem sp_ne : ∀ l, ∃ a t, sp l = a :: t
  | [] => ⟨[], [], rfl⟩
  | c :: r => by
    unfold sp
    split
    · exact ⟨_, _, rfl⟩
    · split
      · exact ⟨_, _, rfl⟩
      · exact ⟨_, _, rfl⟩
theorem sp_cons_ne {c : Nat} {r a : List Nat} {t : List (List Nat)} (hc : c ≠ 10) (h : sp r = a :: t) : sp (c :: r) = (c :: a) :: t := by
  rw [sp, if_neg hc, h]
theorem sp_pre : ∀ {p r a : List Nat} {t : List (List Nat)}, 10 ∉ p → sp r = a :: t → sp (p ++ r) = (p ++ a) :: t
  | [], _, _, _, _, h => h
  | c :: p, r, a, t, hp, h => by
    have h1 : c ≠ 10 := fun e => hp (by simp [e])
    have h2 : 10 ∉ p := fun e => hp (by simp [e])
    exact sp_cons_ne h1 (sp_pre h2 h)
theorem sp_ten (r : List Nat) : sp (10 :: r) = [] :: sp r := by simp [sp]
theorem sp_free {p : List Nat} (hp : 10 ∉ p) : sp p = [p] := by
  have := sp_pre (r := []) hp rfl
  simpa using this
theorem sp_pre_ten {p : List Nat} (r : List Nat) (hp : 10 ∉ p) : sp (p ++ 10 :: r) = p :: sp r := by
  have := sp_pre hp (sp_ten r)
  simpa using this
theorem sp_join : ∀ ps : List (List Nat), ps ≠ [] → (∀ p ∈ ps, 10 ∉ p) → sp (joinL [10] ps) = ps
  | [], h, _ => absurd rfl h
  | [x], _, h => sp_free (h x (by simp))
  | x :: y :: r, _, h => by
    show sp (x ++ [10] ++ joinL [10] (y :: r)) = _
    rw [List.append_assoc, List.singleton_append, sp_pre_ten _ (h x (by simp)), sp_join (y :: r) (by simp) fun p hp => h p (List.mem_cons_of_mem _ hp)]

theorem split_ne (x y : Str) : Txt.split x y ≠ [] := by
  unfold Txt.split
  split
  · simp
  · split
    · simp
    · rw [partsBetween_eq]
      obtain ⟨p, r, e⟩ := partsFrom_ne x y.length 0 (occurrences x y 0 x.length (x.length + 1))
      rw [e]; simp
theorem split_S (l : List Nat) : Txt.split (S l) (S [10]) = (sp l).map S := by
  have h1 := join_split (S l) (S [10])
  have h2 := split_free (S l) 10
  have e : ∀ ps : List Str, ps = (ps.map fun p => p.cps.toList).map S := fun ps => by
    rw [List.map_map]
    conv => lhs; rw [← List.map_id ps]
    exact List.map_congr_left fun p _ => S_of p
  have h3 := split_ne (S l) (S [10])
  rw [e (Txt.split (S l) (S [10])), join_S] at h1
  have h4 := sp_join ((Txt.split (S l) (S [10])).map fun p => p.cps.toList) (by simpa using h3) (by
    intro p hp
    obtain ⟨q, hq, rfl⟩ := List.mem_map.mp hp
    exact h2 q hq)
  rw [S_inj h1] at h4
  rw [h4]
  exact e _

/-! ## striking out every "=\n" -/
def rep : List Nat → List Nat
  | [] => []
  | [c] => [c]
  | c :: d :: r => if c = 61 ∧ d = 10 then rep r else c :: rep (d :: r)
theorem rep_pair (r : List Nat) : rep (61 :: 10 :: r) = rep r := by simp [rep]
theorem rep_cons {c : Nat} (r : List Nat) (h : ¬ (c = 61 ∧ r.head? = some 10)) : rep (c :: r) = c :: rep r := by
  cases r with
  | nil => rfl
  | cons d r =>
    rw [rep, if_neg]
    simpa using h
theorem rep_far (v : List Nat) : ∀ u : List Nat, (∀ k, k < u.length → ((u ++ v).drop k).take 2 ≠ [61, 10]) → rep (u ++ v) = u ++ rep v
  | [], _ => rfl
  | c :: u, h => by
    have h0 := h 0 (by simp)
    rw [List.cons_append, rep_cons, rep_far v u (fun k hk => h (k + 1) (by simpa using hk))]
    · rfl
    · rintro ⟨rfl, h2⟩
      apply h0
      cases e : u ++ v with
      | nil => rw [e] at h2; cases h2
      | cons d r =>
        rw [e] at h2
        simp only [List.head?_cons, Option.some.injEq] at h2
        subst h2
        rw [List.cons_append, e]; rfl
theorem at_pair (l : List Nat) (k : Nat) : At (S l) (S [61, 10]) (S l).length k ↔ (l.drop k).take 2 = [61, 10] := by
  unfold At
  rw [subAt_eq, S_len, S_len]
  simp only [List.length_cons, List.length_nil, beq_iff_eq]
  constructor
  · exact fun h => h.2
  · intro h
    refine ⟨?_, h⟩
    have := congrArg List.length h
    simp at this
    omega
theorem glue_nil : ∀ ps : List Str, (Str.join (S []) ps).cps.toList = ps.flatMap fun p => p.cps.toList
  | [] => rfl
  | [x] => by show x.cps.toList = [x].flatMap _; simp
  | x :: y :: r => by
    show (x ++ S [] ++ Str.join (S []) (y :: r)).cps.toList = _
    rw [Str.cps_append, Str.cps_append, Array.toList_append, glue_nil (y :: r)]
    simp
theorem parts_rep (l : List Nat) : ∀ (cuts : List Nat) (a f : Nat), a ≤ l.length → ChainG (S l) (S [61, 10]) (S l).length a cuts f → (∀ k, f ≤ k → ¬ At (S l) (S [61, 10]) (S l).length k) →
    (partsFrom (S l) 2 a cuts).flatMap (fun p => p.cps.toList) = rep (l.drop a)
  | [], a, f, ha, h, hn => by
    have e : f = a := h
    subst e
    show [strSub (S l) f (S l).length].flatMap _ = _
    simp only [List.flatMap_cons, List.flatMap_nil, List.append_nil, strSub_toList, S_len]
    have := rep_far [] (l.drop f) (fun k _ => by
      rw [List.append_nil, List.drop_drop]
      exact fun q => hn (f + k) (by omega) ((at_pair l _).mpr q))
    rw [List.append_nil] at this
    rw [this, List.take_of_length_le (by simp)]
    simp [rep]
  | c :: r, a, f, ha, h, hn => by
    obtain ⟨h1, h2, h3, h4⟩ := h
    have hc := (at_pair l c).mp h2
    have hlen : c + 2 ≤ l.length := by
      have := congrArg List.length hc
      simp at this
      omega
    have ih := parts_rep l r (c + 2) f hlen h4 hn
    show (strSub (S l) a c :: partsFrom (S l) 2 (c + 2) r).flatMap _ = _
    rw [List.flatMap_cons, ih, strSub_toList]
    have e1 : l.drop a = (l.drop a).take (c - a) ++ (61 :: 10 :: l.drop (c + 2)) := by
      conv => lhs; rw [← List.take_append_drop (c - a) (l.drop a)]
      congr 1
      rw [List.drop_drop, show a + (c - a) = c from by omega, ← List.take_append_drop 2 (l.drop c), hc, List.drop_drop]
      rfl
    have e2 := rep_far (61 :: 10 :: l.drop (c + 2)) ((l.drop a).take (c - a)) (fun k hk => by
      rw [← e1, List.drop_drop]
      have : k < c - a := by simp at hk; omega
      exact fun q => h3 (a + k) (by omega) (by omega) ((at_pair l _).mpr q))
    rw [← e1, rep_pair] at e2
    exact e2.symm
theorem replace_S (l : List Nat) : Txt.replace (S l) (S [61, 10]) (S []) = S (rep l) := by
  obtain ⟨f, h1, h2⟩ := occ_tight (S l) (S [61, 10]) (by simp [Str.length])
  have h3 := parts_rep l _ 0 f (Nat.zero_le _) h1 h2
  unfold Txt.replace
  split
  · rename_i h
    simp only [Bool.or_eq_true, List.isEmpty_iff] at h
    rcases h with h | h
    · rw [h] at h3
      have e : (partsFrom (S l) 2 0 []) = [strSub (S l) 0 (S l).length] := rfl
      rw [e, sub_whole] at h3
      simp only [List.flatMap_cons, List.flatMap_nil, List.append_nil, List.drop_zero, S_toList] at h3
      rw [← h3]
    · simp [Str.length] at h
  · rw [glued_eq_join, partsBetween_eq]
    refine Str.ext' (Array.toList_inj.mp ?_)
    rw [show (S [61, 10]).length = 2 from rfl, glue_nil, h3]
    simp
end Mine
end PartPl

section PartI16
open PySem PySem.W PyProof.Rows PySem.Calls PySem.NumText
namespace Mine

theorem tc2 (a b : Value) : checkTypeCall "int" ⟨[a, b], []⟩ = pure () := by kernel_rfl
theorem nc2 (a b : Value) : checkBuiltinCall "int.__new__" ⟨[.type "int", a, b], []⟩ = pure () := by kernel_rfl
theorem oi3 (obj a b : Value) : argsOk "object.__init__" ⟨obj :: [a, b], []⟩ := by
  unfold argsOk; kernel_rfl

theorem from16 {M : Model} {A : Around} {E : Value → Shared → Prop} {s : Shared} {Q : Value → Shared → Prop} {v : Value} {text : List Nat} {n : Int}
    (hs : (text.takeWhile (· != 0)).length ≤ 640) (hr : (int_private% "readNumeral") 0 16 (text.takeWhile (· != 0)) = (int_private% "Numeral.value") n)
    (ha : ((text.takeWhile (· != 0)).length == text.length) = true) (h : Q (.int n s.toks) { s with toks := s.toks + 1 }) :
    wpAny M A ((int_private% "intFromText") v text 16) Q E s := by
  obtain ⟨hp, g, d, tk, os⟩ := s
  repeat (any_goals (first
    | assumption
    | (with_reducible refine wpAny_ite_true (decide_eq_true hs) ?_)
    | (with_reducible refine wpAny_ite_true (decide_eq_true ha) ?_)
    | wp_step))
  all_goals (try rw [hr])
  all_goals (try dsimp only)
  repeat (any_goals (first
    | assumption
    | (with_reducible refine wpAny_ite_true (decide_eq_true hs) ?_)
    | (with_reducible refine wpAny_ite_true (decide_eq_true ha) ?_)
    | wp_step))

set_option maxHeartbeats 4000000 in
theorem gives16 {x : List Nat} {u v : Tok} {n : Int} (h8 : ((S x).cps.all (· < 128)) = true) (hs : (x.takeWhile (· != 0)).length ≤ 640) (ha : ((x.takeWhile (· != 0)).length == x.length) = true)
    (hr : (int_private% "readNumeral") 0 16 (x.takeWhile (· != 0)) = (int_private% "Numeral.value") n) : Gives (Builtin.«int.__new__» ⟨[.type "int", .str (S x) u, .int 16 v], []⟩) (.int n) :=
  .of_wp fun M A E s Q h => by
    obtain ⟨hp, g, d, tk, os⟩ := s
    have f1 := F.conv_sub_int
    have f2 := F.madeHere_int
    repeat (any_goals (first
      | assumption
      | (with_reducible refine wpAny_ite_true h8 ?_)
      | ((with_reducible show wpAny _ _ ((int_private% "intFromText") _ _ _) _ _ _); refine from16 hs hr ha ?_)
      | wp_step))
    all_goals (simp only [h8, if_true, S_toList])
    all_goals (refine from16 (v := .str (S x) u) hs hr ha ?_)
    repeat (any_goals (first
      | assumption
      | wp_step))
    all_goals exact ⟨_, rfl, h⟩

theorem call16 {prog : Program} {w : World} {A : Around} {E : Value → Shared → Prop} {s : Shared} {Q : Value → Shared → Prop} {c : Nat} {t u : Tok} (hc : c = 61 ∨ c = 233 ∨ c = 127 ∨ c = 1 ∨ c = 32 ∨ c = 9)
    (h : Q (.int (c : Int) s.toks) { s with toks := s.toks + 1 }) : wpAny (model prog w) A (call (.type "int") [.str (S (hex2 c)) t, .int 16 u]) Q E s := by
  refine callType_new F.called_int F.newNe_int (tc2 _ _) (nc2 _ _) (fun obj => oi3 obj _ _) F.entry_int_new (gives16 (n := (c : Int)) ?_ ?_ ?_ ?_).meets (show (Made.int (c : Int)).post _ s from ⟨rfl, h⟩)
  all_goals (rcases hc with rfl | rfl | rfl | rfl | rfl | rfl)
  all_goals first | decide +kernel | rfl
end Mine
end PartI16

section PartRu
open PySem PySem.W PyProof.Rows PySem.Calls PySem.StrLaws PySem.Builtin PySem.Builtin.Str
namespace Mine
section
variable {prog : Program} {w : World} {A : Around} {E : Value → Shared → Prop} {s : Shared} {t u : Tok}

theorem sz_line {n : Nat} (h : n ≤ 16777216) : n ≤ sizeLine := by rw [sizeLine_eq]; exact h

theorem rTruthyT {l : List Nat} {Q : Bool → Shared → Prop} (hne : l ≠ []) (hl : l.length ≤ 16777216) (h : Q true { s with toks := s.toks + 1 + 1 }) : wpAny (model prog w) A (truthy (.str (S l) t)) Q E s :=
  P.truthy_str (by rw [S_len]; omega) (by
    have : (((S l).length : Int) != 0) = true := by
      rw [S_len, bne_iff_ne]
      intro e
      exact hne (List.length_eq_zero_iff.mp (by omega))
    rw [this]; exact h)
theorem rTruthyF {l : List Nat} {Q : Bool → Shared → Prop} (he : l = []) (h : Q false { s with toks := s.toks + 1 + 1 }) : wpAny (model prog w) A (truthy (.str (S l) t)) Q E s := by
  subst he
  exact P.truthy_str (by decide) h

theorem rConst {M : Model} {env : Env} {x : Str} {k : Nat} {pos : Pos} {l : List Nat} {Q : Value → Shared → Prop} (hx : x = S l) (h : Q (.str (S l) s.toks) { s with toks := s.toks + 1 }) : wpAny M A (eval (.Constant (.str x) k pos) env) Q E s := by
  subst hx
  exact Constant_str h

theorem rAdd {a b : List Nat} {Q : Value → Shared → Prop} (hsz : a.length + b.length ≤ 16777216) (h : ∀ t' tk, Q (.str (S (a ++ b)) t') { s with toks := tk }) : wpAny (model prog w) A (binaryOp .Add (.str (S a) t) (.str (S b) u)) Q E s :=
  PyProof.Rows.add_str (by rw [S_app]; exact h) (by rw [S_len, S_len]; exact sz_line hsz)
theorem rIAdd {a b : List Nat} {Q : Value → Shared → Prop} (hsz : a.length + b.length ≤ 16777216) (h : ∀ t' tk, Q (.str (S (a ++ b)) t') { s with toks := tk }) : wpAny (model prog w) A (inplaceOp .Add (.str (S a) t) (.str (S b) u)) Q E s :=
  PyProof.Rows.iadd_str (by rw [S_app]; exact h) (by rw [S_len, S_len]; exact sz_line hsz)

theorem rEqT {a b : List Nat} {Q : Value → Shared → Prop} (e : a = b) (h : Q (.bool true) s) : wpAny (model prog w) A (compareOp .Eq (.str (S a) t) (.str (S b) u)) Q E s :=
  PyProof.Rows.eq_str (by rw [S_beq, e, beq_self_eq_true]; exact h)
theorem rEqF {a b : List Nat} {Q : Value → Shared → Prop} (e : a ≠ b) (h : Q (.bool false) s) : wpAny (model prog w) A (compareOp .Eq (.str (S a) t) (.str (S b) u)) Q E s :=
  PyProof.Rows.eq_str (by rw [S_beq, beq_eq_false_iff_ne.mpr e]; exact h)
theorem rNeT {a b : List Nat} {Q : Value → Shared → Prop} (e : a ≠ b) (h : Q (.bool true) s) : wpAny (model prog w) A (compareOp .NotEq (.str (S a) t) (.str (S b) u)) Q E s :=
  PyProof.Rows.ne_str (by rw [bne, S_beq, beq_eq_false_iff_ne.mpr e]; exact h)
theorem rNeF {a b : List Nat} {Q : Value → Shared → Prop} (e : a = b) (h : Q (.bool false) s) : wpAny (model prog w) A (compareOp .NotEq (.str (S a) t) (.str (S b) u)) Q E s :=
  PyProof.Rows.ne_str (by rw [bne, S_beq, e, beq_self_eq_true]; exact h)

theorem in_val (c : Nat) (l : List Nat) : (!(occurrences (S l) (S [c]) 0 (S l).length 1).isEmpty) = decide (c ∈ l) := found_one (S l) c
theorem rInT {c : Nat} {l : List Nat} {Q : Value → Shared → Prop} (e : c ∈ l) (h : Q (.bool true) s) : wpAny (model prog w) A (compareOp .In (.str (S [c]) u) (.str (S l) t)) Q E s :=
  PyProof.Rows.in_str (by rw [in_val, decide_eq_true e]; exact h)
theorem rInF {c : Nat} {l : List Nat} {Q : Value → Shared → Prop} (e : c ∉ l) (h : Q (.bool false) s) : wpAny (model prog w) A (compareOp .In (.str (S [c]) u) (.str (S l) t)) Q E s :=
  PyProof.Rows.in_str (by rw [in_val, decide_eq_false e]; exact h)
theorem rNotInT {c : Nat} {l : List Nat} {Q : Value → Shared → Prop} (e : c ∉ l) (h : Q (.bool true) s) : wpAny (model prog w) A (compareOp .NotIn (.str (S [c]) u) (.str (S l) t)) Q E s :=
  PyProof.Rows.notIn_str (by rw [in_val, decide_eq_false e]; exact h)
theorem rNotInF {c : Nat} {l : List Nat} {Q : Value → Shared → Prop} (e : c ∈ l) (h : Q (.bool false) s) : wpAny (model prog w) A (compareOp .NotIn (.str (S [c]) u) (.str (S l) t)) Q E s :=
  PyProof.Rows.notIn_str (by rw [in_val, decide_eq_true e]; exact h)

theorem rInT2 {c : Nat} {x : Str} {l : List Nat} {Q : Value → Shared → Prop} (hx : x = S l) (e : c ∈ l) (h : Q (.bool true) s) : wpAny (model prog w) A (compareOp .In (.str (S [c]) u) (.str x t)) Q E s := by subst hx; exact rInT e h
theorem rInF2 {c : Nat} {x : Str} {l : List Nat} {Q : Value → Shared → Prop} (hx : x = S l) (e : c ∉ l) (h : Q (.bool false) s) : wpAny (model prog w) A (compareOp .In (.str (S [c]) u) (.str x t)) Q E s := by subst hx; exact rInF e h
theorem rEqIntT {a b : Int} {Q : Value → Shared → Prop} (e : a = b) (h : Q (.bool true) s) : wpAny (model prog w) A (compareOp .Eq (.int a t) (.int b u)) Q E s :=
  PyProof.Rows.eq_int (by rw [beq_iff_eq.mpr e]; exact h)
theorem rEqIntF {a b : Int} {Q : Value → Shared → Prop} (e : a ≠ b) (h : Q (.bool false) s) : wpAny (model prog w) A (compareOp .Eq (.int a t) (.int b u)) Q E s :=
  PyProof.Rows.eq_int (by rw [beq_eq_false_iff_ne.mpr e]; exact h)
theorem rNeIntT {a b : Int} {Q : Value → Shared → Prop} (e : a ≠ b) (h : Q (.bool true) s) : wpAny (model prog w) A (compareOp .NotEq (.int a t) (.int b u)) Q E s :=
  PyProof.Rows.ne_int (by rw [bne, beq_eq_false_iff_ne.mpr e]; exact h)
theorem rNeIntF {a b : Int} {Q : Value → Shared → Prop} (e : a = b) (h : Q (.bool false) s) : wpAny (model prog w) A (compareOp .NotEq (.int a t) (.int b u)) Q E s :=
  PyProof.Rows.ne_int (by rw [bne, beq_iff_eq.mpr e]; exact h)

theorem rLen {l : List Nat} {Q : Value → Shared → Prop} (hl : l.length ≤ 16777216) (h : Q (.int (l.length : Nat) (s.toks + 1)) { s with toks := s.toks + 1 + 1 }) : wpAny (model prog w) A (call (.builtin "len") [.str (S l) t]) Q E s :=
  PyProof.Rows.len_str (by rw [S_len]; omega) (by rw [S_len]; exact h)

theorem item_S {l : List Nat} {i : Int} {c : Nat} (h0 : 0 ≤ i) (hc : l[i.toNat]? = some c) : Txt.item (S l) i = S [c] := by
  have hlt : i.toNat < l.length := (List.getElem?_eq_some_iff.mp hc).1
  have e : (seqIndex? i (S l).length).bind ((S l).cps[·]?) = some c := at_nonneg h0 (by simpa using hc)
  unfold Txt.item Txt.charAt
  rw [e]; rfl
theorem item_S_last {l : List Nat} {c : Nat} (hc : l.getLast? = some c) : Txt.item (S l) (-1) = S [c] := by
  have hne : l ≠ [] := by rintro rfl; cases hc
  have hp := List.length_pos_iff.mpr hne
  have e : (seqIndex? (-1) (S l).length).bind ((S l).cps[·]?) = some c := at_neg (by omega) (by rw [S_len]; omega) (by
    rw [S_len, show ((-1 : Int) + (l.length : Int)).toNat = l.length - 1 from by omega]
    rw [List.getLast?_eq_getElem?] at hc
    simpa using hc)
  unfold Txt.item Txt.charAt
  rw [e]; rfl

theorem rItem {value slice : Expr} {l : List Nat} {i : Int} {c : Nat} {Q : Value → Shared → Prop} (h0 : 0 ≤ i) (hc : l[i.toNat]? = some c) (hl : l.length ≤ 16777216)
    (h : Q (.str (S [c]) s.toks) { s with toks := s.toks + 1 })
    (hs : subscripted slice false (.str (S l) t) (.int i u) = operate [.str (S l) t, .int i u] (getItem (.str (S l) t) (.int i u)) := by with_unfolding_all rfl)
    (ht : ∀ r, letTemporaryGo value (.str (S l) t) r = pure () := by intro _; with_unfolding_all rfl) :
    wpAny (model prog w) A (subscriptTail value slice (.str (S l) t) (.int i u)) Q E s := by
  have hlt : i.toNat < l.length := (List.getElem?_eq_some_iff.mp hc).1
  refine PyProof.Rows.item_str ?_ ?_ ?_ (fun _ => ?_) hs ht
  · unfold fitsSsize
    rw [Bool.not_eq_true', Bool.or_eq_false_iff, decide_eq_false_iff_not, decide_eq_false_iff_not]
    omega
  · omega
  · rw [S_len]; omega
  · rw [item_S h0 hc]; exact h
theorem rItemLast {value slice : Expr} {l : List Nat} {c : Nat} {Q : Value → Shared → Prop} (hc : l.getLast? = some c) (hl : l.length ≤ 16777216)
    (h : Q (.str (S [c]) s.toks) { s with toks := s.toks + 1 })
    (hs : subscripted slice false (.str (S l) t) (.int (-1) u) = operate [.str (S l) t, .int (-1) u] (getItem (.str (S l) t) (.int (-1) u)) := by with_unfolding_all rfl)
    (ht : ∀ r, letTemporaryGo value (.str (S l) t) r = pure () := by intro _; with_unfolding_all rfl) :
    wpAny (model prog w) A (subscriptTail value slice (.str (S l) t) (.int (-1) u)) Q E s := by
  have hne : l ≠ [] := by rintro rfl; cases hc
  have hp := List.length_pos_iff.mpr hne
  refine PyProof.Rows.item_str (by decide) ?_ ?_ (fun _ => ?_) hs ht
  · rw [S_len]; omega
  · rw [S_len]; omega
  · rw [item_S_last hc]; exact h

theorem slice_S {l r : List Nat} {i j : Int} (h0 : 0 ≤ i) (h1 : i ≤ j) (h2 : j ≤ l.length) (hr : (l.drop i.toNat).take (j - i).toNat = r) : Txt.slice (S l) (some i) (some j) = S r := by
  rw [← hr]
  exact sliceText_plain (x := S l) ⟨h0, h1, h2⟩
theorem slice_S_from {l r : List Nat} {i : Int} (h0 : 0 ≤ i) (h1 : i ≤ l.length) (hr : l.drop i.toNat = r) : Txt.slice (S l) (some i) none = S r := by
  rw [← hr]
  refine (sliceText_from (x := S l) ⟨h0, h1⟩).trans ?_
  show S _ = S _
  congr 1
  rw [S_toList, List.take_of_length_le]
  simp; omega
theorem slice_S_neg {l r : List Nat} {i j : Int} (h0 : 0 ≤ i) (hj : j < 0) (hj2 : -(l.length : Int) ≤ j) (h1 : i ≤ j + l.length) (hr : (l.drop i.toNat).take (j + l.length - i).toNat = r) : Txt.slice (S l) (some i) (some j) = S r := by
  have e := sliceText_neg_hi (S l) (some i) hj (by rw [S_len]; exact hj2)
  rw [S_len] at e
  show sliceText (S l) (some i) (some j) = _
  rw [e]
  exact slice_S h0 h1 (by omega) hr
theorem slice_S_to {l r : List Nat} {j : Int} (hj : j < 0) (hj2 : -(l.length : Int) ≤ j) (hr : l.take (j + l.length).toNat = r) : Txt.slice (S l) none (some j) = S r := by
  rw [← hr]
  refine (sliceText_to_neg (x := S l) hj (by rw [S_len]; exact hj2)).trans ?_
  show S _ = S _
  congr 1
  rw [S_toList, List.drop_zero, S_len]
  congr 1
  omega
end

section
variable {prog : Program} {w : World} {A : Around} {E : Value → Shared → Prop} {s : Shared} {value slice : Expr} {t : Tok} {h₀ : Heap} {L : Addr} {m : Str → Option Value} {news : List (Addr × Obj)} {Q : Value → Shared → Prop} {l r : List Nat}

theorem rSlice {i j : Int} {ui uj : Tok} (hF : Fr h₀ L s.heap m) (hN : News h₀ L s.heap news) (h0 : 0 ≤ i) (h1 : i ≤ j) (h2 : j ≤ l.length) (hl : l.length ≤ 16777216) (hr : (l.drop i.toNat).take (j - i).toNat = r)
    (h : ∀ h' t' k, Fr h₀ L h' m → News h₀ L h' news → Q (.str (S r) t') { s with heap := h', toks := k })
    (hs : subscripted slice false (.str (S l) t) (.ref s.heap.objs.size) = operate [.ref s.heap.objs.size, .str (S l) t] (getItem (.str (S l) t) (.ref s.heap.objs.size)) := by with_unfolding_all rfl)
    (ht : ∀ r, letTemporaryGo value (.str (S l) t) r = pure () := by intro _; with_unfolding_all rfl) :
    wpAny (model prog w) A (subscriptTail value slice (.str (S l) t) (.ref s.heap.objs.size)) Q E { s with heap := s.heap.push { cls := .type "slice", data := .fields #[.int i ui, .int j uj, .none] } } :=
  slice_strN_ss hF hN (fun h' t' k F N => by rw [slice_S h0 h1 h2 hr]; exact h h' t' k F N) hs ht (by rw [S_len]; exact sz_line hl)
theorem rSliceNeg {i j : Int} {ui uj : Tok} (hF : Fr h₀ L s.heap m) (hN : News h₀ L s.heap news) (h0 : 0 ≤ i) (hj : j < 0) (hj2 : -(l.length : Int) ≤ j) (h1 : i ≤ j + l.length) (hl : l.length ≤ 16777216) (hr : (l.drop i.toNat).take (j + l.length - i).toNat = r)
    (h : ∀ h' t' k, Fr h₀ L h' m → News h₀ L h' news → Q (.str (S r) t') { s with heap := h', toks := k })
    (hs : subscripted slice false (.str (S l) t) (.ref s.heap.objs.size) = operate [.ref s.heap.objs.size, .str (S l) t] (getItem (.str (S l) t) (.ref s.heap.objs.size)) := by with_unfolding_all rfl)
    (ht : ∀ r, letTemporaryGo value (.str (S l) t) r = pure () := by intro _; with_unfolding_all rfl) :
    wpAny (model prog w) A (subscriptTail value slice (.str (S l) t) (.ref s.heap.objs.size)) Q E { s with heap := s.heap.push { cls := .type "slice", data := .fields #[.int i ui, .int j uj, .none] } } :=
  slice_strN_ss hF hN (fun h' t' k F N => by rw [slice_S_neg h0 hj hj2 h1 hr]; exact h h' t' k F N) hs ht (by rw [S_len]; exact sz_line hl)
theorem rSliceFrom {i : Int} {ui : Tok} (hF : Fr h₀ L s.heap m) (hN : News h₀ L s.heap news) (h0 : 0 ≤ i) (h1 : i ≤ l.length) (hl : l.length ≤ 16777216) (hr : l.drop i.toNat = r)
    (h : ∀ h' t' k, Fr h₀ L h' m → News h₀ L h' news → Q (.str (S r) t') { s with heap := h', toks := k })
    (hs : subscripted slice false (.str (S l) t) (.ref s.heap.objs.size) = operate [.ref s.heap.objs.size, .str (S l) t] (getItem (.str (S l) t) (.ref s.heap.objs.size)) := by with_unfolding_all rfl)
    (ht : ∀ r, letTemporaryGo value (.str (S l) t) r = pure () := by intro _; with_unfolding_all rfl) :
    wpAny (model prog w) A (subscriptTail value slice (.str (S l) t) (.ref s.heap.objs.size)) Q E { s with heap := s.heap.push { cls := .type "slice", data := .fields #[.int i ui, .none, .none] } } :=
  slice_strN_sn hF hN (fun h' t' k F N => by rw [slice_S_from h0 h1 hr]; exact h h' t' k F N) hs ht (by rw [S_len]; exact sz_line hl)
theorem rSliceTo {j : Int} {uj : Tok} (hF : Fr h₀ L s.heap m) (hN : News h₀ L s.heap news) (hj : j < 0) (hj2 : -(l.length : Int) ≤ j) (hl : l.length ≤ 16777216) (hr : l.take (j + l.length).toNat = r)
    (h : ∀ h' t' k, Fr h₀ L h' m → News h₀ L h' news → Q (.str (S r) t') { s with heap := h', toks := k })
    (hs : subscripted slice false (.str (S l) t) (.ref s.heap.objs.size) = operate [.ref s.heap.objs.size, .str (S l) t] (getItem (.str (S l) t) (.ref s.heap.objs.size)) := by with_unfolding_all rfl)
    (ht : ∀ r, letTemporaryGo value (.str (S l) t) r = pure () := by intro _; with_unfolding_all rfl) :
    wpAny (model prog w) A (subscriptTail value slice (.str (S l) t) (.ref s.heap.objs.size)) Q E { s with heap := s.heap.push { cls := .type "slice", data := .fields #[.none, .int j uj, .none] } } :=
  slice_strN_ns hF hN (fun h' t' k F N => by rw [slice_S_to hj hj2 hr]; exact h h' t' k F N) hs ht (by rw [S_len]; exact sz_line hl)
end

theorem lit_eq : Str.ofString "=" = S [61] := by decide +kernel
theorem lit_nl : Str.ofString "\n" = S [10] := by decide +kernel
theorem lit_crnl : Str.ofString "\r\n" = S [13, 10] := by decide +kernel
theorem lit_empty : Str.ofString "" = S [] := by decide +kernel
theorem lit_bt : Str.ofString " \t" = S [32, 9] := by decide +kernel
theorem lit_b : Str.ofString " " = S [32] := by decide +kernel
theorem lit_t : Str.ofString "\t" = S [9] := by decide +kernel
theorem lit_eqnl : Str.ofString "=\n" = S [61, 10] := by decide +kernel
theorem lit_hex : Str.ofString "0123456789abcdefABCDEF" = S [48, 49, 50, 51, 52, 53, 54, 55, 56, 57, 97, 98, 99, 100, 101, 102, 65, 66, 67, 68, 69, 70] := by decide +kernel
theorem lit_menu : Str.ofString "ab =\t\né\x7f\x01" = S [97, 98, 32, 61, 9, 10, 233, 127, 1] := by decide +kernel
end Mine
end PartRu

section PartPm
open PySem PySem.Builtin PySem.Builtin.Str PySem.StrLaws
namespace Mine

/-! ## items -/
theorem flat_nil (eol : List Nat) : flat eol [] = [] := rfl
theorem flat_cons (eol : List Nat) (i : Item) (l : List Item) : flat eol (i :: l) = i.flat eol ++ flat eol l := List.flatMap_cons
theorem flat_app (eol : List Nat) (a b : List Item) : flat eol (a ++ b) = flat eol a ++ flat eol b := List.flatMap_append
theorem txt_cons (i : Item) (l : List Item) : txt (i :: l) = i.txt ++ txt l := List.flatMap_cons
theorem txt_app (a b : List Item) : txt (a ++ b) = txt a ++ txt b := List.flatMap_append
theorem txt_nil : txt [] = [] := rfl
def Toks (t : List Item) : Prop := ∀ i ∈ t, i.isTok ∧ i.good
theorem Toks.cons {i : Item} {t : List Item} (h : Toks (i :: t)) : (i.isTok ∧ i.good) ∧ Toks t := ⟨h i (by simp), fun j hj => h j (List.mem_cons_of_mem _ hj)⟩
theorem Toks.app {a b : List Item} (h : Toks (a ++ b)) : Toks a ∧ Toks b := ⟨fun i hi => h i (by simp [hi]), fun i hi => h i (by simp [hi])⟩
theorem Toks.mk {a b : List Item} (ha : Toks a) (hb : Toks b) : Toks (a ++ b) := fun i hi => (List.mem_append.mp hi).elim (ha i) (hb i)
def tf (t : List Item) : List Nat := flat [] t
theorem tf_eq (eol : List Nat) : ∀ {t : List Item}, Toks t → flat eol t = tf t
  | [], _ => rfl
  | i :: t, h => by
    have h' := h.cons
    unfold tf
    rw [flat_cons, flat_cons, tf_eq eol h'.2]
    cases i with
    | lit c => rfl
    | esc c => rfl
    | soft => exact h'.1.1.elim
    | hard => exact h'.1.1.elim
theorem tf_cons (i : Item) (t : List Item) : tf (i :: t) = i.flat [] ++ tf t := flat_cons _ _ _
theorem tf_app (a b : List Item) : tf (a ++ b) = tf a ++ tf b := flat_app _ _ _
theorem tok_pos {i : Item} (h : i.isTok) : 1 ≤ (i.flat []).length := by
  cases i with
  | lit c => simp [Item.flat]
  | esc c => simp [Item.flat]
  | soft => exact h.elim
  | hard => exact h.elim
theorem tf_nil_iff {t : List Item} (h : Toks t) : tf t = [] ↔ t = [] := by
  constructor
  · intro e
    cases t with
    | nil => rfl
    | cons i t =>
      have h1 := tok_pos h.cons.1.1
      have := congrArg List.length e
      rw [tf_cons, List.length_append, List.length_nil] at this
      omega
  · rintro rfl; rfl
theorem tf_len {t : List Item} (h : Toks t) : (txt t).length = t.length ∧ t.length ≤ (tf t).length ∧ (tf t).length ≤ 3 * t.length := by
  induction t with
  | nil => simp [txt, tf, flat]
  | cons i t ih =>
    have h' := h.cons
    have := ih h'.2
    rw [txt_cons, tf_cons, List.length_append, List.length_append, List.length_cons]
    cases i with
    | lit c => simp only [Item.txt, Item.flat, List.length_cons, List.length_nil]; omega
    | esc c => simp only [Item.txt, Item.flat, List.length_cons, List.length_nil, hex2]; omega
    | soft => exact h'.1.1.elim
    | hard => exact h'.1.1.elim

theorem hexd_cases (n : Nat) (h : n < 16) : (48 ≤ hexd n ∧ hexd n ≤ 57) ∨ (65 ≤ hexd n ∧ hexd n ≤ 70) := by
  unfold hexd
  split <;> omega
theorem good_lt {c : Nat} (h : (Item.esc c).good) : c < 256 := by
  rcases h with rfl | rfl | rfl | rfl | rfl | rfl <;> decide
theorem hex_of {c : Nat} (h : (Item.esc c).good) : ∃ a b, hex2 c = [a, b] ∧ ((48 ≤ a ∧ a ≤ 57) ∨ (65 ≤ a ∧ a ≤ 70)) ∧ ((48 ≤ b ∧ b ≤ 57) ∨ (65 ≤ b ∧ b ≤ 70)) := by
  have hc := good_lt h
  exact ⟨_, _, rfl, hexd_cases _ (by omega), hexd_cases _ (by omega)⟩

/-- where an equals sign stands a token begins -/
theorem cut_at : ∀ (t : List Item) (p : Nat), Toks t → (tf t)[p]? = some 61 → ∃ u v, t = u ++ v ∧ (tf u).length = p
  | [], p, _, h => by cases h
  | i :: t, p, ht, h => by
    have h' := ht.cons
    cases p with
    | zero => exact ⟨[], i :: t, rfl, rfl⟩
    | succ p =>
      rw [tf_cons] at h
      cases i with
      | lit c =>
        obtain ⟨u, v, e, hu⟩ := cut_at t p h'.2 (by simpa [Item.flat] using h)
        exact ⟨.lit c :: u, v, by rw [e]; rfl, by rw [tf_cons, List.length_append, hu]; simp [Item.flat]; omega⟩
      | esc c =>
        obtain ⟨a, b, e, ha, hb⟩ := hex_of h'.1.2
        simp only [Item.flat, e] at h
        match p, h with
        | 0, h => simp at h; omega
        | 1, h => simp at h; omega
        | p + 2, h =>
          obtain ⟨u, v, e', hu⟩ := cut_at t p h'.2 (by simpa using h)
          exact ⟨.esc c :: u, v, by rw [e']; rfl, by rw [tf_cons, List.length_append, hu]; simp [Item.flat, e]; omega⟩
      | soft => exact h'.1.1.elim
      | hard => exact h'.1.1.elim
theorem cut_off : ∀ (t : List Item) (p : Nat), Toks t → p ≤ (tf t).length → (∀ q, q + 1 = p → (tf t)[q]? ≠ some 61) → (∀ q, q + 2 = p → (tf t)[q]? ≠ some 61) → ∃ u v, t = u ++ v ∧ (tf u).length = p
  | [], p, _, hp, _, _ => ⟨[], [], rfl, by simp [tf, flat] at hp; simp [tf, flat, hp]⟩
  | i :: t, p, ht, hp, h1, h2 => by
    have h' := ht.cons
    cases p with
    | zero => exact ⟨[], i :: t, rfl, rfl⟩
    | succ p =>
      rw [tf_cons] at h1 h2 hp
      cases i with
      | lit c =>
        obtain ⟨u, v, e, hu⟩ := cut_off t p h'.2 (by simp [Item.flat] at hp; omega) (fun q hq => by
          have := h1 (q + 1) (by omega); simpa [Item.flat] using this) (fun q hq => by
          have := h2 (q + 1) (by omega); simpa [Item.flat] using this)
        exact ⟨.lit c :: u, v, by rw [e]; rfl, by rw [tf_cons, List.length_append, hu]; simp [Item.flat]; omega⟩
      | esc c =>
        obtain ⟨a, b, e, ha, hb⟩ := hex_of h'.1.2
        simp only [Item.flat, e] at h1 h2 hp
        match p with
        | 0 => exact absurd (by simp) (h1 0 rfl)
        | 1 => exact absurd (by simp) (h2 0 rfl)
        | p + 2 =>
          obtain ⟨u, v, e', hu⟩ := cut_off t p h'.2 (by simp at hp; omega) (fun q hq => by
            have := h1 (q + 3) (by omega); simpa using this) (fun q hq => by
            have := h2 (q + 3) (by omega); simpa using this)
          exact ⟨.esc c :: u, v, by rw [e']; rfl, by rw [tf_cons, List.length_append, hu]; simp [Item.flat, e]; omega⟩
      | soft => exact h'.1.1.elim
      | hard => exact h'.1.1.elim

/-! ## the width -/
def Okc (w : Nat) (l : List Item) : Prop := ∀ r, ok w 0 false r → ok w 0 false (l ++ r)
theorem okc_nil (w : Nat) : Okc w [] := fun _ h => h
theorem Okc.app {w : Nat} {a b : List Item} (ha : Okc w a) (hb : Okc w b) : Okc w (a ++ b) := fun r h => by
  rw [List.append_assoc]; exact ha _ (hb _ h)
theorem ok_toks (w : Nat) : ∀ (u : List Item) (n : Nat) (b : Bool) (r : List Item), Toks u → n + (tf u).length ≤ w → (∀ b', ok w (n + (tf u).length) b' r) → ok w n b (u ++ r)
  | [], n, b, r, _, _, h => by simpa [tf, flat] using h b
  | i :: u, n, b, r, hu, hn, h => by
    have h' := hu.cons
    rw [tf_cons, List.length_append] at hn h
    rw [List.cons_append]
    cases i with
    | lit c =>
      simp only [Item.flat, List.length_cons, List.length_nil] at hn h
      exact ⟨by omega, ok_toks w u _ _ r h'.2 (by omega) fun b' => by
        have := h b'
        rwa [show n + (0 + 1 + (tf u).length) = n + 1 + (tf u).length from by omega] at this⟩
    | esc c =>
      simp only [Item.flat, List.length_cons, List.length_nil, hex2] at hn h
      exact ⟨by omega, ok_toks w u _ _ r h'.2 (by omega) fun b' => by
        have := h b'
        rwa [show n + (0 + 1 + 1 + 1 + (tf u).length) = n + 3 + (tf u).length from by omega] at this⟩
    | soft => exact h'.1.1.elim
    | hard => exact h'.1.1.elim
theorem okc_soft {w : Nat} {u : List Item} (hu : Toks u) (h : (tf u).length + 1 ≤ w) : Okc w (u ++ [.soft]) := fun r hr => by
  rw [List.append_assoc]
  exact ok_toks w u 0 false _ hu (by omega) fun b' => ⟨by omega, hr⟩
def lastBlank (t : List Item) : Bool := match t.getLast? with
  | some (.lit c) => c == 32 || c == 9
  | _ => false
theorem lastBlank_cons (i j : Item) (t : List Item) : lastBlank (i :: j :: t) = lastBlank (j :: t) := by
  unfold lastBlank; rw [List.getLast?_cons_cons]
theorem ok_toks' (w : Nat) : ∀ (u : List Item) (n : Nat) (b : Bool) (r : List Item), Toks u → n + (tf u).length ≤ w → ok w (n + (tf u).length) (if u = [] then b else lastBlank u) r → ok w n b (u ++ r)
  | [], n, b, r, _, _, h => by simpa [tf, flat] using h
  | i :: u, n, b, r, hu, hn, h => by
    have h' := hu.cons
    rw [tf_cons, List.length_append] at hn h
    rw [if_neg (by simp)] at h
    rw [List.cons_append]
    cases i with
    | lit c =>
      simp only [Item.flat, List.length_cons, List.length_nil] at hn h
      refine ⟨by omega, ok_toks' w u _ _ r h'.2 (by omega) ?_⟩
      rw [show n + (0 + 1 + (tf u).length) = n + 1 + (tf u).length from by omega] at h
      cases u with
      | nil => exact h
      | cons j u => rw [lastBlank_cons] at h; exact h
    | esc c =>
      simp only [Item.flat, List.length_cons, List.length_nil, hex2] at hn h
      refine ⟨by omega, ok_toks' w u _ _ r h'.2 (by omega) ?_⟩
      rw [show n + (0 + 1 + 1 + 1 + (tf u).length) = n + 3 + (tf u).length from by omega] at h
      cases u with
      | nil => exact h
      | cons j u => rw [lastBlank_cons] at h; exact h
    | soft => exact h'.1.1.elim
    | hard => exact h'.1.1.elim
theorem okc_hard {w : Nat} {u : List Item} (hu : Toks u) (h : (tf u).length ≤ w) (hb : lastBlank u = false) : Okc w (u ++ [.hard]) := fun r hr => by
  rw [List.append_assoc]
  refine ok_toks' w u 0 false _ hu (by omega) ⟨?_, hr⟩
  split
  · rfl
  · exact hb
theorem okc_hard1 (w : Nat) : Okc w [.hard] := fun r hr => ⟨rfl, hr⟩

/-- the last sign of a row of tokens -/
theorem last_sign : ∀ {t : List Item}, Toks t → t ≠ [] → (∃ t' c, t = t' ++ [.lit c] ∧ (tf t).getLast? = some c ∧ (Item.lit c).good) ∨ (lastBlank t = false ∧ ∃ d, (tf t).getLast? = some d ∧ ((48 ≤ d ∧ d ≤ 57) ∨ (65 ≤ d ∧ d ≤ 70)))
  | t, ht, hne => by
    obtain ⟨t', i, rfl⟩ : ∃ t' i, t = t' ++ [i] := ⟨t.dropLast, t.getLast hne, (List.dropLast_concat_getLast hne).symm⟩
    have h2 := ht.app.2 i (by simp)
    rw [tf_app]
    cases i with
    | lit c => exact .inl ⟨t', c, rfl, by simp [tf, flat, Item.flat], h2.2⟩
    | esc c =>
      obtain ⟨a, b, e, ha, hb⟩ := hex_of h2.2
      refine .inr ⟨by simp [lastBlank], b, ?_, hb⟩
      simp [tf, flat, Item.flat, e]
    | soft => exact h2.1.elim
    | hard => exact h2.1.elim
end Mine
end PartPm

section PartPn
open PySem PySem.Builtin PySem.Builtin.Str PySem.StrLaws
namespace Mine

/-! ## the rows of a text -/
def lnA (acc : List Nat) : List Nat → List (List Nat)
  | [] => if acc = [] then [] else [acc]
  | c :: r => if Unicode.isLineBreak c = true then acc :: lnA [] (if c = 13 ∧ r.head? = some 10 then r.tail else r) else lnA (acc ++ [c]) r
termination_by l => l.length
decreasing_by
  · simp only [List.length_cons]
    split
    · have := List.length_tail (l := r); omega
    · omega
  · simp

def sps (s : Str) : Nat → Nat → Nat → List (Nat × Nat × Nat)
  | 0, cur, start => if start < cur then [(start, cur, cur)] else []
  | m + 1, cur, start => if (decide (start ≤ cur) && Unicode.isLineBreak (s.cps.getD cur 0)) = true then (start, cur, lsNext s cur) :: sps s m (cur + 1) (lsNext s cur) else sps s m (cur + 1) start
theorem ls_sps (s : Str) : ∀ (m cur : Nat) (arr : Array (Nat × Nat × Nat)) (start : Nat), cur + m = s.length →
    lsEnd s (Id.run (forIn (m := Id) (List.range' cur m) ((arr, start) : LsSt) (lsBody s))) = arr.toList ++ sps s m cur start
  | 0, cur, arr, start, h => by
    have e : cur = s.length := by omega
    subst e
    show lsEnd s (arr, start) = _
    unfold lsEnd sps
    dsimp only
    split
    · simp
    · simp
  | m + 1, cur, arr, start, h => by
    rw [List.range'_succ, List.forIn_cons, sps]
    unfold lsBody
    by_cases hc : (decide (start ≤ cur) && Unicode.isLineBreak (s.cps.getD cur 0)) = true
    · simp only [hc, if_true]
      have := ls_sps s m (cur + 1) (arr.push (start, cur, lsNext s cur)) (lsNext s cur) (by omega)
      rw [Array.toList_push, List.append_assoc, List.singleton_append] at this
      exact this
    · simp only [hc, Bool.false_eq_true, if_false]
      exact ls_sps s m (cur + 1) arr start (by omega)
theorem drop_cons_get {l : List Nat} {k c : Nat} (h : l[k]? = some c) : l.drop k = c :: l.drop (k + 1) := by
  have hlt := (List.getElem?_eq_some_iff.mp h).1
  rw [List.drop_eq_getElem_cons hlt]
  congr 1
  exact (List.getElem?_eq_some_iff.mp h).2
theorem sps_ln (l : List Nat) : ∀ (m cur start : Nat), cur + m = l.length → start ≤ cur →
    (sps (S l) m cur start).map (fun p => (l.drop p.1).take (p.2.1 - p.1)) = lnA ((l.drop start).take (cur - start)) (l.drop cur)
  | 0, cur, start, h, hs => by
    have e : cur = l.length := by omega
    subst e
    rw [List.drop_length, lnA, sps]
    by_cases h1 : start < l.length
    · rw [if_pos h1, if_neg]
      · rfl
      · intro e
        have := congrArg List.length e
        simp at this
        omega
    · rw [if_neg h1, if_pos]
      · rfl
      · rw [show l.length - start = 0 from by omega, List.take_zero]
  | m + 1, cur, start, h, hs => by
    obtain ⟨c, hc⟩ : ∃ c, l[cur]? = some c := ⟨l[cur], List.getElem?_eq_getElem _⟩
    have hg : (S l).cps.getD cur 0 = c := getD_of_getElem? (x := S l) hc
    have hacc : (l.drop start).take (cur + 1 - start) = (l.drop start).take (cur - start) ++ [c] := by
      rw [show cur + 1 - start = (cur - start) + 1 from by omega, List.take_add_one, List.getElem?_drop, show start + (cur - start) = cur from by omega, hc]
      rfl
    rw [sps, hg, drop_cons_get hc, lnA]
    by_cases hb : Unicode.isLineBreak c = true
    · rw [if_pos (by simp [hs, hb]), if_pos hb, List.map_cons]
      have hn : lsNext (S l) cur = if c = 13 ∧ l[cur + 1]? = some 10 then cur + 2 else cur + 1 := by
        unfold lsNext
        rw [hg]
        have : (S l).cps[cur + 1]? = l[cur + 1]? := by simp
        rw [this]
        by_cases hq : c = 13 ∧ l[cur + 1]? = some 10
        · rw [if_pos hq, if_pos (by rw [hq.1, hq.2]; rfl)]
        · rw [if_neg hq, if_neg (by rw [Bool.and_eq_true, beq_iff_eq, beq_iff_eq]; exact hq)]
      have hh : (l.drop (cur + 1)).head? = l[cur + 1]? := by rw [List.head?_drop]
      rw [hh, hn]
      congr 1
      by_cases hq : c = 13 ∧ l[cur + 1]? = some 10
      · rw [if_pos hq, if_pos hq]
        have hlt := (List.getElem?_eq_some_iff.mp hq.2).1
        match m, h with
        | 0, h => omega
        | m + 1, h =>
          rw [sps, if_neg (by simp)]
          have := sps_ln l m (cur + 1 + 1) (cur + 2) (by omega) (by omega)
          rw [this, show cur + 1 + 1 - (cur + 2) = 0 from by omega, List.take_zero, List.tail_drop]
      · rw [if_neg hq, if_neg hq]
        have := sps_ln l m (cur + 1) (cur + 1) (by omega) (by omega)
        rw [this, Nat.sub_self, List.take_zero]
    · rw [if_neg (by simp [hb]), if_neg hb]
      have := sps_ln l m (cur + 1) start (by omega) (by omega)
      rw [this, hacc]
theorem lines_S (l : List Nat) : Txt.lines (S l) = (lnA [] l).map S := by
  have h1 : lineSpans (S l) = sps (S l) l.length 0 0 := by
    rw [ls_eq, S_len]
    have := ls_sps (S l) l.length 0 #[] 0 (by rw [S_len]; omega)
    simpa using this
  have h2 := sps_ln l l.length 0 0 (by omega) (by omega)
  rw [Nat.sub_self, List.take_zero, List.drop_zero] at h2
  have h3 : linesOf (S l) = (lnA [] l).map S := by
    rw [← h2, ← h1]
    unfold linesOf lineCuts
    rw [List.map_map, List.map_map]
    refine List.map_congr_left fun p _ => ?_
    show strSub (S l) p.1 p.2.1 = S _
    rw [S_of (strSub (S l) p.1 p.2.1), strSub_toList]
  unfold Txt.lines
  split
  · rename_i hq
    rw [beq_iff_eq] at hq
    unfold linesOf at h3
    rw [hq] at h3
    rw [← h3]
    show _ = [strSub (S l) 0 (S l).length]
    rw [sub_whole]
  · exact h3

def Brk (c : Nat) : Prop := Unicode.isLineBreak c = true
theorem lnA_pre : ∀ (p acc l : List Nat), (∀ c ∈ p, Unicode.isLineBreak c = false) → lnA acc (p ++ l) = lnA (acc ++ p) l
  | [], acc, l, _ => by simp
  | c :: p, acc, l, h => by
    rw [List.cons_append, lnA, if_neg (by rw [h c (by simp)]; decide), lnA_pre p _ l fun d hd => h d (List.mem_cons_of_mem _ hd)]
    simp
def Eol (eol : List Nat) : Prop := eol = [10] ∨ eol = [13, 10]
theorem lnA_eol {eol : List Nat} (he : Eol eol) (acc l : List Nat) : lnA acc (eol ++ l) = acc :: lnA [] l := by
  rcases he with rfl | rfl
  · rw [List.singleton_append, lnA, if_pos (by decide +kernel), if_neg (by simp)]
  · rw [List.cons_append, List.singleton_append, lnA, if_pos (by decide +kernel), if_pos (by simp), List.tail_cons]

theorem noBrk {c : Nat} (h : c < 10 ∨ (13 < c ∧ c < 28) ∨ (31 < c ∧ c < 127)) : Unicode.isLineBreak c = false := by
  have : ∀ d, d < 127 → (d < 10 ∨ (13 < d ∧ d < 28) ∨ (31 < d ∧ d < 127)) → Unicode.isLineBreak d = false := by decide +kernel
  exact this c (by omega) h
theorem tf_signs : ∀ {t : List Item}, Toks t → ∀ c ∈ tf t, c = 9 ∨ c = 32 ∨ (48 ≤ c ∧ c ≤ 57) ∨ c = 61 ∨ (65 ≤ c ∧ c ≤ 70) ∨ c = 97 ∨ c = 98
  | [], _, c, hc => by cases hc
  | i :: t, h, c, hc => by
    have h' := h.cons
    rw [tf_cons] at hc
    rcases List.mem_append.mp hc with hc | hc
    · cases i with
      | lit d =>
        have : c = d := by simpa [Item.flat] using hc
        subst this
        rcases h'.1.2 with rfl | rfl | rfl | rfl <;> decide
      | esc d =>
        obtain ⟨a, b, e, ha, hb⟩ := hex_of h'.1.2
        simp only [Item.flat, e, List.mem_cons, List.not_mem_nil, or_false] at hc
        omega
      | soft => exact h'.1.1.elim
      | hard => exact h'.1.1.elim
    · exact tf_signs h'.2 c hc
theorem tf_noBrk {t : List Item} (h : Toks t) : ∀ c ∈ tf t, Unicode.isLineBreak c = false := fun c hc => noBrk (by have := tf_signs h c hc; omega)

/-! ## rows of items -/
def rws : List Item → List Item → List (List Item × Bool)
  | cur, [] => if cur.isEmpty then [] else [(cur, false)]
  | cur, .soft :: r => (cur, true) :: rws [] r
  | cur, .hard :: r => (cur, false) :: rws [] r
  | cur, .lit c :: r => rws (cur ++ [.lit c]) r
  | cur, .esc c :: r => rws (cur ++ [.esc c]) r
def rowF (p : List Item × Bool) : List Nat := tf p.1 ++ if p.2 then [61] else []
def rowD (p : List Item × Bool) : List Nat := txt p.1 ++ if p.2 then [] else [10]
def Good (l : List Item) : Prop := ∀ i ∈ l, i.good
theorem Good.cons {i : Item} {l : List Item} (h : Good (i :: l)) : i.good ∧ Good l := ⟨h i (by simp), fun j hj => h j (List.mem_cons_of_mem _ hj)⟩
theorem tokL {cur : List Item} {c : Nat} (h : Toks cur) (h2 : (Item.lit c).good) : Toks (cur ++ [.lit c]) := h.mk fun j hj => by
  rw [List.mem_singleton.mp hj]; exact ⟨True.intro, h2⟩
theorem tokE {cur : List Item} {c : Nat} (h : Toks cur) (h2 : (Item.esc c).good) : Toks (cur ++ [.esc c]) := h.mk fun j hj => by
  rw [List.mem_singleton.mp hj]; exact ⟨True.intro, h2⟩
theorem toks_snoc {cur : List Item} {i : Item} (h : Toks cur) (h1 : i.isTok) (h2 : i.good) : Toks (cur ++ [i]) := h.mk fun j hj => by
  rw [List.mem_singleton.mp hj]; exact ⟨h1, h2⟩
theorem ln_flat {eol : List Nat} (he : Eol eol) : ∀ (l cur : List Item), Toks cur → Good l → lnA (tf cur) (flat eol l) = (rws cur l).map rowF
  | [], cur, hc, _ => by
    rw [flat_nil, lnA, rws]
    cases cur with
    | nil => rfl
    | cons i t =>
      rw [if_neg (by rw [tf_nil_iff hc]; simp)]
      simp [rowF]
  | i :: l, cur, hc, hg => by
    have hg' := hg.cons
    rw [flat_cons]
    cases i with
    | lit c =>
      have hc' := tokL hc hg'.1
      rw [rws, ← ln_flat he l _ hc' hg'.2, tf_app, lnA_pre _ _ _ (fun d hd => tf_noBrk hc' d (by rw [tf_app]; simp only [tf, flat, List.flatMap_cons, List.flatMap_nil, List.append_nil]; exact List.mem_append_right _ hd))]
      rfl
    | esc c =>
      have hc' := tokE hc hg'.1
      rw [rws, ← ln_flat he l _ hc' hg'.2, tf_app, lnA_pre _ _ _ (fun d hd => tf_noBrk hc' d (by rw [tf_app]; simp only [tf, flat, List.flatMap_cons, List.flatMap_nil, List.append_nil]; exact List.mem_append_right _ hd))]
      rfl
    | soft =>
      rw [rws, List.map_cons, ← ln_flat he l [] (fun _ h => by cases h) hg'.2]
      show lnA (tf cur) ([61] ++ eol ++ flat eol l) = _
      rw [List.append_assoc, lnA_pre [61] _ _ (by intro d hd; rw [List.mem_singleton.mp hd]; decide +kernel), lnA_eol he]
      rfl
    | hard =>
      rw [rws, List.map_cons, ← ln_flat he l [] (fun _ h => by cases h) hg'.2]
      show lnA (tf cur) (eol ++ flat eol l) = _
      rw [lnA_eol he]
      simp [rowF, tf, flat]
def fin : List Item → List Item → List Item
  | cur, [] => cur
  | _, .soft :: r => fin [] r
  | _, .hard :: r => fin [] r
  | cur, .lit c :: r => fin (cur ++ [.lit c]) r
  | cur, .esc c :: r => fin (cur ++ [.esc c]) r
theorem rowD_all : ∀ (l cur : List Item), (rws cur l).flatMap rowD = txt cur ++ txt l ++ if (fin cur l).isEmpty then [] else [10]
  | [], cur => by
    rw [rws, fin]
    cases cur with
    | nil => rfl
    | cons i t => simp [rowD, txt]
  | .soft :: l, cur => by
    rw [rws, fin, List.flatMap_cons, rowD_all l []]
    simp [rowD, txt, Item.txt]
  | .hard :: l, cur => by
    rw [rws, fin, List.flatMap_cons, rowD_all l []]
    simp [rowD, txt, Item.txt]
  | .lit c :: l, cur => by
    rw [rws, fin, rowD_all l _]
    simp [txt, Item.txt]
  | .esc c :: l, cur => by
    rw [rws, fin, rowD_all l _]
    simp [txt, Item.txt]
theorem rows_good : ∀ (l cur : List Item), Toks cur → Good l → ∀ p ∈ rws cur l, Toks p.1
  | [], cur, hc, _, p, hp => by
    rw [rws] at hp
    split at hp
    · cases hp
    · rw [List.mem_singleton.mp hp]; exact hc
  | .soft :: l, cur, hc, hg, p, hp => by
    rcases List.mem_cons.mp hp with rfl | hp
    · exact hc
    · exact rows_good l [] (fun _ h => by cases h) hg.cons.2 p hp
  | .hard :: l, cur, hc, hg, p, hp => by
    rcases List.mem_cons.mp hp with rfl | hp
    · exact hc
    · exact rows_good l [] (fun _ h => by cases h) hg.cons.2 p hp
  | .lit c :: l, cur, hc, hg, p, hp => rows_good l _ (tokL hc hg.cons.1) hg.cons.2 p hp
  | .esc c :: l, cur, hc, hg, p, hp => rows_good l _ (tokE hc hg.cons.1) hg.cons.2 p hp
theorem blank_lit (cur : List Item) (c : Nat) : lastBlank (cur ++ [.lit c]) = (c == 32 || c == 9) := by simp [lastBlank]
theorem blank_esc (cur : List Item) (c : Nat) : lastBlank (cur ++ [.esc c]) = false := by simp [lastBlank]
/-- no row that is ended hard ends with a blank -/
theorem rows_sharp (w : Nat) : ∀ (l cur : List Item) (n : Nat), ok w n (lastBlank cur) (l ++ [.hard]) → ∀ p ∈ rws cur l, p.2 = false → lastBlank p.1 = false
  | [], cur, n, h, p, hp, _ => by
    rw [rws] at hp
    split at hp
    · cases hp
    · rw [List.mem_singleton.mp hp]; exact h.1
  | .soft :: l, cur, n, h, p, hp, hb => by
    rcases List.mem_cons.mp hp with rfl | hp
    · cases hb
    · exact rows_sharp w l [] 0 h.2 p hp hb
  | .hard :: l, cur, n, h, p, hp, hb => by
    rcases List.mem_cons.mp hp with rfl | hp
    · exact h.1
    · exact rows_sharp w l [] 0 h.2 p hp hb
  | .lit c :: l, cur, n, h, p, hp, hb => rows_sharp w l _ (n + 1) (by rw [blank_lit]; exact h.2) p hp hb
  | .esc c :: l, cur, n, h, p, hp, hb => rows_sharp w l _ (n + 3) (by rw [blank_esc]; exact h.2) p hp hb
/-- how the whole ends -/
theorem fin_last {eol : List Nat} (he : Eol eol) : ∀ (l cur : List Item), Toks cur → Good l → (fin cur l ≠ [] → Toks (fin cur l) ∧ (tf cur ++ flat eol l).getLast? = (tf (fin cur l)).getLast?) ∧ (fin cur l = [] → tf cur ++ flat eol l ≠ [] → (tf cur ++ flat eol l).getLast? = some 10)
  | [], cur, hc, _ => by
    rw [fin, flat_nil, List.append_nil]
    exact ⟨fun _ => ⟨hc, rfl⟩, fun e h => absurd ((tf_nil_iff hc).mpr e) h⟩
  | .soft :: l, cur, hc, hg => by
    have ih := fin_last he l [] (fun _ h => by cases h) hg.cons.2
    have e : tf cur ++ flat eol (.soft :: l) = (tf cur ++ [61] ++ eol) ++ (tf [] ++ flat eol l) := by rw [flat_cons]; simp [Item.flat, tf, flat]
    rw [fin, e]
    refine ⟨fun h => ⟨(ih.1 h).1, ?_⟩, fun h hne => ?_⟩
    · rw [List.getLast?_append, (ih.1 h).2]
      have : ¬ tf (fin [] l) = [] := fun q => h ((tf_nil_iff (ih.1 h).1).mp q)
      rw [List.getLast?_eq_some_getLast this]; rfl
    · by_cases hq : tf [] ++ flat eol l = []
      · rw [hq, List.append_nil]
        rcases he with rfl | rfl <;> simp
      · rw [List.getLast?_append, ih.2 h hq]; rfl
  | .hard :: l, cur, hc, hg => by
    have ih := fin_last he l [] (fun _ h => by cases h) hg.cons.2
    have e : tf cur ++ flat eol (.hard :: l) = (tf cur ++ eol) ++ (tf [] ++ flat eol l) := by rw [flat_cons]; simp [Item.flat, tf, flat]
    rw [fin, e]
    refine ⟨fun h => ⟨(ih.1 h).1, ?_⟩, fun h hne => ?_⟩
    · rw [List.getLast?_append, (ih.1 h).2]
      have : ¬ tf (fin [] l) = [] := fun q => h ((tf_nil_iff (ih.1 h).1).mp q)
      rw [List.getLast?_eq_some_getLast this]; rfl
    · by_cases hq : tf [] ++ flat eol l = []
      · rw [hq, List.append_nil]
        rcases he with rfl | rfl <;> simp
      · rw [List.getLast?_append, ih.2 h hq]; rfl
  | .lit c :: l, cur, hc, hg => by
    have ih := fin_last he l _ (tokL hc hg.cons.1) hg.cons.2
    have e : tf cur ++ flat eol (.lit c :: l) = tf (cur ++ [.lit c]) ++ flat eol l := by rw [flat_cons, tf_app, List.append_assoc]; simp [Item.flat, tf, flat]
    rw [fin, e]; exact ih
  | .esc c :: l, cur, hc, hg => by
    have ih := fin_last he l _ (tokE hc hg.cons.1) hg.cons.2
    have e : tf cur ++ flat eol (.esc c :: l) = tf (cur ++ [.esc c]) ++ flat eol l := by rw [flat_cons, tf_app, List.append_assoc]; simp [Item.flat, tf, flat]
    rw [fin, e]; exact ih
end Mine
end PartPn

section PartPo
open PySem PySem.Builtin PySem.Builtin.Str PySem.StrLaws
namespace Mine

def cat (eol : List Nat) (ps : List (List Nat)) : List Nat := ps.flatMap (· ++ eol)
theorem cat_app (eol : List Nat) (a b : List (List Nat)) : cat eol (a ++ b) = cat eol a ++ cat eol b := List.flatMap_append
theorem cat_one (eol p : List Nat) : cat eol [p] = p ++ eol := by simp [cat]
theorem join_cat (eol : List Nat) : ∀ ps : List (List Nat), ps ≠ [] → joinL eol ps ++ eol = cat eol ps
  | [], h => absurd rfl h
  | [x], _ => (cat_one eol x).symm
  | x :: y :: r, _ => by
    show x ++ eol ++ joinL eol (y :: r) ++ eol = _
    rw [List.append_assoc, join_cat eol (y :: r) (by simp)]
    simp [cat]
theorem join_nil_end (eol : List Nat) (ps : List (List Nat)) : joinL eol (ps ++ [[]]) = cat eol ps := by
  have h := join_cat eol (ps ++ [[]]) (by simp)
  rw [cat_app, cat_one, List.nil_append] at h
  exact List.append_cancel_right h
theorem cat_len (eol : List Nat) : ∀ ps : List (List Nat), (cat eol ps).length = (ps.map List.length).sum + ps.length * eol.length
  | [] => by simp [cat]
  | x :: r => by
    have := cat_len eol r
    have e : cat eol (x :: r) = x ++ eol ++ cat eol r := by simp [cat]
    rw [e, List.length_append, List.length_append, this, List.map_cons, List.sum_cons, List.length_cons, Nat.add_mul]
    omega
theorem cat_count {eol : List Nat} (he : 1 ≤ eol.length) (ps : List (List Nat)) : ps.length ≤ (cat eol ps).length := by
  rw [cat_len]
  have := Nat.le_mul_of_pos_right ps.length he
  omega

theorem Good.app {a b : List Item} (ha : Good a) (hb : Good b) : Good (a ++ b) := fun i hi => (List.mem_append.mp hi).elim (ha i) (hb i)
theorem Toks.good {t : List Item} (h : Toks t) : Good t := fun i hi => (h i hi).2
theorem good_hard : Good [.hard] := fun i hi => by rw [List.mem_singleton.mp hi]; exact True.intro
theorem good_soft : Good [.soft] := fun i hi => by rw [List.mem_singleton.mp hi]; exact True.intro
theorem good_nil : Good [] := fun i hi => by cases hi
theorem flat_tok_len {eol : List Nat} {t : List Item} (h : Toks t) : (flat eol t).length ≤ 3 * (txt t).length := by
  rw [tf_eq eol h]
  have := tf_len h
  omega

/-- the pieces of a row so far: every one of them ended softly -/
def PreOk (w : Nat) (eol : List Nat) (t : List Item) (pn : List (List Nat)) : Prop :=
  ∃ L, cat eol pn = flat eol L ∧ txt L = txt t ∧ Okc w L ∧ Good L ∧ (flat eol L).length ≤ 4 * (tf t).length
def LineOk (w : Nat) (eol : List Nat) (t : List Item) (pn : List (List Nat)) : Prop :=
  ∃ L, cat eol pn = flat eol (L ++ [.hard]) ∧ txt L = txt t ∧ Okc w (L ++ [.hard]) ∧ Good L ∧ (flat eol (L ++ [.hard])).length ≤ 12 * ((txt t).length + 1)
theorem pre_nil (w : Nat) (eol : List Nat) : PreOk w eol [] [] := ⟨[], rfl, rfl, okc_nil w, good_nil, by simp [flat]⟩
theorem pre_step {w : Nat} {eol : List Nat} {t u : List Item} {pn : List (List Nat)} (he : eol.length ≤ 2) (h : PreOk w eol t pn) (hu : Toks u) (hne : 1 ≤ (tf u).length) (hw : (tf u).length + 1 ≤ w) : PreOk w eol (t ++ u) (pn ++ [tf u ++ [61]]) := by
  obtain ⟨L, h1, h2, h3, h4, h5⟩ := h
  have e : flat eol (L ++ (u ++ [.soft])) = flat eol L ++ (tf u ++ [61] ++ eol) := by
    rw [flat_app, flat_app, tf_eq eol hu]
    simp [flat, Item.flat]
  refine ⟨L ++ (u ++ [.soft]), ?_, ?_, h3.app (okc_soft hu hw), h4.app (hu.good.app good_soft), ?_⟩
  · rw [cat_app, cat_one, h1, e]
  · rw [txt_app, txt_app, h2, txt_app]; simp [txt, Item.txt]
  · rw [e, tf_app]
    simp only [List.length_append, List.length_cons, List.length_nil]
    omega

theorem line_of {w : Nat} {eol : List Nat} {t t2 M : List Item} {pn : List (List Nat)} {piece : List Nat} (he : eol.length ≤ 2) (h : PreOk w eol t pn) (ht : Toks t) (h2 : Toks t2) (hp : piece = flat eol M) (hM : txt M = txt t2) (hO : Okc w (M ++ [.hard])) (hG : Good M)
    (hl : (flat eol M).length ≤ 3 * (txt t2).length + 8) : LineOk w eol (t ++ t2) (pn ++ [piece]) := by
  obtain ⟨L, h1, h3, h4, h5, h6⟩ := h
  have e : flat eol (L ++ M ++ [.hard]) = flat eol L ++ (piece ++ eol) := by
    rw [flat_app, flat_app, hp, List.append_assoc]
    simp [flat, Item.flat]
  have := tf_len ht
  refine ⟨L ++ M, ?_, ?_, ?_, h5.app hG, ?_⟩
  · rw [cat_app, cat_one, h1, e]
  · rw [txt_app, txt_app, h3, hM]
  · rw [List.append_assoc]; exact h4.app hO
  · rw [e, txt_app, hp]
    simp only [List.length_append]
    omega
theorem line_plain {w : Nat} {eol : List Nat} {t t2 : List Item} {pn : List (List Nat)} (he : eol.length ≤ 2) (h : PreOk w eol t pn) (ht : Toks t) (h2 : Toks t2) (hw : (tf t2).length ≤ w) (hb : lastBlank t2 = false) : LineOk w eol (t ++ t2) (pn ++ [tf t2]) := by
  refine line_of he h ht h2 (tf_eq eol h2).symm rfl (okc_hard h2 hw hb) h2.good ?_
  have := flat_tok_len (eol := eol) h2
  omega
theorem blank_good {c : Nat} (hc : c = 32 ∨ c = 9) : (Item.esc c).good := by rcases hc with rfl | rfl <;> simp [Item.good]
theorem blank_good' {c : Nat} (hc : c = 32 ∨ c = 9) : (Item.lit c).good := by rcases hc with rfl | rfl <;> simp [Item.good]
theorem esc_flat (eol : List Nat) (c : Nat) : flat eol [.esc c] = 61 :: hex2 c := by simp [flat, Item.flat]
theorem hex2_len (c : Nat) : (hex2 c).length = 2 := rfl
theorem line_quote {w : Nat} {eol : List Nat} {t t' : List Item} {c : Nat} {pn : List (List Nat)} (he : eol.length ≤ 2) (h : PreOk w eol t pn) (ht : Toks t) (h2 : Toks (t' ++ [.lit c])) (hc : c = 32 ∨ c = 9) (hw : (tf t').length + 3 ≤ w) :
    LineOk w eol (t ++ (t' ++ [.lit c])) (pn ++ [tf t' ++ (61 :: hex2 c)]) := by
  have h' := h2.app.1
  have hE := tokE h' (blank_good hc)
  refine line_of he h ht h2 (M := t' ++ [.esc c]) ?_ ?_ (okc_hard hE ?_ (blank_esc _ _)) hE.good ?_
  · rw [flat_app, tf_eq eol h', esc_flat]
  · rw [txt_app, txt_app]; rfl
  · rw [tf_app, List.length_append]; simpa [tf, flat, Item.flat, hex2] using hw
  · have := flat_tok_len (eol := eol) h'
    rw [flat_app, esc_flat, txt_app]
    simp only [List.length_append, List.length_cons, hex2_len]
    omega
theorem line_soft {w : Nat} {eol : List Nat} {t t' : List Item} {c : Nat} {pn : List (List Nat)} (he : eol.length ≤ 2) (h : PreOk w eol t pn) (ht : Toks t) (h2 : Toks (t' ++ [.lit c])) (hw : (tf t').length + 2 ≤ w) :
    LineOk w eol (t ++ (t' ++ [.lit c])) (pn ++ [tf t' ++ (c :: 61 :: eol)]) := by
  have h' := h2.app.1
  refine line_of he h ht h2 (M := t' ++ [.lit c] ++ [.soft]) ?_ ?_ ((okc_soft h2 ?_).app (okc_hard1 w)) (h2.good.app good_soft) ?_
  · rw [flat_app, flat_app, tf_eq eol h']
    simp [flat, Item.flat]
  · rw [txt_app]; simp [txt, Item.txt]
  · rw [tf_app, List.length_append]; simpa [tf, flat, Item.flat] using hw
  · have := flat_tok_len (eol := eol) h'
    rw [flat_app, flat_app, txt_app]
    simp only [List.length_append, flat, List.flatMap_cons, List.flatMap_nil, Item.flat, List.length_cons, List.length_nil] at this ⊢
    omega
theorem line_softq {w : Nat} {eol : List Nat} {t t' : List Item} {c : Nat} {pn : List (List Nat)} (he : eol.length ≤ 2) (h : PreOk w eol t pn) (ht : Toks t) (h2 : Toks (t' ++ [.lit c])) (hc : c = 32 ∨ c = 9) (hw : (tf t').length + 1 ≤ w) (h3 : 3 ≤ w) :
    LineOk w eol (t ++ (t' ++ [.lit c])) (pn ++ [tf t' ++ ((61 :: eol) ++ (61 :: hex2 c))]) := by
  have h' := h2.app.1
  have hE : Toks [.esc c] := fun i hi => by rw [List.mem_singleton.mp hi]; exact ⟨True.intro, blank_good hc⟩
  refine line_of he h ht h2 (M := t' ++ [.soft] ++ [.esc c]) ?_ ?_ ?_ ((h'.good.app good_soft).app hE.good) ?_
  · rw [flat_app, flat_app, tf_eq eol h', esc_flat]
    simp [flat, Item.flat]
  · rw [txt_app, txt_app, txt_app]; simp [txt, Item.txt]
  · rw [List.append_assoc (t' ++ [Item.soft]) [Item.esc c] [Item.hard]]
    exact (okc_soft h' hw).app (okc_hard hE (by simpa [tf, flat, Item.flat, hex2] using h3) rfl)
  · have := flat_tok_len (eol := eol) h'
    rw [flat_app, flat_app, esc_flat, txt_app]
    simp only [List.length_append, flat, List.flatMap_cons, List.flatMap_nil, Item.flat, List.length_cons, List.length_nil, hex2_len] at this ⊢
    omega

def AllOk (w : Nat) (eol T : List Nat) (ps : List (List Nat)) : Prop :=
  ∃ items, cat eol ps = flat eol items ∧ txt items = T ∧ Okc w items ∧ Good items ∧ (items = [] ∨ ∃ l, items = l ++ [.hard]) ∧ (flat eol items).length ≤ 12 * T.length
theorem all_nil (w : Nat) (eol : List Nat) : AllOk w eol [] [] := ⟨[], rfl, rfl, okc_nil w, good_nil, .inl rfl, by simp [flat]⟩
theorem all_step {w : Nat} {eol T : List Nat} {t : List Item} {ps pn : List (List Nat)} (h : AllOk w eol T ps) (hl : LineOk w eol t pn) : AllOk w eol (T ++ (txt t ++ [10])) (ps ++ pn) := by
  obtain ⟨items, h1, h2, h3, h4, _, h6⟩ := h
  obtain ⟨L, l1, l2, l3, l4, l5⟩ := hl
  refine ⟨items ++ (L ++ [.hard]), by rw [cat_app, h1, l1, ← flat_app], ?_, h3.app l3, h4.app (l4.app good_hard), .inr ⟨items ++ L, by rw [List.append_assoc]⟩, ?_⟩
  · rw [txt_app, txt_app, h2, l2]; rfl
  · rw [flat_app]
    simp only [List.length_append, List.length_cons, List.length_nil] at l5 h6 ⊢
    omega
theorem all_len {w : Nat} {eol T : List Nat} {ps : List (List Nat)} (h : AllOk w eol T ps) : (cat eol ps).length ≤ 12 * T.length := by
  obtain ⟨items, h1, _, _, _, _, h6⟩ := h
  rw [h1]; exact h6

theorem pre_len {w : Nat} {eol : List Nat} {t : List Item} {pn : List (List Nat)} (h : PreOk w eol t pn) : (cat eol pn).length ≤ 4 * (tf t).length := by
  obtain ⟨L, h1, _, _, _, h5⟩ := h
  rw [h1]; exact h5
theorem line_len {w : Nat} {eol : List Nat} {t : List Item} {pn : List (List Nat)} (h : LineOk w eol t pn) : (cat eol pn).length ≤ 12 * ((txt t).length + 1) := by
  obtain ⟨L, h1, _, _, _, h5⟩ := h
  rw [h1]; exact h5
theorem two_count {eol : List Nat} (he : 1 ≤ eol.length) {ps pn : List (List Nat)} {a b : Nat} (h1 : (cat eol ps).length ≤ a) (h2 : (cat eol pn).length ≤ b) : (ps ++ pn).length ≤ a + b := by
  have := cat_count he ps
  have := cat_count he pn
  rw [List.length_append]; omega

theorem lastBlank_app (a : List Item) {b : List Item} (h : b ≠ []) : lastBlank (a ++ b) = lastBlank b := by
  unfold lastBlank
  rw [List.getLast?_append]
  cases hb : b.getLast? with
  | none => exact absurd (List.getLast?_eq_none_iff.mp hb) h
  | some i => rfl
theorem tail_of {a b t : List Item} {i : Item} (h : a ++ b = t ++ [i]) (hb : b ≠ []) : ∃ b', b = b' ++ [i] := by
  have h1 := congrArg List.getLast? h
  rw [List.getLast?_append, List.getLast?_append] at h1
  obtain ⟨j, hj⟩ : ∃ j, b.getLast? = some j := ⟨_, List.getLast?_eq_some_getLast hb⟩
  rw [hj] at h1
  have : j = i := by simpa using h1
  subst this
  obtain ⟨b', e⟩ := List.getLast?_eq_some_iff.mp hj
  exact ⟨b', e⟩

theorem all_ne {w : Nat} {eol T : List Nat} {ps : List (List Nat)} (h : AllOk w eol T ps) (hT : T ≠ []) (he : 1 ≤ eol.length) : ps ≠ [] := by
  rintro rfl
  obtain ⟨items, h1, h2, _, _, h5, _⟩ := h
  rcases h5 with rfl | ⟨l, rfl⟩
  · exact hT h2.symm
  · have := congrArg List.length h1
    rw [flat_app, List.length_append] at this
    simp [cat, flat, Item.flat] at this
    omega

/-- what the call gives back -/
def Enc (w : Nat) (eol text x : List Nat) : Prop := ∃ l : List Item, x = flat eol l ∧ ok w 0 false (l ++ [.hard]) ∧ txt l = text ∧ Good l ∧ x.length ≤ 12 * (text.length + 1)
theorem ok_hard (w : Nat) : ok w 0 false [.hard] := ⟨rfl, True.intro⟩
theorem enc_nil (w : Nat) (eol : List Nat) : Enc w eol [] [] := ⟨[], rfl, ok_hard w, rfl, good_nil, by simp⟩
theorem enc_open {w : Nat} {eol tl : List Nat} {ps : List (List Nat)} (h : AllOk w eol (tl ++ [10]) ps) (hne : ps ≠ []) : Enc w eol tl (joinL eol ps) := by
  obtain ⟨items, h1, h2, h3, h4, h5, h6⟩ := h
  rcases h5 with rfl | ⟨l, rfl⟩
  · rw [txt_nil] at h2
    have := congrArg List.length h2
    simp at this
  · have hj := join_cat eol ps hne
    rw [h1, flat_app] at hj
    have e : flat eol [Item.hard] = eol := by simp [flat, Item.flat]
    rw [e] at hj
    have hj' := List.append_cancel_right hj
    refine ⟨l, hj', ?_, ?_, fun i hi => h4 i (by simp [hi]), ?_⟩
    · have := h3 [] True.intro
      rwa [List.append_nil] at this
    · rw [txt_app] at h2
      exact List.append_cancel_right (bs := [10]) h2
    · rw [hj']
      rw [flat_app] at h6
      simp only [List.length_append, List.length_cons, List.length_nil] at h6
      omega
theorem enc_shut {w : Nat} {eol tl : List Nat} {ps : List (List Nat)} (h : AllOk w eol tl ps) : Enc w eol tl (joinL eol (ps ++ [[]])) := by
  obtain ⟨items, h1, h2, h3, h4, _, h6⟩ := h
  refine ⟨items, by rw [join_nil_end, h1], h3 _ (ok_hard w), h2, h4, ?_⟩
  rw [join_nil_end, h1]; omega

/-! ## the coded text, token by token -/
theorem tok_good {c : Nat} (h : Alph c) : (tok c).good := by
  rcases h with rfl | rfl | rfl | rfl | rfl | rfl | rfl | rfl | rfl <;> simp [tok, Item.good]
theorem tok_txt (c : Nat) : (tok c).txt = [c] := by
  unfold tok
  split
  · rename_i h; rw [h]; rfl
  · split <;> rfl
theorem toks_txt : ∀ tl : List Nat, txt (tl.map tok) = tl
  | [] => rfl
  | c :: r => by rw [List.map_cons, txt_cons, tok_txt, toks_txt r]; rfl
theorem toks_good {tl : List Nat} (h : ∀ c ∈ tl, Alph c) : Good (tl.map tok) := fun i hi => by
  obtain ⟨c, hc, rfl⟩ := List.mem_map.mp hi
  exact tok_good (h c hc)
theorem tr_flat : ∀ tl : List Nat, tl.flatMap tr = flat [10] (tl.map tok)
  | [] => rfl
  | c :: r => by rw [List.flatMap_cons, List.map_cons, flat_cons, tr_flat r]; rfl
theorem no_soft : ∀ (tl : List Nat) (cur : List Item), ∀ p ∈ rws cur (tl.map tok), p.2 = false
  | [], cur, p, hp => by
    rw [List.map_nil, rws] at hp
    split at hp
    · cases hp
    · rw [List.mem_singleton.mp hp]
  | c :: r, cur, p, hp => by
    rw [List.map_cons] at hp
    unfold tok at hp
    split at hp
    · rcases List.mem_cons.mp hp with rfl | hp
      · rfl
      · exact no_soft r _ p hp
    · split at hp
      · exact no_soft r _ p hp
      · exact no_soft r _ p hp
theorem lines_tr {tl : List Nat} (h : ∀ c ∈ tl, Alph c) : Txt.lines (S (tl.flatMap tr)) = (rws [] (tl.map tok)).map fun p => S (tf p.1) := by
  rw [lines_S, tr_flat]
  have := ln_flat (eol := [10]) (.inl rfl) (tl.map tok) [] (fun _ h => by cases h) (toks_good h)
  have e : tf [] = [] := rfl
  rw [e] at this
  rw [this, List.map_map]
  refine List.map_congr_left fun p hp => ?_
  have := no_soft tl [] p hp
  simp [rowF, this]

theorem fm_congr {α : Type} {f g : α → List Nat} : ∀ l : List α, (∀ a ∈ l, f a = g a) → l.flatMap f = l.flatMap g
  | [], _ => rfl
  | a :: l, h => by rw [List.flatMap_cons, List.flatMap_cons, h a (by simp), fm_congr l fun b hb => h b (List.mem_cons_of_mem _ hb)]
def rowsT (tl : List Nat) : List (List Item) := (rws [] (tl.map tok)).map (·.1)
theorem rowsT_lines {tl : List Nat} (h : ∀ c ∈ tl, Alph c) : Txt.lines (S (tl.flatMap tr)) = ((rowsT tl).map tf).map S := by
  rw [lines_tr h, rowsT, List.map_map, List.map_map]; rfl
theorem rowsT_good {tl : List Nat} (h : ∀ c ∈ tl, Alph c) : ∀ t ∈ rowsT tl, Toks t := fun t ht => by
  obtain ⟨p, hp, rfl⟩ := List.mem_map.mp ht
  exact rows_good _ [] (fun _ h => by cases h) (toks_good h) p hp
theorem rowsT_txt (tl : List Nat) : (rowsT tl).flatMap (fun t => txt t ++ [10]) = tl ++ if (fin [] (tl.map tok)).isEmpty then [] else [10] := by
  have h1 := rowD_all (tl.map tok) []
  rw [txt_nil, List.nil_append, toks_txt] at h1
  rw [← h1, rowsT, List.flatMap_map]
  refine fm_congr _ fun p hp => ?_
  have := no_soft tl [] p hp
  simp [rowD, this]
theorem tr_last {tl : List Nat} (h : ∀ c ∈ tl, Alph c) (hne : tl ≠ []) : (fin [] (tl.map tok) ≠ [] → rowsT tl ≠ [] ∧ ∃ c, (tl.flatMap tr).getLast? = some c ∧ c ≠ 10 ∧ c ≠ 13) ∧ (fin [] (tl.map tok) = [] → (tl.flatMap tr).getLast? = some 10) := by
  have h1 := fin_last (eol := [10]) (.inl rfl) (tl.map tok) [] (fun _ h => by cases h) (toks_good h)
  have e : tf [] ++ flat [10] (tl.map tok) = tl.flatMap tr := by rw [tr_flat]; rfl
  rw [e] at h1
  refine ⟨fun hf => ⟨fun q => ?_, ?_⟩, fun hf => h1.2 hf ?_⟩
  · have := rowsT_txt tl
    rw [q] at this
    have := congrArg List.length this
    rw [List.length_append] at this
    exact hne (List.length_eq_zero_iff.mp (by simp at this; omega))
  · obtain ⟨ht, hl⟩ := h1.1 hf
    rw [hl]
    rcases last_sign ht hf with ⟨_, c, _, hc, hg⟩ | ⟨_, d, hd, hr⟩
    · exact ⟨c, hc, by rcases hg with rfl | rfl | rfl | rfl <;> decide, by rcases hg with rfl | rfl | rfl | rfl <;> decide⟩
    · exact ⟨d, hd, by omega, by omega⟩
  · intro q
    rw [tr_flat] at q
    have h2 := congrArg List.length q
    cases tl with
    | nil => exact hne rfl
    | cons c r =>
      rw [List.map_cons, flat_cons, List.length_append, List.length_nil] at h2
      have : 1 ≤ ((tok c).flat [10]).length := by
        unfold tok
        split
        · simp [Item.flat]
        · split <;> simp [Item.flat]
      omega

/-- where a row may be cut -/
theorem cut_cases {t : List Item} {m : Nat} (ht : Toks t) (hm : 3 ≤ m) (hl : m + 1 ≤ (tf t).length) :
    ((tf t)[m - 2]? = some 61 → ∃ u v, t = u ++ v ∧ (tf u).length = m - 2 ∧ (tf t).take (m - 1) = tf u ++ [61]) ∧
    ((tf t)[m - 2]? ≠ some 61 → (tf t)[m - 1]? = some 61 → ∃ u v, t = u ++ v ∧ (tf u).length = m - 1 ∧ (tf t).take m = tf u ++ [61]) ∧
    ((tf t)[m - 2]? ≠ some 61 → (tf t)[m - 1]? ≠ some 61 → ∃ u v, t = u ++ v ∧ (tf u).length = m ∧ (tf t).take m = tf u) := by
  have tk : ∀ (k : Nat) (u v : List Item), t = u ++ v → (tf u).length = k → (tf t).take k = tf u := fun k u v e hk => by
    rw [e, tf_app, ← hk, List.take_left']; rfl
  refine ⟨fun h => ?_, fun _ h => ?_, fun h1 h2 => ?_⟩
  · obtain ⟨u, v, e, hk⟩ := cut_at t _ ht h
    refine ⟨u, v, e, hk, ?_⟩
    rw [show m - 1 = (m - 2) + 1 from by omega, List.take_add_one, h, tk _ u v e hk]; rfl
  · obtain ⟨u, v, e, hk⟩ := cut_at t _ ht h
    refine ⟨u, v, e, hk, ?_⟩
    obtain ⟨k, rfl⟩ : ∃ k, m = k + 1 := ⟨m - 1, by omega⟩
    rw [Nat.add_sub_cancel] at h hk
    rw [List.take_add_one, h, tk _ u v e hk]; rfl
  · obtain ⟨u, v, e, hk⟩ := cut_off t m ht (by omega) (fun q hq => by rw [show q = m - 1 from by omega]; exact h2) (fun q hq => by rw [show q = m - 2 from by omega]; exact h1)
    exact ⟨u, v, e, hk, tk _ u v e hk⟩
end Mine
end PartPo

section PartTr
open PySem PySem.W PyProof.Rows PySem.Calls PySem.StrLaws PySem.Builtin PySem.Builtin.Str
namespace Mine
set_option maxRecDepth 100000 in
set_option maxHeartbeats 4000000 in
theorem table_is {w : World} {h : Heap} {c : Nat} (X : (Mine.Hd.K w.params).In h) (hc : Alph c) : ∃ items tv, h.IsList 46 items ∧ items[c]? = some (.str (S (tr c)) tv) := by
  have e : PySem.Challenge.rw_wy0003_01 = PySem.Challenge.rw_wy0003_01 ∧ (Mine.Hd.K w.params).In h := ⟨rfl, X⟩
  revert e; k_fill; intro e
  have hl : ∃ l n, (Mine.Hd.K w.params).lookup 46 = some ⟨.type "list", none, .seq (List.toArray l) n, #[]⟩ ∧ ∃ tv, (List.toArray l)[c]? = some (.str (S (tr c)) tv) := by
    refine ⟨_, _, by k_is, ?_⟩
    rcases hc with rfl | rfl | rfl | rfl | rfl | rfl | rfl | rfl | rfl
    · exact ⟨_, by rw [show S (tr 97) = ⟨⟨[97]⟩⟩ from by decide +kernel]; rfl⟩
    · exact ⟨_, by rw [show S (tr 98) = ⟨⟨[98]⟩⟩ from by decide +kernel]; rfl⟩
    · exact ⟨_, by rw [show S (tr 32) = ⟨⟨[32]⟩⟩ from by decide +kernel]; rfl⟩
    · exact ⟨_, by rw [show S (tr 61) = ⟨⟨[61, 51, 68]⟩⟩ from by decide +kernel]; rfl⟩
    · exact ⟨_, by rw [show S (tr 9) = ⟨⟨[9]⟩⟩ from by decide +kernel]; rfl⟩
    · exact ⟨_, by rw [show S (tr 10) = ⟨⟨[10]⟩⟩ from by decide +kernel]; rfl⟩
    · exact ⟨_, by rw [show S (tr 233) = ⟨⟨[61, 69, 57]⟩⟩ from by decide +kernel]; rfl⟩
    · exact ⟨_, by rw [show S (tr 127) = ⟨⟨[61, 55, 70]⟩⟩ from by decide +kernel]; rfl⟩
    · exact ⟨_, by rw [show S (tr 1) = ⟨⟨[61, 48, 49]⟩⟩ from by decide +kernel]; rfl⟩
  obtain ⟨l, n, hl, tv, hv⟩ := hl
  exact ⟨_, tv, lstK X hl, hv⟩

section
variable {prog : Program} {w : World} {A : Around} {E : Value → Shared → Prop} {s : Shared}
theorem wp_table {a : Addr} {c : Nat} {items : Array Value} {r : List Nat} {tv : Tok} {Q : Mapped → Shared → Prop} (hl : s.heap.IsList a items) (hx : items[c]? = some (.str (S r) tv)) (hc : c < 1000)
    (h : ∀ tk, Q (.text (S r)) { s with toks := tk }) : wpAny (model prog w) A (tableLookup (.ref a) c) Q E s := by
  unfold tableLookup
  refine wpAny_bind (wpAny_attempt (wpAny_bind (wpAny_mkInt ?_)))
  refine wpAny_getItem_list (s := { s with toks := s.toks + 1 }) (x := .str (S r) tv) (k := (c : Int)) hl (by omega) (by omega) (by simpa using hx) ?_
  show wpAny _ _ (pure (Mapped.text (S r))) Q E _
  exact wpAny_pure (h _)
theorem wp_forIn {α σ : Type} {M : Model} {Q : σ → Shared → Prop} (b : α → σ → Sem (ForInStep σ)) (I : List α → σ → Prop) (all : List α)
    (step : ∀ pre' c rest st tk, all = pre' ++ c :: rest → I pre' st → ∀ Q' : ForInStep σ → Shared → Prop, (∀ st' tk, I (pre' ++ [c]) st' → Q' (.yield st') { s with toks := tk }) → wpAny M A (b c st) Q' E { s with toks := tk })
    (hQ : ∀ st tk, I all st → Q st { s with toks := tk }) : ∀ (post pre : List α) (st : σ) (tk : Nat), all = pre ++ post → I pre st → wpAny M A (forIn post st b) Q E { s with toks := tk }
  | [], pre, st, tk, e, hI => by
    rw [List.forIn_nil]
    exact wpAny_pure (hQ st tk (by rw [e]; simpa using hI))
  | c :: post, pre, st, tk, e, hI => by
    rw [List.forIn_cons]
    refine wpAny_bind (step pre c post st tk e hI _ fun st' tk hI' => ?_)
    exact wp_forIn b I all step hQ post (pre ++ [c]) st' tk (by rw [e]; simp) hI'

def TI (pre : List Nat) (st : List Str × Nat × Bool × List (Nat × Option Nat) × Bool) : Prop :=
  st.1.reverse.flatMap (fun p => p.cps.toList) = pre.flatMap tr ∧ st.2.1 = (pre.flatMap tr).length ∧ (∀ c a, st.2.2.2.1.lookup c = some a → ∃ d, a = some d ∧ tr c = [d]) ∧ st.2.2.2.2 = false
theorem foldl_cps : ∀ (ps : List Str) (acc : Array Nat), (ps.foldl (fun acc p => acc ++ p.cps) acc).toList = acc.toList ++ ps.flatMap fun p => p.cps.toList
  | [], acc => by simp
  | p :: r, acc => by
    rw [List.foldl_cons, foldl_cps r, Array.toList_append, List.flatMap_cons, List.append_assoc]
theorem tr_len (c : Nat) : (tr c).length ≤ 3 := by
  unfold tr tok
  split
  · simp [Item.flat]
  · split <;> simp [Item.flat, hex2]
theorem trs_len : ∀ l : List Nat, (l.flatMap tr).length ≤ 3 * l.length
  | [] => by simp
  | c :: r => by
    rw [List.flatMap_cons, List.length_append, List.length_cons]
    have := tr_len c
    have := trs_len r
    omega

set_option maxHeartbeats 4000000 in
theorem wp_translate {tl : List Nat} {t : Tok} {w : World} {A : Around} {E : Value → Shared → Prop} {s : Shared} {Q : PySem.Fin → Shared → Prop} (hne : tl ≠ []) (hlen : tl.length ≤ 1000) (hal : ∀ c ∈ tl, Alph c) (X : (Mine.Hd.K w.params).In s.heap)
    (h : ∀ t' tk, Q (.done (.ret (.str (S (tl.flatMap tr)) t'))) { s with toks := tk }) : wpAny (model prog w) A («str.translate» ⟨[.str (S tl) t, .ref 46], []⟩) Q E s := by
  unfold «str.translate»
  refine wpAny_bind ?_
  show wpAny _ _ (pure (Value.str (S tl) t, S tl, Value.ref 46)) _ _ _
  refine wpAny_pure ?_
  dsimp only
  rw [if_neg (by rw [S_len, beq_iff_eq]; intro e; exact hne (List.length_eq_zero_iff.mp e))]
  refine wpAny_bind ?_
  rw [List.forIn_toArray]
  have hlook : ∀ (c : Nat) (s' : Shared) (Q' : Mapped → Shared → Prop), c ∈ tl → (∃ tk, s' = { s with toks := tk }) → (∀ tk, Q' (.text (S (tr c))) { s' with toks := tk }) → wpAny (model prog w) A (tableLookup (.ref 46) c) Q' E s' := by
    rintro c s' Q' hc ⟨tk, rfl⟩ hq
    obtain ⟨items, tv, h1, h2⟩ := table_is X (hal c hc)
    refine wp_table (s := { s with toks := tk }) h1 h2 ?_ hq
    rcases hal c hc with rfl | rfl | rfl | rfl | rfl | rfl | rfl | rfl | rfl <;> decide
  have done : ∀ (pre : List Nat) (c : Nat) (pieces : List Str) (total : Nat) (fast fast' : Bool) (known known' : List (Nat × Option Nat)) (p : Str) (n : Nat), TI pre (pieces, total, fast, known, false) → p = S (tr c) → n = (tr c).length →
      (∀ c a, known'.lookup c = some a → ∃ d, a = some d ∧ tr c = [d]) → TI (pre ++ [c]) (p :: pieces, total + n, fast', known', false) := by
    rintro pre c pieces total fast fast' known known' p n ⟨h1, h2, h4, h5⟩ rfl rfl hk
    refine ⟨?_, ?_, hk, rfl⟩
    · dsimp only at h1 ⊢
      rw [List.reverse_cons, List.flatMap_append, h1, List.flatMap_append]
      simp
    · dsimp only at h2 ⊢
      rw [List.flatMap_append, List.length_append, h2]
      simp
  refine wp_forIn _ TI tl ?_ ?_ tl [] _ s.toks rfl ⟨rfl, rfl, (fun _ _ q => by cases q), rfl⟩
  · rintro pre c rest ⟨pieces, total, fast, known, ad⟩ tk hall hI Q' hQ
    have hI' := hI
    obtain ⟨h1, h2, h4, h5⟩ := hI'
    dsimp only at h1 h2 h4 h5
    subst h5
    have hc : c ∈ tl := by rw [hall]; simp
    have hb : total ≤ 3000 := by
      have := trs_len pre
      have := congrArg List.length hall
      rw [List.length_append] at this
      omega
    have slow : ∀ fast' known' tk', (∀ c a, known'.lookup c = some a → ∃ d, a = some d ∧ tr c = [d]) → wpAny (model prog w) A (tableLookup (.ref 46) c >>= fun __do_lift => match __do_lift with
        | Mapped.keep => pure (ForInStep.yield (({ cps := #[c] } : Str) :: pieces, total + 1, fast', known', false))
        | Mapped.drop => pure (ForInStep.yield (pieces, total, fast', known', true))
        | Mapped.char d => pure (ForInStep.yield (({ cps := #[d] } : Str) :: pieces, total + 1, fast', known', false))
        | Mapped.text t => pure (ForInStep.yield (t :: pieces, total + t.length, fast', known', false))) Q' E { s with toks := tk' } := by
      intro fast' known' tk' hk
      refine wpAny_bind (hlook c _ _ hc ⟨tk', rfl⟩ fun tk'' => ?_)
      exact wpAny_pure (hQ _ _ (done pre c pieces total fast fast' known known' _ _ hI rfl (S_len _) hk))
    dsimp only
    rw [if_neg (by unfold tooLong; rw [decide_eq_true_eq]; have := sizeLine_eq; omega)]
    cases fast with
    | false =>
      rw [if_neg (by decide), if_neg (by decide)]
      exact slow false known tk h4
    | true =>
      rw [if_pos rfl]
      cases hkn : List.lookup c known with
      | some a =>
        obtain ⟨d, rfl, hd⟩ := h4 c a hkn
        exact wpAny_pure (hQ _ _ (done pre c pieces total true true known known _ 1 hI (by rw [hd]) (by rw [hd]; rfl) h4))
      | none =>
        refine wpAny_bind (hlook c _ _ hc ⟨tk, rfl⟩ fun tk'' => ?_)
        dsimp only
        by_cases ht : ((S (tr c)).length == 1 && (S (tr c)).cps.all fun x => decide (x < 128)) = true
        · rw [if_pos ht]
          rw [Bool.and_eq_true, S_len, beq_iff_eq] at ht
          obtain ⟨d, hd⟩ := List.length_eq_one_iff.mp ht.1
          have hd' : (tr c).toArray[0]? = some d := by rw [hd]; rfl
          simp only [hd']
          refine wpAny_bind (wpAny_pure (wpAny_pure ?_))
          refine hQ _ _ (done pre c pieces total true true known _ _ 1 hI (by rw [hd]) (by rw [hd]; rfl) ?_)
          intro c' a' h'
          rw [List.lookup_cons] at h'
          split at h'
          · rename_i he
            rw [beq_iff_eq] at he
            subst he
            exact ⟨d, (Option.some.inj h').symm, hd⟩
          · exact h4 c' a' h'
        · rw [if_neg ht]
          refine wpAny_bind (wpAny_pure (wpAny_bind (wpAny_rule ?_)))
          rw [if_neg (by decide)]
          exact slow false known tk'' h4
  · rintro ⟨pieces, total, fast, known, ad⟩ tk ⟨h1, h2, h4, h5⟩
    dsimp only at h1 h2 h4 h5 ⊢
    have hb := trs_len tl
    rw [if_neg (by unfold tooLong; rw [decide_eq_true_eq]; have := sizeLine_eq; omega)]
    have e : (⟨List.foldl (fun acc p => acc ++ p.cps) #[] pieces.reverse⟩ : Str) = S (tl.flatMap tr) := by
      refine Str.ext' (Array.toList_inj.mp ?_)
      rw [foldl_cps, h1]; rfl
    rw [e]
    refine wpAny_bind (wpAny_mkStr (wpAny_pure (h _ _)) ?_)
    rw [S_len]; exact sz_line (by omega)

theorem call_translate {tl : List Nat} {t : Tok} {w : World} {A : Around} {E : Value → Shared → Prop} {s : Shared} {Q : Value → Shared → Prop} (hne : tl ≠ []) (hlen : tl.length ≤ 1000) (hal : ∀ c ∈ tl, Alph c) (X : (Mine.Hd.K w.params).In s.heap)
    (h : ∀ t' tk, Q (.str (S (tl.flatMap tr)) t') { s with toks := tk }) : wpAny (model prog w) A (call (.builtin "str.translate") [.str (S tl) t, .ref 46]) Q E s :=
  wpAny_call (codeAny_call_builtin F.slot_str_translate.plain F.entry_str_translate (F.slot_str_translate.check _ _ _ _ _ _ _ _ (typeIs_str _ _ _) (F.args_str_translate_2 _ _)
    (wp_translate hne hlen hal X fun t' tk => h t' tk)))
theorem get_translate {x : Str} {t : Tok} {M : Model} {A : Around} {E : Value → Shared → Prop} {s : Shared} {pl : Sem Bool} {Q : Value × List Value → Shared → Prop} (h : Q (.builtin "str.translate", [.str x t]) s) : wpAny M A (getMethod (.str x t) "translate" pl) Q E s := by
  with_reducible exact GM.of (.str x t) (typeIs_str _ _ _) F.slot_str_translate F.type_str_translate GM.noRef h
end
end Mine
end PartTr

section PartAp
open PySem PySem.W PyProof.Rows PySem.Calls PySem.StrLaws PySem.Builtin PySem.Builtin.Str
set_option maxRecDepth 100000
namespace Mine
abbrev boundObj (id : String) (a : Addr) : Obj := { cls := .type "builtin_function_or_method", data := .fields #[.builtin id, .ref a] }

theorem md_get : typeLookup (.type "method_descriptor") "__get__" = pure (some (.builtin "method_descriptor.__get__")) := by rw [typeLookup_type, builtinLookup_eq_fast]; kernel_rfl
theorem md_set : typeLookup (.type "method_descriptor") "__set__" = pure none := by rw [typeLookup_type, builtinLookup_eq_fast]; kernel_rfl
theorem md_del : typeLookup (.type "method_descriptor") "__delete__" = pure none := by rw [typeLookup_type, builtinLookup_eq_fast]; kernel_rfl

theorem slot_md : Slot "method_descriptor" "__get__" "method_descriptor.__get__" :=
  .of (owner := "method_descriptor") (n := "__get__") (by rw [typeLookup_type, builtinLookup_eq_fast]; kernel_rfl) (by decide +kernel) (by decide +kernel) (by decide +kernel) (by decide +kernel) (by rw [isSubtype_type]; kernel_rfl)
theorem entry_md : entryFor table "method_descriptor.__get__" = some Builtin.«method_descriptor.__get__» := entryFor_of_tree (by kernel_rfl)
theorem args_md (a b c : Value) : argsOk "method_descriptor.__get__" ⟨[a, b, c], []⟩ := by unfold argsOk; kernel_rfl
theorem list_sub : isSubtype (.type "list") (.type "list") = pure true := by rw [isSubtype_type]; kernel_rfl
theorem told_append : Manifest.toldItsClass.contains "list.append" = false := by decide +kernel

set_option maxHeartbeats 2000000 in
theorem meets_getattribute_append (a : Addr) (xs : Array Value) (k : Nat) (u : Tok) :
    Meets (Builtin.«object.__getattribute__» ⟨[.ref a, .str "append" u], []⟩) (fun A R s => s.heap.get? a = some { cls := .type "list", dict := none, data := .seq xs k, slots := #[] } ∧ R (.ok (.ret (.ref s.heap.objs.size))) { s with heap := s.heap.push (boundObj "list.append" a) }) :=
  Meets.of_wp fun prog w A R s hs => by
    obtain ⟨hp, g, d, tk, os⟩ := s
    obtain ⟨hx, hs⟩ := hs
    have hT : (⟨hp, g, d, tk, os⟩ : Shared).TypeIs (.ref a) "list" := ⟨_, hx, rfl⟩
    have f1 := F.slot_list_append.lookup
    have f2 := F.type_list_append
    have f3 := md_get
    have f4 := md_set
    have f5 := md_del
    unfold Builtin.«object.__getattribute__»
    repeat (any_goals (first | assumption | wp_step))
    refine codeAny_call_builtin slot_md.plain entry_md (slot_md.check _ _ _ _ _ _ _ _ f2 (args_md _ _ _) ?_)
    have f6 := list_sub
    have f7 := told_append
    clear f1 f3 f4 f5
    unfold Builtin.«method_descriptor.__get__»
    refine wpAny_bind (wpAny_of_eq (a := (Value.builtin "list.append", some (Value.ref a), some (Value.type "list"))) (by kernel_rfl) ?_)
    dsimp only
    rw [told_append]
    repeat k_node
    exact ⟨_, rfl, hs⟩

set_option maxHeartbeats 2000000 in
theorem get_append {prog : Program} {w : World} {A : Around} {E : Value → Shared → Prop} {s : Shared} {a : Addr} {xs : Array Value} {k : Nat} {Q : Value → Shared → Prop}
    (hx : s.heap.get? a = some { cls := .type "list", dict := none, data := .seq xs k, slots := #[] })
    (h : Q (.ref s.heap.objs.size) { s with heap := s.heap.push (boundObj "list.append" a), toks := s.toks + 1 }) :
    wpAny (model prog w) A (getAttr (.ref a) (Str.ofString "append") true) Q E s := by
  obtain ⟨hp, g, d, tk, os⟩ := s
  have hT : ∀ tk', (⟨hp, g, d, tk', os⟩ : Shared).TypeIs (.ref a) "list" := fun _ => ⟨_, hx, rfl⟩
  have f3 := F.slot_list_getattribute.lookup
  have f4 := F.slot_list_getattribute.bind (.ref a)
  unfold getAttr getAttrBy
  repeat (any_goals (first | assumption | exact hT _ | ((with_reducible show wpAny _ _ (call (Value.builtin "list.__getattribute__") _ _) _ _ _); refine call_meets F.slot_list_getattribute (hT _) am_entry_list_getattribute (F.args_list_getattribute_2 _ _) (meets_getattribute_append a xs k _) ⟨hx, ?_⟩) | wp_step))
  exact handed_on rfl h

theorem list_sub_mod : isSubtype (.type "list") (.type "module") = pure false := by rw [isSubtype_type]; kernel_rfl
theorem list_sub_type : isSubtype (.type "list") (.type "type") = pure false := by rw [isSubtype_type]; kernel_rfl
set_option maxHeartbeats 4000000 in
theorem bound_append_ok (a : Addr) (x : Value) {M : Model} {A : Around} {E : Value → Shared → Prop} {Q : Unit → Shared → Prop} {s : Shared} {its : Array Value} {n : Nat} (ho : s.heap.get? a = some (W.listOf its n)) (h : Q () s) : wpAny M A (checkBoundCall "list.append" ⟨[.ref a, x], []⟩) Q E s := by
  obtain ⟨hp, g, d, tk, os⟩ := s
  dsimp only at ho
  have f6 := list_sub_mod
  have f7 := list_sub_type
  unfold checkBoundCall
  repeat (first | assumption | k_node | wp_step)

theorem call_bound_append {prog : Program} {w : World} {A : Around} {E : Value → Shared → Prop} {s : Shared} {q a : Addr} {x : Value} {h₀ : Heap} {L : Addr} {m : Str → Option Value} {its : Array Value} {n : Nat} {news news' : List (Addr × Obj)} {Q : Value → Shared → Prop} (ho : s.heap.get? q = some (boundObj "list.append" a))
    (F : Fr h₀ L s.heap m) (N : News h₀ L s.heap news) (U : Upd a (W.listOf its n) (W.listOf (its.push x) (n + 1)) news news') (hsz : its.size ≤ 16777216)
    (h : ∀ h', Fr h₀ L h' m → News h₀ L h' news' → Q .none { s with heap := h' }) :
    wpAny (model prog w) A (call (.ref q) [x]) Q E s := by
  obtain ⟨pre, post, rfl, rfl, a1, b1⟩ := U.split
  have z := N (a, W.listOf its n) (List.mem_append.mpr (.inr (.head _)))
  refine wpAny_call (codeAny_of_tree ?_)
  show wpAny _ _ (callAny (.ref q) _) _ _ _
  refine wpAny_bind (wpAny_load ho ?_)
  refine wpAny_bind (bound_append_ok a x z.1 ?_)
  refine wpAny_bind (wpAny_pure (wpAny_pure ⟨plainId_quiet (by decide +kernel) _, codeAny_builtin entry_list_append ?_⟩))
  show wpAny _ _ (updateSeq a (·.push x) >>= fun _ => ret .none) _ _ s
  refine wpAny_bind ?_
  refine wpAny_updateSeq z.1 rfl (wpAny_pure ?_)
  show Q _ _
  have hget : (s.heap.update a (Obj.mapSeq fun y => y.push x)).get? a = some (W.listOf (its.push x) (n + 1)) := by
    rw [Heap.get?_update_self _ z.1 (by rw [mapSeq_push]; rfl), mapSeq_push]
  exact h _ (F.change (Heap.SameBut.update ..) z.2.1 z.2.2) (news_set N a1 b1 (Heap.SameBut.update ..) hget)
theorem keeps_B {M : Model} {q a : Addr} {id : String} (h : Heap) (X : h.get? q = some (boundObj id a)) : ∃ k, (k = Keeper.frame ∨ k = Keeper.machine ∨ k = Keeper.boundFrame) ∧ Looks M h (keeperOf (.ref q)) k :=
  ⟨.machine, .inr (.inl rfl), (Looks.ld (part := none) X).andThen .now⟩
theorem callWith_B {M : Model} {A : Around} {E : Value → Shared → Prop} {s : Shared} {env : Env} {pos : Pos} {first : List Value} {Q : Value → Shared → Prop} {q a : Addr} {id : String} {e : Expr} {rest : List Expr}
    (h : wpAny M A (spliced (backTo pos (starEach (e :: rest) env))) (fun vs s₁ => s₁.heap.get? q = some (boundObj id a) ∧ wpAny M A (call (.ref q) (first ++ vs)) Q E s₁) E s)
    (he : starEach (e :: rest) env = (false, eval e env) :: starEach rest env := by rfl) (hplain : (backTo pos (starEach rest env)).any (·.1) = false := by rfl) :
    wpAny M A (callWith pos (.ref q) first (backTo pos (starEach (e :: rest) env)) []) Q E s := by
  rw [he] at h ⊢
  exact callWith_of (P := fun h => h.get? q = some (boundObj id a)) (by show ((false || (backTo pos (starEach rest env)).any (·.1)) || false) = false; rw [hplain]; rfl) (fun h X => keeps_B h X) (evalArgs_plain h)

theorem rGetAppend {prog : Program} {w : World} {A : Around} {E : Value → Shared → Prop} {s : Shared} {a : Addr} {its : Array Value} {n : Nat} {h₀ : Heap} {L : Addr} {m : Str → Option Value} {news : List (Addr × Obj)} {Q : Value → Shared → Prop}
    (F : Fr h₀ L s.heap m) (N : News h₀ L s.heap news) (hm : (a, W.listOf its n) ∈ news)
    (h : ∀ q h', Fr h₀ L h' m → News h₀ L h' ((q, boundObj "list.append" a) :: news) → (∀ p ∈ news, p.1 < q) → Q (.ref q) { s with heap := h', toks := s.toks + 1 }) :
    wpAny (model prog w) A (getAttr (.ref a) (Str.ofString "append") true) Q E s :=
  get_append (N.get hm) (h _ _ (F.push _) (N.push F _) fun p hp => Heap.lt_size (N p hp).1)
end Mine
end PartAp

section PartLo
open PySem PySem.W PyProof.Rows PySem.Calls PySem.StrLaws PySem.Builtin PySem.Builtin.Str
set_option maxRecDepth 100000
namespace Mine
section
variable {prog : Program} {w : World} {A : Around} {E : Value → Shared → Prop} {s : Shared} {env : Env} {h₀ : Heap} {x : Str} {body : List Stmt} {Q : Flow → Shared → Prop}

theorem iter_new {l : Addr} {vs : List Value} {m₀ : Str → Option Value} {rest : List (Addr × Obj)} (J : Nat → (Str → Option Value) → List (Addr × Obj) → Prop)
    (hh : A.handled = none) (hls : s.heap.IsList l vs.toArray) (hlL : l ≠ env.locals) (hlo : ∀ p ∈ rest, p.1 ≠ l) (F : Fr h₀ env.locals s.heap m₀) (N : News h₀ env.locals s.heap rest) (hj : J 0 m₀ rest)
    (turn : ∀ i v m₁ nx h tk own, vs[i]? = some v → nx.map (·.1) = rest.map (·.1) → OwnOff own (rest.map (·.1)) → J i m₁ nx → Fr h₀ env.locals h (fun y => if y = x then some v else m₁ y) → News h₀ env.locals h (nx ++ own) →
      wpAny (model prog w) A (execs body env) (InvPostN h₀ env.locals (J (i + 1)) own (rest.map (·.1)) { s with heap := h, toks := tk } Q) E { s with heap := h, toks := tk })
    (done : ∀ m₁ nx h tk, J vs.length m₁ nx → Fr h₀ env.locals h m₁ → News h₀ env.locals h nx → Q .next { s with heap := h, toks := tk }) :
    wpAny (model prog w) A (pyIter (.ref l)) (fun it s₂ => LoopAtV prog w A h₀ env x body Q E it s₂) E s := by
  obtain ⟨ol, hol, _⟩ := id hls
  have hlt : l < s.heap.objs.size := Heap.lt_size hol
  refine wpAny_pyIter_list hls ?_
  have W := Walks.list (prog := prog) (w := w) hh s.heap.objs.size l (Nat.ne_of_lt hlt) vs.toArray
  have hlen : vs.toArray.size = vs.length := List.size_toArray
  rw [hlen] at W
  let J' : Nat → (Str → Option Value) → List (Addr × Obj) → Prop := fun i m₁ news₁ => news₁.map (·.1) = rest.map (·.1) ∧ J i m₁ news₁
  refine ⟨_, _, _, vs.length, _, _, m₀, rest, J', rfl, W, ?_, ?_, ?_, ⟨⟨_, Heap.get?_push_size _ rfl, rfl, rfl⟩, hls.at fun o e => Heap.get?_push_of_some _ e⟩, F.push _, (fun p hp => ⟨Heap.get?_push_of_some _ (N p hp).1, (N p hp).2⟩), ⟨rfl, hj⟩, ?_, ?_⟩
  · intro hm
    rcases List.mem_cons.mp hm with e | hm
    · exact absurd F.ns.lt (e ▸ Nat.lt_irrefl _)
    · exact hlL (List.mem_singleton.mp hm).symm
  · intro b hb
    rw [List.mem_singleton.mp hb]
    exact next_is_new F
  · intro p hp hI
    exact absurd (Heap.lt_size (N p hp).1) ((List.mem_singleton.mp hI) ▸ Nat.lt_irrefl _)
  · rintro i v m₁ news₁ s₁ own ⟨hh', tk', rfl⟩ hin hP ⟨hadr, hJ⟩ hoff hown _ _ _ F₁ N₁
    have hsep : OwnOff own (rest.map (·.1)) := by
      intro p hp b hb e
      obtain ⟨q, hq, rfl⟩ := List.mem_map.mp hb
      rcases List.mem_cons.mp (hown p hp) with h1 | h1
      · exact absurd (Heap.lt_size (N q hq).1) (by rw [← e, h1]; exact Nat.lt_irrefl _)
      · exact hlo q hq (by rw [← e]; exact List.mem_singleton.mp h1)
    have hP' : vs[i]? = some v := by simpa using hP
    have N₂ : News h₀ env.locals hh' (news₁ ++ own) := fun p hp => N₁ p ((List.mem_append.mp hp).elim (fun h => List.mem_append.mpr (.inr h)) fun h => List.mem_append.mpr (.inl h))
    refine wpAny_mono (turn i v m₁ news₁ hh' tk' own hP' hadr hsep hJ F₁ N₂) (fun f s₂ p => ?_) fun _ _ e => e
    have fin : InvEndN h₀ env.locals (J (i + 1)) own (rest.map (·.1)) { s with heap := hh', toks := tk' } s₂ → LoopStepU h₀ env.locals [s.heap.objs.size] own (J' (i + 1)) { s with heap := hh', toks := tk' } .next s₂ := by
      rintro ⟨h', tk, m', news', nx, e, F', N', hn, ho, ha, hm⟩
      refine ⟨rfl, h', tk, m', nx, e, F', fun p hp => N' p ((List.mem_append.mp hp).elim (ho p) (hn p)), fun p hp hq => ?_, ha, hm⟩
      have h1 : p.1 ∈ nx.map (·.1) := List.mem_map.mpr ⟨p, hp, rfl⟩
      rw [ha, ← hadr] at h1
      obtain ⟨q, hq1, hq2⟩ := List.mem_map.mp h1
      exact hoff q hq1 (by rw [hq2]; exact hq)
    cases f with
    | ret v => exact .ret p
    | brk => exact .brk p
    | next => exact .next (fin p)
    | cont => exact .cont (fin p)
  · rintro h' tk m' news' F' N' _ ⟨_, hJ⟩
    exact done m' news' h' tk hJ F' N'
end
end Mine
end PartLo

section PartRv
open PySem PySem.W PyProof.Rows PySem.Calls PySem.StrLaws PySem.Builtin PySem.Builtin.Str
set_option maxRecDepth 100000
namespace Mine
theorem kst_self {m : Str → Option Value} {ps : List (Str × Value)} (h : ∀ p ∈ ps, m p.1 = some p.2) : kstB m ps = m := funext fun _ => kstB_eq h fun _ => rfl
section
variable {prog : Program} {w : World} {A : Around} {E : Value → Shared → Prop} {s : Shared} {h₀ : Heap} {L : Addr} {m : Str → Option Value} {Q : Value → Shared → Prop}
theorem rAppend {q a : Addr} {us : List Value} {x : Value} {n : Nat} {rest : List (Addr × Obj)} (F : Fr h₀ L s.heap m) (N : News h₀ L s.heap ((q, boundObj "list.append" a) :: (a, W.listOf us.toArray n) :: rest)) (hq : q ≠ a) (hr : ∀ p ∈ rest, p.1 ≠ a) (hsz : us.length ≤ 16777216)
    (h : ∀ h', Fr h₀ L h' m → News h₀ L h' ((q, boundObj "list.append" a) :: (a, W.listOf (us ++ [x]).toArray (n + 1)) :: rest) → Q .none { s with heap := h' }) :
    wpAny (model prog w) A (call (.ref q) [x]) Q E s := by
  refine call_bound_append (its := us.toArray) (n := n) (N.get (List.Mem.head _)) F N (Upd.tail hq (Upd.head hr)) (by rw [List.size_toArray]; exact hsz) ?_
  rw [List.push_toArray]
  exact h
theorem rJoin {l : Addr} {us : List Value} {ps : List (List Nat)} {eol : List Nat} {t : Tok} (hl : s.heap.IsList l us.toArray) (hu : StrsAre us (ps.map S)) (hsz : (cat eol ps).length ≤ 16777216)
    (h : ∀ t' k, Q (.str (S (joinL eol ps)) t') { s with toks := k }) : wpAny (model prog w) A (call (.builtin "str.join") [.str (S eol) t, .ref l]) Q E s := by
  refine join_list (ys := ps.map S) hl ?_ ?_ ?_
  · simpa using hu
  · rw [cat_len] at hsz
    rw [List.map_map, List.length_map, S_len]
    have e : List.map ((fun x => Str.length x) ∘ S) ps = ps.map List.length := List.map_congr_left fun p _ => S_len p
    rw [e]; exact hsz
  · intro t' k
    have e : Txt.join (S eol) (ps.map S) = S (joinL eol ps) := (glued_eq_join _ _).trans (join_S eol ps)
    rw [e]; exact h t' k
theorem strs_snoc {us : List Value} {ps : List (List Nat)} {p : List Nat} {t : Tok} (h : StrsAre us (ps.map S)) : StrsAre (us ++ [.str (S p) t]) ((ps ++ [p]).map S) := by
  rw [List.map_append]; exact kct_snoc h
theorem strs_len {us : List Value} {ps : List (List Nat)} (h : StrsAre us (ps.map S)) : us.length = ps.length := by
  rw [h.length, List.length_map]
theorem strs_get : ∀ {l : List (Str × Tok)} {R : List (List Nat)} {i : Nat} {v : Value}, l.map (·.1) = R.map S → (strValues l)[i]? = some v → ∃ r t, R[i]? = some r ∧ v = .str (S r) t := by
  intro l R i v h hv
  unfold strValues at hv
  rw [List.getElem?_map, Option.map_eq_some_iff] at hv
  obtain ⟨p, hp, rfl⟩ := hv
  have h1 := congrArg (fun z => z[i]?) h
  simp only [List.getElem?_map, hp, Option.map_some] at h1
  obtain ⟨r, hr, e⟩ := Option.map_eq_some_iff.mp h1.symm
  exact ⟨r, p.2, hr, by rw [e]⟩
end
end Mine
end PartRv

section PartBf
open PySem PySem.W PyProof.Rows PySem.Calls PySem.StrLaws PySem.Builtin PySem.Builtin.Str
set_option maxRecDepth 100000
namespace Mine
abbrev fx (q l : Addr) (wd : Nat) (eol body : List Nat) (k1 k2 k3 k4 k5 : Tok) : List (Str × Value) :=
  [(Str.ofString "append", .ref q), (Str.ofString "encoded_body", .ref l), (Str.ofString "maxlinelen1", .int ((wd : Int) - 1) k1), (Str.ofString "soft_break", .str (S ([61] ++ eol)) k2), (Str.ofString "body", .str (S body) k3), (Str.ofString "maxlinelen", .int (wd : Int) k4), (Str.ofString "eol", .str (S eol) k5)]
abbrev led (q l : Addr) (us : List Value) (n : Nat) (rest : List (Addr × Obj)) : List (Addr × Obj) := (q, boundObj "list.append" l) :: (l, W.listOf us.toArray n) :: rest

theorem callWith_BN {M : Model} {A : Around} {E : Value → Shared → Prop} {s : Shared} {env : Env} {pos : Pos} {first : List Value} {Q : Value → Shared → Prop} {q l : Addr} {us : List Value} {n : Nat} {h₀ : Heap} {L : Addr} {news : List (Addr × Obj)} {e : Expr} {rest : List Expr} (N0 : News h₀ L s.heap (led q l us n news))
    (h : wpAny M A (spliced (backTo pos (starEach (e :: rest) env))) (fun vs s₁ => s₁.heap.get? q = some (boundObj "list.append" l) ∧ wpAny M A (call (.ref q) (first ++ vs)) Q E s₁) E s)
    (he : starEach (e :: rest) env = (false, eval e env) :: starEach rest env := by rfl) (hplain : (backTo pos (starEach rest env)).any (·.1) = false := by rfl) :
    wpAny M A (callWith pos (.ref q) first (backTo pos (starEach (e :: rest) env)) []) Q E s := callWith_B h he hplain

theorem news_rest {h₀ h : Heap} {L q l : Addr} {us : List Value} {n : Nat} {rest : List (Addr × Obj)} (N : News h₀ L h (led q l us n rest)) : News h₀ L h rest := fun p hp => N p (List.Mem.tail _ (List.Mem.tail _ hp))
theorem flat_take_le {α : Type} (f : α → List Nat) (R : List α) (i : Nat) : ((R.take i).flatMap f).length ≤ (R.flatMap f).length := by
  conv => rhs; rw [← List.take_append_drop i R]
  rw [List.flatMap_append, List.length_append]
  omega
theorem flat_mem_le {α : Type} (f : α → List Nat) {R : List α} {t : α} (h : t ∈ R) : (f t).length ≤ (R.flatMap f).length := by
  obtain ⟨a, b, rfl⟩ := List.append_of_mem h
  rw [List.flatMap_append, List.flatMap_cons, List.length_append, List.length_append]
  omega

section
variable {prog : Program} {w : World} {A : Around} {E : Value → Shared → Prop} {s : Shared} {env : Env} {h₀ : Heap} {x : Str} {body : List Stmt} {Q : Flow → Shared → Prop}
  {q l lA : Addr} {wd : Nat} {eol bd : List Nat} {k1 k2 k3 k4 k5 : Tok} {m₀ : Str → Option Value} {news : List (Addr × Obj)} {ls : List (Str × Tok)} {oA : Obj}

theorem be_for {R : List (List Item)} (hh : A.handled = none) (hk : ∀ p ∈ fx q l wd eol bd k1 k2 k3 k4 k5, m₀ p.1 = some p.2) (hls : ls.map (·.1) = (R.map tf).map S)
    (hisl : s.heap.IsList lA (strValues ls).toArray) (F : Fr h₀ env.locals s.heap m₀) (N : News h₀ env.locals s.heap ((lA, oA) :: led q l [] 0 news))
    (ltn : ∀ p ∈ news, p.1 < l) (ltq : ∀ p ∈ (l, W.listOf #[] 0) :: news, p.1 < q) (hlo : ∀ p ∈ led q l [] 0 news, p.1 ≠ lA)
    (hR : (R.flatMap fun t => txt t ++ [10]).length ≤ 64)
    (turn : ∀ (q l : Addr) (t : List Item) (T : List Nat) m₁ us n ps rest h tk tkl, q ≠ l → (∀ p ∈ rest, p.1 ≠ l) → t ∈ R → StrsAre us (ps.map S) → AllOk wd eol T ps → T.length ≤ 64 → (txt t).length ≤ 64 →
      Fr h₀ env.locals h (fun y => if y = x then some (.str (S (tf t)) tkl) else kstB m₁ (fx q l wd eol bd k1 k2 k3 k4 k5) y) → News h₀ env.locals h (led q l us n rest) →
      ∀ K : Flow → Shared → Prop, (∀ h' tk' m' us' n' pn, Fr h₀ env.locals h' m' → News h₀ env.locals h' (led q l us' n' rest) → (∀ p ∈ fx q l wd eol bd k1 k2 k3 k4 k5, m' p.1 = some p.2) → StrsAre us' ((ps ++ pn).map S) → LineOk wd eol t pn → K .next { s with heap := h', toks := tk' }) →
      wpAny (model prog w) A (execs body env) K E { s with heap := h, toks := tk })
    (done : ∀ (q l : Addr) m₁ us n ps h tk, q ≠ l → (∀ p ∈ news, p.1 ≠ l) → (∀ p ∈ fx q l wd eol bd k1 k2 k3 k4 k5, m₁ p.1 = some p.2) → StrsAre us (ps.map S) → AllOk wd eol (R.flatMap fun t => txt t ++ [10]) ps → Fr h₀ env.locals h m₁ → News h₀ env.locals h (led q l us n news) → Q .next { s with heap := h, toks := tk }) :
    wpAny (model prog w) A (pyIter (.ref lA)) (fun it s₂ => LoopAtV prog w A h₀ env x body Q E it s₂) E s := by
  have hql : q ≠ l := fun e => Nat.lt_irrefl _ (e ▸ ltq _ (List.Mem.head _))
  have hnl : ∀ p ∈ news, p.1 ≠ l := fun p hp => Nat.ne_of_lt (ltn p hp)
  have hlen : (strValues ls).length = R.length := by
    have := congrArg List.length hls
    simpa [strValues] using this
  refine iter_new (rest := led q l [] 0 news) (fun i m nx => ∃ us n ps, nx = led q l us n news ∧ StrsAre us (ps.map S) ∧ AllOk wd eol ((R.take i).flatMap fun t => txt t ++ [10]) ps ∧ ∀ p ∈ fx q l wd eol bd k1 k2 k3 k4 k5, m p.1 = some p.2)
    hh hisl (N _ (List.Mem.head _)).2.1 hlo F (fun p hp => N p (List.Mem.tail _ hp)) ⟨[], 0, [], rfl, .nil, by simpa using all_nil wd eol, hk⟩ ?_ ?_
  · rintro i v m₁ nx h tk own hv _ hown ⟨us, n, ps, rfl, hu, hA, hm⟩ F₁ N₁
    obtain ⟨r, tkl, hr, rfl⟩ := strs_get hls hv
    rw [List.getElem?_map, Option.map_eq_some_iff] at hr
    obtain ⟨t, ht, rfl⟩ := hr
    have htm := List.mem_of_getElem? ht
    have hb1 := flat_take_le (fun t => txt t ++ [10]) R i
    have hb2 := flat_mem_le (fun t => txt t ++ [10]) htm
    have F₂ : Fr h₀ env.locals h (fun y => if y = x then some (.str (S (tf t)) tkl) else kstB m₁ (fx q l wd eol bd k1 k2 k3 k4 k5) y) := by rw [kst_self hm]; exact F₁
    refine turn q l t _ m₁ us n ps (news ++ own) h tk tkl hql (fun p hp => ?_) htm hu hA (by omega) (by rw [List.length_append] at hb2; omega) F₂ N₁ _ ?_
    · rcases List.mem_append.mp hp with hp | hp
      · exact hnl p hp
      · exact hown p hp l (by simp)
    · intro h' tk' m' us' n' pn F' N' hm' hu' hl'
      refine ⟨h', tk', m', led q l us' n' (news ++ own), led q l us' n' news, rfl, F', N', ?_, ?_, rfl, us', n', ps ++ pn, rfl, hu', ?_, hm'⟩
      · intro p hp
        rcases List.mem_cons.mp hp with rfl | hp
        · exact List.Mem.head _
        · rcases List.mem_cons.mp hp with rfl | hp
          · exact List.Mem.tail _ (List.Mem.head _)
          · exact List.Mem.tail _ (List.Mem.tail _ (List.mem_append_left _ hp))
      · intro p hp
        exact List.Mem.tail _ (List.Mem.tail _ (List.mem_append_right _ hp))
      · have e : (R.take (i + 1)).flatMap (fun t => txt t ++ [10]) = (R.take i).flatMap (fun t => txt t ++ [10]) ++ (txt t ++ [10]) := by
          rw [List.take_add_one, ht, List.flatMap_append]; simp
        rw [e]
        exact all_step hA hl'
  · rintro m₁ nx h tk ⟨us, n, ps, rfl, hu, hA, hm⟩ F₁ N₁
    rw [hlen, List.take_length] at hA
    exact done q l m₁ us n ps h tk hql hnl hm hu hA F₁ N₁

theorem be_while {L : Addr} {test : Expr} {pos : Pos} {t : List Item} {fs : List (Str × Value)} {us : List Value} {n : Nat} {ps : List (List Nat)} {rest : List (Addr × Obj)} {kz : Tok}
    (ht : Toks t) (F : Fr h₀ L s.heap m₀) (N : News h₀ L s.heap (led q l us n rest)) (hfs : ∀ p ∈ fs, m₀ p.1 = some p.2) (hst : m₀ (Str.ofString "start") = some (.int 0 kz)) (hu : StrsAre us (ps.map S))
    (turn : ∀ t1 t2 pn us n m₁ h tk ks, t = t1 ++ t2 → PreOk wd eol t1 pn → ((tf t1).length = 0 ∨ (tf t1).length < (tf t).length) → StrsAre us ((ps ++ pn).map S) →
      Fr h₀ L h (kstB m₁ ((Str.ofString "start", .int ((tf t1).length : Nat) ks) :: fs)) → News h₀ L h (led q l us n rest) →
      ∀ K : Flow → Shared → Prop, (∀ h' tk' m' us' n' u v z ks', t2 = u ++ v → 1 ≤ (tf u).length → (tf u).length + 1 ≤ wd → (tf t1).length + (tf u).length < (tf t).length → Fr h₀ L h' m' → News h₀ L h' (led q l us' n' rest) → (∀ p ∈ fs, m' p.1 = some p.2) →
          m' (Str.ofString "start") = some (.int z ks') → z = (((tf t1).length + (tf u).length : Nat) : Int) → StrsAre us' ((ps ++ pn ++ [tf u ++ [61]]).map S) → K .next { s with heap := h', toks := tk' }) →
      wpAny (model prog w) A (isTrue test env (eval test env)) (fun b s₂ => if b = true then wpAny (model prog w) A (execs body env) K E s₂ else Q .next s₂) E { s with heap := h, toks := tk })
    (he : eol.length ≤ 2) (hE : PassesOwn (model prog w) A env E) :
    wpAny (model prog w) A (exec (.While test body [] pos) env) Q E s := by
  refine While_inv2 (fun k m nx => ∃ t1 t2 pn us n ks, k = (tf t).length - (tf t1).length ∧ nx = led q l us n rest ∧ t = t1 ++ t2 ∧ PreOk wd eol t1 pn ∧ ((tf t1).length = 0 ∨ (tf t1).length < (tf t).length) ∧ StrsAre us ((ps ++ pn).map S) ∧
      m (Str.ofString "start") = some (.int ((tf t1).length : Nat) ks) ∧ ∀ p ∈ fs, m p.1 = some p.2) F N ⟨[], t, [], us, n, kz, rfl, rfl, rfl, pre_nil wd eol, .inl rfl, by simpa using hu, hst, hfs⟩ ?_ hE
  rintro k m₁ nx h tk F₁ N₁ ⟨t1, t2, pn, us, n, ks, rfl, rfl, e, hP, hz, hu', hs, hf⟩
  have hm : ∀ p ∈ ((Str.ofString "start", Value.int ((tf t1).length : Nat) ks) :: fs), m₁ p.1 = some p.2 := by
    intro p hp
    rcases List.mem_cons.mp hp with rfl | hp
    · exact hs
    · exact hf p hp
  refine turn t1 t2 pn us n m₁ h tk ks e hP hz hu' (by rw [kst_self hm]; exact F₁) N₁ _ ?_
  rintro h' tk' m' us' n' u v z ks' e2 h1 h2 h3 F' N' hf' hs' rfl hu''
  refine ⟨h', tk', m', _, (tf t).length - ((tf t1).length + (tf u).length), rfl, F', N', by omega, t1 ++ u, v, pn ++ [tf u ++ [61]], us', n', ks', ?_, rfl, ?_, ?_, ?_, ?_, ?_, hf'⟩
  · rw [tf_app, List.length_append]
  · rw [e, e2, List.append_assoc]
  · have : Toks u := (Toks.app (e2 ▸ (Toks.app (e ▸ ht)).2)).1
    exact pre_step he hP this h1 h2
  · rw [tf_app, List.length_append]; exact .inr h3
  · rw [← List.append_assoc]; exact hu''
  · rw [tf_app, List.length_append]; exact hs'
end
end Mine
end PartBf

section PartQu
open PySem PySem.W PyProof.Rows PySem.Calls
namespace Mine

local macro_rules | `(tactic| walk_at "m enter") => `(tactic| (
  refine wpAny_call ?_
  refine' code_def ?B ?F ?X ?N ?T ?hA ?hf ?hke ?k6 ?k7 ?hroom ?k9 ?kB ?_ ?c2 ?c3 ?c4 ?c5
  case B => assumption
  case F => assumption
  case X => assumption
  case N => assumption
  case T => assumption
  case hA => assumption
  case hf => assumption
  case hke => assumption
  case k6 => k_is
  case k7 => k_is
  case hroom => omega
  case k9 => first | exact BindsTo.of_eq rfl | exact binds_K (by k_in) rfl (by k_is) rfl rfl rfl
  case c5 => decide
  case kB => exact locs rfl
  case c2 => exact rfl
  case c3 => exact rfl
  case c4 => exact rfl
  intro g' L' h' FG' F' N' B' X' T'
  (try dsimp only)
  (try k_fold)))
local macro_rules | `(tactic| walk_at "m leave") => `(tactic| (
  (repeat (first | k_unfold | dsimp only))
  refine' leaveK_ ?k1 ?k2 ?_
  case k1 => assumption
  case k2 => assumption))
local macro_rules | `(tactic| walk_at "m unq") => `(tactic| (refine' rSlice (s := ⟨_, _, _, _, _⟩) ?F ?N ?a ?b ?c ?d ?e ?_; (case F => assumption); (case N => assumption); (case a => decide); (case b => decide); (case c => (simp only [List.length_cons, hex2_len]; decide)); (case d => (simp only [List.length_cons, hex2_len]; decide)); (case e => exact rfl); intro h' t' k' F' N'))
local macro_rules | `(tactic| walk_at "subscriptTail Name Slice str ref") => `(tactic| walk_at "m unq")
local macro_rules | `(tactic| walk_at "subscriptTail Name Slice") => `(tactic| walk_at "m unq")
local macro_rules | `(tactic| walk_at "subscriptTail Name") => `(tactic| walk_at "m unq")
local macro_rules | `(tactic| walk_at "subscriptTail") => `(tactic| walk_at "m unq")
local macro_rules | `(tactic| walk_at "call type:int") => `(tactic| (refine call16 (by assumption) ?_))
section
variable {w : World} {A A₀ : Around} {base h₀ : Heap} {outer : List Env} {L : Addr} {m mg mb : Str → Option Value} {news : List (Addr × Obj)} {s : Shared} {env : Env} {p : Program} {loose : List Str} {mean : ExcName → Option Value} {Q : Value → Shared → Prop} {E : Value → Shared → Prop}
set_option maxRecDepth 100000 in
set_option maxHeartbeats 8000000 in
theorem quote_call {c : Nat} {t : Tok} (hc : c = 32 ∨ c = 9) (B : Below A₀ base outer h₀) (F : Fr h₀ L s.heap m) (X : (Mine.Hd.K w.params).In h₀) (N : News h₀ L s.heap news) (T : Top p loose mean mg mb h₀)
    (hA : A.frames = some (env :: outer)) (hf : env.frame = some L) (hke : env.scope.kind = .function) (hroom : A.depth < recursionLimit)
    (h : ∀ h' tk t', Fr h₀ L h' m → News h₀ L h' news → Q (.str (S (61 :: hex2 c)) t') { s with heap := h', toks := tk }) :
    wpAny (model PySem.Challenge.rw_wy0003_01.row.prog w) A (call (.ref 44) [.str (S [c]) t]) Q E s := by
  revert X; k_fill; intro X
  rcases hc with rfl | rfl
  · walk_at "m enter"
    k_steps
    rw [show Mine.Hd.t [61, 50, 48] 325 = .str (S (61 :: hex2 32)) 325 from by unfold Mine.Hd.t; rw [show S (61 :: hex2 32) = ⟨⟨[61, 50, 48]⟩⟩ from by decide +kernel]]
    exact h _ _ _ (by assumption) (by assumption)
  · walk_at "m enter"
    k_steps
    rw [show Mine.Hd.t [61, 48, 57] 233 = .str (S (61 :: hex2 9)) 233 from by unfold Mine.Hd.t; rw [show S (61 :: hex2 9) = ⟨⟨[61, 48, 57]⟩⟩ from by decide +kernel]]
    exact h _ _ _ (by assumption) (by assumption)

set_option maxRecDepth 100000 in
set_option maxHeartbeats 8000000 in
theorem unquote_call {c : Nat} {t : Tok} (hc : c = 61 ∨ c = 233 ∨ c = 127 ∨ c = 1 ∨ c = 32 ∨ c = 9) (B : Below A₀ base outer h₀) (F : Fr h₀ L s.heap m) (X : (Mine.Hd.K w.params).In h₀) (N : News h₀ L s.heap news) (T : Top p loose mean mg mb h₀)
    (hA : A.frames = some (env :: outer)) (hf : env.frame = some L) (hke : env.scope.kind = .function) (hroom : A.depth < recursionLimit)
    (h : ∀ h' tk t', Fr h₀ L h' m → News h₀ L h' news → Q (.str (S [c]) t') { s with heap := h', toks := tk }) :
    wpAny (model PySem.Challenge.rw_wy0003_01.row.prog w) A (call (.ref 37) [.str (S (61 :: hex2 c)) t]) Q E s := by
  revert X; k_fill; intro X
  walk_at "m enter"
  k_steps
  rw [Int.toNat_natCast]
  exact h _ _ _ (by assumption) (by assumption)
end
end Mine
end PartQu

section PartBe0
open PySem PySem.W PyProof.Rows PySem.Calls
namespace Mine
-- MACROS BEGIN
local macro_rules | `(tactic| walk_at "m fact") => `(tactic| first | assumption | (symm; assumption) | omega | decide | (simp only [List.length_append, List.length_cons, List.length_nil]; omega) | (simp_all; done))
local macro_rules | `(tactic| walk_at "m size") => `(tactic| first | omega | (simp only [List.length_append, List.length_cons, List.length_nil, List.length_take, List.length_drop]; omega))
local macro_rules | `(tactic| walk_at "eval Constant str") => `(tactic| first | refine rConst lit_eq ?_ | refine rConst lit_nl ?_ | refine rConst lit_crnl ?_ | refine rConst lit_empty ?_ | refine rConst lit_bt ?_ | refine rConst lit_b ?_ | refine rConst lit_t ?_ | refine rConst lit_eqnl ?_ | refine rConst lit_menu ?_)
local macro_rules | `(tactic| walk_at "truthy str") => `(tactic| first | (refine rTruthyT ?a ?b ?_; (case a => walk_at "m fact"); (case b => walk_at "m size")) | (refine rTruthyF ?a ?_; (case a => walk_at "m fact")))
local macro_rules | `(tactic| walk_at "binaryOp Add str str") => `(tactic| (refine rAdd ?a ?_; (case a => walk_at "m size"); intro _ _))
local macro_rules | `(tactic| walk_at "inplaceOp Add str str") => `(tactic| (refine rIAdd ?a ?_; (case a => walk_at "m size"); intro _ _))
local macro_rules | `(tactic| walk_at "compareOp Eq str str") => `(tactic| first | (refine rEqT ?a ?_; (case a => walk_at "m fact")) | (refine rEqF ?a ?_; (case a => walk_at "m fact")))
local macro_rules | `(tactic| walk_at "compareOp NotEq str str") => `(tactic| first | (refine rNeT ?a ?_; (case a => walk_at "m fact")) | (refine rNeF ?a ?_; (case a => walk_at "m fact")))
local macro_rules | `(tactic| walk_at "compareOp In str str") => `(tactic| first | (refine rInT ?a ?_; (case a => walk_at "m fact")) | (refine rInF ?a ?_; (case a => walk_at "m fact")) | (refine rInT2 lit_crnl ?a ?_; (case a => walk_at "m fact")) | (refine rInF2 lit_crnl ?a ?_; (case a => walk_at "m fact")) | (refine rInT2 lit_hex ?a ?_; (case a => walk_at "m fact")) | (refine rInF2 lit_hex ?a ?_; (case a => walk_at "m fact")))
local macro_rules | `(tactic| walk_at "compareOp NotIn str str") => `(tactic| first | (refine rNotInT ?a ?_; (case a => walk_at "m fact")) | (refine rNotInF ?a ?_; (case a => walk_at "m fact")))
local macro_rules | `(tactic| walk_at "call builtin:len") => `(tactic| ((with_reducible show wpAny _ _ (call (Value.builtin "len") [Value.str _ _]) _ _ _); refine rLen ?a ?_; (case a => walk_at "m size")))
local macro_rules | `(tactic| walk_at "getMethod str") => `(tactic| with_reducible refine get_translate ?_)
local macro_rules | `(tactic| walk_at "call builtin:str.translate") => `(tactic| (refine call_translate ?a ?b ?c ?d ?_; (case a => assumption); (case b => omega); (case c => assumption); (case d => k_in); intro _ _))
local macro_rules | `(tactic| walk_at "getAttr ref") => `(tactic| (refine' rGetAppend ?a ?b ?c ?_; (case a => assumption); (case b => assumption); (case c => k_mem); intro q' h' F' N' lt'))
local macro_rules | `(tactic| walk_at "m steps") => `(tactic| repeat' (first
  | (k_unfold; (try dsimp only))
  | ((fail_if_success (with_reducible show wpAny _ _ (exec (Stmt.While _ _ _ _) _) _ _ _)); (fail_if_success (with_reducible show wpAny _ _ (exec (Stmt.For _ _ _ _ _) _) _ _ _)); (fail_if_success (with_reducible show wpAny _ _ (pyIter _) _ _ _)); (fail_if_success (with_reducible show InvPostN _ _ _ _ _ _ _ _ _)); (fail_if_success (with_reducible show WhileStep2 _ _ _ _ _ _ _ _)); (first | walk1 | (dsimp only; walk1)))))
local macro_rules | `(tactic| walk_at "call ref") => `(tactic| first
  | (refine' rAppend ?F ?N ?q ?r ?z ?_; (case F => assumption); (case N => assumption); (case q => assumption); (case r => assumption); (case z => assumption); intro h' F' N')
  | (refine' quote_call ?c ?B ?F ?X ?N ?T ?hA ?hf ?hke ?hroom ?_; (case B => assumption); (case F => assumption); (case X => assumption); (case N => assumption); (case T => assumption); (case hA => exact Around.frames_deeper (by assumption)); (case hf => rfl); (case hke => rfl); (case c => assumption); (case hroom => (show _ + 1 < _; omega)); intro h' tk' t' F' N'))
local macro_rules | `(tactic| walk_at "m all") => `(tactic| first | exact List.forall_mem_nil _ | (refine' List.forall_mem_cons.mpr ⟨?ha, ?hb⟩; (case ha => first | (with_reducible exact rfl) | (with_unfolding_all exact rfl)); (case hb => walk_at "m all")))
local macro_rules | `(tactic| walk_at "m item") => `(tactic| ((with_reducible show wpAny _ _ (subscriptTail _ _ (Value.str _ _) (Value.int _ _)) _ _ _); first | (refine' rItem ?a ?b ?c ?_; (case b => assumption); (case a => omega); (case c => omega)) | (refine' rItemLast ?b ?c ?_; (case b => assumption); (case c => omega))))
local macro_rules | `(tactic| walk_at "m slice") => `(tactic| (((with_reducible show wpAny _ _ (subscriptTail _ (Expr.Slice _ _ _ _) (Value.str _ _) (Value.ref _)) _ _ _); first
  | ((with_reducible show wpAny _ _ (subscriptTail _ (Expr.Slice (some _) (some _) none _) _ _) _ _ _); first
    | (refine' rSlice (s := ⟨_, _, _, _, _⟩) ?F ?N ?a ?b ?c ?d ?e ?_; (case F => assumption); (case N => assumption); (case a => omega); (case b => omega); (case c => omega); (case d => omega); (case e => assumption))
    | (refine' rSliceNeg (s := ⟨_, _, _, _, _⟩) ?F ?N ?a ?b ?c ?d ?e ?f ?_; (case F => assumption); (case N => assumption); (case a => omega); (case b => omega); (case c => omega); (case d => omega); (case e => omega); (case f => assumption)))
  | ((with_reducible show wpAny _ _ (subscriptTail _ (Expr.Slice (some _) none none _) _ _) _ _ _); refine' rSliceFrom (s := ⟨_, _, _, _, _⟩) ?F ?N ?a ?b ?d ?e ?_; (case F => assumption); (case N => assumption); (case a => omega); (case b => omega); (case d => omega); (case e => assumption))
  | ((with_reducible show wpAny _ _ (subscriptTail _ (Expr.Slice none (some _) none _) _ _) _ _ _); refine' rSliceTo (s := ⟨_, _, _, _, _⟩) ?F ?N ?a ?b ?d ?e ?_; (case F => assumption); (case N => assumption); (case a => omega); (case b => omega); (case d => omega); (case e => assumption))); intro h' t' k' F' N'))
local macro_rules | `(tactic| walk_at "subscriptTail") => `(tactic| first | walk_at "m item" | walk_at "m slice")
local macro_rules | `(tactic| walk_at "subscriptTail Name") => `(tactic| first | walk_at "m item" | walk_at "m slice")
local macro_rules | `(tactic| walk_at "subscriptTail Name BinOp") => `(tactic| first | walk_at "m item" | walk_at "m slice")
local macro_rules | `(tactic| walk_at "subscriptTail Name Name") => `(tactic| first | walk_at "m item" | walk_at "m slice")
local macro_rules | `(tactic| walk_at "subscriptTail Name BinOp str int") => `(tactic| first | walk_at "m item" | walk_at "m slice")
local macro_rules | `(tactic| walk_at "subscriptTail Name Name str int") => `(tactic| first | walk_at "m item" | walk_at "m slice")
local macro_rules | `(tactic| walk_at "subscriptTail Name UnaryOp str int") => `(tactic| first | walk_at "m item" | walk_at "m slice")
local macro_rules | `(tactic| walk_at "subscriptTail Name Constant str int") => `(tactic| first | walk_at "m item" | walk_at "m slice")
local macro_rules | `(tactic| walk_at "subscriptTail Name Slice str ref") => `(tactic| first | walk_at "m item" | walk_at "m slice")
local macro_rules | `(tactic| walk_at "subscriptTail Name Slice") => `(tactic| first | walk_at "m item" | walk_at "m slice")
local macro_rules | `(tactic| walk_at "callWith ref") => `(tactic| (refine' callWith_BN ?N ?_ ?x ?y; (case N => assumption); (case x => exact rfl); (case y => exact rfl)))
local macro_rules | `(tactic| walk_at "And") => `(tactic| ((with_reducible show _ = some (boundObj _ _) ∧ _); refine ⟨News.get (by assumption) (List.Mem.head _), ?_⟩; (try dsimp only [List.nil_append])))
local macro_rules | `(tactic| walk_at "compareOp Eq int int") => `(tactic| first | (refine rEqIntT ?a ?_; (case a => omega)) | (refine rEqIntF ?a ?_; (case a => omega)))
local macro_rules | `(tactic| walk_at "compareOp NotEq int int") => `(tactic| first | (refine rNeIntT ?a ?_; (case a => omega)) | (refine rNeIntF ?a ?_; (case a => omega)))
local macro_rules | `(tactic| walk_at "call builtin:str.join") => `(tactic| (refine' rJoin ?a ?b ?c ?_; (case a => exact News.isList (by assumption) (List.Mem.tail _ (List.Mem.head _))); (case b => first | assumption | exact strs_snoc (by assumption)); (case c => first | assumption | omega); intro t' k'))
-- MACROS END
section
variable {w : World} {A A₀ : Around} {base h₀ : Heap} {outer : List Env} {L : Addr} {m mg mb : Str → Option Value} {news : List (Addr × Obj)} {s : Shared} {env : Env} {p : Program} {loose : List Str} {mean : ExcName → Option Value} {Q : Value → Shared → Prop} {E : Value → Shared → Prop}
set_option maxRecDepth 100000 in
set_option maxHeartbeats 8000000 in
theorem be_call {tl eol : List Nat} {wd : Nat} {t1 t2 t3 : Tok} {pos : List Value} (B : Below A₀ base outer h₀) (F : Fr h₀ L s.heap m) (X : (Mine.Hd.K w.params).In h₀) (N : News h₀ L s.heap news) (T : Top p loose mean mg mb h₀)
    (hA : A.frames = some (env :: outer)) (hf : env.frame = some L) (hke : env.scope.kind = .function) (hroom : A.depth + 2 < recursionLimit) (hh : A.handled = none)
    (hb : (pos = [.str (S tl) t1, .int (wd : Int) t2] ∧ eol = [10] ∧ t3 = 189) ∨ pos = [.str (S tl) t1, .int (wd : Int) t2, .str (S eol) t3])
    (hw : 4 ≤ wd) (htl : tl.length ≤ 63) (hne : tl ≠ []) (hal : ∀ c ∈ tl, Alph c) (heol : Eol eol)
    (hQ : ∀ h' tk v t', Fr h₀ L h' m → News h₀ L h' news → (∃ x, v = .str (S x) t' ∧ Enc wd eol tl x) → Q v { s with heap := h', toks := tk }) :
    wpAny (model PySem.Challenge.rw_wy0003_01.row.prog w) A (call (.ref 57) pos) Q E s := by
  revert X; k_fill; intro X
  refine wpAny_call ?_
  refine' code_def B F X N T hA hf hke ?k6 ?k7 (by omega) ?k9 ?kB ?_ ?c2 ?c3 ?c4 ?c5
  case k6 => k_is
  case k7 => k_is
  case k9 =>
    refine (?_ : BindsTo s _ ⟨pos, []⟩ [(Str.ofString "body", .str (S tl) t1), (Str.ofString "maxlinelen", .int (wd : Int) t2), (Str.ofString "eol", .str (S eol) t3)])
    rcases hb with ⟨rfl, rfl, rfl⟩ | rfl
    · rw [← lit_nl]; exact binds_K (by k_in) rfl (by k_is) rfl rfl rfl
    · first | exact BindsTo.of_eq rfl | exact binds_K (by k_in) rfl (by k_is) rfl rfl rfl
  case c5 => decide
  case kB => exact locs rfl
  case c2 => exact rfl
  case c3 => exact rfl
  case c4 => exact rfl
  intro g' L' h' FG' F' N' B' X' T'
  (try dsimp only)
  (try k_fold)
  have htr := trs_len tl
  have he2 : eol.length ≤ 2 := by rcases heol with rfl | rfl <;> simp
  have he1 : 1 ≤ eol.length := by rcases heol with rfl | rfl <;> simp
  walk_at "m steps"
  refine For_invV g' (by rfl) (by rfl) ?_
  walk_at "m steps"
  rename (List.map _ _ = Txt.lines _) => hls
  rename (List (Str × Tok)) => ls
  rename (Heap.IsList _ _ _) => hisl
  rename (∀ p ∈ news, p.1 < _) => ltn
  rename (∀ p ∈ (_, W.listOf #[] 0) :: news, p.1 < _) => ltq
  rename Fr g' _ _ _ => F1
  rename News g' _ _ (_ :: (_, boundObj _ _) :: _) => N1
  rename News g' _ _ ((_, boundObj _ _) :: _) => N0
  have hRl : ls.map (·.1) = ((rowsT tl).map tf).map S := by rw [hls, rowsT_lines hal]
  have hgood := rowsT_good hal
  refine' be_for (R := rowsT tl) (wd := wd) (eol := eol) (bd := tl.flatMap tr) hh ?hk hRl hisl F1 N1 ltn ltq ?hlo ?hR ?turn ?done
  case hk => walk_at "m all"
  case hlo => exact fun p hp => Nat.ne_of_lt (Heap.lt_size (N0 p hp).1)
  case hR =>
    rw [rowsT_txt, List.length_append]
    split <;> simp <;> omega
  case turn =>
    clear ltn ltq hisl F1 N1 N0 hls hRl
    intro q l t T m₁ us n ps rest h tk tkl hql hrest htR hus hAll hT htt F1 N1 K hK
    have ht := hgood t htR
    have htl3 := tf_len ht
    walk_at "m steps"
    rename Fr g' _ _ (fun y => if y = _ then _ else if y = _ then _ else if y = _ then _ else _) => F2
    rename News g' _ _ (led q l us n rest) => N2
    refine' be_while (t := t) (wd := wd) (eol := eol) (fs := (Str.ofString "line", .str (S (tf t)) tkl) :: (Str.ofString "laststart", .int (((tf t).length : Nat) - 1 - (wd : Int)) _) :: fx q l wd eol (tl.flatMap tr) _ _ _ _ _) ht F2 N2 ?hfs ?hst hus ?turn2 he2 (by passes_own)
    case hfs => walk_at "m all"
    case hst => with_unfolding_all exact rfl
    clear F2 N2 F1 N1
    case turn2 =>
      intro p1 p2 pn us n m₁ h tk ks e hP hz hus F1 N1 K2 hK2
      have hg12 := (e ▸ ht : Toks (p1 ++ p2)).app
      have hg1 := hg12.1
      have hg2 := hg12.2
      clear hg12
      have hlen : (tf t).length = (tf p1).length + (tf p2).length := by rw [e, tf_app, List.length_append]
      have hz1 := two_count he1 (all_len hAll) (pre_len hP)
      rw [← strs_len hus] at hz1
      have hsz : us.length ≤ 16777216 := by omega
      by_cases hlt : (tf p1).length + wd + 1 ≤ (tf t).length
      · have hget : ∀ j, (tf t)[(tf p1).length + j]? = (tf p2)[j]? := fun j => by
          rw [e, tf_app, List.getElem?_append_right (Nat.le_add_right _ _), Nat.add_sub_cancel_left]
        have hdrop : (tf t).drop (tf p1).length = tf p2 := by rw [e, tf_app, List.drop_left']; rfl
        obtain ⟨c1, hc1⟩ : ∃ c, (tf p2)[wd - 3]? = some c := ⟨(tf p2)[wd - 3]'(by omega), List.getElem?_eq_getElem _⟩
        obtain ⟨c2, hc2⟩ : ∃ c, (tf p2)[wd - 2]? = some c := ⟨(tf p2)[wd - 2]'(by omega), List.getElem?_eq_getElem _⟩
        have hi1 : (tf t)[((((tf p1).length : Nat) : Int) + ((wd : Int) - 1) - 2).toNat]? = some c1 := by
          rw [show ((((tf p1).length : Nat) : Int) + ((wd : Int) - 1) - 2).toNat = (tf p1).length + (wd - 3) from by omega, hget, hc1]
        have hi2 : (tf t)[((((tf p1).length : Nat) : Int) + ((wd : Int) - 1) - 1).toNat]? = some c2 := by
          rw [show ((((tf p1).length : Nat) : Int) + ((wd : Int) - 1) - 1).toNat = (tf p1).length + (wd - 2) from by omega, hget, hc2]
        have hcut := cut_cases (m := wd - 1) hg2 (by omega) (by omega)
        rw [show wd - 1 - 2 = wd - 3 from by omega, show wd - 1 - 1 = wd - 2 from by omega, hc1, hc2] at hcut
        have hd0 : (tf t).drop ((((tf p1).length : Nat) : Int)).toNat = tf p2 := by rw [Int.toNat_natCast]; exact hdrop
        by_cases e1 : c1 = 61
        · obtain ⟨u, v, e2, hu, hk⟩ := hcut.1 (by rw [e1])
          subst e1
          have hs : ((tf t).drop ((((tf p1).length : Nat) : Int)).toNat).take ((((tf p1).length : Nat) : Int) + ((wd : Int) - 1) - 1 - (((tf p1).length : Nat) : Int)).toNat = tf u ++ [61] := by
            rw [hd0, show ((((tf p1).length : Nat) : Int) + ((wd : Int) - 1) - 1 - (((tf p1).length : Nat) : Int)).toNat = wd - 2 from by omega, hk]
          walk_at "m steps"
          refine' hK2 _ _ _ _ _ u v _ _ e2 (by omega) (by omega) (by omega) (by assumption) (by assumption) ?ha1 ?hb1 ?hc1 (strs_snoc hus)
          case ha1 => walk_at "m all"
          case hb1 => with_unfolding_all exact rfl
          case hc1 => omega
        · have hn1 : ([c1] : List Nat) ≠ [61] := by simpa using e1
          have e1' : some c1 ≠ some 61 := by simpa using e1
          by_cases e2 : c2 = 61
          · obtain ⟨u, v, e3, hu, hk⟩ := hcut.2.1 e1' (by rw [e2])
            subst e2
            have hs : ((tf t).drop ((((tf p1).length : Nat) : Int)).toNat).take ((((tf p1).length : Nat) : Int) + ((wd : Int) - 1) - (((tf p1).length : Nat) : Int)).toNat = tf u ++ [61] := by
              rw [hd0, show ((((tf p1).length : Nat) : Int) + ((wd : Int) - 1) - (((tf p1).length : Nat) : Int)).toNat = wd - 1 from by omega, hk]
            walk_at "m steps"
            refine' hK2 _ _ _ _ _ u v _ _ e3 (by omega) (by omega) (by omega) (by assumption) (by assumption) ?ha2 ?hb2 ?hc2 (strs_snoc hus)
            case ha2 => walk_at "m all"
            case hb2 => with_unfolding_all exact rfl
            case hc2 => omega
          · have hn2 : ([c2] : List Nat) ≠ [61] := by simpa using e2
            have e2' : some c2 ≠ some 61 := by simpa using e2
            obtain ⟨u, v, e3, hu, hk⟩ := hcut.2.2 e1' e2'
            have hs : ((tf t).drop ((((tf p1).length : Nat) : Int)).toNat).take ((((tf p1).length : Nat) : Int) + ((wd : Int) - 1) - (((tf p1).length : Nat) : Int)).toNat = tf u := by
              rw [hd0, show ((((tf p1).length : Nat) : Int) + ((wd : Int) - 1) - (((tf p1).length : Nat) : Int)).toNat = wd - 1 from by omega, hk]
            walk_at "m steps"
            refine' hK2 _ _ _ _ _ u v _ _ e3 (by omega) (by omega) (by omega) (by assumption) (by assumption) ?ha3 ?hb3 ?hc3 (strs_snoc hus)
            case ha3 => walk_at "m all"
            case hb3 => with_unfolding_all exact rfl
            case hc3 => omega
      · clear hK2
        have hdrop : (tf t).drop ((((tf p1).length : Nat) : Int)).toNat = tf p2 := by rw [Int.toNat_natCast, e, tf_app, List.drop_left']; rfl
        by_cases htn : t = []
        · have htn' : tf t = [] := by rw [htn]; rfl
          have hb0 : lastBlank p2 = false := by
            have : p2 = [] := by rw [htn] at e; exact (List.append_eq_nil_iff.mp e.symm).2
            rw [this]; rfl
          walk_at "m steps"
          refine' hK _ _ _ _ _ (pn ++ [tf p2]) (by assumption) (by assumption) ?ha4 (by rw [← List.append_assoc]; exact strs_snoc hus) (by rw [e]; exact line_plain he2 hP hg1 hg2 (by omega) hb0)
          case ha4 => walk_at "m all"
        · have htn' : tf t ≠ [] := fun q => htn ((tf_nil_iff ht).mp q)
          have hp2 : p2 ≠ [] := by
            intro q
            subst q
            rcases hz with hz | hz
            · exact htn' (List.length_eq_zero_iff.mp (by rw [hlen, hz]; rfl))
            · rw [hlen] at hz; simp [tf, flat] at hz
          have hbl := lastBlank_app p1 hp2
          rw [← e] at hbl
          rcases last_sign ht htn with ⟨t', c, et, hc, hgc⟩ | ⟨hb0, d, hd, hdr⟩
          · by_cases hcb : c = 32 ∨ c = 9
            · have hci : c ∈ [32, 9] := by rcases hcb with rfl | rfl <;> decide
              obtain ⟨p2', ep⟩ := tail_of (e ▸ et) hp2
              subst ep
              have hl2 : (tf (p2' ++ [Item.lit c])).length = (tf p2').length + 1 := by rw [tf_app, List.length_append]; rfl
              have hs : ((tf t).drop ((((tf p1).length : Nat) : Int)).toNat).take ((-1 : Int) + (((tf t).length : Nat) : Int) - (((tf p1).length : Nat) : Int)).toNat = tf p2' := by
                rw [hdrop, show ((-1 : Int) + (((tf t).length : Nat) : Int) - (((tf p1).length : Nat) : Int)).toNat = (tf p2').length from by omega, tf_app, List.take_left']; rfl
              have hx2 := hex2_len c
              by_cases hr3 : (tf p2').length + 3 ≤ wd
              · walk_at "m steps"
                refine' hK _ _ _ _ _ (pn ++ [tf p2' ++ (61 :: hex2 c)]) (by assumption) (by assumption) ?ha5 (by rw [← List.append_assoc]; exact strs_snoc hus) (by rw [e]; exact line_quote he2 hP hg1 hg2 hcb hr3)
                case ha5 => walk_at "m all"
              · by_cases hr2 : (tf p2').length + 2 ≤ wd
                · walk_at "m steps"
                  refine' hK _ _ _ _ _ (pn ++ [tf p2' ++ (c :: 61 :: eol)]) (by assumption) (by assumption) ?ha6 (by rw [← List.append_assoc]; exact strs_snoc hus) (by rw [e]; exact line_soft he2 hP hg1 hg2 hr2)
                  case ha6 => walk_at "m all"
                · walk_at "m steps"
                  refine' hK _ _ _ _ _ (pn ++ [tf p2' ++ ((61 :: eol) ++ (61 :: hex2 c))]) (by assumption) (by assumption) ?ha7 (by rw [← List.append_assoc]; exact strs_snoc hus) (by rw [e]; exact line_softq he2 hP hg1 hg2 hcb (by omega) (by omega))
                  case ha7 => walk_at "m all"
            · have hci : c ∉ [32, 9] := by simpa using hcb
              have hb0 : lastBlank p2 = false := by
                rw [← hbl, et, blank_lit]
                simpa using hcb
              walk_at "m steps"
              refine' hK _ _ _ _ _ (pn ++ [tf p2]) (by assumption) (by assumption) ?ha8 (by rw [← List.append_assoc]; exact strs_snoc hus) (by rw [e]; exact line_plain he2 hP hg1 hg2 (by omega) hb0)
              case ha8 => walk_at "m all"
          · have hci : d ∉ [32, 9] := by
              intro q
              rcases List.mem_cons.mp q with q | q
              · omega
              · have := List.mem_singleton.mp q; omega
            rw [hbl] at hb0
            walk_at "m steps"
            refine' hK _ _ _ _ _ (pn ++ [tf p2]) (by assumption) (by assumption) ?ha9 (by rw [← List.append_assoc]; exact strs_snoc hus) (by rw [e]; exact line_plain he2 hP hg1 hg2 (by omega) hb0)
            case ha9 => walk_at "m all"
  case done =>
    clear ltn ltq hisl F1 N1 N0 hls hRl hgood
    intro q l m₁ us n ps h tk hql hnl hm hus hAll F1 N1
    rw [rowsT_txt] at hAll
    have hla := tr_last hal hne
    have hAl := all_len hAll
    have hlb := trs_len tl
    rw [← kst_self hm] at F1
    dsimp only
    by_cases hfn : fin [] (tl.map tok) = []
    · have hl10 := hla.2 hfn
      rw [hfn] at hAll hAl
      simp only [List.isEmpty_nil, if_true, List.append_nil] at hAll hAl
      have hc10 : (10 : Nat) ∈ [13, 10] := by decide
      have hsz : us.length ≤ 16777216 := by
        have := cat_count he1 ps
        rw [strs_len hus]; omega
      have hcs : (cat eol (ps ++ [[]])).length ≤ 16777216 := by
        rw [cat_app, cat_one, List.length_append, List.nil_append]; omega
      walk_at "m steps"
      exact hQ _ _ _ _ (by assumption) (news_rest (by assumption)) ⟨_, rfl, enc_shut hAll⟩
    · obtain ⟨hrn, c, hc, hn1, hn2⟩ := hla.1 hfn
      have hcn : c ∉ [13, 10] := by
        intro q
        rcases List.mem_cons.mp q with q | q
        · exact hn2 q
        · exact hn1 (List.mem_singleton.mp q)
      have hAll' : AllOk wd eol (tl ++ [10]) ps := by
        have e : (fin [] (tl.map tok)).isEmpty = false := by
          cases hq : fin [] (tl.map tok) with
          | nil => exact absurd hq hfn
          | cons a b => rfl
        rw [e] at hAll; exact hAll
      have hAl' := all_len hAll'
      rw [List.length_append, List.length_singleton] at hAl'
      have hpn : ps ≠ [] := all_ne hAll' (by simp) he1
      walk_at "m steps"
      exact hQ _ _ _ _ (by assumption) (news_rest (by assumption)) ⟨_, rfl, enc_open hAll' hpn⟩
end
end Mine
end PartBe0

section PartDe
open PySem PySem.W PyProof.Rows PySem.Calls PySem.StrLaws PySem.Builtin PySem.Builtin.Str
set_option maxRecDepth 100000
namespace Mine
theorem rstrip_S {l : List Nat} (h : ∀ c, l.getLast? = some c → Unicode.isSpace c = false) : Txt.rstrip (S l) = S l := by
  obtain ⟨_, h0, h1, _⟩ := hi_facts Unicode.isSpace (S l) 0 (Nat.zero_le _)
  rw [S_len] at h0 h1
  have e : stripHi Unicode.isSpace true (S l) 0 = l.length := by
    refine Nat.le_antisymm h0 (Nat.le_of_not_lt fun hlt => ?_)
    have h2 := h1 (l.length - 1) (by omega) (by omega)
    have h3 := h (l[l.length - 1]'(by omega)) (by rw [List.getLast?_eq_getElem?, List.getElem?_eq_getElem])
    have h4 : (S l).cps.getD (l.length - 1) 0 = l[l.length - 1]'(by omega) := by
      simp [Array.getD, show l.length - 1 < l.length from by omega]
    rw [h4, h3] at h2
    cases h2
  unfold Txt.rstrip
  rw [PyProof.Rows.stripBy_eq]
  show strSub (S l) 0 (stripHi Unicode.isSpace true (S l) 0) = S l
  rw [e]
  unfold strSub
  exact Str.ext' (by simp)
theorem noSp {c : Nat} (h : 32 < c ∧ c < 127) : Unicode.isSpace c = false := by
  have : ∀ d, d < 127 → 32 < d → Unicode.isSpace d = false := by decide +kernel
  exact this c h.2 h.1
theorem row_last {p : List Item × Bool} (ht : Toks p.1) (hb : p.2 = false → lastBlank p.1 = false) : ∀ c, (rowF p).getLast? = some c → Unicode.isSpace c = false := by
  obtain ⟨t, b⟩ := p
  intro c hc
  cases b with
  | true =>
    have e : rowF (t, true) = tf t ++ [61] := rfl
    rw [e, List.getLast?_append] at hc
    obtain rfl : 61 = c := Option.some.inj hc
    exact noSp (by decide)
  | false =>
    have e : rowF (t, false) = tf t := by simp [rowF]
    rw [e] at hc
    by_cases hn : t = []
    · rw [hn] at hc; cases hc
    · rcases last_sign ht hn with ⟨t', d, et, hd, hg⟩ | ⟨_, d, hd, hd2⟩
      · have hl := hb rfl
        dsimp only at hl
        have et2 : t = t' ++ [Item.lit d] := et
        rw [et2, blank_lit] at hl
        rw [hd] at hc
        obtain rfl := Option.some.inj hc
        rcases hg with rfl | rfl | rfl | rfl
        · exact noSp (by decide)
        · exact noSp (by decide)
        · cases hl
        · cases hl
      · rw [hd] at hc
        obtain rfl := Option.some.inj hc
        exact noSp (by omega)
theorem rowF_nil {p : List Item × Bool} (ht : Toks p.1) (h : rowF p = []) : rowD p = [10] := by
  obtain ⟨t, b⟩ := p
  cases b with
  | true => simp [rowF] at h
  | false =>
    have e : rowF (t, false) = tf t := by simp [rowF]
    rw [e] at h
    have h2 : t = [] := (tf_nil_iff ht).mp h
    rw [h2]; rfl
theorem flat_nil_iff {eol : List Nat} (he : Eol eol) {l : List Item} (h : flat eol l = []) : l = [] := by
  cases l with
  | nil => rfl
  | cons i l =>
    rw [flat_cons] at h
    have h1 := (List.append_eq_nil_iff.mp h).1
    rcases he with rfl | rfl <;> cases i <;> simp [Item.flat] at h1
theorem txt_le {eol : List Nat} (he : Eol eol) : ∀ {l : List Item}, Good l → (txt l).length ≤ (flat eol l).length
  | [], _ => Nat.le_refl _
  | i :: l, h => by
    have h2 := txt_le he h.cons.2
    rw [txt_cons, flat_cons, List.length_append, List.length_append]
    have h1 : i.txt.length ≤ (i.flat eol).length := by
      rcases he with rfl | rfl <;> cases i <;> simp [Item.txt, Item.flat]
    omega
theorem row_soft {t : List Item} : rowF (t, true) = tf t ++ [61] := rfl
theorem rowF_len (p : List Item × Bool) : (rowF p).length = (tf p.1).length + if p.2 then 1 else 0 := by
  obtain ⟨t, b⟩ := p
  cases b <;> simp [rowF]
theorem rowD_len (p : List Item × Bool) : (rowD p).length = (txt p.1).length + if p.2 then 0 else 1 := by
  obtain ⟨t, b⟩ := p
  cases b <;> simp [rowD]
theorem rowFD (p : List Item × Bool) (ht : Toks p.1) : (rowD p).length ≤ (rowF p).length + 1 := by
  rw [rowF_len, rowD_len]
  have := tf_len ht
  split <;> omega

section
variable {prog : Program} {w : World} {A : Around} {E : Value → Shared → Prop} {s : Shared} {env : Env} {h₀ : Heap} {x : Str} {body : List Stmt} {Q : Flow → Shared → Prop}
  {lA : Addr} {m₀ : Str → Option Value} {news : List (Addr × Obj)} {ls : List (Str × Tok)} {oA : Obj} {fs : List (Str × Value)} {kz kd₀ : Tok}

theorem de_for {R : List (List Item × Bool)} (hh : A.handled = none) (hk : ∀ p ∈ fs, m₀ p.1 = some p.2) (hd : m₀ (Str.ofString "decoded") = some (.str (S []) kd₀)) (hls : ls.map (·.1) = (R.map rowF).map S)
    (hisl : s.heap.IsList lA (strValues ls).toArray) (F : Fr h₀ env.locals s.heap m₀) (N : News h₀ env.locals s.heap ((lA, oA) :: news)) (hlo : ∀ p ∈ news, p.1 ≠ lA)
    (turn : ∀ (p : List Item × Bool) (T : List Nat) m₁ h tk tkl kd rest, p ∈ R → T.length + (rowD p).length ≤ (R.flatMap rowD).length →
      Fr h₀ env.locals h (fun y => if y = x then some (.str (S (rowF p)) tkl) else kstB m₁ ((Str.ofString "decoded", .str (S T) kd) :: fs) y) → News h₀ env.locals h rest →
      ∀ K : Flow → Shared → Prop, (∀ f h' tk' m' d kd', (f = .next ∨ f = .cont) → Fr h₀ env.locals h' m' → News h₀ env.locals h' rest → (∀ p ∈ fs, m' p.1 = some p.2) → m' (Str.ofString "decoded") = some (.str (S d) kd') → d = T ++ rowD p → K f { s with heap := h', toks := tk' }) →
      wpAny (model prog w) A (execs body env) K E { s with heap := h, toks := tk })
    (done : ∀ m₁ h tk kd, Fr h₀ env.locals h (kstB m₁ ((Str.ofString "decoded", .str (S (R.flatMap rowD)) kd) :: fs)) → News h₀ env.locals h news → Q .next { s with heap := h, toks := tk }) :
    wpAny (model prog w) A (pyIter (.ref lA)) (fun it s₂ => LoopAtV prog w A h₀ env x body Q E it s₂) E s := by
  have hlen : (strValues ls).length = R.length := by
    have := congrArg List.length hls
    simpa [strValues] using this
  refine iter_new (rest := news) (fun i m nx => nx = news ∧ (∃ kd, m (Str.ofString "decoded") = some (.str (S ((R.take i).flatMap rowD)) kd)) ∧ ∀ p ∈ fs, m p.1 = some p.2)
    hh hisl (N _ (List.Mem.head _)).2.1 hlo F (fun p hp => N p (List.Mem.tail _ hp)) ⟨rfl, ⟨kd₀, hd⟩, hk⟩ ?_ ?_
  · rintro i v m₁ nx h tk own hv _ _ ⟨rfl, ⟨kd, hD⟩, hm⟩ F₁ N₁
    obtain ⟨r, tkl, hr, rfl⟩ := strs_get hls hv
    rw [List.getElem?_map, Option.map_eq_some_iff] at hr
    obtain ⟨p, hp, rfl⟩ := hr
    have hpm := List.mem_of_getElem? hp
    have e : (R.take (i + 1)).flatMap rowD = (R.take i).flatMap rowD ++ rowD p := by
      rw [List.take_add_one, hp, List.flatMap_append]; simp
    have hb1 := flat_take_le rowD R (i + 1)
    rw [e, List.length_append] at hb1
    have hm' : ∀ q ∈ (Str.ofString "decoded", Value.str (S ((R.take i).flatMap rowD)) kd) :: fs, m₁ q.1 = some q.2 := by
      intro q hq
      rcases List.mem_cons.mp hq with rfl | hq
      · exact hD
      · exact hm q hq
    have F₂ : Fr h₀ env.locals h (fun y => if y = x then some (.str (S (rowF p)) tkl) else kstB m₁ ((Str.ofString "decoded", Value.str (S ((R.take i).flatMap rowD)) kd) :: fs) y) := by rw [kst_self hm']; exact F₁
    refine turn p _ m₁ h tk tkl kd (nx ++ own) hpm hb1 F₂ N₁ _ ?_
    rintro f h' tk' m' d kd' hf F' N' hfs' hD' rfl
    have fin : InvEndN h₀ env.locals (fun m nx₂ => nx₂ = nx ∧ (∃ kd, m (Str.ofString "decoded") = some (.str (S ((R.take (i + 1)).flatMap rowD)) kd)) ∧ ∀ p ∈ fs, m p.1 = some p.2) own (nx.map (·.1)) { s with heap := h, toks := tk } { s with heap := h', toks := tk' } :=
      ⟨h', tk', m', nx ++ own, nx, rfl, F', N', fun q hq => List.mem_append_left _ hq, fun q hq => List.mem_append_right _ hq, rfl, rfl, ⟨kd', by rw [e]; exact hD'⟩, hfs'⟩
    rcases hf with rfl | rfl
    · exact fin
    · exact fin
  · rintro m₁ nx h tk ⟨rfl, ⟨kd, hD⟩, hm⟩ F₁ N₁
    rw [hlen, List.take_length] at hD
    refine done m₁ h tk kd ?_ N₁
    rw [kst_self]
    · exact F₁
    · intro q hq
      rcases List.mem_cons.mp hq with rfl | hq
      · exact hD
      · exact hm q hq

theorem de_while {L : Addr} {test : Expr} {pos : Pos} {p : List Item × Bool} {T : List Nat} {rest : List (Addr × Obj)}
    (ht : Toks p.1) (hne : rowF p ≠ []) (F : Fr h₀ L s.heap m₀) (N : News h₀ L s.heap rest) (hfs : ∀ q ∈ fs, m₀ q.1 = some q.2) (hi : m₀ (Str.ofString "i") = some (.int 0 kz)) (hd : m₀ (Str.ofString "decoded") = some (.str (S T) kd₀))
    (turn : ∀ t1 t2 m₁ h tk ki kd, p.1 = t1 ++ t2 → (t2 = [] → p.2 = true) →
      Fr h₀ L h (kstB m₁ ((Str.ofString "i", .int ((tf t1).length : Nat) ki) :: (Str.ofString "decoded", .str (S (T ++ txt t1)) kd) :: fs)) → News h₀ L h rest →
      ∀ K : Flow → Shared → Prop, (∀ f h' tk' m' z ki' d kd', (f = .next ∨ f = .cont) → Fr h₀ L h' m' → News h₀ L h' rest → (∀ p ∈ fs, m' p.1 = some p.2) → m' (Str.ofString "i") = some (.int z ki') → m' (Str.ofString "decoded") = some (.str (S d) kd') →
          ((∃ u v, t2 = u :: v ∧ (v = [] → p.2 = true) ∧ z = (((tf t1).length + (u.flat []).length : Nat) : Int) ∧ d = T ++ txt t1 ++ u.txt) ∨ (z = ((rowF p).length : Nat) ∧ d = T ++ rowD p)) → K f { s with heap := h', toks := tk' }) →
      wpAny (model prog w) A (isTrue test env (eval test env)) (fun b s₂ => if b = true then wpAny (model prog w) A (execs body env) K E s₂ else Q .next s₂) E { s with heap := h, toks := tk })
    (done : ∀ m₁ h tk ki kd, Fr h₀ L h (kstB m₁ ((Str.ofString "i", .int ((rowF p).length : Nat) ki) :: (Str.ofString "decoded", .str (S (T ++ rowD p)) kd) :: fs)) → News h₀ L h rest →
      ∀ K : Flow → Shared → Prop, wpAny (model prog w) A (isTrue test env (eval test env)) (fun b s₂ => if b = true then wpAny (model prog w) A (execs body env) K E s₂ else Q .next s₂) E { s with heap := h, toks := tk })
    (hE : PassesOwn (model prog w) A env E) :
    wpAny (model prog w) A (exec (.While test body [] pos) env) Q E s := by
  refine While_inv2 (fun k m nx => nx = rest ∧ (∀ q ∈ fs, m q.1 = some q.2) ∧ ((∃ t1 t2 ki kd, k = (rowF p).length - (tf t1).length ∧ p.1 = t1 ++ t2 ∧ (t2 = [] → p.2 = true) ∧ m (Str.ofString "i") = some (.int ((tf t1).length : Nat) ki) ∧ m (Str.ofString "decoded") = some (.str (S (T ++ txt t1)) kd))
      ∨ (k = 0 ∧ ∃ ki kd, m (Str.ofString "i") = some (.int ((rowF p).length : Nat) ki) ∧ m (Str.ofString "decoded") = some (.str (S (T ++ rowD p)) kd)))) F N ⟨rfl, hfs, .inl ⟨[], p.1, kz, kd₀, rfl, rfl, ?_, hi, by rw [txt_nil, List.append_nil]; exact hd⟩⟩ ?_ hE
  · intro e
    cases hb : p.2 with
    | true => rfl
    | false => exact absurd (by rw [rowF, e, hb]; rfl) hne
  · rintro k m₁ nx h tk F₁ N₁ ⟨rfl, hf, hc⟩
    rcases hc with ⟨t1, t2, ki, kd, rfl, e, he, hI, hD⟩ | ⟨rfl, ki, kd, hI, hD⟩
    · have hm : ∀ q ∈ (Str.ofString "i", Value.int ((tf t1).length : Nat) ki) :: (Str.ofString "decoded", Value.str (S (T ++ txt t1)) kd) :: fs, m₁ q.1 = some q.2 := by
        intro q hq
        rcases List.mem_cons.mp hq with rfl | hq
        · exact hI
        · rcases List.mem_cons.mp hq with rfl | hq
          · exact hD
          · exact hf q hq
      have hlt : (tf t1).length < (rowF p).length := by
        rw [rowF_len, e, tf_app, List.length_append]
        by_cases h2 : t2 = []
        · rw [if_pos (he h2)]; omega
        · have h3 : Toks t2 := (Toks.app (e ▸ ht)).2
          have h4 : tf t2 ≠ [] := fun q => h2 ((tf_nil_iff h3).mp q)
          have := List.length_pos_iff.mpr h4
          omega
      refine turn t1 t2 m₁ h tk ki kd e he (by rw [kst_self hm]; exact F₁) N₁ _ ?_
      intro f h' tk' m' z ki' d kd' hff F' N' hfs' hI' hD' hcase
      have step : ∃ h'' tk m₂ news₂ n', ({ s with heap := h', toks := tk' } : Shared) = { s with heap := h'', toks := tk } ∧ Fr h₀ L h'' m₂ ∧ News h₀ L h'' news₂ ∧ n' < (rowF p).length - (tf t1).length ∧ (news₂ = nx ∧ (∀ q ∈ fs, m₂ q.1 = some q.2) ∧ ((∃ t1 t2 ki kd, n' = (rowF p).length - (tf t1).length ∧ p.1 = t1 ++ t2 ∧ (t2 = [] → p.2 = true) ∧ m₂ (Str.ofString "i") = some (.int ((tf t1).length : Nat) ki) ∧ m₂ (Str.ofString "decoded") = some (.str (S (T ++ txt t1)) kd))
      ∨ (n' = 0 ∧ ∃ ki kd, m₂ (Str.ofString "i") = some (.int ((rowF p).length : Nat) ki) ∧ m₂ (Str.ofString "decoded") = some (.str (S (T ++ rowD p)) kd)))) := by
        rcases hcase with ⟨u, v, rfl, hv, rfl, rfl⟩ | ⟨rfl, rfl⟩
        · have hu := tok_pos ((Toks.app (e ▸ ht)).2.cons.1.1)
          have e1 : tf (t1 ++ [u]) = tf t1 ++ u.flat [] := by rw [tf_app, tf_cons]; simp [tf, flat]
          have e2 : txt (t1 ++ [u]) = txt t1 ++ u.txt := by rw [txt_app, txt_cons, txt_nil, List.append_nil]
          refine ⟨h', tk', m', nx, (rowF p).length - (tf (t1 ++ [u])).length, rfl, F', N', ?_, rfl, hfs', .inl ⟨t1 ++ [u], v, ki', kd', rfl, by rw [e, List.append_assoc]; rfl, hv, ?_, ?_⟩⟩
          · rw [e1, List.length_append]; omega
          · rw [e1, List.length_append]; exact hI'
          · rw [e2, ← List.append_assoc]; exact hD'
        · exact ⟨h', tk', m', nx, 0, rfl, F', N', by omega, rfl, hfs', .inr ⟨rfl, ki', kd', hI', hD'⟩⟩
      rcases hff with rfl | rfl
      · exact step
      · exact step
    · have hm : ∀ q ∈ (Str.ofString "i", Value.int ((rowF p).length : Nat) ki) :: (Str.ofString "decoded", Value.str (S (T ++ rowD p)) kd) :: fs, m₁ q.1 = some q.2 := by
        intro q hq
        rcases List.mem_cons.mp hq with rfl | hq
        · exact hI
        · rcases List.mem_cons.mp hq with rfl | hq
          · exact hD
          · exact hf q hq
      exact done m₁ h tk ki kd (by rw [kst_self hm]; exact F₁) N₁ _
end
end Mine
end PartDe

section PartDd
open PySem PySem.W PyProof.Rows PySem.Calls
namespace Mine
-- MACROS BEGIN
local macro_rules | `(tactic| walk_at "m fact") => `(tactic| first | assumption | (symm; assumption) | omega | decide | (simp only [List.length_append, List.length_cons, List.length_nil]; omega) | (simp_all; done))
local macro_rules | `(tactic| walk_at "m size") => `(tactic| first | omega | (simp only [List.length_append, List.length_cons, List.length_nil, List.length_take, List.length_drop]; omega))
local macro_rules | `(tactic| walk_at "eval Constant str") => `(tactic| first | refine rConst lit_eq ?_ | refine rConst lit_nl ?_ | refine rConst lit_crnl ?_ | refine rConst lit_empty ?_ | refine rConst lit_bt ?_ | refine rConst lit_b ?_ | refine rConst lit_t ?_ | refine rConst lit_eqnl ?_ | refine rConst lit_menu ?_)
local macro_rules | `(tactic| walk_at "truthy str") => `(tactic| first | (refine rTruthyT ?a ?b ?_; (case a => walk_at "m fact"); (case b => walk_at "m size")) | (refine rTruthyF ?a ?_; (case a => walk_at "m fact")))
local macro_rules | `(tactic| walk_at "binaryOp Add str str") => `(tactic| (refine rAdd ?a ?_; (case a => walk_at "m size"); intro _ _))
local macro_rules | `(tactic| walk_at "inplaceOp Add str str") => `(tactic| (refine rIAdd ?a ?_; (case a => walk_at "m size"); intro _ _))
local macro_rules | `(tactic| walk_at "compareOp Eq str str") => `(tactic| first | (refine rEqT ?a ?_; (case a => walk_at "m fact")) | (refine rEqF ?a ?_; (case a => walk_at "m fact")))
local macro_rules | `(tactic| walk_at "compareOp NotEq str str") => `(tactic| first | (refine rNeT ?a ?_; (case a => walk_at "m fact")) | (refine rNeF ?a ?_; (case a => walk_at "m fact")))
local macro_rules | `(tactic| walk_at "compareOp In str str") => `(tactic| first | (refine rInT ?a ?_; (case a => walk_at "m fact")) | (refine rInF ?a ?_; (case a => walk_at "m fact")) | (refine rInT2 lit_crnl ?a ?_; (case a => walk_at "m fact")) | (refine rInF2 lit_crnl ?a ?_; (case a => walk_at "m fact")) | (refine rInT2 lit_hex ?a ?_; (case a => walk_at "m fact")) | (refine rInF2 lit_hex ?a ?_; (case a => walk_at "m fact")))
local macro_rules | `(tactic| walk_at "compareOp NotIn str str") => `(tactic| first | (refine rNotInT ?a ?_; (case a => walk_at "m fact")) | (refine rNotInF ?a ?_; (case a => walk_at "m fact")))
local macro_rules | `(tactic| walk_at "call builtin:len") => `(tactic| ((with_reducible show wpAny _ _ (call (Value.builtin "len") [Value.str _ _]) _ _ _); refine rLen ?a ?_; (case a => walk_at "m size")))
local macro_rules | `(tactic| walk_at "getMethod str") => `(tactic| with_reducible refine get_translate ?_)
local macro_rules | `(tactic| walk_at "call builtin:str.translate") => `(tactic| (refine call_translate ?a ?b ?c ?d ?_; (case a => assumption); (case b => omega); (case c => assumption); (case d => k_in); intro _ _))
local macro_rules | `(tactic| walk_at "getAttr ref") => `(tactic| (refine' rGetAppend ?a ?b ?c ?_; (case a => assumption); (case b => assumption); (case c => k_mem); intro q' h' F' N' lt'))
local macro_rules | `(tactic| walk_at "m steps") => `(tactic| repeat' (first
  | (k_unfold; (try dsimp only))
  | ((fail_if_success (with_reducible show wpAny _ _ (exec (Stmt.While _ _ _ _) _) _ _ _)); (fail_if_success (with_reducible show wpAny _ _ (exec (Stmt.For _ _ _ _ _) _) _ _ _)); (fail_if_success (with_reducible show wpAny _ _ (pyIter _) _ _ _)); (fail_if_success (with_reducible show InvPostN _ _ _ _ _ _ _ _ _)); (fail_if_success (with_reducible show WhileStep2 _ _ _ _ _ _ _ _)); (first | walk1 | (dsimp only; walk1)))))
local macro_rules | `(tactic| walk_at "call ref") => `(tactic| first
  | (refine' rAppend ?F ?N ?q ?r ?z ?_; (case F => assumption); (case N => assumption); (case q => assumption); (case r => assumption); (case z => assumption); intro h' F' N')
  | (refine' quote_call ?c ?B ?F ?X ?N ?T ?hA ?hf ?hke ?hroom ?_; (case B => assumption); (case F => assumption); (case X => assumption); (case N => assumption); (case T => assumption); (case hA => exact Around.frames_deeper (by assumption)); (case hf => rfl); (case hke => rfl); (case c => assumption); (case hroom => (show _ + 1 < _; omega)); intro h' tk' t' F' N'))
local macro_rules | `(tactic| walk_at "m all") => `(tactic| first | exact List.forall_mem_nil _ | (refine' List.forall_mem_cons.mpr ⟨?ha, ?hb⟩; (case ha => first | (with_reducible exact rfl) | (with_unfolding_all exact rfl)); (case hb => walk_at "m all")))
local macro_rules | `(tactic| walk_at "m item") => `(tactic| ((with_reducible show wpAny _ _ (subscriptTail _ _ (Value.str _ _) (Value.int _ _)) _ _ _); first | (refine' rItem ?a ?b ?c ?_; (case b => assumption); (case a => omega); (case c => omega)) | (refine' rItemLast ?b ?c ?_; (case b => assumption); (case c => omega))))
local macro_rules | `(tactic| walk_at "m slice") => `(tactic| (((with_reducible show wpAny _ _ (subscriptTail _ (Expr.Slice _ _ _ _) (Value.str _ _) (Value.ref _)) _ _ _); first
  | ((with_reducible show wpAny _ _ (subscriptTail _ (Expr.Slice (some _) (some _) none _) _ _) _ _ _); first
    | (refine' rSlice (s := ⟨_, _, _, _, _⟩) ?F ?N ?a ?b ?c ?d ?e ?_; (case F => assumption); (case N => assumption); (case a => omega); (case b => omega); (case c => omega); (case d => omega); (case e => assumption))
    | (refine' rSliceNeg (s := ⟨_, _, _, _, _⟩) ?F ?N ?a ?b ?c ?d ?e ?f ?_; (case F => assumption); (case N => assumption); (case a => omega); (case b => omega); (case c => omega); (case d => omega); (case e => omega); (case f => assumption)))
  | ((with_reducible show wpAny _ _ (subscriptTail _ (Expr.Slice (some _) none none _) _ _) _ _ _); refine' rSliceFrom (s := ⟨_, _, _, _, _⟩) ?F ?N ?a ?b ?d ?e ?_; (case F => assumption); (case N => assumption); (case a => omega); (case b => omega); (case d => omega); (case e => assumption))
  | ((with_reducible show wpAny _ _ (subscriptTail _ (Expr.Slice none (some _) none _) _ _) _ _ _); refine' rSliceTo (s := ⟨_, _, _, _, _⟩) ?F ?N ?a ?b ?d ?e ?_; (case F => assumption); (case N => assumption); (case a => omega); (case b => omega); (case d => omega); (case e => assumption))); intro h' t' k' F' N'))
local macro_rules | `(tactic| walk_at "subscriptTail") => `(tactic| first | walk_at "m item" | walk_at "m slice")
local macro_rules | `(tactic| walk_at "subscriptTail Name") => `(tactic| first | walk_at "m item" | walk_at "m slice")
local macro_rules | `(tactic| walk_at "subscriptTail Name BinOp") => `(tactic| first | walk_at "m item" | walk_at "m slice")
local macro_rules | `(tactic| walk_at "subscriptTail Name Name") => `(tactic| first | walk_at "m item" | walk_at "m slice")
local macro_rules | `(tactic| walk_at "subscriptTail Name BinOp str int") => `(tactic| first | walk_at "m item" | walk_at "m slice")
local macro_rules | `(tactic| walk_at "subscriptTail Name Name str int") => `(tactic| first | walk_at "m item" | walk_at "m slice")
local macro_rules | `(tactic| walk_at "subscriptTail Name UnaryOp str int") => `(tactic| first | walk_at "m item" | walk_at "m slice")
local macro_rules | `(tactic| walk_at "subscriptTail Name Constant str int") => `(tactic| first | walk_at "m item" | walk_at "m slice")
local macro_rules | `(tactic| walk_at "subscriptTail Name Slice str ref") => `(tactic| first | walk_at "m item" | walk_at "m slice")
local macro_rules | `(tactic| walk_at "subscriptTail Name Slice") => `(tactic| first | walk_at "m item" | walk_at "m slice")
local macro_rules | `(tactic| walk_at "callWith ref") => `(tactic| (refine' callWith_BN ?N ?_ ?x ?y; (case N => assumption); (case x => exact rfl); (case y => exact rfl)))
local macro_rules | `(tactic| walk_at "And") => `(tactic| ((with_reducible show _ = some (boundObj _ _) ∧ _); refine ⟨News.get (by assumption) (List.Mem.head _), ?_⟩; (try dsimp only [List.nil_append])))
local macro_rules | `(tactic| walk_at "compareOp Eq int int") => `(tactic| first | (refine rEqIntT ?a ?_; (case a => omega)) | (refine rEqIntF ?a ?_; (case a => omega)))
local macro_rules | `(tactic| walk_at "compareOp NotEq int int") => `(tactic| first | (refine rNeIntT ?a ?_; (case a => omega)) | (refine rNeIntF ?a ?_; (case a => omega)))
local macro_rules | `(tactic| walk_at "call builtin:str.join") => `(tactic| (refine' rJoin ?a ?b ?c ?_; (case a => exact News.isList (by assumption) (List.Mem.tail _ (List.Mem.head _))); (case b => first | assumption | exact strs_snoc (by assumption)); (case c => first | assumption | omega); intro t' k'))
-- MACROS END
local macro_rules | `(tactic| walk_at "m enter") => `(tactic| (
  refine wpAny_call ?_
  refine' code_def ?B ?F ?X ?N ?T ?hA ?hf ?hke ?k6 ?k7 ?hroom ?k9 ?kB ?_ ?c2 ?c3 ?c4 ?c5
  case B => assumption
  case F => assumption
  case X => assumption
  case N => assumption
  case T => assumption
  case hA => assumption
  case hf => assumption
  case hke => assumption
  case k6 => k_is
  case k7 => k_is
  case hroom => omega
  case k9 => first | exact BindsTo.of_eq rfl | exact binds_K (by k_in) rfl (by k_is) rfl rfl rfl
  case c5 => decide
  case kB => exact locs rfl
  case c2 => exact rfl
  case c3 => exact rfl
  case c4 => exact rfl
  intro g' L' h' FG' F' N' B' X' T'
  (try dsimp only)
  (try k_fold)))
local macro_rules | `(tactic| walk_at "call builtin:str.rstrip") => `(tactic| (refine KXw.rstrip ?a ?b ?_; (case a => assumption); (case b => (rw [S_len]; exact sz_line (by omega))); intro _ _))
local macro_rules | `(tactic| walk_at "truthy str") => `(tactic| first | (refine rTruthyF ?a ?_; (case a => assumption)) | (refine rTruthyT ?a ?b ?_; (case a => assumption); (case b => walk_at "m size")))
local macro_rules | `(tactic| walk_at "call ref") => `(tactic| (refine' unquote_call ?c ?B ?F ?X ?N ?T ?hA ?hf ?hke ?hroom ?_; (case B => assumption); (case F => assumption); (case X => assumption); (case N => assumption); (case T => assumption); (case hA => exact Around.frames_deeper (by assumption)); (case hf => rfl); (case hke => rfl); (case c => assumption); (case hroom => (show _ + 1 < _; omega)); intro h' tk' t' F' N'))
theorem hex_in {a : Nat} (h : (48 ≤ a ∧ a ≤ 57) ∨ (65 ≤ a ∧ a ≤ 70)) : a ∈ [48, 49, 50, 51, 52, 53, 54, 55, 56, 57, 97, 98, 99, 100, 101, 102, 65, 66, 67, 68, 69, 70] := by
  have : ∀ d, d < 71 → ((48 ≤ d ∧ d ≤ 57) ∨ (65 ≤ d ∧ d ≤ 70)) → d ∈ [48, 49, 50, 51, 52, 53, 54, 55, 56, 57, 97, 98, 99, 100, 101, 102, 65, 66, 67, 68, 69, 70] := by decide +kernel
  exact this a (by omega) h
section
variable {w : World} {A A₀ : Around} {base h₀ : Heap} {outer : List Env} {L : Addr} {m mg mb : Str → Option Value} {news : List (Addr × Obj)} {s : Shared} {env : Env} {p : Program} {loose : List Str} {mean : ExcName → Option Value} {Q : Value → Shared → Prop} {E : Value → Shared → Prop}
set_option maxRecDepth 100000 in
set_option maxHeartbeats 8000000 in
theorem decode_call {l : List Item} {eol : List Nat} {wd : Nat} {xl : List Nat} {t1 : Tok} (B : Below A₀ base outer h₀) (F : Fr h₀ L s.heap m) (X : (Mine.Hd.K w.params).In h₀) (N : News h₀ L s.heap news) (T : Top p loose mean mg mb h₀)
    (hA : A.frames = some (env :: outer)) (hf : env.frame = some L) (hke : env.scope.kind = .function) (hroom : A.depth + 2 < recursionLimit) (hh : A.handled = none)
    (hx : flat eol l = xl) (heol : Eol eol) (hgl : Good l) (hok : ok wd 0 false (l ++ [.hard])) (hxl : xl.length ≤ 768)
    (hQ : ∀ h' tk t', Fr h₀ L h' m → News h₀ L h' news → Q (.str (S (txt l)) t') { s with heap := h', toks := tk }) :
    wpAny (model PySem.Challenge.rw_wy0003_01.row.prog w) A (call (.ref 65) [.str (S xl) t1]) Q E s := by
  revert X; k_fill; intro X
  refine wpAny_call ?_
  refine' code_def B F X N T hA hf hke ?k6 ?k7 (by omega) ?k9 ?kB ?_ ?c2 ?c3 ?c4 ?c5
  case k6 => k_is
  case k7 => k_is
  case k9 =>
    refine (?_ : BindsTo s _ ⟨[.str (S xl) t1], []⟩ [(Str.ofString "encoded", .str (S xl) t1), (Str.ofString "eol", .str (S [10]) 189)])
    rw [← lit_nl]
    exact binds_K (by k_in) rfl (by k_is) rfl rfl rfl
  case c5 => decide
  case kB => exact locs rfl
  case c2 => exact rfl
  case c3 => exact rfl
  case c4 => exact rfl
  intro g' L' h' FG' F' N' B' X' T'
  (try dsimp only)
  (try k_fold)
  by_cases hnil : xl = []
  · have hl0 : l = [] := flat_nil_iff heol (hx.trans hnil)
    walk_at "m steps"
    rw [hnil, show ([] : List Nat) = txt l from by rw [hl0]; rfl]
    exact hQ _ _ _ (by assumption) (by assumption)
  · walk_at "m steps"
    refine For_invV g' (by rfl) (by rfl) ?_
    walk_at "m steps"
    rename (List.map _ _ = Txt.lines _) => hls
    rename (List (Str × Tok)) => ls
    rename (Heap.IsList _ _ _) => hisl
    rename Fr g' _ _ _ => F1
    rename News g' _ _ (_ :: _) => N1
    rename News g' _ _ news => N0
    have hls2 : ls.map (·.1) = ((rws [] l).map rowF).map S := by
      rw [hls, ← hx, lines_S]
      exact congrArg (List.map S) (ln_flat heol l [] (fun _ h => by cases h) hgl)
    have hgood := rows_good l [] (fun _ h => by cases h) hgl
    have hsharp := rows_sharp wd l [] 0 hok
    have hall := rowD_all l []
    rw [txt_nil, List.nil_append] at hall
    have hfl := fin_last heol l [] (fun _ h => by cases h) hgl
    have hfl2 : tf [] ++ flat eol l = xl := hx
    rw [hfl2] at hfl
    have htl : (txt l).length ≤ xl.length := by rw [← hx]; exact txt_le heol hgl
    refine' de_for (R := rws [] l) (fs := [(Str.ofString "encoded", .str (S xl) t1), (Str.ofString "eol", .str (S [10]) 189)]) hh ?hk ?hd hls2 hisl F1 N1 ?hlo ?turn ?done
    case hk => walk_at "m all"
    case hd => with_unfolding_all exact rfl
    case hlo => exact fun p hp => Nat.ne_of_lt (Heap.lt_size (N0 p hp).1)
    case turn =>
      clear hisl F1 N1 N0 hls hls2
      intro p T m₁ h tk tkl kd rest hpR hsz F1 N1 K hK
      have ht := hgood p hpR
      have hrs := rstrip_S (row_last ht (hsharp p hpR))
      have hall2 := congrArg List.length hall
      rw [List.length_append] at hall2
      have hfi : (if (fin [] l).isEmpty then ([] : List Nat) else [10]).length ≤ 1 := by split <;> simp
      have hrF := rowF_len p
      have hrD := rowD_len p
      have ht3 := tf_len ht
      have hif : (if p.2 = true then (1 : Nat) else 0) ≤ 1 := by split <;> omega
      walk_at "m steps"
      rename Fr g' _ _ (fun y => if y = _ then some (Value.str (Txt.rstrip _) _) else _) => F2
      rw [hrs] at F2 ⊢
      clear F1 N1
      by_cases hre : rowF p = []
      · have hd1 := rowF_nil ht hre
        rw [hd1] at hsz hK
        rw [List.length_singleton] at hsz
        walk_at "m steps"
        refine' hK .cont _ _ _ _ _ (.inr rfl) (by assumption) (by assumption) ?ha1 ?hb1 rfl
        case ha1 => walk_at "m all"
        case hb1 => with_unfolding_all exact rfl
      · walk_at "m steps"
        rename Fr g' _ _ (fun y => if y = _ then _ else if y = _ then _ else if y = _ then _ else _) => F3
        rename News g' _ _ rest => N3
        refine' de_while (p := p) (T := T) (fs := (Str.ofString "line", .str (S (rowF p)) _) :: (Str.ofString "n", .int ((rowF p).length : Nat) _) :: [(Str.ofString "encoded", .str (S xl) t1), (Str.ofString "eol", .str (S [10]) 189)]) ht hre F3 N3 ?hfs ?hi ?hd ?turn2 ?done2 (by passes_own)
        case hfs => walk_at "m all"
        case hi => with_unfolding_all exact rfl
        case hd => with_unfolding_all exact rfl
        case done2 =>
          intro m₁ h tk ki kd F1 N1 K2
          clear F3 N3
          walk_at "m steps"
          refine' hK .next _ _ _ _ _ (.inl rfl) (by assumption) (by assumption) ?ha7 ?hb7 rfl
          case ha7 => walk_at "m all"
          case hb7 => with_unfolding_all exact rfl
        case turn2 =>
          intro p1 p2 m₁ h tk ki kd e he F1 N1 K2 hK2
          clear hK F3 N3
          have hg12 := (e ▸ ht : Toks (p1 ++ p2)).app
          have hg1 := hg12.1
          have hg2 := hg12.2
          clear hg12
          have hlen : (tf p.1).length = (tf p1).length + (tf p2).length := by rw [e, tf_app, List.length_append]
          have hlx : (txt p.1).length = (txt p1).length + (txt p2).length := by rw [e, txt_app, List.length_append]
          have hn : (rowF p).length ≤ 3000 := by omega
          have hsz2 : T.length + (txt p1).length ≤ 2000 := by omega
          have hD : rowD p = txt p1 ++ (txt p2 ++ if p.2 then [] else [10]) := by unfold rowD; rw [e, txt_app, List.append_assoc]
          have hF : rowF p = tf p1 ++ (tf p2 ++ if p.2 then [61] else []) := by unfold rowF; rw [e, tf_app, List.append_assoc]
          cases p2 with
          | nil =>
            have hb := he rfl
            rw [hb] at hrF hF hD
            have hi1 : (rowF p)[(((tf p1).length : Nat) : Int).toNat]? = some 61 := by
              rw [Int.toNat_natCast, hF, List.getElem?_append_right (Nat.le_refl _), Nat.sub_self]; rfl
            have hn2 : (rowF p).length = (tf p1).length + 1 := by
              rw [hrF, hlen]; simp [tf, flat]
            walk_at "m steps"
            refine' hK2 .cont _ _ _ _ _ _ _ (.inr rfl) (by assumption) (by assumption) ?ha2 ?hb2 ?hc2 (.inr ⟨?hd2, ?he2⟩)
            case ha2 => walk_at "m all"
            case hb2 => with_unfolding_all exact rfl
            case hc2 => with_unfolding_all exact rfl
            case hd2 => omega
            case he2 => rw [hD]; simp [txt]
          | cons u v =>
            have hgu := hg2.cons.1
            have hgv := hg2.cons.2
            have hlv : (tf (u :: v)).length = (u.flat []).length + (tf v).length := by rw [tf_cons, List.length_append]
            have hxv : (txt (u :: v)).length = u.txt.length + (txt v).length := by rw [txt_cons, List.length_append]
            have hend : (v = [] ∧ p.2 = false ∧ (rowF p).length = (tf p1).length + (u.flat []).length ∧ rowD p = txt p1 ++ u.txt ++ [10]) ∨ ((v = [] → p.2 = true) ∧ (tf p1).length + (u.flat []).length + 1 ≤ (rowF p).length) := by
              by_cases hv : v = []
              · cases hb : p.2 with
                | true =>
                  refine .inr ⟨fun _ => rfl, ?_⟩
                  rw [hrF, hb, if_pos rfl]; omega
                | false =>
                  refine .inl ⟨hv, rfl, ?_, ?_⟩
                  · rw [hrF, hb, hlen, hlv, hv]; simp [tf, flat]
                  · rw [hD, hb, txt_cons, hv]; simp [txt]
              · refine .inr ⟨fun q => absurd q hv, ?_⟩
                have : tf v ≠ [] := fun q => hv ((tf_nil_iff hgv).mp q)
                have := List.length_pos_iff.mpr this
                omega
            cases u with
            | soft => exact absurd hgu.1 id
            | hard => exact absurd hgu.1 id
            | lit c =>
              have hux : (Item.lit c).txt = [c] := rfl
              have huf : ((Item.lit c).flat []).length = 1 := rfl
              have hcn : ([c] : List Nat) ≠ [61] := by
                rcases hgu.2 with rfl | rfl | rfl | rfl <;> decide
              rw [huf] at hend
              have hi1 : (rowF p)[(((tf p1).length : Nat) : Int).toNat]? = some c := by
                rw [Int.toNat_natCast, hF, List.getElem?_append_right (Nat.le_refl _), Nat.sub_self, tf_cons]; rfl
              rcases hend with ⟨hv, hb, hr, hd2⟩ | ⟨hv, hr⟩
              · walk_at "m steps"
                refine' hK2 .next _ _ _ _ _ _ _ (.inl rfl) (by assumption) (by assumption) ?ha3 ?hb3 ?hc3 (.inr ⟨?hd3, ?he3⟩)
                case ha3 => walk_at "m all"
                case hb3 => with_unfolding_all exact rfl
                case hc3 => with_unfolding_all exact rfl
                case hd3 => omega
                case he3 => rw [hd2, hux]; simp
              · walk_at "m steps"
                refine' hK2 .next _ _ _ _ _ _ _ (.inl rfl) (by assumption) (by assumption) ?ha4 ?hb4 ?hc4 (.inl ⟨.lit c, v, rfl, hv, ?hd4, rfl⟩)
                case ha4 => walk_at "m all"
                case hb4 => with_unfolding_all exact rfl
                case hc4 => with_unfolding_all exact rfl
                case hd4 => rw [huf]; omega
            | esc c =>
              obtain ⟨a, b, hab, hra, hrb⟩ := hex_of hgu.2
              have hcc : c = 61 ∨ c = 233 ∨ c = 127 ∨ c = 1 ∨ c = 32 ∨ c = 9 := hgu.2
              have hux : (Item.esc c).txt = [c] := rfl
              have huf : ((Item.esc c).flat []).length = 3 := rfl
              rw [huf] at hend
              have hF2 : rowF p = tf p1 ++ (61 :: a :: b :: (tf v ++ if p.2 then [61] else [])) := by
                rw [hF, tf_cons, Item.flat, hab]; rfl
              have hi1 : (rowF p)[(((tf p1).length : Nat) : Int).toNat]? = some 61 := by
                rw [Int.toNat_natCast, hF2, List.getElem?_append_right (Nat.le_refl _), Nat.sub_self]; rfl
              have hi2 : (rowF p)[((((tf p1).length : Nat) : Int) + 1).toNat]? = some a := by
                rw [show ((((tf p1).length : Nat) : Int) + 1).toNat = (tf p1).length + 1 from by omega, hF2, List.getElem?_append_right (Nat.le_add_right _ _), Nat.add_sub_cancel_left]; rfl
              have hi3 : (rowF p)[((((tf p1).length : Nat) : Int) + 2).toNat]? = some b := by
                rw [show ((((tf p1).length : Nat) : Int) + 2).toNat = (tf p1).length + 2 from by omega, hF2, List.getElem?_append_right (Nat.le_add_right _ _), Nat.add_sub_cancel_left]; rfl
              have hs : ((rowF p).drop ((((tf p1).length : Nat) : Int)).toNat).take ((((tf p1).length : Nat) : Int) + 3 - (((tf p1).length : Nat) : Int)).toNat = 61 :: hex2 c := by
                rw [Int.toNat_natCast, show ((((tf p1).length : Nat) : Int) + 3 - (((tf p1).length : Nat) : Int)).toNat = 3 from by omega, hF2, List.drop_left', hab]; rfl
                rfl
              have hha : a ∈ [48, 49, 50, 51, 52, 53, 54, 55, 56, 57, 97, 98, 99, 100, 101, 102, 65, 66, 67, 68, 69, 70] := hex_in hra
              have hhb : b ∈ [48, 49, 50, 51, 52, 53, 54, 55, 56, 57, 97, 98, 99, 100, 101, 102, 65, 66, 67, 68, 69, 70] := hex_in hrb
              have hge : (tf p1).length + 3 ≤ (rowF p).length := by rcases hend with ⟨_, _, h, _⟩ | ⟨_, h⟩ <;> omega
              clear hlv hxv hF hF2
              rcases hend with ⟨hv, hb, hr, hd2⟩ | ⟨hv, hr⟩
              · walk_at "m steps"
                refine' hK2 .next _ _ _ _ _ _ _ (.inl rfl) (by assumption) (by assumption) ?ha5 ?hb5 ?hc5 (.inr ⟨?hd5, ?he5⟩)
                case ha5 => walk_at "m all"
                case hb5 => with_unfolding_all exact rfl
                case hc5 => with_unfolding_all exact rfl
                case hd5 => omega
                case he5 => rw [hd2, hux]; simp
              · walk_at "m steps"
                refine' hK2 .next _ _ _ _ _ _ _ (.inl rfl) (by assumption) (by assumption) ?ha6 ?hb6 ?hc6 (.inl ⟨.esc c, v, rfl, hv, ?hd6, rfl⟩)
                case ha6 => walk_at "m all"
                case hb6 => with_unfolding_all exact rfl
                case hc6 => with_unfolding_all exact rfl
                case hd6 => rw [huf]; omega
    case done =>
      clear hisl F1 N1 N0 hls hls2
      intro m₁ h tk kd F1 N1
      have hne : tf [] ++ flat eol l ≠ [] := by rw [hfl2]; exact hnil
      rw [hall] at F1
      dsimp only
      by_cases hfn : fin [] l = []
      · have hl10 := hfl.2 hfn hnil
        rw [hfn] at F1
        simp only [List.isEmpty_nil, if_true, List.append_nil] at F1
        have hc10 : (10 : Nat) ∈ [13, 10] := by decide
        walk_at "m steps"
        exact hQ _ _ _ (by assumption) (by assumption)
      · obtain ⟨hgf, hlf⟩ := hfl.1 hfn
        have e : (fin [] l).isEmpty = false := by
          cases hq : fin [] l with
          | nil => exact absurd hq hfn
          | cons a b => rfl
        rw [e] at F1
        simp only [Bool.false_eq_true, if_false] at F1
        obtain ⟨c, hc⟩ : ∃ c, xl.getLast? = some c := ⟨_, List.getLast?_eq_some_getLast hnil⟩
        have hcs := tf_signs hgf c (List.mem_of_getLast? (hlf ▸ hc))
        have hcn : c ∉ [13, 10] := by
          intro q
          rcases List.mem_cons.mp q with q | q
          · omega
          · have := List.mem_singleton.mp q; omega
        have hen : Txt.endswith (S (txt l ++ [10])) (S [10]) = true := by rw [← S_app]; exact KT.ends_app _ _
        have htk : (txt l ++ [10]).take ((-1 : Int) + (((txt l ++ [10]).length : Nat) : Int)).toNat = txt l := by
          rw [List.length_append, List.length_singleton, show ((-1 : Int) + ((((txt l).length + 1 : Nat)) : Int)).toNat = (txt l).length from by omega, List.take_left']; rfl
        have hln : (txt l ++ [10]).length = (txt l).length + 1 := by rw [List.length_append]; rfl
        have hsl : Txt.slice (S (txt l ++ [10])) none (some (-(([10].length : Nat) : Int))) = S (txt l) := slice_S_to (j := -1) (by decide) (by rw [hln]; omega) htk
        walk_at "m steps"
        rw [hsl]
        exact hQ _ _ _ (by assumption) (by assumption)
end
end Mine
end PartDd

section PartRf
open PySem PySem.W PyProof.Rows PySem.Calls
namespace Mine
-- MACROS BEGIN
local macro_rules | `(tactic| walk_at "m fact") => `(tactic| first | assumption | (symm; assumption) | omega | decide | (simp only [List.length_append, List.length_cons, List.length_nil]; omega) | (simp_all; done))
local macro_rules | `(tactic| walk_at "m size") => `(tactic| first | omega | (simp only [List.length_append, List.length_cons, List.length_nil, List.length_take, List.length_drop]; omega))
local macro_rules | `(tactic| walk_at "eval Constant str") => `(tactic| first | refine rConst lit_eq ?_ | refine rConst lit_nl ?_ | refine rConst lit_crnl ?_ | refine rConst lit_empty ?_ | refine rConst lit_bt ?_ | refine rConst lit_b ?_ | refine rConst lit_t ?_ | refine rConst lit_eqnl ?_ | refine rConst lit_menu ?_)
local macro_rules | `(tactic| walk_at "truthy str") => `(tactic| first | (refine rTruthyT ?a ?b ?_; (case a => walk_at "m fact"); (case b => walk_at "m size")) | (refine rTruthyF ?a ?_; (case a => walk_at "m fact")))
local macro_rules | `(tactic| walk_at "binaryOp Add str str") => `(tactic| (refine rAdd ?a ?_; (case a => walk_at "m size"); intro _ _))
local macro_rules | `(tactic| walk_at "inplaceOp Add str str") => `(tactic| (refine rIAdd ?a ?_; (case a => walk_at "m size"); intro _ _))
local macro_rules | `(tactic| walk_at "compareOp Eq str str") => `(tactic| first | (refine rEqT ?a ?_; (case a => walk_at "m fact")) | (refine rEqF ?a ?_; (case a => walk_at "m fact")))
local macro_rules | `(tactic| walk_at "compareOp NotEq str str") => `(tactic| first | (refine rNeT ?a ?_; (case a => walk_at "m fact")) | (refine rNeF ?a ?_; (case a => walk_at "m fact")))
local macro_rules | `(tactic| walk_at "compareOp In str str") => `(tactic| first | (refine rInT ?a ?_; (case a => walk_at "m fact")) | (refine rInF ?a ?_; (case a => walk_at "m fact")) | (refine rInT2 lit_crnl ?a ?_; (case a => walk_at "m fact")) | (refine rInF2 lit_crnl ?a ?_; (case a => walk_at "m fact")) | (refine rInT2 lit_hex ?a ?_; (case a => walk_at "m fact")) | (refine rInF2 lit_hex ?a ?_; (case a => walk_at "m fact")))
local macro_rules | `(tactic| walk_at "compareOp NotIn str str") => `(tactic| first | (refine rNotInT ?a ?_; (case a => walk_at "m fact")) | (refine rNotInF ?a ?_; (case a => walk_at "m fact")))
local macro_rules | `(tactic| walk_at "call builtin:len") => `(tactic| ((with_reducible show wpAny _ _ (call (Value.builtin "len") [Value.str _ _]) _ _ _); refine rLen ?a ?_; (case a => walk_at "m size")))
local macro_rules | `(tactic| walk_at "getMethod str") => `(tactic| with_reducible refine get_translate ?_)
local macro_rules | `(tactic| walk_at "call builtin:str.translate") => `(tactic| (refine call_translate ?a ?b ?c ?d ?_; (case a => assumption); (case b => omega); (case c => assumption); (case d => k_in); intro _ _))
local macro_rules | `(tactic| walk_at "getAttr ref") => `(tactic| (refine' rGetAppend ?a ?b ?c ?_; (case a => assumption); (case b => assumption); (case c => k_mem); intro q' h' F' N' lt'))
local macro_rules | `(tactic| walk_at "m steps") => `(tactic| repeat' (first
  | (k_unfold; (try dsimp only))
  | ((fail_if_success (with_reducible show wpAny _ _ (exec (Stmt.While _ _ _ _) _) _ _ _)); (fail_if_success (with_reducible show wpAny _ _ (exec (Stmt.For _ _ _ _ _) _) _ _ _)); (fail_if_success (with_reducible show wpAny _ _ (pyIter _) _ _ _)); (fail_if_success (with_reducible show InvPostN _ _ _ _ _ _ _ _ _)); (fail_if_success (with_reducible show WhileStep2 _ _ _ _ _ _ _ _)); (first | walk1 | (dsimp only; walk1)))))
local macro_rules | `(tactic| walk_at "call ref") => `(tactic| first
  | (refine' rAppend ?F ?N ?q ?r ?z ?_; (case F => assumption); (case N => assumption); (case q => assumption); (case r => assumption); (case z => assumption); intro h' F' N')
  | (refine' quote_call ?c ?B ?F ?X ?N ?T ?hA ?hf ?hke ?hroom ?_; (case B => assumption); (case F => assumption); (case X => assumption); (case N => assumption); (case T => assumption); (case hA => exact Around.frames_deeper (by assumption)); (case hf => rfl); (case hke => rfl); (case c => assumption); (case hroom => (show _ + 1 < _; omega)); intro h' tk' t' F' N'))
local macro_rules | `(tactic| walk_at "m all") => `(tactic| first | exact List.forall_mem_nil _ | (refine' List.forall_mem_cons.mpr ⟨?ha, ?hb⟩; (case ha => first | (with_reducible exact rfl) | (with_unfolding_all exact rfl)); (case hb => walk_at "m all")))
local macro_rules | `(tactic| walk_at "m item") => `(tactic| ((with_reducible show wpAny _ _ (subscriptTail _ _ (Value.str _ _) (Value.int _ _)) _ _ _); first | (refine' rItem ?a ?b ?c ?_; (case b => assumption); (case a => omega); (case c => omega)) | (refine' rItemLast ?b ?c ?_; (case b => assumption); (case c => omega))))
local macro_rules | `(tactic| walk_at "m slice") => `(tactic| (((with_reducible show wpAny _ _ (subscriptTail _ (Expr.Slice _ _ _ _) (Value.str _ _) (Value.ref _)) _ _ _); first
  | ((with_reducible show wpAny _ _ (subscriptTail _ (Expr.Slice (some _) (some _) none _) _ _) _ _ _); first
    | (refine' rSlice (s := ⟨_, _, _, _, _⟩) ?F ?N ?a ?b ?c ?d ?e ?_; (case F => assumption); (case N => assumption); (case a => omega); (case b => omega); (case c => omega); (case d => omega); (case e => assumption))
    | (refine' rSliceNeg (s := ⟨_, _, _, _, _⟩) ?F ?N ?a ?b ?c ?d ?e ?f ?_; (case F => assumption); (case N => assumption); (case a => omega); (case b => omega); (case c => omega); (case d => omega); (case e => omega); (case f => assumption)))
  | ((with_reducible show wpAny _ _ (subscriptTail _ (Expr.Slice (some _) none none _) _ _) _ _ _); refine' rSliceFrom (s := ⟨_, _, _, _, _⟩) ?F ?N ?a ?b ?d ?e ?_; (case F => assumption); (case N => assumption); (case a => omega); (case b => omega); (case d => omega); (case e => assumption))
  | ((with_reducible show wpAny _ _ (subscriptTail _ (Expr.Slice none (some _) none _) _ _) _ _ _); refine' rSliceTo (s := ⟨_, _, _, _, _⟩) ?F ?N ?a ?b ?d ?e ?_; (case F => assumption); (case N => assumption); (case a => omega); (case b => omega); (case d => omega); (case e => assumption))); intro h' t' k' F' N'))
local macro_rules | `(tactic| walk_at "subscriptTail") => `(tactic| first | walk_at "m item" | walk_at "m slice")
local macro_rules | `(tactic| walk_at "subscriptTail Name") => `(tactic| first | walk_at "m item" | walk_at "m slice")
local macro_rules | `(tactic| walk_at "subscriptTail Name BinOp") => `(tactic| first | walk_at "m item" | walk_at "m slice")
local macro_rules | `(tactic| walk_at "subscriptTail Name Name") => `(tactic| first | walk_at "m item" | walk_at "m slice")
local macro_rules | `(tactic| walk_at "subscriptTail Name BinOp str int") => `(tactic| first | walk_at "m item" | walk_at "m slice")
local macro_rules | `(tactic| walk_at "subscriptTail Name Name str int") => `(tactic| first | walk_at "m item" | walk_at "m slice")
local macro_rules | `(tactic| walk_at "subscriptTail Name UnaryOp str int") => `(tactic| first | walk_at "m item" | walk_at "m slice")
local macro_rules | `(tactic| walk_at "subscriptTail Name Constant str int") => `(tactic| first | walk_at "m item" | walk_at "m slice")
local macro_rules | `(tactic| walk_at "subscriptTail Name Slice str ref") => `(tactic| first | walk_at "m item" | walk_at "m slice")
local macro_rules | `(tactic| walk_at "subscriptTail Name Slice") => `(tactic| first | walk_at "m item" | walk_at "m slice")
local macro_rules | `(tactic| walk_at "callWith ref") => `(tactic| (refine' callWith_BN ?N ?_ ?x ?y; (case N => assumption); (case x => exact rfl); (case y => exact rfl)))
local macro_rules | `(tactic| walk_at "And") => `(tactic| ((with_reducible show _ = some (boundObj _ _) ∧ _); refine ⟨News.get (by assumption) (List.Mem.head _), ?_⟩; (try dsimp only [List.nil_append])))
local macro_rules | `(tactic| walk_at "compareOp Eq int int") => `(tactic| first | (refine rEqIntT ?a ?_; (case a => omega)) | (refine rEqIntF ?a ?_; (case a => omega)))
local macro_rules | `(tactic| walk_at "compareOp NotEq int int") => `(tactic| first | (refine rNeIntT ?a ?_; (case a => omega)) | (refine rNeIntF ?a ?_; (case a => omega)))
local macro_rules | `(tactic| walk_at "call builtin:str.join") => `(tactic| (refine' rJoin ?a ?b ?c ?_; (case a => exact News.isList (by assumption) (List.Mem.tail _ (List.Mem.head _))); (case b => first | assumption | exact strs_snoc (by assumption)); (case c => first | assumption | omega); intro t' k'))
-- MACROS END
-- (an own number of lines in this part: walk1 keeps its lines by their number)
local macro_rules | `(tactic| walk_at "m none1") => `(tactic| skip)
local macro_rules | `(tactic| walk_at "truthy str") => `(tactic| first | (refine rTruthyF ?a ?_; (case a => assumption)) | (refine rTruthyT ?a ?b ?_; (case a => assumption); (case b => walk_at "m size")))

local macro_rules | `(tactic| walk_at "exec Raise some none") => `(tactic| (refine' Raise_madeB PySem.F.excCall_ValueError PySem.F.excRaise_ValueError ?hh ?_ ?he ?hp; (case hh => assumption); (case he => rfl); (case hp => rfl)))
local macro_rules | `(tactic| walk_at "call ref") => `(tactic| (refine wpAny_call ?_; refine' code_defS ?B ?F ?X ?N ?T ?XB ?TB ?D ?T0 ?hA ?k6 ?k7 ?hroom ?k9 ?kB ?_ ?cK ?c2 ?c3 ?c4 ?c5; (case B => assumption); (case F => assumption); (case X => assumption); (case N => assumption); (case T => assumption); (case XB => assumption); (case TB => assumption); (case D => assumption); (case T0 => exact KtsTurn.refl); (case hA => exact Around.frames_deeper (by assumption)); (case k6 => k_is); (case k7 => k_is); (case hroom => (show _ + 1 < _; omega)); (case k9 => exact binds_K (by k_in) rfl (by k_is) rfl rfl rfl); (case kB => exact locs rfl); (case cK => exact rfl); (case c2 => exact rfl); (case c3 => exact rfl); (case c4 => exact rfl); (case c5 => decide); intro g' L' h' FG' F' N' B' X' T' D'; (try dsimp only); (try k_fold)))
local macro_rules | `(tactic| walk_at "m enter2") => `(tactic| (
  refine wpAny_call ?_
  refine' code_def ?B ?F ?X ?N ?T ?hA ?hf ?hke ?k6 ?k7 ?hroom ?k9 ?kB ?_ ?c2 ?c3 ?c4 ?c5
  case B => assumption
  case F => assumption
  case X => assumption
  case N => assumption
  case T => assumption
  case hA => exact Around.frames_deeper (by assumption)
  case hf => rfl
  case hke => rfl
  case k6 => k_is
  case k7 => k_is
  case hroom => (show _ + 1 < _; omega)
  case k9 => first | exact BindsTo.of_eq rfl | exact binds_K (by k_in) rfl (by k_is) rfl rfl rfl
  case c5 => decide
  case kB => exact locs rfl
  case c2 => exact rfl
  case c3 => exact rfl
  case c4 => exact rfl
  intro g' L' h' FG' F' N' B' X' T'
  (try dsimp only)
  (try k_fold)))

theorem enter_any {prog : Program} {w : World} {A₀ A : Around} {s : Shared} {base h₀ : Heap} {env : Env} {L : Addr} {m : Str → Option Value} {news : List (Addr × Obj)} {K : Frag} {p : Program} {loose : List Str} {mean : ExcName → Option Value} {mg mb : Str → Option Value}
    {R : Result → Shared → Prop} {name qual : Str} {params : Arguments} {body : List Stmt} {scope : Scope} {dV kV doc pm cdv ct oc : Value} {an od : Option Addr} {osl : Array (Option Value)} {f : Addr} {args : Args} {binds : List (Str × Value)}
    (B : Below A₀ base [] h₀) (F : Fr h₀ L s.heap m) (X₀ : K.In h₀) (N : News h₀ L s.heap news) (T : Top p loose mean mg mb h₀) (hA : A.frames = some [env]) (hf : env.frame = some L) (hke : env.scope.kind = .function)
    (ho : K.lookup f = some ⟨oc, od, .func (fnOf name qual params body scope dV kV doc pm an cdv ct), osl⟩) (hcd : codeIn K cdv qual = true) (hroom : A.depth < recursionLimit)
    (hbind : BindsTo s (fnOf name qual params body scope dV kV doc pm an cdv ct) args binds) (hloc : ∀ y ∈ binds, scope.names.lookup y.1 = some .local)
    (h : ∀ g L' h₁, Fr g L' h₁ (fun y => binds.reverse.lookup y) → News g L' h₁ news → Below A base [env] g → K.In g → Top p loose mean mg mb g → KtsDicts ([env].filterMap (·.frame)) g →
      wpAny (model prog w) (A.deeper (envOf qual scope L' f cdv)) (execs body (envOf qual scope L' f cdv))
        (fun fl s' => LeaveS0 ([env].filterMap (·.frame)) h₀ L m g R (match fl with | .ret v => v | _ => .none) s')
        (fun e s' => wpAny (model prog w) (A.deeper (envOf qual scope L' f cdv)) (leaving (envOf qual scope L' f cdv) e) (fun _ s'' => R (.error e) s'') (fun e' s'' => R (.error e') s'') s')
        { s with heap := h₁, toks := s.toks + binds.length })
    (hco : scope.isCoroutine = false) (hgen : scope.isGenerator = false) (hk : scope.kind = .function)
    (hcell : ∀ x ∈ scope.names, x.2 ≠ .cell) : codeAny (model prog w) A (.call (.ref f) args) R s := by
  have nL₀ : h₀.get? L = none := kts_self F
  have offL : L ∉ news.map (·.1) := fun q => by
    obtain ⟨p, hp, e⟩ := List.mem_map.mp q
    exact (N p hp).2.1 e
  have off : ∀ b o, h₀.get? b = some o → b ∉ news.map (·.1) := fun b o e q => by
    obtain ⟨p, hp, rfl⟩ := List.mem_map.mp q
    have z := (N p hp).2.2
    rw [e] at z; cases z
  have fl : [env].filterMap (·.frame) = [L] := by rw [List.filterMap_cons, hf]; rfl
  obtain ⟨oL, es, ep, gL, dL, k1, k2⟩ := F.ns
  have st : h₀.StaysIn (hideAll s.heap (news.map (·.1))) := fun b o e => hideAll_get _ (F.keep b o e) (off b o e)
  have hL := hideAll_get (news.map (·.1)) gL offL
  have bel : Below A base [env] (hideAll s.heap (news.map (·.1))) :=
    ⟨hA, fun b o e => st b o (B.stays b o e), .cons (by rw [hke]; decide) hf ⟨oL, es, ep, hL, dL, k1, k2⟩ (fresh_of_stays B.stays nL₀) trivial⟩
  have dic : KtsDicts ([env].filterMap (·.frame)) (hideAll s.heap (news.map (·.1))) := fun b hb => by
    rw [fl] at hb
    rw [List.mem_singleton.mp hb]
    exact ⟨oL, es, ep, hL, dL⟩
  refine codeAny_call_def (fd := fnOf name qual params body scope dV kV doc pm an cdv ct) (body := body) (binds := binds) hroom ((X₀.keeps F.keep) _ _ ho) rfl (T.nolimit.keeps F.keep) (codeRec_of (X₀.keeps F.keep) hcd) rfl hbind hcell hloc (fun h₁ hns up => ?_) hco hgen hk
  refine wpAny_mono (h _ s.heap.objs.size h₁ ⟨hns, fun b o e => up b o (of_hideAll _ e), Nat.le_of_eq (hideAll_size _ _)⟩
    (fun p hp => ⟨up _ _ (N p hp).1, Nat.ne_of_lt (Heap.lt_size (N p hp).1), hideAll_none _ (List.mem_map_of_mem hp)⟩) bel (X₀.keeps st) (T.keeps st) dic) (fun r s' hl => ?_) fun _ _ y => y
  obtain ⟨g', L', m', news', T', F', N', k⟩ := hl
  rw [fl] at T'
  obtain ⟨sl, hs⟩ := T'.up hL
  refine k ⟨⟨_, es, ep, F'.keep _ _ hs, dL, k1, k2⟩, fun b o e => F'.keep b o (T'.other b o (st b o e) fun q => ?_), F.above⟩ fun p hp => ⟨(N' p hp).1, fun q => ?_, ?_⟩
  · rw [List.mem_singleton.mp q, nL₀] at e; cases e
  · have z := (N' p hp).2.2
    rw [q, hs] at z; cases z
  · cases q : h₀.get? p.1 with
    | none => rfl
    | some o =>
      obtain ⟨sl', hs'⟩ := T'.up (st _ _ q)
      have z := (N' p hp).2.2
      rw [hs'] at z; cases z
section
variable {w : World} {A A₀ : Around} {base h₀ : Heap} {outer : List Env} {L : Addr} {m mg mb : Str → Option Value} {news : List (Addr × Obj)} {s : Shared} {env : Env} {p : Program} {loose : List Str} {mean : ExcName → Option Value} {Q : Value → Shared → Prop} {E : Value → Shared → Prop}
set_option maxRecDepth 100000 in
set_option maxHeartbeats 8000000 in
theorem be_nil {eol : List Nat} {wd : Nat} {t1 t2 t3 : Tok} {pos : List Value} (B : Below A₀ base outer h₀) (F : Fr h₀ L s.heap m) (X : (Mine.Hd.K w.params).In h₀) (N : News h₀ L s.heap news) (T : Top p loose mean mg mb h₀)
    (hA : A.frames = some (env :: outer)) (hf : env.frame = some L) (hke : env.scope.kind = .function) (hroom : A.depth + 2 < recursionLimit)
    (hb : (pos = [.str (S []) t1, .int (wd : Int) t2] ∧ eol = [10] ∧ t3 = 189) ∨ pos = [.str (S []) t1, .int (wd : Int) t2, .str (S eol) t3])
    (hw : 4 ≤ wd)
    (hQ : ∀ h' tk t', Fr h₀ L h' m → News h₀ L h' news → Q (.str (S []) t') { s with heap := h', toks := tk }) :
    wpAny (model PySem.Challenge.rw_wy0003_01.row.prog w) A (call (.ref 57) pos) Q E s := by
  revert X; k_fill; intro X
  refine wpAny_call ?_
  refine' code_def B F X N T hA hf hke ?k6 ?k7 (by omega) ?k9 ?kB ?_ ?c2 ?c3 ?c4 ?c5
  case k6 => k_is
  case k7 => k_is
  case k9 =>
    refine (?_ : BindsTo s _ ⟨pos, []⟩ [(Str.ofString "body", .str (S []) t1), (Str.ofString "maxlinelen", .int (wd : Int) t2), (Str.ofString "eol", .str (S eol) t3)])
    rcases hb with ⟨rfl, rfl, rfl⟩ | rfl
    · rw [← lit_nl]; exact binds_K (by k_in) rfl (by k_is) rfl rfl rfl
    · first | exact BindsTo.of_eq rfl | exact binds_K (by k_in) rfl (by k_is) rfl rfl rfl
  case c5 => decide
  case kB => exact locs rfl
  case c2 => exact rfl
  case c3 => exact rfl
  case c4 => exact rfl
  intro g' L' h' FG' F' N' B' X' T'
  (try dsimp only)
  (try k_fold)
  have he : ([] : List Nat) = [] := rfl
  walk_at "m steps"
  exact hQ _ _ _ (by assumption) (by assumption)

set_option maxRecDepth 100000 in
set_option maxHeartbeats 8000000 in
theorem refused_call {tl : List Nat} {wd : Int} {t1 t2 : Tok} (hwd : wd = 3 ∨ wd = 0) (B : Below A₀ base [] h₀) (F : Fr h₀ L s.heap m) (X : (Mine.Hd.K w.params).In h₀) (N : News h₀ L s.heap news) (T : Top p loose mean mg mb h₀)
    (XB : (Mine.Hd.K w.params).In base) (TB : Top p loose mean mg mb base)
    (hA : A.frames = some [env]) (hf : env.frame = some L) (hke : env.scope.kind = .function) (hroom : A.depth + 3 < recursionLimit) (hh : A.handled = none)
    (hQ : ∀ h' tk, Fr h₀ L h' m → News h₀ L h' news → Q (.bool true) { s with heap := h', toks := tk }) :
    wpAny (model PySem.Challenge.rw_wy0003_01.row.prog w) A (call (.ref 72) [.str (S tl) t1, .int wd t2]) Q E s := by
  revert X XB; k_fill; intro X XB
  refine wpAny_call ?_
  refine' enter_any B F X N T hA hf hke ?k6 ?k7 ?k8 ?k9 ?kB ?_ ?c2 ?c3 ?c4 ?c5
  case k6 => k_is
  case k7 => k_is
  case k8 => omega
  case k9 => first | exact BindsTo.of_eq rfl | exact binds_K (by k_in) rfl (by k_is) rfl rfl rfl
  case c5 => decide
  case kB => exact locs rfl
  case c2 => exact rfl
  case c3 => exact rfl
  case c4 => exact rfl
  intro g' L' h' F' N' B' X' T' D'
  (try dsimp only)
  (try k_fold)
  rcases hwd with rfl | rfl
  · walk_at "m steps"
    exact hQ _ _ (by assumption) (by assumption)
  · walk_at "m steps"
    exact hQ _ _ (by assumption) (by assumption)
end
end Mine
end PartRf

section PartPq
open PySem PySem.W PyProof.Rows PySem.Calls PySem.StrLaws PySem.Builtin PySem.Builtin.Str
set_option maxRecDepth 100000
namespace Mine
theorem tf_no10 {t : List Item} (h : Toks t) : 10 ∉ tf t := fun q => by
  have := tf_signs h 10 q
  omega
theorem tf_lit (cur : List Item) (c : Nat) (X : List Nat) : tf (cur ++ [Item.lit c]) ++ X = tf cur ++ c :: X := by
  rw [tf_app, List.append_assoc]; rfl
theorem tf_esc (cur : List Item) (c : Nat) (X : List Nat) : tf (cur ++ [Item.esc c]) ++ X = tf cur ++ (61 :: hex2 c ++ X) := by
  rw [tf_app, List.append_assoc]
  show tf cur ++ ((flat [] [Item.esc c]) ++ X) = _
  rw [esc_flat]
theorem nil_toks : Toks [] := fun _ h => by cases h

/-! the rows of an encoded text -/
theorem sp_rows : ∀ (l cur : List Item), Toks cur → Good l → sp (tf cur ++ flat [10] l) = (rws cur l).map rowF ++ (if (fin cur l).isEmpty then [[]] else [])
  | [], cur, hc, _ => by
    rw [flat_nil, List.append_nil, sp_free (tf_no10 hc), rws, fin]
    cases cur with
    | nil => rfl
    | cons a r => simp [rowF]
  | .lit c :: l, cur, hc, hg => by
    have h' := hg.cons
    rw [rws, fin, ← sp_rows l (cur ++ [Item.lit c]) (tokL hc h'.1) h'.2, flat_cons, tf_lit]; rfl
    all_goals (intro q; cases q)
  | .esc c :: l, cur, hc, hg => by
    have h' := hg.cons
    rw [rws, fin, ← sp_rows l (cur ++ [Item.esc c]) (tokE hc h'.1) h'.2, flat_cons, tf_esc]; rfl
    all_goals (intro q; cases q)
  | .soft :: l, cur, hc, hg => by
    have h' := hg.cons
    have ih := sp_rows l [] nil_toks h'.2
    rw [rws, fin, List.map_cons, List.cons_append, ← ih, flat_cons]
    have e : tf cur ++ (Item.flat [10] .soft ++ flat [10] l) = (tf cur ++ [61]) ++ 10 :: flat [10] l := by simp [Item.flat]
    rw [e, sp_pre_ten]
    · rfl
    · intro q
      rcases List.mem_append.mp q with q | q
      · exact tf_no10 hc q
      · simp at q
  | .hard :: l, cur, hc, hg => by
    have h' := hg.cons
    have ih := sp_rows l [] nil_toks h'.2
    rw [rws, fin, List.map_cons, List.cons_append, ← ih, flat_cons]
    have e : tf cur ++ (Item.flat [10] .hard ++ flat [10] l) = tf cur ++ 10 :: flat [10] l := by simp [Item.flat]
    rw [e, sp_pre_ten _ (tf_no10 hc)]
    simp [rowF, tf]; rfl
theorem rows_width (w : Nat) : ∀ (l cur : List Item) (b : Bool), ok w (tf cur).length b (l ++ [.hard]) → (tf cur).length ≤ w → ∀ p ∈ rws cur l, (rowF p).length ≤ w
  | [], cur, b, _, hw, p, hp => by
    rw [rws] at hp
    split at hp
    · cases hp
    · rw [List.mem_singleton.mp hp, rowF_len]; simpa using hw
  | .lit c :: l, cur, b, h, hw, p, hp => by
    obtain ⟨h1, h2⟩ := h
    have e : (tf (cur ++ [Item.lit c])).length = (tf cur).length + 1 := by rw [tf_app, List.length_append]; rfl
    rw [rws] at hp
    · exact rows_width w l (cur ++ [Item.lit c]) _ (by rw [e]; exact h2) (by rw [e]; exact h1) p hp
    all_goals (intro q; cases q)
  | .esc c :: l, cur, b, h, hw, p, hp => by
    obtain ⟨h1, h2⟩ := h
    have e : (tf (cur ++ [Item.esc c])).length = (tf cur).length + 3 := by rw [tf_app, List.length_append]; rfl
    rw [rws] at hp
    · exact rows_width w l (cur ++ [Item.esc c]) _ (by rw [e]; exact h2) (by rw [e]; exact h1) p hp
    all_goals (intro q; cases q)
  | .soft :: l, cur, b, h, hw, p, hp => by
    obtain ⟨h1, h2⟩ := h
    rw [rws] at hp
    rcases List.mem_cons.mp hp with rfl | hp
    · rw [rowF_len, if_pos rfl]; exact h1
    · exact rows_width w l [] _ h2 (Nat.zero_le _) p hp
  | .hard :: l, cur, b, h, hw, p, hp => by
    obtain ⟨h1, h2⟩ := h
    rw [rws] at hp
    rcases List.mem_cons.mp hp with rfl | hp
    · rw [rowF_len]; simpa using hw
    · exact rows_width w l [] _ h2 (Nat.zero_le _) p hp
theorem rows_fit {w : Nat} {l : List Item} (hg : Good l) (hok : ok w 0 false (l ++ [.hard])) : ∀ r ∈ sp (flat [10] l), r.length ≤ w ∧ ∀ c, r.getLast? = some c → c ∉ [32, 9] := by
  intro r hr
  have e := sp_rows l [] nil_toks hg
  have e2 : tf [] ++ flat [10] l = flat [10] l := rfl
  rw [e2] at e
  rw [e] at hr
  rcases List.mem_append.mp hr with hr | hr
  · obtain ⟨p, hp, rfl⟩ := List.mem_map.mp hr
    refine ⟨rows_width w l [] _ hok (Nat.zero_le _) p hp, fun c hc q => ?_⟩
    have h1 := row_last (rows_good l [] nil_toks hg p hp) (rows_sharp w l [] 0 hok p hp) c hc
    have h32 : Unicode.isSpace 32 = true := by decide +kernel
    have h9 : Unicode.isSpace 9 = true := by decide +kernel
    rcases List.mem_cons.mp q with rfl | q
    · rw [h32] at h1; cases h1
    · rw [List.mem_singleton.mp q, h9] at h1; cases h1
  · split at hr
    · rw [List.mem_singleton.mp hr]
      exact ⟨Nat.zero_le _, fun c hc => by cases hc⟩
    · cases hr

/-! the text's own rows -/
def segs : List Item → List Item → List (List Item)
  | cur, [] => [cur]
  | cur, .hard :: r => cur :: segs [] r
  | cur, .soft :: r => segs cur r
  | cur, .lit c :: r => segs (cur ++ [Item.lit c]) r
  | cur, .esc c :: r => segs (cur ++ [Item.esc c]) r
theorem sp_whole : ∀ (l cur : List Item), Toks cur → Good l → sp (tf cur ++ rep (flat [10] l)) = (segs cur l).map tf
  | [], cur, hc, _ => by
    rw [flat_nil, segs]
    show sp (tf cur ++ []) = _
    rw [List.append_nil, sp_free (tf_no10 hc)]; rfl
  | .lit c :: l, cur, hc, hg => by
    have h' := hg.cons
    have hn : c ≠ 61 := by rcases h'.1 with rfl | rfl | rfl | rfl <;> decide
    rw [segs, ← sp_whole l (cur ++ [Item.lit c]) (tokL hc h'.1) h'.2, flat_cons, tf_lit]
    show sp (tf cur ++ rep (c :: flat [10] l)) = _
    rw [rep_cons _ fun q => hn q.1]
  | .esc c :: l, cur, hc, hg => by
    have h' := hg.cons
    obtain ⟨a, b, hab, ha, hb⟩ := hex_of h'.1
    rw [segs, ← sp_whole l (cur ++ [Item.esc c]) (tokE hc h'.1) h'.2, flat_cons, tf_esc, hab]
    have e : Item.flat [10] (.esc c) ++ flat [10] l = 61 :: a :: b :: flat [10] l := by rw [Item.flat, hab]; rfl
    rw [e, rep_cons _ (fun q => by have := Option.some.inj q.2; omega), rep_cons _ (fun q => by omega), rep_cons _ (fun q => by omega)]
    rfl
  | .soft :: l, cur, hc, hg => by
    have h' := hg.cons
    rw [segs, ← sp_whole l cur hc h'.2, flat_cons]
    show sp (tf cur ++ rep (61 :: 10 :: flat [10] l)) = _
    rw [rep_pair]
  | .hard :: l, cur, hc, hg => by
    have h' := hg.cons
    rw [segs, List.map_cons, flat_cons]
    show sp (tf cur ++ rep (10 :: flat [10] l)) = _
    rw [rep_cons _ (fun q => by omega), sp_pre_ten _ (tf_no10 hc)]
    have ih := sp_whole l [] nil_toks h'.2
    exact congrArg _ ih
theorem good_no10 {i : Item} (ht : i.isTok) (h : i.good) : 10 ∉ i.txt := by
  cases i with
  | lit c => rcases h with rfl | rfl | rfl | rfl <;> simp [Item.txt]
  | esc c => rcases h with rfl | rfl | rfl | rfl | rfl | rfl <;> simp [Item.txt]
  | soft => exact absurd ht id
  | hard => exact absurd ht id
theorem txt_no10 : ∀ {t : List Item}, Toks t → 10 ∉ txt t
  | [], _ => by simp [txt]
  | i :: t, h => by
    have h' := h.cons
    rw [txt_cons]
    intro q
    rcases List.mem_append.mp q with q | q
    · exact good_no10 h'.1.1 h'.1.2 q
    · exact txt_no10 h'.2 q
theorem sp_own : ∀ (l cur : List Item), Toks cur → Good l → sp (txt cur ++ txt l) = (segs cur l).map txt
  | [], cur, hc, _ => by
    rw [txt_nil, segs, List.append_nil, sp_free (txt_no10 hc)]; rfl
  | .lit c :: l, cur, hc, hg => by
    have h' := hg.cons
    rw [segs, ← sp_own l (cur ++ [Item.lit c]) (tokL hc h'.1) h'.2, txt_cons, txt_app, List.append_assoc]
    rfl
  | .esc c :: l, cur, hc, hg => by
    have h' := hg.cons
    rw [segs, ← sp_own l (cur ++ [Item.esc c]) (tokE hc h'.1) h'.2, txt_cons, txt_app, List.append_assoc]
    rfl
  | .soft :: l, cur, hc, hg => by
    have h' := hg.cons
    rw [segs, ← sp_own l cur hc h'.2, txt_cons]
    rfl
  | .hard :: l, cur, hc, hg => by
    have h' := hg.cons
    rw [segs, List.map_cons, txt_cons]
    show sp (txt cur ++ 10 :: txt l) = _
    rw [sp_pre_ten _ (txt_no10 hc)]
    have ih := sp_own l [] nil_toks h'.2
    exact congrArg _ ih
theorem segs_toks : ∀ (l cur : List Item), Toks cur → Good l → ∀ t ∈ segs cur l, Toks t
  | [], cur, hc, _, t, ht => by
    rw [segs] at ht
    rw [List.mem_singleton.mp ht]; exact hc
  | .lit c :: l, cur, hc, hg, t, ht => by
    have h' := hg.cons
    rw [segs] at ht
    exact segs_toks l _ (tokL hc h'.1) h'.2 t ht
  | .esc c :: l, cur, hc, hg, t, ht => by
    have h' := hg.cons
    rw [segs] at ht
    exact segs_toks l _ (tokE hc h'.1) h'.2 t ht
  | .soft :: l, cur, hc, hg, t, ht => by
    rw [segs] at ht
    exact segs_toks l cur hc hg.cons.2 t ht
  | .hard :: l, cur, hc, hg, t, ht => by
    rw [segs] at ht
    rcases List.mem_cons.mp ht with rfl | ht
    · exact hc
    · exact segs_toks l [] nil_toks hg.cons.2 t ht
theorem rep_len : ∀ l : List Nat, (rep l).length ≤ l.length
  | [] => Nat.le_refl _
  | [_] => Nat.le_refl _
  | c :: d :: r => by
    rw [rep]
    split
    · have := rep_len r
      simp only [List.length_cons]; omega
    · have := rep_len (d :: r)
      simp only [List.length_cons] at this ⊢; omega
/-- what the law reads off an encoded text -/
theorem enc_law {w : Nat} {text x : List Nat} (h : Enc w [10] text x) : (∀ r ∈ sp x, r.length ≤ w ∧ ∀ c, r.getLast? = some c → c ∉ [32, 9]) ∧ x.length ≤ 12 * (text.length + 1) ∧
    ∃ G : List (List Item), sp (rep x) = G.map tf ∧ sp text = G.map txt ∧ ∀ t ∈ G, Toks t := by
  obtain ⟨l, rfl, h1, h2, h3, h4⟩ := h
  refine ⟨rows_fit h3 h1, h4, segs [] l, sp_whole l [] nil_toks h3, ?_, segs_toks l [] nil_toks h3⟩
  rw [← h2]
  exact sp_own l [] nil_toks h3
end Mine
end PartPq

section PartSx
open PySem PySem.W PyProof.Rows PySem.Calls PySem.StrLaws PySem.Builtin PySem.Builtin.Str
set_option maxRecDepth 100000
namespace Mine
abbrev rowsO (ls : List (Str × Tok)) : Obj := { cls := .type "list", data := .seq (strValues ls).toArray }
theorem sp_len : ∀ l : List Nat, (sp l).length ≤ l.length + 1
  | [] => Nat.le_refl _
  | c :: r => by
    have ih := sp_len r
    obtain ⟨a, t, e⟩ := sp_ne r
    rw [sp]
    split
    · simp only [List.length_cons]; omega
    · rw [e] at ih ⊢
      simp only [List.length_cons] at ih ⊢; omega
theorem split_size {l : List Nat} {ls : List (Str × Tok)} (e : ls.map (·.1) = (sp l).map S) (h : l.length ≤ 100000) : (strValues ls).toArray.size ≤ sizeLine := by
  have h1 := congrArg List.length e
  rw [List.length_map, List.length_map] at h1
  have h2 := sp_len l
  rw [List.size_toArray, strValues, List.length_map, sizeLine_eq]
  omega
section
variable {prog : Program} {w : World} {A : Around} {E : Value → Shared → Prop} {s : Shared} {h₀ : Heap} {L : Addr} {m : Str → Option Value} {news : List (Addr × Obj)} {Q : Value → Shared → Prop} {l : List Nat} {t u v : Tok}
theorem rSplit (F : Fr h₀ L s.heap m) (N : News h₀ L s.heap news) (hs : 1 ≤ s.toks) (hl : l.length ≤ 100000)
    (h : ∀ a ls h' k, ls.map (·.1) = (sp l).map S → (strValues ls).toArray.size ≤ sizeLine → 1 ≤ k → (∀ p ∈ news, p.1 ≠ a) → Fr h₀ L h' m → News h₀ L h' ((a, rowsO ls) :: news) → Q (.ref a) { s with heap := h', toks := k }) :
    wpAny (model prog w) A (call (.builtin "str.split") [.str (S l) t, .str (S [10]) u]) Q E s :=
  wpAny_with_toks hs (splitN1A F N rfl (fun ls h' k e _ _ _ F' N' => fun hk => h _ ls h' k (by rw [e, split_S]) (split_size (by rw [e, split_S]) hl) hk (fun p hp => Nat.ne_of_lt (Heap.lt_size (N p hp).1)) F' N') (by rw [S_len, sizeLine_eq]; omega))
theorem rReplace (hu : u ≠ 0) (hv : v ≠ 0) (huv : u ≠ v) (hs : 1 ≤ s.toks) (hl : l.length ≤ 100000) (h : ∀ t' k, 1 ≤ k → Q (.str (S (rep l)) t') { s with toks := k }) :
    wpAny (model prog w) A (call (.builtin "str.replace") [.str (S l) t, .str (S [61, 10]) u, .str (S []) v]) Q E s :=
  wpAny_with_toks hs (SC.replaceW hu hv huv (by decide) (by rw [S_len]; omega) (by decide) (fun t' k => fun hk => by rw [replace_S]; exact h t' k hk))
end
theorem wide_le (a : Int) : (4 + Int.fmod a 20).toNat ≤ 23 ∧ ((4 + Int.fmod a 20).toNat : Int) = 4 + Int.fmod a 20 := by
  have h1 := fmod_lo a (n := 20) (by decide)
  have h2 := fmod_hi a (n := 20) (by decide)
  omega
theorem last_blank {r : List Nat} (h : ∀ c, r.getLast? = some c → c ∉ [32, 9]) : ∃ r', Txt.slice (S r) (some (((r.length : Nat) : Int) - 1)) none = S r' ∧ r' ≠ [32] ∧ r' ≠ [9] := by
  by_cases hr : r = []
  · subst hr
    exact ⟨[], by decide +kernel, by decide, by decide⟩
  · have hp := List.length_pos_iff.mpr hr
    refine ⟨r.drop (r.length - 1), ?_, ?_⟩
    · refine slice_S_from (by omega) (by omega) ?_
      congr 1; omega
    · obtain ⟨q, c, rfl⟩ : ∃ q c, r = q ++ [c] := ⟨r.dropLast, r.getLast hr, (List.dropLast_concat_getLast hr).symm⟩
      have hc := h c (by simp)
      have e : (q ++ [c]).drop ((q ++ [c]).length - 1) = [c] := by
        rw [List.length_append, List.length_singleton, Nat.add_sub_cancel, List.drop_left']; rfl
      rw [e]
      constructor
      · intro z; exact hc (by simp [List.cons.inj z])
      · intro z; exact hc (by simp [List.cons.inj z])
theorem any_blank {r : List Nat} (h : ∀ c, r.getLast? = some c → c ∉ [32, 9]) : ([S [32], S [9]].any fun x => x == Txt.slice (S r) (some (((r.length : Nat) : Int) - 1)) none) = false := by
  obtain ⟨r', hz, h1, h2⟩ := last_blank h
  rw [hz, List.any_cons, List.any_cons, List.any_nil, S_beq, S_beq, beq_eq_false_iff_ne.mpr (Ne.symm h1), beq_eq_false_iff_ne.mpr (Ne.symm h2)]; rfl
section
variable {prog : Program} {w : World} {A : Around} {E : Value → Shared → Prop} {s : Shared} {Q : Value → Shared → Prop} {t t1 t2 u : Tok} {l : Addr}
theorem rInBlank {z : Str} {r' : List Nat} (hz : z = S r') (h1 : r' ≠ [32]) (h2 : r' ≠ [9]) (hl : s.heap.IsList l #[.str (S [32]) t1, .str (S [9]) t2]) (h : Q (.bool false) s) :
    wpAny (model prog w) A (compareOp .In (.str z t) (.ref l)) Q E s := by
  subst hz
  refine in_list_strs (vs := [.str (S [32]) t1, .str (S [9]) t2]) (ys := [S [32], S [9]]) hl (.cons _ _ (.cons _ _ .nil)) ?_
  have e : ([S [32], S [9]].any fun y => y == S r') = false := by
    rw [List.any_cons, List.any_cons, List.any_nil, S_beq, S_beq, beq_eq_false_iff_ne.mpr (Ne.symm h1), beq_eq_false_iff_ne.mpr (Ne.symm h2)]; rfl
  first
    | exact e ▸ h
    | (rw [e]; exact h)
theorem rGtIntF {a b : Int} (e : a ≤ b) (h : Q (.bool false) s) : wpAny (model prog w) A (compareOp .Gt (.int a t) (.int b u)) Q E s :=
  PyProof.Rows.gt_int (by rw [decide_eq_false (by omega)]; exact h)
end
section
variable {prog : Program} {w : World} {A : Around} {h₀ : Heap} {L : Addr} {m : Str → Option Value} {env : Env} {ct elt : Expr} {x : Str} {scope : Scope} {cl : List (Str × Addr)} {s : Shared} {Sn : List (Addr × Obj) → Prop} {Fin : List Value → List (Addr × Obj) → Prop} {news : List (Addr × Obj)}
def NoRow (h₀ : Heap) (L : Addr) (m : Str → Option Value) (I C D : Addr) (oI oC : Obj) (news : List (Addr × Obj)) (s : Shared) (okk : Bool) (s' : Shared) : Prop :=
  okk = false ∧ ∃ h' tk', s' = { s with heap := h', toks := tk' } ∧ Fr h₀ L h' m ∧ News h₀ L h' ((I, oI) :: (C, oC) :: (D, LCg.lst []) :: news)
theorem NoRow.mk {I C D : Addr} {oI oC : Obj} {h' : Heap} {tk' : Nat} (F : Fr h₀ L h' m) (N : News h₀ L h' ((I, oI) :: (C, oC) :: (D, LCg.lst []) :: news)) : NoRow h₀ L m I C D oI oC news s false { s with heap := h', toks := tk' } := ⟨rfl, h', tk', rfl, F, N⟩
theorem rest_none {R : List (List Nat)} {ls : List (Str × Tok)} (hls : ls.map (·.1) = R.map S) (hS : Sn news)
    (turn : ∀ r t I oI C oC D m₂ h tk (E' : Value → Shared → Prop), r ∈ R → LCg.NsObj oC m₂ → m₂ x = some (.str (S r) t) → Fr h₀ L h m → News h₀ L h ((I, oI) :: (C, oC) :: (D, LCg.lst []) :: news) → LCg.Off3 I C D news → ((@Ne Nat I C) ∧ (@Ne Nat I D) ∧ (@Ne Nat C D)) →
      wpAny (model prog w) A (isTrue ct (compEnvC scope cl C env) (eval ct (compEnvC scope cl C env))) (NoRow h₀ L m I C D oI oC news { s with heap := h, toks := tk }) E' { s with heap := h, toks := tk })
    (fin : Fin [] news) : LCt.CompRestT prog w A h₀ L m env ct elt x scope cl s Sn (fun i v => (strValues ls).toArray[i]? = some v) Fin (strValues ls).toArray.size 0 [] news := by
  have key : ∀ (j i : Nat), LCt.CompRestT prog w A h₀ L m env ct elt x scope cl s Sn (fun i v => (strValues ls).toArray[i]? = some v) Fin j i [] news := by
    intro j
    induction j with
    | zero => intro i; exact LCt.CompRestT.zero fin
    | succ j ih =>
      intro i
      refine LCt.CompRestT.succ ?_
      intro v I oI C oC D m₂ h tk E' hv hC hx F N off ne
      have hv2 : (strValues ls)[i]? = some v := by simpa using hv
      obtain ⟨r, t, hr, rfl⟩ := strs_get hls hv2
      refine wpAny_mono (turn r t I oI C oC D m₂ h tk E' (List.mem_of_getElem? hr) hC hx F N off ne) (fun b s₂ hq => ?_) fun _ _ e => e
      obtain ⟨rfl, h', tk', rfl, F', N'⟩ := hq
      simp only [Bool.false_eq_true, if_false]
      exact ⟨h', tk', news, rfl, F', N', off, hS, ih (i + 1)⟩
  exact key _ _
end
end Mine
end PartSx

section PartLw
open PySem PySem.W PyProof.Rows PySem.Calls PySem.StrLaws PySem.Builtin PySem.Builtin.Str
set_option maxRecDepth 100000
namespace Mine
theorem sp_mem : ∀ (l r : List Nat), r ∈ sp l → r.length ≤ l.length
  | [], r, h => by
    rw [List.mem_singleton.mp (show r ∈ [[]] from h)]
    exact Nat.le_refl _
  | c :: l, r, h => by
    have ih := sp_mem l
    obtain ⟨a, t, e⟩ := sp_ne l
    rw [sp] at h
    rw [e] at h ih
    rw [List.length_cons]
    split at h
    · rcases List.mem_cons.mp h with rfl | h
      · exact Nat.zero_le _
      · have := ih r h; omega
    · rcases List.mem_cons.mp h with rfl | h
      · have := ih a (List.mem_cons_self ..)
        rw [List.length_cons]; omega
      · have := ih r (List.mem_cons_of_mem _ h); omega
section
variable {prog : Program} {w : World} {A : Around} {E : Value → Shared → Prop} {s : Shared} {a : Addr} {R : List (List Nat)} {ls : List (Str × Tok)} {Q : Value → Shared → Prop}
theorem rows_are (e : ls.map (·.1) = R.map S) : StrsAre (strValues ls) (R.map S) := e ▸ strsAre_of_values ls
theorem rLenRows (e : ls.map (·.1) = R.map S) (hl : s.heap.IsList a (strValues ls).toArray) (hR : R.length ≤ 1000000) (h : Q (.int (R.length : Nat) (s.toks + 1)) { s with toks := s.toks + 1 + 1 }) : wpAny (model prog w) A (call (.builtin "len") [.ref a]) Q E s := by
  refine len_strsA hl (rows_are e) (by rw [List.length_map]; omega) ?_
  rw [List.length_map]; exact h
theorem rItemRows {value slice : Expr} {i : Nat} {r : List Nat} {u : Tok} (e : ls.map (·.1) = R.map S) (hl : s.heap.IsList a (strValues ls).toArray) (hr : R[i]? = some r) (hR : R.length ≤ 1000000) (h : ∀ t', Q (.str (S r) t') s)
    (hs : subscripted slice false (.ref a) (.int (i : Nat) u) = operate [.ref a, .int (i : Nat) u] (getItem (.ref a) (.int (i : Nat) u)) := by with_unfolding_all rfl) (hg : ∀ r, letTemporaryGo value (.ref a) r = pure () := by intro _; with_unfolding_all rfl) :
    wpAny (model prog w) A (subscriptTail value slice (.ref a) (.int (i : Nat) u)) Q E s := by
  have hlt : i < R.length := (List.getElem?_eq_some_iff.mp hr).1
  refine item_strsA hl (rows_are e) (by omega) (by rw [List.length_map]; omega) (by omega) (fun t' => ?_) hs hg
  have e2 : (R.map S).getD ((i : Nat) : Int).toNat Str.empty = S r := by
    rw [Int.toNat_natCast, List.getD_eq_getElem?_getD, List.getElem?_map, hr]; rfl
  rw [e2]; exact h t'
end
section
variable {prog : Program} {w : World} {A : Around} {E : Value → Shared → Prop} {s : Shared} {a : Addr} {G : List (List Item)} {f : List Item → List Nat} {ls : List (Str × Tok)} {Q : Value → Shared → Prop}
theorem rLenG (e : ls.map (·.1) = (G.map f).map S) (hl : s.heap.IsList a (strValues ls).toArray) (hR : G.length ≤ 1000) (h : Q (.int (G.length : Nat) (s.toks + 1)) { s with toks := s.toks + 1 + 1 }) : wpAny (model prog w) A (call (.builtin "len") [.ref a]) Q E s := by
  refine rLenRows e hl (by rw [List.length_map]; omega) ?_
  rw [List.length_map]; exact h
theorem rItemG {value slice : Expr} {i : Nat} {t : List Item} {u : Tok} (e : ls.map (·.1) = (G.map f).map S) (hl : s.heap.IsList a (strValues ls).toArray) (hr : G[i]? = some t) (hR : G.length ≤ 1000) (h : ∀ t', Q (.str (S (f t)) t') s)
    (hs : subscripted slice false (.ref a) (.int (i : Nat) u) = operate [.ref a, .int (i : Nat) u] (getItem (.ref a) (.int (i : Nat) u)) := by with_unfolding_all rfl) (hg : ∀ r, letTemporaryGo value (.ref a) r = pure () := by intro _; with_unfolding_all rfl) :
    wpAny (model prog w) A (subscriptTail value slice (.ref a) (.int (i : Nat) u)) Q E s :=
  rItemRows e hl (by rw [List.getElem?_map, hr]; rfl) (by rw [List.length_map]; omega) h hs hg
end
section
variable {prog : Program} {w : World} {A : Around} {E : Value → Shared → Prop} {s : Shared} {env : Env} {h₀ : Heap} {x : Str} {body : List Stmt} {Q : Flow → Shared → Prop}
  {m₀ : Str → Option Value} {news : List (Addr × Obj)} {fs : List (Str × Value)} {kz kd₀ : Tok}
theorem law_for {G : List (List Item)} {r : Addr} {b₀ : Int} {t₀ u₀ v₀ : Tok} (hh : A.handled = none) (hr : IsRange s.heap r 0 b₀ 1 t₀ u₀ v₀) (hb : b₀ = (G.length : Nat)) (hG : G.length ≤ 1000) (F : Fr h₀ env.locals s.heap m₀) (N : News h₀ env.locals s.heap news)
    (hk : ∀ p ∈ fs, m₀ p.1 = some p.2)
    (turn : ∀ (i : Nat) t m₁ h tk kk own, G[i]? = some t → Fr h₀ env.locals h (fun y => if y = x then some (.int (i : Nat) kk) else kstB m₁ fs y) → News h₀ env.locals h (news ++ own) →
      ∀ K : Flow → Shared → Prop, (∀ h' tk' m', Fr h₀ env.locals h' m' → News h₀ env.locals h' (news ++ own) → (∀ p ∈ fs, m' p.1 = some p.2) → K .next { s with heap := h', toks := tk' }) →
      wpAny (model prog w) A (execs body env) K E { s with heap := h, toks := tk })
    (done : ∀ m₁ h tk, Fr h₀ env.locals h (kstB m₁ fs) → News h₀ env.locals h news → Q .next { s with heap := h, toks := tk }) :
    wpAny (model prog w) A (pyIter (.ref r)) (fun it s₂ => LoopAtV prog w A h₀ env x body Q E it s₂) E s := by
  subst hb
  refine iter_rangeS (n := G.length) (fun (_ : Unit) m nx => nx = news ∧ ∀ p ∈ fs, m p.1 = some p.2) (fun _ _ => ()) () hh hr ?_ ?_ F N ⟨rfl, hk⟩ ?_ ?_
  · exact small_one (by omega) (by omega) (by omega) (by omega)
  · exact rangeSize_nat _ _
  · rintro k t _ m₁ nx h tk own hkm _ ⟨rfl, hm⟩ F₁ N₁
    obtain ⟨i, hi, rfl⟩ := List.mem_map.mp hkm
    have hi' := List.mem_range.mp hi
    have e : (0 : Int) + (i : Int) = ((i : Nat) : Int) := by omega
    rw [e] at F₁
    refine turn i G[i] m₁ h tk t own (List.getElem?_eq_getElem hi') (by rw [kst_self hm]; exact F₁) N₁ _ ?_
    intro h' tk' m' F' N' hm'
    exact ⟨h', tk', m', nx ++ own, nx, rfl, F', N', fun q hq => List.mem_append_left _ hq, fun q hq => List.mem_append_right _ hq, rfl, rfl, hm'⟩
  · rintro m₁ nx h tk ⟨rfl, hm⟩ F₁ N₁
    exact done m₁ h tk (by rw [kst_self hm]; exact F₁) N₁

theorem law_while {L : Addr} {test : Expr} {pos : Pos} {t : List Item} (ht : Toks t) (F : Fr h₀ L s.heap m₀) (N : News h₀ L s.heap news) (hfs : ∀ q ∈ fs, m₀ q.1 = some q.2) (hi : m₀ (Str.ofString "place") = some (.int 0 kz)) (hd : m₀ (Str.ofString "back") = some (.str (S []) kd₀))
    (turn : ∀ t1 u v m₁ h tk ki kd, t = t1 ++ u :: v →
      Fr h₀ L h (kstB m₁ ((Str.ofString "place", .int ((tf t1).length : Nat) ki) :: (Str.ofString "back", .str (S (txt t1)) kd) :: fs)) → News h₀ L h news →
      ∀ K : Flow → Shared → Prop, (∀ h' tk' m' z ki' d kd', Fr h₀ L h' m' → News h₀ L h' news → (∀ p ∈ fs, m' p.1 = some p.2) → m' (Str.ofString "place") = some (.int z ki') → m' (Str.ofString "back") = some (.str (S d) kd') →
          z = (((tf t1).length + (u.flat []).length : Nat) : Int) → d = txt t1 ++ u.txt → K .next { s with heap := h', toks := tk' }) →
      wpAny (model prog w) A (isTrue test env (eval test env)) (fun b s₂ => if b = true then wpAny (model prog w) A (execs body env) K E s₂ else Q .next s₂) E { s with heap := h, toks := tk })
    (done : ∀ m₁ h tk ki kd, Fr h₀ L h (kstB m₁ ((Str.ofString "place", .int ((tf t).length : Nat) ki) :: (Str.ofString "back", .str (S (txt t)) kd) :: fs)) → News h₀ L h news →
      ∀ K : Flow → Shared → Prop, wpAny (model prog w) A (isTrue test env (eval test env)) (fun b s₂ => if b = true then wpAny (model prog w) A (execs body env) K E s₂ else Q .next s₂) E { s with heap := h, toks := tk })
    (hE : PassesOwn (model prog w) A env E) :
    wpAny (model prog w) A (exec (.While test body [] pos) env) Q E s := by
  refine While_inv2 (fun k m nx => nx = news ∧ (∀ q ∈ fs, m q.1 = some q.2) ∧ ∃ t1 t2 ki kd, k = t2.length ∧ t = t1 ++ t2 ∧ m (Str.ofString "place") = some (.int ((tf t1).length : Nat) ki) ∧ m (Str.ofString "back") = some (.str (S (txt t1)) kd))
    F N ⟨rfl, hfs, [], t, kz, kd₀, rfl, rfl, hi, hd⟩ ?_ hE
  rintro k m₁ nx h tk F₁ N₁ ⟨rfl, hf, t1, t2, ki, kd, rfl, e, hI, hD⟩
  have hm : ∀ q ∈ (Str.ofString "place", Value.int ((tf t1).length : Nat) ki) :: (Str.ofString "back", Value.str (S (txt t1)) kd) :: fs, m₁ q.1 = some q.2 := by
    intro q hq
    rcases List.mem_cons.mp hq with rfl | hq
    · exact hI
    · rcases List.mem_cons.mp hq with rfl | hq
      · exact hD
      · exact hf q hq
  cases t2 with
  | nil =>
    rw [List.append_nil] at e
    subst e
    exact done m₁ h tk ki kd (by rw [kst_self hm]; exact F₁) N₁ _
  | cons u v =>
    refine turn t1 u v m₁ h tk ki kd e (by rw [kst_self hm]; exact F₁) N₁ _ ?_
    rintro h' tk' m' z ki' d kd' F' N' hfs' hI' hD' rfl rfl
    have e1 : tf (t1 ++ [u]) = tf t1 ++ u.flat [] := by rw [tf_app, tf_cons]; simp [tf, flat]
    have e2 : txt (t1 ++ [u]) = txt t1 ++ u.txt := by rw [txt_app, txt_cons, txt_nil, List.append_nil]
    refine ⟨h', tk', m', nx, v.length, rfl, F', N', Nat.lt_succ_self _, rfl, hfs', t1 ++ [u], v, ki', kd', rfl, by rw [e, List.append_assoc]; rfl, ?_, ?_⟩
    · rw [e1, List.length_append]; exact hI'
    · rw [e2]; exact hD'
end
end Mine
end PartLw

section PartHe
open PySem PySem.W PyProof.Rows
namespace Mine.Hd
set_option maxRecDepth 100000
theorem hd {d : DefRec} {kwd : List (Str × PySem.Expr)} (hdef : defOf view (Str.ofString "law") = some (d, kwd)) (hp : pw.theDef (Str.ofString "law") = some (d.params, d.body, d.scope)) (hk : kwWritten? d.params.kwonlyargs d.params.kw_defaults = some kwd)
    (walk : WalkO view loose (XL view lv) (kHook K kas kas_eq).says PySem.Challenge.rw_wy0003_01.row.toRowW d kwd fun f vs => PySem.call f vs) : PySem.Challenge.rw_wy0003_01.Holds := by
  w_on
  o_law
  exact holds_open (N := 40000) left (Hook.of hook) (Hook.keeps hook) (fun s e => xl_of s (Bool.and_eq_true_iff.mp e).1) XL.keeps hdef hp hk (fun s e => recFacts_of (Bool.and_eq_true_iff.mp e).2) (by rfl) (by first | assumption | decide +kernel) (by decide +kernel) ⟨rfl, rfl, rfl, rfl, rfl, by decide +kernel⟩ (by w_witness2) walk
end Mine.Hd
end PartHe

section PartLa9
open PySem PySem.W PyProof.Rows PySem.Calls
namespace Mine
-- MACROS BEGIN
local macro_rules | `(tactic| walk_at "m fact") => `(tactic| first | assumption | exact rfl | (symm; assumption) | omega | decide | (simp only [List.length_append, List.length_cons, List.length_nil]; omega))
local macro_rules | `(tactic| walk_at "m size") => `(tactic| first | omega | (simp only [List.length_append, List.length_cons, List.length_nil, List.length_take, List.length_drop]; omega))
local macro_rules | `(tactic| walk_at "eval Constant str") => `(tactic| first | refine rConst lit_eq ?_ | refine rConst lit_nl ?_ | refine rConst lit_crnl ?_ | refine rConst lit_empty ?_ | refine rConst lit_bt ?_ | refine rConst lit_b ?_ | refine rConst lit_t ?_ | refine rConst lit_eqnl ?_ | refine rConst lit_menu ?_)
local macro_rules | `(tactic| walk_at "truthy str") => `(tactic| first | (refine rTruthyT ?a ?b ?_; (case a => walk_at "m fact"); (case b => walk_at "m size")) | (refine rTruthyF ?a ?_; (case a => walk_at "m fact")))
local macro_rules | `(tactic| walk_at "binaryOp Add str str") => `(tactic| (refine rAdd ?a ?_; (case a => walk_at "m size"); intro _ _))
local macro_rules | `(tactic| walk_at "inplaceOp Add str str") => `(tactic| (refine rIAdd ?a ?_; (case a => walk_at "m size"); intro _ _))
local macro_rules | `(tactic| walk_at "compareOp Eq str str") => `(tactic| first | (refine rEqT ?a ?_; (case a => walk_at "m fact")) | (refine rEqF ?a ?_; (case a => walk_at "m fact")))
local macro_rules | `(tactic| walk_at "compareOp NotEq str str") => `(tactic| first | (refine rNeT ?a ?_; (case a => walk_at "m fact")) | (refine rNeF ?a ?_; (case a => walk_at "m fact")))
local macro_rules | `(tactic| walk_at "compareOp In str str") => `(tactic| first | (refine rInT ?a ?_; (case a => walk_at "m fact")) | (refine rInF ?a ?_; (case a => walk_at "m fact")) | (refine rInT2 lit_crnl ?a ?_; (case a => walk_at "m fact")) | (refine rInF2 lit_crnl ?a ?_; (case a => walk_at "m fact")) | (refine rInT2 lit_hex ?a ?_; (case a => walk_at "m fact")) | (refine rInF2 lit_hex ?a ?_; (case a => walk_at "m fact")))
local macro_rules | `(tactic| walk_at "compareOp NotIn str str") => `(tactic| first | (refine rNotInT ?a ?_; (case a => walk_at "m fact")) | (refine rNotInF ?a ?_; (case a => walk_at "m fact")))
local macro_rules | `(tactic| walk_at "call builtin:len") => `(tactic| ((with_reducible show wpAny _ _ (call (Value.builtin "len") [Value.str _ _]) _ _ _); refine rLen ?a ?_; (case a => walk_at "m size")))
local macro_rules | `(tactic| walk_at "m steps") => `(tactic| repeat' (first
  | (k_unfold; (try dsimp only))
  | ((fail_if_success (with_reducible show wpAny _ _ (exec (Stmt.While _ _ _ _) _) _ _ _)); (fail_if_success (with_reducible show wpAny _ _ (exec (Stmt.For _ _ _ _ _) _) _ _ _)); (fail_if_success (with_reducible show wpAny _ _ (pyIter _) _ _ _)); (fail_if_success (with_reducible show InvPostN _ _ _ _ _ _ _ _ _)); (fail_if_success (with_reducible show WhileStep2 _ _ _ _ _ _ _ _)); (fail_if_success (with_reducible show wpAny _ _ (storeName _ (Str.ofString "rows") _) _ _ _)); (fail_if_success (with_reducible show wpAny _ _ (eval (Expr.ListComp (Expr.Name _ _) _ _ _) _) _ _ _)); (fail_if_success (with_reducible show wpAny _ _ (call (Value.ref 57) _) _ _ _)); (first | walk1 | (dsimp only; walk1)))))
local macro_rules | `(tactic| walk_at "m all") => `(tactic| first | exact List.forall_mem_nil _ | (refine' List.forall_mem_cons.mpr ⟨?ha, ?hb⟩; (case ha => first | (with_reducible exact rfl) | (with_unfolding_all exact rfl)); (case hb => walk_at "m all")))
local macro_rules | `(tactic| walk_at "m item") => `(tactic| ((with_reducible show wpAny _ _ (subscriptTail _ _ (Value.str _ _) (Value.int _ _)) _ _ _); first | (refine' rItem ?a ?b ?c ?_; (case b => assumption); (case a => omega); (case c => omega)) | (refine' rItemLast ?b ?c ?_; (case b => assumption); (case c => omega))))
local macro_rules | `(tactic| walk_at "m slice") => `(tactic| (((with_reducible show wpAny _ _ (subscriptTail _ (Expr.Slice _ _ _ _) (Value.str _ _) (Value.ref _)) _ _ _); first
  | ((with_reducible show wpAny _ _ (subscriptTail _ (Expr.Slice (some _) (some _) none _) _ _) _ _ _); first
    | (refine' rSlice (s := ⟨_, _, _, _, _⟩) ?F ?N ?a ?b ?c ?d ?e ?_; (case F => assumption); (case N => assumption); (case a => omega); (case b => omega); (case c => omega); (case d => omega); (case e => assumption))
    | (refine' rSliceNeg (s := ⟨_, _, _, _, _⟩) ?F ?N ?a ?b ?c ?d ?e ?f ?_; (case F => assumption); (case N => assumption); (case a => omega); (case b => omega); (case c => omega); (case d => omega); (case e => omega); (case f => assumption)))
  | ((with_reducible show wpAny _ _ (subscriptTail _ (Expr.Slice (some _) none none _) _ _) _ _ _); refine' rSliceFrom (s := ⟨_, _, _, _, _⟩) ?F ?N ?a ?b ?d ?e ?_; (case F => assumption); (case N => assumption); (case a => omega); (case b => omega); (case d => omega); (case e => assumption))
  | ((with_reducible show wpAny _ _ (subscriptTail _ (Expr.Slice none (some _) none _) _ _) _ _ _); refine' rSliceTo (s := ⟨_, _, _, _, _⟩) ?F ?N ?a ?b ?d ?e ?_; (case F => assumption); (case N => assumption); (case a => omega); (case b => omega); (case d => omega); (case e => assumption))); intro h' t' k' F' N'))
local macro_rules | `(tactic| walk_at "subscriptTail") => `(tactic| first | walk_at "m item" | walk_at "m slice")
local macro_rules | `(tactic| walk_at "subscriptTail Name") => `(tactic| first | walk_at "m item" | walk_at "m slice")
local macro_rules | `(tactic| walk_at "subscriptTail Name BinOp") => `(tactic| first | walk_at "m item" | walk_at "m slice")
local macro_rules | `(tactic| walk_at "subscriptTail Name Name") => `(tactic| first | walk_at "m item" | walk_at "m slice")
local macro_rules | `(tactic| walk_at "subscriptTail Name BinOp str int") => `(tactic| first | walk_at "m item" | walk_at "m slice")
local macro_rules | `(tactic| walk_at "subscriptTail Name Name str int") => `(tactic| first | walk_at "m item" | walk_at "m slice")
local macro_rules | `(tactic| walk_at "subscriptTail Name UnaryOp str int") => `(tactic| first | walk_at "m item" | walk_at "m slice")
local macro_rules | `(tactic| walk_at "subscriptTail Name Constant str int") => `(tactic| first | walk_at "m item" | walk_at "m slice")
local macro_rules | `(tactic| walk_at "subscriptTail Name Slice str ref") => `(tactic| first | walk_at "m item" | walk_at "m slice")
local macro_rules | `(tactic| walk_at "subscriptTail Name Slice") => `(tactic| first | walk_at "m item" | walk_at "m slice")
local macro_rules | `(tactic| walk_at "compareOp Eq int int") => `(tactic| first | (refine rEqIntT ?a ?_; (case a => omega)) | (refine rEqIntF ?a ?_; (case a => omega)))
local macro_rules | `(tactic| walk_at "compareOp NotEq int int") => `(tactic| first | (refine rNeIntT ?a ?_; (case a => omega)) | (refine rNeIntF ?a ?_; (case a => omega)))
-- MACROS END
def pick (k : Int) : Nat := [97, 98, 32, 61, 9, 10, 233, 127, 1].getD (Int.fmod k 9).toNat 97
theorem pick_at (k : Int) : 0 ≤ Int.fmod k 9 ∧ ([97, 98, 32, 61, 9, 10, 233, 127, 1] : List Nat)[(Int.fmod k 9).toNat]? = some (pick k) := by
  have h0 := fmod_lo k (n := 9) (by decide)
  have h1 := fmod_hi k (n := 9) (by decide)
  refine ⟨h0, ?_⟩
  unfold pick
  rw [List.getD_eq_getElem?_getD]
  have : (Int.fmod k 9).toNat < ([97, 98, 32, 61, 9, 10, 233, 127, 1] : List Nat).length := by
    show (Int.fmod k 9).toNat < 9
    omega
  rw [List.getElem?_eq_getElem this]; rfl
theorem pick_alph (k : Int) : Alph (pick k) := by
  have h := List.mem_of_getElem? (pick_at k).2
  unfold Alph
  simp only [List.mem_cons, List.not_mem_nil, or_false] at h
  omega
theorem rPick {prog : Program} {w : World} {A : Around} {E : Value → Shared → Prop} {s : Shared} {value slice : Expr} {t u : Tok} {k : Int} {Q : Value → Shared → Prop}
    (h : Q (.str (S [pick k]) s.toks) { s with toks := s.toks + 1 })
    (hs : subscripted slice false (.str (S [97, 98, 32, 61, 9, 10, 233, 127, 1]) t) (.int (Int.fmod k 9) u) = operate [.str (S [97, 98, 32, 61, 9, 10, 233, 127, 1]) t, .int (Int.fmod k 9) u] (getItem (.str (S [97, 98, 32, 61, 9, 10, 233, 127, 1]) t) (.int (Int.fmod k 9) u)) := by with_unfolding_all rfl)
    (ht : ∀ r, letTemporaryGo value (.str (S [97, 98, 32, 61, 9, 10, 233, 127, 1]) t) r = pure () := by intro _; with_unfolding_all rfl) :
    wpAny (model prog w) A (subscriptTail value slice (.str (S [97, 98, 32, 61, 9, 10, 233, 127, 1]) t) (.int (Int.fmod k 9) u)) Q E s :=
  rItem (pick_at k).1 (pick_at k).2 (by decide) h hs ht
theorem pickL_len (ns : List Int) : (joinL [] (ns.map fun k => [pick k])) = ns.map pick := by
  induction ns with
  | nil => rfl
  | cons a r ih =>
    cases r with
    | nil => rfl
    | cons b r =>
      show [pick a] ++ [] ++ joinL [] ((b :: r).map fun k => [pick k]) = _
      rw [ih]; rfl
theorem rJoinPick {prog : Program} {w : World} {A : Around} {E : Value → Shared → Prop} {s : Shared} {t : Tok} {Q : Value → Shared → Prop} {l : Addr} {us : List Value} {ns : List Int} (hl : s.heap.IsList l us.toArray) (hu : StrsAre us (ns.map fun k => S [pick k])) (hn : ns.length ≤ 63)
    (h : ∀ t' k, Q (.str (S (ns.map pick)) t') { s with toks := k }) : wpAny (model prog w) A (call (.builtin "str.join") [.str (S []) t, .ref l]) Q E s := by
  refine rJoin (ps := ns.map fun k => [pick k]) (eol := []) hl ?_ ?_ ?_
  · rw [List.map_map]; exact hu
  · rw [cat_len, List.map_map, List.length_map]
    have : (ns.map (List.length ∘ fun k => [pick k])).sum = ns.length := by
      clear hu h hl
      induction ns with
      | nil => rfl
      | cons a r ih =>
        rw [List.map_cons, List.sum_cons, ih (by rw [List.length_cons] at hn; omega)]
        show 1 + r.length = r.length + 1
        omega
    rw [this, List.length_nil]; omega
  · rw [pickL_len]; exact h
local macro_rules | `(tactic| walk_at "call builtin:str.join") => `(tactic| (refine' rJoinPick ?a ?b ?c ?_; (case a => exact News.isList (by assumption) (List.Mem.head _)); (case b => assumption); (case c => omega); intro t' k'))
local macro_rules | `(tactic| walk_at "CompSrc") => `(tactic| (k_dflt (refine LCg.CompSrc.base (by rfl) (by k_asm) (by k_asm) (by assumption) (by size_fits) ?_; intro g'); (refine' kct_list (fun k => S [pick k]) (by assumption) ?turn ?fin; (case' fin => ((unfold KPfDone); intro ys' hys' hyl'; have hst' := CarriedAll.strsOf (f := fun k => S [pick k]) hys'; clear hys')); (case' turn => (intro k' t' I' oI' C' oC' D' m' ys' h' tk' E' hk' hC' hx' F' N' off' ne' hMark'; (simp only [LCg.Off3, and_true] at off'); (try k_fold))))))
local macro_rules | `(tactic| walk_at "subscriptTail Constant BinOp str int") => `(tactic| refine' rPick ?_)
local macro_rules | `(tactic| walk_at "subscriptTail Constant BinOp") => `(tactic| refine' rPick ?_)
local macro_rules | `(tactic| walk_at "subscriptTail") => `(tactic| refine' rPick ?_)

section
variable {w : World} {A A₀ : Around} {base h₀ : Heap} {outer : List Env} {L : Addr} {m mg mb : Str → Option Value} {news : List (Addr × Obj)} {s : Shared} {env : Env} {p : Program} {loose : List Str} {mean : ExcName → Option Value} {Q : Value → Shared → Prop} {E : Value → Shared → Prop}
theorem be_all {tl eol : List Nat} {wi : Int} {t1 t2 t3 : Tok} {pos : List Value} (B : Below A₀ base outer h₀) (F : Fr h₀ L s.heap m) (X : (Mine.Hd.K w.params).In h₀) (N : News h₀ L s.heap news) (T : Top p loose mean mg mb h₀)
    (hA : A.frames = some (env :: outer)) (hf : env.frame = some L) (hke : env.scope.kind = .function) (hroom : A.depth + 2 < recursionLimit) (hh : A.handled = none)
    (hb : (pos = [.str (S tl) t1, .int wi t2] ∧ eol = [10] ∧ t3 = 189) ∨ pos = [.str (S tl) t1, .int wi t2, .str (S eol) t3])
    (hw : 4 ≤ wi) (htl : tl.length ≤ 63) (hal : ∀ c ∈ tl, Alph c) (heol : Eol eol)
    (hQ : ∀ h' tk x t', Fr h₀ L h' m → News h₀ L h' news → Enc wi.toNat eol tl x → x.length ≤ 768 → Q (.str (S x) t') { s with heap := h', toks := tk }) :
    wpAny (model PySem.Challenge.rw_wy0003_01.row.prog w) A (call (.ref 57) pos) Q E s := by
  obtain ⟨wd, rfl⟩ := Int.eq_ofNat_of_zero_le (a := wi) (by omega)
  by_cases hne : tl = []
  · subst hne
    exact be_nil B F X N T hA hf hke hroom hb (by omega) fun h' tk t' F' N' => hQ h' tk [] t' F' N' (enc_nil _ eol) (Nat.zero_le _)
  · refine be_call B F X N T hA hf hke hroom hh hb (by omega) htl hne hal heol fun h' tk v t' F' N' hv => ?_
    obtain ⟨x, rfl, hE⟩ := hv
    refine hQ h' tk x t' F' N' hE ?_
    obtain ⟨_, _, _, _, _, hlen⟩ := hE
    omega
end
theorem four_le (a : Int) : 4 ≤ 4 + Int.fmod a 20 := by
  have := fmod_lo a (n := 20) (by decide)
  omega
theorem pick_all (ns : List Int) : ∀ c ∈ ns.map pick, Alph c := fun c h => by
  obtain ⟨k, _, rfl⟩ := List.mem_map.mp h
  exact pick_alph k
theorem For_at {prog : Program} {w : World} {A : Around} {s : Shared} {env : Env} {h₀ : Heap} {L : Addr} {m : Str → Option Value} {E : Value → Shared → Prop} {Q : Flow → Shared → Prop} {x : Str} {px pos : Pos} {iter : Expr} {body : List Stmt} (F0 : Fr h₀ L s.heap m) (hx : env.kindOf x = some .local)
    (hp : (env.scope.kind == .class || (env.scope.kind == .module && env.locals != env.globals)) = false)
    (h : wpAny (model prog w) A (eval iter env) (fun xv s₁ => wpAny (model prog w) A (pyIter xv) (fun it s₂ => LoopAtV prog w A h₀ env x body Q E it s₂) E s₁) E s)
    (hs : ∀ x, foldedSetIterable iter env x = pure x := by intro _; rfl)
    (hE : PassesOwn (model prog w) A env E := by passes_own) :
    wpAny (model prog w) A (exec (.For (.Name x px) iter body [] pos) env) Q E s := For_invV h₀ hx hp h hs hE
theorem gen_toks {α : Type} {M : Model} {A : Around} {t : Sem α} {Q : α → Shared → Prop} {E : Value → Shared → Prop} {s : Shared} (h : 1 ≤ s.toks) (k : ∀ tk, 1 ≤ tk → wpAny M A t Q E { s with toks := tk }) : wpAny M A t Q E s := k s.toks h
local macro_rules | `(tactic| walk_at "call builtin:str.split") => `(tactic| (refine' rSplit ?F ?N ?hs ?hl ?_; (case F => k_asm); (case N => k_asm); (case hs => exact Nat.le_add_left 1 _); (case hl => first | omega | exact Nat.le_trans (rep_len _) (by omega) | (rw [List.length_map]; omega)); intro a' ls' h' k' e' z' hk' na' F' N'))
local macro_rules | `(tactic| walk_at "call builtin:str.replace") => `(tactic| (refine' rReplace ?hu ?hv ?huv ?hs ?hl ?_; (case hu => exact Nat.one_le_iff_ne_zero.mp (by assumption)); (case hv => exact Nat.succ_ne_zero _); (case huv => exact (Nat.succ_ne_self _).symm); (case hs => exact Nat.le_add_left 1 _); (case hl => omega); intro t' k' hk'))
local macro_rules | `(tactic| walk_at "compareOp Gt int int") => `(tactic| (refine rGtIntF ?a ?_; (case a => assumption)))
local macro_rules | `(tactic| walk_at "call builtin:len") => `(tactic| ((with_reducible show wpAny _ _ (call (Value.builtin "len") [Value.str _ _]) _ _ _); refine rLen ?a ?_; (case a => exact Nat.le_trans (by assumption) (by decide))))
local macro_rules | `(tactic| walk_at "call builtin:len") => `(tactic| ((with_reducible show wpAny _ _ (call (Value.builtin "len") [Value.ref _]) _ _ _); refine' rLenG ?e ?l ?r ?_; (case l => k_dflt exact News.isList (by assumption) (by k_mem)); (case e => assumption); (case r => assumption)))
local macro_rules | `(tactic| walk_at "subscriptTail Subscript Name str int") => `(tactic| first | walk_at "m item" | walk_at "m slice")
local macro_rules | `(tactic| walk_at "subscriptTail Subscript Name") => `(tactic| first | walk_at "m item" | walk_at "m slice")
local macro_rules | `(tactic| walk_at "subscriptTail Subscript") => `(tactic| first | walk_at "m item" | walk_at "m slice")
local macro_rules | `(tactic| walk_at "subscriptTail Subscript Slice str ref") => `(tactic| first | walk_at "m item" | walk_at "m slice")
local macro_rules | `(tactic| walk_at "subscriptTail Subscript Slice") => `(tactic| first | walk_at "m item" | walk_at "m slice")
local macro_rules | `(tactic| walk_at "subscriptTail") => `(tactic| first | walk_at "m item" | walk_at "m slice")
local macro_rules | `(tactic| walk_at "call type:int") => `(tactic| (refine call16 (by assumption) ?_))
local macro_rules | `(tactic| walk_at "m list") => `(tactic| ((with_reducible show wpAny _ _ (subscriptTail _ _ (Value.ref _) (Value.int _ _)) _ _ _); refine' rItemG ?e ?l ?i ?r ?_; (case l => k_dflt exact News.isList (by assumption) (by k_mem)); (case e => assumption); (case i => assumption); (case r => assumption); intro t'))
local macro_rules | `(tactic| walk_at "subscriptTail Name Name") => `(tactic| walk_at "m list")
local macro_rules | `(tactic| walk_at "subscriptTail Name Name ref int") => `(tactic| walk_at "m list")
local macro_rules | `(tactic| walk_at "subscriptTail Name") => `(tactic| walk_at "m list")
local macro_rules | `(tactic| walk_at "subscriptTail") => `(tactic| walk_at "m list")
local macro_rules | `(tactic| walk_at "CompSrcT") => `(tactic| (k_dflt (refine LCt.CompSrcT.ledger (by rfl) (by k_asm) (by k_asm) (by k_mem) (by assumption) ?_; intro g')))
local macro_rules | `(tactic| walk_at "m upto") => `(tactic| repeat' (first
  | (k_unfold; (try dsimp only))
  | ((fail_if_success (with_reducible show wpAny _ _ (call (Value.builtin "len") [Value.ref _]) _ _ _)); (first | walk1 | (dsimp only; walk1)))))
local macro_rules | `(tactic| walk_at "m go") => `(tactic| repeat' (first
  | (k_unfold; (try dsimp only))
  | ((fail_if_success (with_reducible show wpAny _ _ (exec (Stmt.While _ _ _ _) _) _ _ _)); (fail_if_success (with_reducible show wpAny _ _ (exec (Stmt.For _ _ _ _ _) _) _ _ _)); (fail_if_success (with_reducible show wpAny _ _ (pyIter _) _ _ _)); (fail_if_success (with_reducible show InvPostN _ _ _ _ _ _ _ _ _)); (fail_if_success (with_reducible show WhileStep2 _ _ _ _ _ _ _ _)); (first | walk1 | (dsimp only; walk1)))))
section
variable {w : World} {A A₀ : Around} {base h₀ : Heap} {outer : List Env} {L : Addr} {m mg mb : Str → Option Value} {news : List (Addr × Obj)} {s : Shared} {env : Env} {p : Program} {loose : List Str} {mean : ExcName → Option Value} {Q : Value → Shared → Prop} {E : Value → Shared → Prop}
theorem decode_enc {text x eol : List Nat} {wd : Nat} {t1 : Tok} (B : Below A₀ base outer h₀) (F : Fr h₀ L s.heap m) (X : (Mine.Hd.K w.params).In h₀) (N : News h₀ L s.heap news) (T : Top p loose mean mg mb h₀)
    (hA : A.frames = some (env :: outer)) (hf : env.frame = some L) (hke : env.scope.kind = .function) (hroom : A.depth + 2 < recursionLimit) (hh : A.handled = none)
    (hE : Enc wd eol text x) (heol : Eol eol) (hx : x.length ≤ 768) (hQ : ∀ h' tk t', Fr h₀ L h' m → News h₀ L h' news → Q (.str (S text) t') { s with heap := h', toks := tk }) :
    wpAny (model PySem.Challenge.rw_wy0003_01.row.prog w) A (call (.ref 65) [.str (S x) t1]) Q E s := by
  obtain ⟨l, h1, h2, h3, h4, h5⟩ := hE
  exact decode_call B F X N T hA hf hke hroom hh h1.symm heol h4 h2 hx (h3 ▸ hQ)
end
local macro_rules | `(tactic| walk_at "call ref") => `(tactic| first
  | (k_dflt (refine' be_all ?B ?F ?X ?N ?T ?hA ?hf ?hke ?hroom ?hh ?hb ?hw ?hl ?hal ?eol ?_; (case B => k_asm); (case F => k_asm); (case X => k_asm); (case N => k_asm); (case T => k_asm); (case hA => exact rfl); (case hf => exact rfl); (case hke => exact rfl); (case hroom => (show callerA.depth + 1 + 2 < recursionLimit; decide)); (case hh => exact rfl); (case hb => first | exact .inl ⟨rfl, rfl, rfl⟩ | exact .inr rfl); (case hw => exact four_le _); (case hl => (rw [List.length_map]; omega)); (case hal => exact pick_all _); (case eol => first | exact .inl rfl | exact .inr rfl)); intro h' tk' x' t' F' N' hE' hX')
  | (k_dflt (refine' decode_enc ?B ?F ?X ?N ?T ?hA ?hf ?hke ?hroom ?hh ?hE ?heol ?hx ?_; (case B => k_asm); (case F => k_asm); (case X => k_asm); (case N => k_asm); (case T => k_asm); (case hA => exact rfl); (case hf => exact rfl); (case hke => exact rfl); (case hroom => (show callerA.depth + 1 + 2 < recursionLimit; decide)); (case hh => exact rfl); (case hE => assumption); (case heol => first | exact .inl rfl | exact .inr rfl); (case hx => assumption)); intro h' tk' t' F' N')
  | (k_dflt (refine' refused_call ?hwd ?B ?F ?X ?N ?T ?XB ?TB ?hA ?hf ?hke ?hroom ?hh ?_; (case hwd => first | exact .inl rfl | exact .inr rfl); (case B => k_asm); (case F => k_asm); (case X => k_asm); (case N => k_asm); (case T => k_asm); (case XB => k_asm); (case TB => k_asm); (case hA => exact rfl); (case hf => exact rfl); (case hke => exact rfl); (case hroom => (show callerA.depth + 1 + 3 < recursionLimit; decide)); (case hh => exact rfl)); intro h' tk' F' N'))
set_option maxRecDepth 100000 in
set_option maxHeartbeats 8000000 in
theorem t0 : PySem.Challenge.rw_wy0003_01.Holds := Mine.Hd.hd (by rfl) (by rfl) (by rfl) (by
  k_go0
  all_goals (try k_fold)
  walk_at "m steps"
  refine' be_all ?B ?F ?X ?N ?T ?hA ?hf ?hke ?hroom ?hh ?hb ?hw ?hl ?hal ?eol ?_
  case B => k_asm
  case F => k_asm
  case X => k_asm
  case N => k_asm
  case T => k_asm
  case hA => exact rfl
  case hf => exact rfl
  case hke => exact rfl
  case hroom => (show callerA.depth + 1 + 2 < recursionLimit; decide)
  case hh => exact rfl
  case hb => first | exact .inl ⟨rfl, rfl, rfl⟩ | exact .inr rfl
  case hw => exact four_le _
  case hl => (rw [List.length_map]; omega)
  case hal => exact pick_all _
  case eol => first | exact .inl rfl | exact .inr rfl
  intro h' tk' x' t' F' N' hE' hX'
  obtain ⟨hrows, hxl, G', hG1, hG2, hG3⟩ := enc_law hE'
  walk_at "m steps"
  walk1
  refine gen_toks (Nat.le_add_left 1 _) ?_
  intro tk1 htk1
  dsimp only
  walk_at "m steps"
  refine wpAny_with_toks (n := 1) (by assumption) ?_
  refine LCt.ListComp_T (F₀ := by k_asm) (by with_unfolding_all rfl) (by decide) (by rfl) (by decide) (by rfl) ?_
  walk_at "m steps"
  refine' rest_none (by assumption) (.inr ⟨_, by k_mem, rfl, _, rfl⟩) ?turn2 ?fin2
  case' turn2 =>
    intro r t I oI C oC D m₂ h tk E' hr hC hx F N off ne
    obtain ⟨hr1, hr2⟩ := hrows r hr
    have hw23 := Nat.le_trans hr1 (wide_le _).1
    have hwi := (wide_le _).2 ▸ Int.ofNat_le.mpr hr1
    have hany := any_blank hr2
    simp only [LCg.Off3, and_true] at off
    try k_fold
    walk_at "m steps"
    all_goals (try ((with_reducible rename (List.any _ _ = true) => hbad); rw [hany] at hbad; cases hbad))
  case fin2 =>
    unfold LCg.FinE
    intro D2 h2 tk2 F2 N2 o2 htk2
    simp only [LCg.Off1, and_true] at o2
    walk_at "m upto"
    with_reducible rename (List.map _ _ = List.map S (sp (rep x'))) => eW
    with_reducible rename (List.map _ _ = List.map S (sp (List.map pick _))) => eO
    rw [hG1] at eW
    rw [hG2] at eO
    have hGn : G'.length ≤ 1000 := by
      have h1 := congrArg List.length hG2
      have h2 := Nat.le_trans (Nat.le_of_eq h1.symm) (sp_len _)
      rw [List.length_map, List.length_map] at h2
      omega
    walk_at "m steps"
    with_reducible rename Fr _ _ _ _ => FF
    refine For_at FF (by rfl) (by rfl) ?_
    walk_at "m steps"
    with_reducible rename Fr _ _ _ _ => F1
    with_reducible rename News _ _ _ _ => N1
    with_reducible rename IsRange _ _ _ _ _ _ _ _ => R1
    refine' law_for (G := G') (fs := [(Str.ofString "own", .ref _), (Str.ofString "whole", .ref _), (Str.ofString "told", .str (S x') _), (Str.ofString "text", .str (S (List.map pick _)) _)]) rfl R1 rfl hGn F1 N1 ?hk3 ?turn3 ?done3
    case hk3 => walk_at "m all"
    case done3 =>
      clear F1 N1 R1
      intro m₁ h tk F1 N1
      dsimp only
      walk_at "m go"
      wrow_close
    case turn3 =>
      clear F1 N1 R1
      intro i t m₁ h tk kk own hi F1 N1 K3 hK3
      have ht := hG3 t (List.mem_of_getElem? hi)
      have ht3 := tf_len ht
      have htn : (txt t).length ≤ 768 := by
        have h1 := sp_mem _ (txt t) (by rw [hG2]; exact List.mem_map_of_mem (List.mem_of_getElem? hi))
        rw [List.length_map] at h1
        omega
      simp only [List.cons_append, List.nil_append] at N1
      walk_at "m steps"
      with_reducible rename Fr _ _ _ _ => F2
      with_reducible rename News _ _ _ _ => N2
      refine' law_while (t := t) (fs := (Str.ofString "k", .int (i : Nat) _) :: [(Str.ofString "own", .ref _), (Str.ofString "whole", .ref _), (Str.ofString "told", .str (S x') _), (Str.ofString "text", .str (S (List.map pick _)) _)]) ht F2 N2 ?hfs4 ?hi4 ?hd4 ?turn4 ?done4 (by passes_own)
      case hfs4 => walk_at "m all"
      case hi4 => with_unfolding_all exact rfl
      case hd4 => with_unfolding_all exact rfl
      case done4 =>
        clear F1 N1 F2 N2
        intro m₁ h tk ki kd F1 N1 K4
        walk_at "m steps"
        refine' hK3 _ _ _ (by assumption) (by assumption) ?ha6
        case ha6 => walk_at "m all"
      case turn4 =>
        clear F1 N1 F2 N2 hK3
        intro t1 u v m₁ h tk ki kd e F1 N1 K4 hK4
        have hg12 := (e ▸ ht : Toks (t1 ++ u :: v)).app
        have hgu := hg12.2.cons.1
        have hF : tf t = tf t1 ++ (u.flat [] ++ tf v) := by rw [e, tf_app, tf_cons]
        have hl4 := congrArg List.length hF
        rw [List.length_append, List.length_append] at hl4
        have hl5 := congrArg List.length (show txt t = txt t1 ++ (u.txt ++ txt v) by rw [e, txt_app, txt_cons])
        rw [List.length_append, List.length_append] at hl5
        have hsz : (txt t1).length + 1 ≤ 16777216 := by omega
        have hsz2 : (tf t).length ≤ 16777216 := by omega
        clear hl5 ht3
        cases u with
        | soft => exact absurd hgu.1 id
        | hard => exact absurd hgu.1 id
        | lit c =>
          have hlen : (tf t).length = (tf t1).length + 1 + (tf v).length := by rw [hl4]; simp [Item.flat]; omega
          clear hl4
          have hi1 : (tf t)[(((tf t1).length : Nat) : Int).toNat]? = some c := by
            rw [Int.toNat_natCast, hF, List.getElem?_append_right (Nat.le_refl _), Nat.sub_self]; rfl
          rcases hgu.2 with rfl | rfl | rfl | rfl
          · walk_at "m steps"
            refine' hK4 _ _ _ _ _ _ _ (by assumption) (by assumption) ?la0 ?lb0 ?lc0 ?ld0 ?le0
            case la0 => walk_at "m all"
            case lb0 => with_unfolding_all exact rfl
            case lc0 => with_unfolding_all exact rfl
            case ld0 => (show _ = (((tf t1).length + 1 : Nat) : Int); omega)
            case le0 => exact rfl
          · walk_at "m steps"
            refine' hK4 _ _ _ _ _ _ _ (by assumption) (by assumption) ?la1 ?lb1 ?lc1 ?ld1 ?le1
            case la1 => walk_at "m all"
            case lb1 => with_unfolding_all exact rfl
            case lc1 => with_unfolding_all exact rfl
            case ld1 => (show _ = (((tf t1).length + 1 : Nat) : Int); omega)
            case le1 => exact rfl
          · walk_at "m steps"
            refine' hK4 _ _ _ _ _ _ _ (by assumption) (by assumption) ?la2 ?lb2 ?lc2 ?ld2 ?le2
            case la2 => walk_at "m all"
            case lb2 => with_unfolding_all exact rfl
            case lc2 => with_unfolding_all exact rfl
            case ld2 => (show _ = (((tf t1).length + 1 : Nat) : Int); omega)
            case le2 => exact rfl
          · walk_at "m steps"
            refine' hK4 _ _ _ _ _ _ _ (by assumption) (by assumption) ?la3 ?lb3 ?lc3 ?ld3 ?le3
            case la3 => walk_at "m all"
            case lb3 => with_unfolding_all exact rfl
            case lc3 => with_unfolding_all exact rfl
            case ld3 => (show _ = (((tf t1).length + 1 : Nat) : Int); omega)
            case le3 => exact rfl
        | esc c =>
          have hcc : c = 61 ∨ c = 233 ∨ c = 127 ∨ c = 1 ∨ c = 32 ∨ c = 9 := hgu.2
          have hlen : (tf t).length = (tf t1).length + 3 + (tf v).length := by rw [hl4]; simp [Item.flat, hex2_len]; omega
          clear hl4
          have hi1 : (tf t)[(((tf t1).length : Nat) : Int).toNat]? = some 61 := by
            rw [Int.toNat_natCast, hF, List.getElem?_append_right (Nat.le_refl _), Nat.sub_self]; rfl
          have hs : ((tf t).drop ((((tf t1).length : Nat) : Int) + 1).toNat).take ((((tf t1).length : Nat) : Int) + 3 - ((((tf t1).length : Nat) : Int) + 1)).toNat = hex2 c := by
            rw [show ((((tf t1).length : Nat) : Int) + 1).toNat = (tf t1).length + 1 from by omega, show ((((tf t1).length : Nat) : Int) + 3 - ((((tf t1).length : Nat) : Int) + 1)).toNat = 2 from by omega, hF, ← List.drop_drop, List.drop_left']
            rfl
            rfl
          walk_at "m steps"
          refine' hK4 _ _ _ _ _ _ _ (by assumption) (by assumption) ?ha8 ?hb8 ?hc8 ?hd8 ?he8
          case ha8 => walk_at "m all"
          case hb8 => with_unfolding_all exact rfl
          case hc8 => with_unfolding_all exact rfl
          case hd8 => (show _ = (((tf t1).length + 3 : Nat) : Int); omega)
          case he8 => (rw [Int.toNat_natCast]; rfl)
  all_goals ((with_reducible rename News _ _ _ (_ :: (I, oI) :: _) => nZ); exact NoRow.mk (by assumption) (fun p hp => nZ p (List.Mem.tail _ hp))))
end Mine
end PartLa9

theorem PySem.Challenge.cw_wy0003_01_holds : PySem.Challenge.rw_wy0003_01.Holds := by
  exact Mine.t0
