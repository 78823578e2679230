import PyProof.Rows.All
import Wide.All
import OpenK.AllK
import Wide.FinOn
import PySem.Challenge.RW_oc0066_01
set_option Elab.async false
section
open PySem PySem.W PyProof.Rows
set_option maxRecDepth 100000
set_option maxHeartbeats 0
namespace Mine
noncomputable section
abbrev pw : Program := PySem.Challenge.pw_oc0066_01

/-! the head's states, as a small program of mine prints them (wip/GenHd.py) -/
def hexd (n : Nat) : Nat := match Nat.blt n 10 with | true => 48 + n | false => 55 + n
def qstr (c : Nat) : Str := ⟨⟨[61, hexd (c / 16), hexd (c % 16)]⟩⟩
def bq (c : Nat) : Value := .str (qstr c) (193 + 4 * c)
def bc (d t : Nat) : Value := .str ⟨⟨[d]⟩⟩ t
def dAt (k : Nat) : Stmt := (PySem.Challenge.pw_oc0066_01.main.body[k]?).getD default
def dN (k : Nat) : Str := match dAt k with | .FunctionDef n .. => n | _ => Str.empty
def dP (k : Nat) : Arguments := match dAt k with | .FunctionDef _ a .. => a | _ => default
def dB (k : Nat) : List Stmt := match dAt k with | .FunctionDef _ _ b .. => b | _ => []
def dS (k : Nat) : Scope := match dAt k with | .FunctionDef _ _ _ _ _ _ s .. => s | _ => default
def mkFn (k : Nat) (g : Addr) (dV pm cd : Value) : FuncData := { name := dN k, qualname := dN k, params := dP k, body := .stmts (dB k), scope := dS k, globals := g, closure := [], defaults := dV, kwdefaults := .none, pyModule := pm, code := cd }
def big17A : List Value := [bq 0, bq 1, bq 2, bq 3, bq 4, bq 5, bq 6, bq 7, bq 8, bq 9, bq 10, bq 11, bq 12, bq 13, bq 14, bq 15, bq 16, bq 17, bq 18, bq 19, bq 20, bq 21, bq 22, bq 23, bq 24, bq 25, bq 26, bq 27, bq 28, bq 29, bq 30, bq 31, bq 32, bq 33, bq 34, bq 35, bq 36, bq 37, bq 38, bq 39, bq 40, bq 41, bq 42, bq 43, bq 44, bq 45, bq 46, bq 47, bq 48, bq 49, bq 50, bq 51, bq 52, bq 53, bq 54, bq 55, bq 56, bq 57, bq 58, bq 59, bq 60, bq 61, bq 62, bq 63, bq 64, bq 65, bq 66, bq 67, bq 68, bq 69, bq 70, bq 71, bq 72, bq 73, bq 74, bq 75, bq 76, bq 77, bq 78, bq 79, bq 80, bq 81, bq 82, bq 83, bq 84, bq 85, bq 86, bq 87, bq 88, bq 89, bq 90, bq 91, bq 92, bq 93, bq 94, bq 95, bq 96, bq 97, bq 98, bq 99, bq 100, bq 101, bq 102, bq 103, bq 104, bq 105, bq 106, bq 107, bq 108, bq 109, bq 110, bq 111, bq 112, bq 113, bq 114, bq 115, bq 116, bq 117, bq 118, bq 119, bq 120, bq 121, bq 122, bq 123, bq 124, bq 125, bq 126, bq 127, bq 128, bq 129, bq 130, bq 131, bq 132, bq 133, bq 134, bq 135, bq 136, bq 137, bq 138, bq 139, bq 140, bq 141, bq 142, bq 143, bq 144, bq 145, bq 146, bq 147, bq 148, bq 149, bq 150, bq 151, bq 152, bq 153, bq 154, bq 155, bq 156, bq 157, bq 158, bq 159, bq 160, bq 161, bq 162, bq 163, bq 164, bq 165, bq 166, bq 167, bq 168, bq 169, bq 170, bq 171, bq 172, bq 173, bq 174, bq 175, bq 176, bq 177, bq 178, bq 179, bq 180, bq 181, bq 182, bq 183, bq 184, bq 185, bq 186, bq 187, bq 188, bq 189, bq 190, bq 191, bq 192, bq 193, bq 194, bq 195, bq 196, bq 197, bq 198, bq 199, bq 200, bq 201, bq 202, bq 203, bq 204, bq 205, bq 206, bq 207, bq 208, bq 209, bq 210, bq 211, bq 212, bq 213, bq 214, bq 215, bq 216, bq 217, bq 218, bq 219, bq 220, bq 221, bq 222, bq 223, bq 224, bq 225, bq 226, bq 227, bq 228, bq 229, bq 230, bq 231, bq 232, bq 233, bq 234, bq 235, bq 236, bq 237, bq 238, bq 239, bq 240, bq 241, bq 242, bq 243, bq 244, bq 245, bq 246, bq 247, bq 248, bq 249, bq 250, bq 251, bq 252, bq 253, bq 254, bq 255]
def big22B : List Value := [bq 0, bq 1, bq 2, bq 3, bq 4, bq 5, bq 6, bq 7, bq 8, bq 9, bq 10, bq 11, bq 12, bq 13, bq 14, bq 15, bq 16, bq 17, bq 18, bq 19, bq 20, bq 21, bq 22, bq 23, bq 24, bq 25, bq 26, bq 27, bq 28, bq 29, bq 30, bq 31, bc 95 1435, bc 33 1239, bq 34, bq 35, bq 36, bq 37, bq 38, bq 39, bq 40, bq 41, bc 42 1242, bc 43 1245, bq 44, bc 45 1236, bq 46, bc 47 1248, bc 48 1407, bc 49 1410, bc 50 1413, bc 51 1416, bc 52 1419, bc 53 1422, bc 54 1425, bc 55 1428, bc 56 1431, bc 57 1434, bq 58, bq 59, bq 60, bq 61, bq 62, bq 63, bq 64, bc 65 1329, bc 66 1332, bc 67 1335, bc 68 1338, bc 69 1341, bc 70 1344, bc 71 1347, bc 72 1350, bc 73 1353, bc 74 1356, bc 75 1359, bc 76 1362, bc 77 1365, bc 78 1368, bc 79 1371, bc 80 1374, bc 81 1377, bc 82 1380, bc 83 1383, bc 84 1386, bc 85 1389, bc 86 1392, bc 87 1395, bc 88 1398, bc 89 1401, bc 90 1404, bq 91, bq 92, bq 93, bq 94, bq 95, bq 96, bc 97 1251, bc 98 1254, bc 99 1257, bc 100 1260, bc 101 1263, bc 102 1266, bc 103 1269, bc 104 1272, bc 105 1275, bc 106 1278, bc 107 1281, bc 108 1284, bc 109 1287, bc 110 1290, bc 111 1293, bc 112 1296, bc 113 1299, bc 114 1302, bc 115 1305, bc 116 1308, bc 117 1311, bc 118 1314, bc 119 1317, bc 120 1320, bc 121 1323, bc 122 1326, bq 123, bq 124, bq 125, bq 126, bq 127, bq 128, bq 129, bq 130, bq 131, bq 132, bq 133, bq 134, bq 135, bq 136, bq 137, bq 138, bq 139, bq 140, bq 141, bq 142, bq 143, bq 144, bq 145, bq 146, bq 147, bq 148, bq 149, bq 150, bq 151, bq 152, bq 153, bq 154, bq 155, bq 156, bq 157, bq 158, bq 159, bq 160, bq 161, bq 162, bq 163, bq 164, bq 165, bq 166, bq 167, bq 168, bq 169, bq 170, bq 171, bq 172, bq 173, bq 174, bq 175, bq 176, bq 177, bq 178, bq 179, bq 180, bq 181, bq 182, bq 183, bq 184, bq 185, bq 186, bq 187, bq 188, bq 189, bq 190, bq 191, bq 192, bq 193, bq 194, bq 195, bq 196, bq 197, bq 198, bq 199, bq 200, bq 201, bq 202, bq 203, bq 204, bq 205, bq 206, bq 207, bq 208, bq 209, bq 210, bq 211, bq 212, bq 213, bq 214, bq 215, bq 216, bq 217, bq 218, bq 219, bq 220, bq 221, bq 222, bq 223, bq 224, bq 225, bq 226, bq 227, bq 228, bq 229, bq 230, bq 231, bq 232, bq 233, bq 234, bq 235, bq 236, bq 237, bq 238, bq 239, bq 240, bq 241, bq 242, bq 243, bq 244, bq 245, bq 246, bq 247, bq 248, bq 249, bq 250, bq 251, bq 252, bq 253, bq 254, bq 255]
def big24B : List Value := [bq 0, bq 1, bq 2, bq 3, bq 4, bq 5, bq 6, bq 7, bq 8, bq 9, bq 10, bq 11, bq 12, bq 13, bq 14, bq 15, bq 16, bq 17, bq 18, bq 19, bq 20, bq 21, bq 22, bq 23, bq 24, bq 25, bq 26, bq 27, bq 28, bq 29, bq 30, bq 31, bq 32, bq 33, bq 34, bq 35, bq 36, bq 37, bq 38, bq 39, bq 40, bq 41, bq 42, bq 43, bq 44, bq 45, bq 46, bq 47, bq 48, bq 49, bq 50, bq 51, bq 52, bq 53, bq 54, bq 55, bq 56, bq 57, bq 58, bq 59, bq 60, bq 61, bq 62, bq 63, bq 64, bq 65, bq 66, bq 67, bq 68, bq 69, bq 70, bq 71, bq 72, bq 73, bq 74, bq 75, bq 76, bq 77, bq 78, bq 79, bq 80, bq 81, bq 82, bq 83, bq 84, bq 85, bq 86, bq 87, bq 88, bq 89, bq 90, bq 91, bq 92, bq 93, bq 94, bq 95, bq 96, bq 97, bq 98, bq 99, bq 100, bq 101, bq 102, bq 103, bq 104, bq 105, bq 106, bq 107, bq 108, bq 109, bq 110, bq 111, bq 112, bq 113, bq 114, bq 115, bq 116, bq 117, bq 118, bq 119, bq 120, bq 121, bq 122, bq 123, bq 124, bq 125, bq 126, bq 127, bq 128, bq 129, bq 130, bq 131, bq 132, bq 133, bq 134, bq 135, bq 136, bq 137, bq 138, bq 139, bq 140, bq 141, bq 142, bq 143, bq 144, bq 145, bq 146, bq 147, bq 148, bq 149, bq 150, bq 151, bq 152, bq 153, bq 154, bq 155, bq 156, bq 157, bq 158, bq 159, bq 160, bq 161, bq 162, bq 163, bq 164, bq 165, bq 166, bq 167, bq 168, bq 169, bq 170, bq 171, bq 172, bq 173, bq 174, bq 175, bq 176, bq 177, bq 178, bq 179, bq 180, bq 181, bq 182, bq 183, bq 184, bq 185, bq 186, bq 187, bq 188, bq 189, bq 190, bq 191, bq 192, bq 193, bq 194, bq 195, bq 196, bq 197, bq 198, bq 199, bq 200, bq 201, bq 202, bq 203, bq 204, bq 205, bq 206, bq 207, bq 208, bq 209, bq 210, bq 211, bq 212, bq 213, bq 214, bq 215, bq 216, bq 217, bq 218, bq 219, bq 220, bq 221, bq 222, bq 223, bq 224, bq 225, bq 226, bq 227, bq 228, bq 229, bq 230, bq 231, bq 232, bq 233, bq 234, bq 235, bq 236, bq 237, bq 238, bq 239, bq 240, bq 241, bq 242, bq 243, bq 244, bq 245, bq 246, bq 247, bq 248, bq 249, bq 250, bq 251, bq 252, bq 253, bq 254, bq 255]
def big24C : List Value := [bq 0, bq 1, bq 2, bq 3, bq 4, bq 5, bq 6, bq 7, bq 8, bc 9 1723, bq 10, bq 11, bq 12, bq 13, bq 14, bq 15, bq 16, bq 17, bq 18, bq 19, bq 20, bq 21, bq 22, bq 23, bq 24, bq 25, bq 26, bq 27, bq 28, bq 29, bq 30, bq 31, bc 32 1441, bc 33 1444, bc 34 1447, bc 35 1450, bc 36 1453, bc 37 1456, bc 38 1459, bc 39 1462, bc 40 1465, bc 41 1468, bc 42 1471, bc 43 1474, bc 44 1477, bc 45 1480, bc 46 1483, bc 47 1486, bc 48 1489, bc 49 1492, bc 50 1495, bc 51 1498, bc 52 1501, bc 53 1504, bc 54 1507, bc 55 1510, bc 56 1513, bc 57 1516, bc 58 1519, bc 59 1522, bc 60 1525, bq 61, bc 62 1528, bc 63 1531, bc 64 1534, bc 65 1537, bc 66 1540, bc 67 1543, bc 68 1546, bc 69 1549, bc 70 1552, bc 71 1555, bc 72 1558, bc 73 1561, bc 74 1564, bc 75 1567, bc 76 1570, bc 77 1573, bc 78 1576, bc 79 1579, bc 80 1582, bc 81 1585, bc 82 1588, bc 83 1591, bc 84 1594, bc 85 1597, bc 86 1600, bc 87 1603, bc 88 1606, bc 89 1609, bc 90 1612, bc 91 1615, bc 92 1618, bc 93 1621, bc 94 1624, bc 95 1627, bc 96 1630, bc 97 1633, bc 98 1636, bc 99 1639, bc 100 1642, bc 101 1645, bc 102 1648, bc 103 1651, bc 104 1654, bc 105 1657, bc 106 1660, bc 107 1663, bc 108 1666, bc 109 1669, bc 110 1672, bc 111 1675, bc 112 1678, bc 113 1681, bc 114 1684, bc 115 1687, bc 116 1690, bc 117 1693, bc 118 1696, bc 119 1699, bc 120 1702, bc 121 1705, bc 122 1708, bc 123 1711, bc 124 1714, bc 125 1717, bc 126 1720, bq 127, bq 128, bq 129, bq 130, bq 131, bq 132, bq 133, bq 134, bq 135, bq 136, bq 137, bq 138, bq 139, bq 140, bq 141, bq 142, bq 143, bq 144, bq 145, bq 146, bq 147, bq 148, bq 149, bq 150, bq 151, bq 152, bq 153, bq 154, bq 155, bq 156, bq 157, bq 158, bq 159, bq 160, bq 161, bq 162, bq 163, bq 164, bq 165, bq 166, bq 167, bq 168, bq 169, bq 170, bq 171, bq 172, bq 173, bq 174, bq 175, bq 176, bq 177, bq 178, bq 179, bq 180, bq 181, bq 182, bq 183, bq 184, bq 185, bq 186, bq 187, bq 188, bq 189, bq 190, bq 191, bq 192, bq 193, bq 194, bq 195, bq 196, bq 197, bq 198, bq 199, bq 200, bq 201, bq 202, bq 203, bq 204, bq 205, bq 206, bq 207, bq 208, bq 209, bq 210, bq 211, bq 212, bq 213, bq 214, bq 215, bq 216, bq 217, bq 218, bq 219, bq 220, bq 221, bq 222, bq 223, bq 224, bq 225, bq 226, bq 227, bq 228, bq 229, bq 230, bq 231, bq 232, bq 233, bq 234, bq 235, bq 236, bq 237, bq 238, bq 239, bq 240, bq 241, bq 242, bq 243, bq 244, bq 245, bq 246, bq 247, bq 248, bq 249, bq 250, bq 251, bq 252, bq 253, bq 254, bq 255]
def big40F : List Value := [bq 0, bq 1, bq 2, bq 3, bq 4, bq 5, bq 6, bq 7, bq 8, bc 9 1723, bc 10 1741, bq 11, bq 12, bc 13 1738, bq 14, bq 15, bq 16, bq 17, bq 18, bq 19, bq 20, bq 21, bq 22, bq 23, bq 24, bq 25, bq 26, bq 27, bq 28, bq 29, bq 30, bq 31, bc 32 1441, bc 33 1444, bc 34 1447, bc 35 1450, bc 36 1453, bc 37 1456, bc 38 1459, bc 39 1462, bc 40 1465, bc 41 1468, bc 42 1471, bc 43 1474, bc 44 1477, bc 45 1480, bc 46 1483, bc 47 1486, bc 48 1489, bc 49 1492, bc 50 1495, bc 51 1498, bc 52 1501, bc 53 1504, bc 54 1507, bc 55 1510, bc 56 1513, bc 57 1516, bc 58 1519, bc 59 1522, bc 60 1525, bq 61, bc 62 1528, bc 63 1531, bc 64 1534, bc 65 1537, bc 66 1540, bc 67 1543, bc 68 1546, bc 69 1549, bc 70 1552, bc 71 1555, bc 72 1558, bc 73 1561, bc 74 1564, bc 75 1567, bc 76 1570, bc 77 1573, bc 78 1576, bc 79 1579, bc 80 1582, bc 81 1585, bc 82 1588, bc 83 1591, bc 84 1594, bc 85 1597, bc 86 1600, bc 87 1603, bc 88 1606, bc 89 1609, bc 90 1612, bc 91 1615, bc 92 1618, bc 93 1621, bc 94 1624, bc 95 1627, bc 96 1630, bc 97 1633, bc 98 1636, bc 99 1639, bc 100 1642, bc 101 1645, bc 102 1648, bc 103 1651, bc 104 1654, bc 105 1657, bc 106 1660, bc 107 1663, bc 108 1666, bc 109 1669, bc 110 1672, bc 111 1675, bc 112 1678, bc 113 1681, bc 114 1684, bc 115 1687, bc 116 1690, bc 117 1693, bc 118 1696, bc 119 1699, bc 120 1702, bc 121 1705, bc 122 1708, bc 123 1711, bc 124 1714, bc 125 1717, bc 126 1720, bq 127, bq 128, bq 129, bq 130, bq 131, bq 132, bq 133, bq 134, bq 135, bq 136, bq 137, bq 138, bq 139, bq 140, bq 141, bq 142, bq 143, bq 144, bq 145, bq 146, bq 147, bq 148, bq 149, bq 150, bq 151, bq 152, bq 153, bq 154, bq 155, bq 156, bq 157, bq 158, bq 159, bq 160, bq 161, bq 162, bq 163, bq 164, bq 165, bq 166, bq 167, bq 168, bq 169, bq 170, bq 171, bq 172, bq 173, bq 174, bq 175, bq 176, bq 177, bq 178, bq 179, bq 180, bq 181, bq 182, bq 183, bq 184, bq 185, bq 186, bq 187, bq 188, bq 189, bq 190, bq 191, bq 192, bq 193, bq 194, bq 195, bq 196, bq 197, bq 198, bq 199, bq 200, bq 201, bq 202, bq 203, bq 204, bq 205, bq 206, bq 207, bq 208, bq 209, bq 210, bq 211, bq 212, bq 213, bq 214, bq 215, bq 216, bq 217, bq 218, bq 219, bq 220, bq 221, bq 222, bq 223, bq 224, bq 225, bq 226, bq 227, bq 228, bq 229, bq 230, bq 231, bq 232, bq 233, bq 234, bq 235, bq 236, bq 237, bq 238, bq 239, bq 240, bq 241, bq 242, bq 243, bq 244, bq 245, bq 246, bq 247, bq 248, bq 249, bq 250, bq 251, bq 252, bq 253, bq 254, bq 255]
def o11P (P : Params) : Obj := ⟨(.type "tuple"), none, .seq [].toArray 0, [].toArray⟩
def o12P (P : Params) : Obj := ⟨.none, none, .fields [].toArray, [].toArray⟩
def o13P (P : Params) : Obj := ⟨(.type "code"), none, .fields [(.str (Str.ofString "<module>") 182), (.str (Str.ofString "<module>") 183), (.str (Str.ofString "/claim/cut.py") 184), (.int 1 0), (.int 0 0), (.int 0 0), (.int 0 0), (.int 0 0), (.ref 11), (.bool false), (.int 181 0), (.ref 12), .none, .none, .none, .none, (.int 185 0), (.int 1 0), (.str (Str.ofString "/claim/cut.py") 186)].toArray, [].toArray⟩
def o14P (P : Params) : Obj := ⟨(.type "frame"), none, .plain, [some (.ref 13), some (.ref 3), some (.ref 3), none, some (.str (Str.ofString "__main__") 164), none, some (.ref 0)].toArray⟩
def sP (P : Params) : BT := (.node (boot_o_0 P) (.node (boot_o_1 P) (.node (boot_o_3 P) (.node (boot_o_7 P) .nil .nil) (.node (o11P P) .nil .nil)) (.node (boot_o_5 P) (.node (boot_o_9 P) .nil .nil) (.node (o13P P) .nil .nil))) (.node (boot_o_2 P) (.node (boot_o_4 P) (.node (boot_o_8 P) .nil .nil) (.node (o12P P) .nil .nil)) (.node (boot_o_6 P) (.node (boot_o_10 P) .nil .nil) (.node (o14P P) .nil .nil))))
-- P: n 15 toks 187 steps 12 12 pos 0 0 0 0  pos' 0 0
def o3A (P : Params) : Obj := ⟨(.type "dict"), none, .dict [⟨PyData.keyHash P (Str.ofString "__name__"), (.str (Str.ofString "__name__") 165), (.str (Str.ofString "__main__") 164)⟩, ⟨PyData.keyHash P (Str.ofString "__doc__"), (.str (Str.ofString "__doc__") 166), .none⟩, ⟨PyData.keyHash P (Str.ofString "__package__"), (.str (Str.ofString "__package__") 167), .none⟩, ⟨PyData.keyHash P (Str.ofString "__loader__"), (.str (Str.ofString "__loader__") 168), (.builtin "__main__.__loader__#opaque")⟩, ⟨PyData.keyHash P (Str.ofString "__spec__"), (.str (Str.ofString "__spec__") 169), .none⟩, ⟨PyData.keyHash P (Str.ofString "__annotations__"), (.str (Str.ofString "__annotations__") 170), (.ref 6)⟩, ⟨PyData.keyHash P (Str.ofString "__builtins__"), (.str (Str.ofString "__builtins__") 171), (.ref 4)⟩, ⟨PyData.keyHash P (Str.ofString "__file__"), (.str (Str.ofString "__file__") 173), (.str (Str.ofString "/claim/cut.py") 172)⟩, ⟨PyData.keyHash P (Str.ofString "__cached__"), (.str (Str.ofString "__cached__") 174), .none⟩, ⟨PyData.keyHash P (Str.ofString "_QUOPRI_MAP"), (.str (Str.ofString "_QUOPRI_MAP") 1214), (.ref 17)⟩].toArray 10, [].toArray⟩
def o15A (P : Params) : Obj := ⟨(.type "range"), none, .fields [(.int 0 188), (.int 256 187), (.int 1 189)].toArray, [].toArray⟩
def o16A (P : Params) : Obj := ⟨(.type "range_iterator"), none, .fields [(.int 256 0), (.int 0 0), (.int 1 0)].toArray, [].toArray⟩
def o17A (P : Params) : Obj := ⟨(.type "list"), none, .seq (big17A).toArray 256, [].toArray⟩
def o18A (P : Params) : Obj := ⟨(.type "dict"), none, .dict [].toArray 2, [].toArray⟩
def o19A (P : Params) : Obj := ⟨(.type "tuple"), none, .seq [].toArray 0, [].toArray⟩
def o20A (P : Params) : Obj := ⟨(.type "StopIteration"), none, .fields [(.ref 19), .none, .none, .none, (.bool false), .none].toArray, [].toArray⟩
def sA (P : Params) : BT := (.node (boot_o_0 P) (.node (boot_o_1 P) (.node (o3A P) (.node (boot_o_7 P) (.node (o15A P) .nil .nil) .nil) (.node (o11P P) (.node (o19A P) .nil .nil) .nil)) (.node (boot_o_5 P) (.node (boot_o_9 P) (.node (o17A P) .nil .nil) .nil) (.node (o13P P) .nil .nil))) (.node (boot_o_2 P) (.node (boot_o_4 P) (.node (boot_o_8 P) (.node (o16A P) .nil .nil) .nil) (.node (o12P P) (.node (o20A P) .nil .nil) .nil)) (.node (boot_o_6 P) (.node (boot_o_10 P) (.node (o18A P) .nil .nil) .nil) (.node (o14P P) .nil .nil))))
-- A: n 21 toks 1215 steps 9541 9551 pos 1 0 1 11  pos' 1 0
def o3B (P : Params) : Obj := ⟨(.type "dict"), none, .dict [⟨PyData.keyHash P (Str.ofString "__name__"), (.str (Str.ofString "__name__") 165), (.str (Str.ofString "cpy313.email.quoprimime") 1225)⟩, ⟨PyData.keyHash P (Str.ofString "__doc__"), (.str (Str.ofString "__doc__") 166), .none⟩, ⟨PyData.keyHash P (Str.ofString "__package__"), (.str (Str.ofString "__package__") 167), .none⟩, ⟨PyData.keyHash P (Str.ofString "__loader__"), (.str (Str.ofString "__loader__") 168), (.builtin "__main__.__loader__#opaque")⟩, ⟨PyData.keyHash P (Str.ofString "__spec__"), (.str (Str.ofString "__spec__") 169), .none⟩, ⟨PyData.keyHash P (Str.ofString "__annotations__"), (.str (Str.ofString "__annotations__") 170), (.ref 6)⟩, ⟨PyData.keyHash P (Str.ofString "__builtins__"), (.str (Str.ofString "__builtins__") 171), (.ref 4)⟩, ⟨PyData.keyHash P (Str.ofString "__file__"), (.str (Str.ofString "__file__") 173), (.str (Str.ofString "/claim/cut.py") 172)⟩, ⟨PyData.keyHash P (Str.ofString "__cached__"), (.str (Str.ofString "__cached__") 174), .none⟩, ⟨PyData.keyHash P (Str.ofString "_QUOPRI_MAP"), (.str (Str.ofString "_QUOPRI_MAP") 1214), (.ref 17)⟩, ⟨PyData.keyHash P (Str.ofString "_QUOPRI_HEADER_MAP"), (.str (Str.ofString "_QUOPRI_HEADER_MAP") 1215), (.ref 22)⟩, ⟨PyData.keyHash P (Str.ofString "_QUOPRI_BODY_MAP"), (.str (Str.ofString "_QUOPRI_BODY_MAP") 1216), (.ref 24)⟩, ⟨PyData.keyHash P (Str.ofString "ascii_lowercase"), (.str (Str.ofString "ascii_lowercase") 1218), (.str (Str.ofString "abcdefghijklmnopqrstuvwxyz") 1217)⟩, ⟨PyData.keyHash P (Str.ofString "ascii_uppercase"), (.str (Str.ofString "ascii_uppercase") 1220), (.str (Str.ofString "ABCDEFGHIJKLMNOPQRSTUVWXYZ") 1219)⟩, ⟨PyData.keyHash P (Str.ofString "ascii_letters"), (.str (Str.ofString "ascii_letters") 1222), (.str (Str.ofString "abcdefghijklmnopqrstuvwxyzABCDEFGHIJKLMNOPQRSTUVWXYZ") 1221)⟩, ⟨PyData.keyHash P (Str.ofString "digits"), (.str (Str.ofString "digits") 1224), (.str (Str.ofString "0123456789") 1223)⟩, ⟨PyData.keyHash P (Str.ofString "c"), (.str (Str.ofString "c") 1235), (.int 57 1432)⟩].toArray 17, [].toArray⟩
def o21B (P : Params) : Obj := ⟨(.type "slice"), none, .fields [.none, .none, .none].toArray, [].toArray⟩
def o22B (P : Params) : Obj := ⟨(.type "list"), none, .seq (big22B).toArray 0, [].toArray⟩
def o23B (P : Params) : Obj := ⟨(.type "slice"), none, .fields [.none, .none, .none].toArray, [].toArray⟩
def o24B (P : Params) : Obj := ⟨(.type "list"), none, .seq (big24B).toArray 0, [].toArray⟩
def o25B (P : Params) : Obj := ⟨(.type "bytes_iterator"), none, .fields [.none, (.int 67 0)].toArray, [].toArray⟩
def o26B (P : Params) : Obj := ⟨(.type "tuple"), none, .seq [].toArray 0, [].toArray⟩
def o27B (P : Params) : Obj := ⟨(.type "StopIteration"), none, .fields [(.ref 26), .none, .none, .none, (.bool false), .none].toArray, [].toArray⟩
def sB (P : Params) : BT := (.node (boot_o_0 P) (.node (boot_o_1 P) (.node (o3B P) (.node (boot_o_7 P) (.node (o15A P) .nil .nil) (.node (o23B P) .nil .nil)) (.node (o11P P) (.node (o19A P) .nil .nil) (.node (o27B P) .nil .nil))) (.node (boot_o_5 P) (.node (boot_o_9 P) (.node (o17A P) .nil .nil) (.node (o25B P) .nil .nil)) (.node (o13P P) (.node (o21B P) .nil .nil) .nil))) (.node (boot_o_2 P) (.node (boot_o_4 P) (.node (boot_o_8 P) (.node (o16A P) .nil .nil) (.node (o24B P) .nil .nil)) (.node (o12P P) (.node (o20A P) .nil .nil) .nil)) (.node (boot_o_6 P) (.node (boot_o_10 P) (.node (o18A P) .nil .nil) (.node (o26B P) .nil .nil)) (.node (o14P P) (.node (o22B P) .nil .nil) .nil))))
-- B: n 28 toks 1438 steps 24 24 pos 11 0 11 28  pos' 11 0
def o3C (P : Params) : Obj := ⟨(.type "dict"), none, .dict [⟨PyData.keyHash P (Str.ofString "__name__"), (.str (Str.ofString "__name__") 165), (.str (Str.ofString "cpy313.email.quoprimime") 1225)⟩, ⟨PyData.keyHash P (Str.ofString "__doc__"), (.str (Str.ofString "__doc__") 166), .none⟩, ⟨PyData.keyHash P (Str.ofString "__package__"), (.str (Str.ofString "__package__") 167), .none⟩, ⟨PyData.keyHash P (Str.ofString "__loader__"), (.str (Str.ofString "__loader__") 168), (.builtin "__main__.__loader__#opaque")⟩, ⟨PyData.keyHash P (Str.ofString "__spec__"), (.str (Str.ofString "__spec__") 169), .none⟩, ⟨PyData.keyHash P (Str.ofString "__annotations__"), (.str (Str.ofString "__annotations__") 170), (.ref 6)⟩, ⟨PyData.keyHash P (Str.ofString "__builtins__"), (.str (Str.ofString "__builtins__") 171), (.ref 4)⟩, ⟨PyData.keyHash P (Str.ofString "__file__"), (.str (Str.ofString "__file__") 173), (.str (Str.ofString "/claim/cut.py") 172)⟩, ⟨PyData.keyHash P (Str.ofString "__cached__"), (.str (Str.ofString "__cached__") 174), .none⟩, ⟨PyData.keyHash P (Str.ofString "_QUOPRI_MAP"), (.str (Str.ofString "_QUOPRI_MAP") 1214), (.ref 17)⟩, ⟨PyData.keyHash P (Str.ofString "_QUOPRI_HEADER_MAP"), (.str (Str.ofString "_QUOPRI_HEADER_MAP") 1215), (.ref 22)⟩, ⟨PyData.keyHash P (Str.ofString "_QUOPRI_BODY_MAP"), (.str (Str.ofString "_QUOPRI_BODY_MAP") 1216), (.ref 24)⟩, ⟨PyData.keyHash P (Str.ofString "ascii_lowercase"), (.str (Str.ofString "ascii_lowercase") 1218), (.str (Str.ofString "abcdefghijklmnopqrstuvwxyz") 1217)⟩, ⟨PyData.keyHash P (Str.ofString "ascii_uppercase"), (.str (Str.ofString "ascii_uppercase") 1220), (.str (Str.ofString "ABCDEFGHIJKLMNOPQRSTUVWXYZ") 1219)⟩, ⟨PyData.keyHash P (Str.ofString "ascii_letters"), (.str (Str.ofString "ascii_letters") 1222), (.str (Str.ofString "abcdefghijklmnopqrstuvwxyzABCDEFGHIJKLMNOPQRSTUVWXYZ") 1221)⟩, ⟨PyData.keyHash P (Str.ofString "digits"), (.str (Str.ofString "digits") 1224), (.str (Str.ofString "0123456789") 1223)⟩, ⟨PyData.keyHash P (Str.ofString "c"), (.str (Str.ofString "c") 1235), (.int 9 1721)⟩].toArray 17, [].toArray⟩
def o24C (P : Params) : Obj := ⟨(.type "list"), none, .seq (big24C).toArray 0, [].toArray⟩
def o28C (P : Params) : Obj := ⟨(.type "bytes_iterator"), none, .fields [.none, (.int 95 0)].toArray, [].toArray⟩
def o29C (P : Params) : Obj := ⟨(.type "tuple"), none, .seq [].toArray 0, [].toArray⟩
def o30C (P : Params) : Obj := ⟨(.type "StopIteration"), none, .fields [(.ref 29), .none, .none, .none, (.bool false), .none].toArray, [].toArray⟩
def sC (P : Params) : BT := (.node (boot_o_0 P) (.node (boot_o_1 P) (.node (o3C P) (.node (boot_o_7 P) (.node (o15A P) .nil .nil) (.node (o23B P) .nil .nil)) (.node (o11P P) (.node (o19A P) .nil .nil) (.node (o27B P) .nil .nil))) (.node (boot_o_5 P) (.node (boot_o_9 P) (.node (o17A P) .nil .nil) (.node (o25B P) .nil .nil)) (.node (o13P P) (.node (o21B P) .nil .nil) (.node (o29C P) .nil .nil)))) (.node (boot_o_2 P) (.node (boot_o_4 P) (.node (boot_o_8 P) (.node (o16A P) .nil .nil) (.node (o24C P) .nil .nil)) (.node (o12P P) (.node (o20A P) .nil .nil) (.node (o28C P) .nil .nil))) (.node (boot_o_6 P) (.node (boot_o_10 P) (.node (o18A P) .nil .nil) (.node (o26B P) .nil .nil)) (.node (o14P P) (.node (o22B P) .nil .nil) (.node (o30C P) .nil .nil)))))
-- C: n 31 toks 1724 steps 4302 4302 pos 12 9 12 110  pos' 12 9
def o3F (P : Params) : Obj := ⟨(.type "dict"), none, .dict [⟨PyData.keyHash P (Str.ofString "__name__"), (.str (Str.ofString "__name__") 165), (.str (Str.ofString "law_oc0066_01") 1847)⟩, ⟨PyData.keyHash P (Str.ofString "__doc__"), (.str (Str.ofString "__doc__") 166), .none⟩, ⟨PyData.keyHash P (Str.ofString "__package__"), (.str (Str.ofString "__package__") 167), .none⟩, ⟨PyData.keyHash P (Str.ofString "__loader__"), (.str (Str.ofString "__loader__") 168), (.builtin "__main__.__loader__#opaque")⟩, ⟨PyData.keyHash P (Str.ofString "__spec__"), (.str (Str.ofString "__spec__") 169), .none⟩, ⟨PyData.keyHash P (Str.ofString "__annotations__"), (.str (Str.ofString "__annotations__") 170), (.ref 6)⟩, ⟨PyData.keyHash P (Str.ofString "__builtins__"), (.str (Str.ofString "__builtins__") 171), (.ref 4)⟩, ⟨PyData.keyHash P (Str.ofString "__file__"), (.str (Str.ofString "__file__") 173), (.str (Str.ofString "/claim/cut.py") 172)⟩, ⟨PyData.keyHash P (Str.ofString "__cached__"), (.str (Str.ofString "__cached__") 174), .none⟩, ⟨PyData.keyHash P (Str.ofString "_QUOPRI_MAP"), (.str (Str.ofString "_QUOPRI_MAP") 1214), (.ref 17)⟩, ⟨PyData.keyHash P (Str.ofString "_QUOPRI_HEADER_MAP"), (.str (Str.ofString "_QUOPRI_HEADER_MAP") 1215), (.ref 22)⟩, ⟨PyData.keyHash P (Str.ofString "_QUOPRI_BODY_MAP"), (.str (Str.ofString "_QUOPRI_BODY_MAP") 1216), (.ref 24)⟩, ⟨PyData.keyHash P (Str.ofString "ascii_lowercase"), (.str (Str.ofString "ascii_lowercase") 1218), (.str (Str.ofString "abcdefghijklmnopqrstuvwxyz") 1217)⟩, ⟨PyData.keyHash P (Str.ofString "ascii_uppercase"), (.str (Str.ofString "ascii_uppercase") 1220), (.str (Str.ofString "ABCDEFGHIJKLMNOPQRSTUVWXYZ") 1219)⟩, ⟨PyData.keyHash P (Str.ofString "ascii_letters"), (.str (Str.ofString "ascii_letters") 1222), (.str (Str.ofString "abcdefghijklmnopqrstuvwxyzABCDEFGHIJKLMNOPQRSTUVWXYZ") 1221)⟩, ⟨PyData.keyHash P (Str.ofString "digits"), (.str (Str.ofString "digits") 1224), (.str (Str.ofString "0123456789") 1223)⟩, ⟨PyData.keyHash P (Str.ofString "header_encode"), (.str (Str.ofString "header_encode") 1733), (.ref 38)⟩, ⟨PyData.keyHash P (Str.ofString "_QUOPRI_BODY_ENCODE_MAP"), (.str (Str.ofString "_QUOPRI_BODY_ENCODE_MAP") 1734), (.ref 40)⟩, ⟨PyData.keyHash P (Str.ofString "unorderable_list_difference"), (.str (Str.ofString "unorderable_list_difference") 1753), (.ref 50)⟩, ⟨PyData.keyHash P (Str.ofString "three_way_cmp"), (.str (Str.ofString "three_way_cmp") 1761), (.ref 57)⟩, ⟨PyData.keyHash P (Str.ofString "S_IFMT"), (.str (Str.ofString "S_IFMT") 1770), (.ref 64)⟩, ⟨PyData.keyHash P (Str.ofString "S_IFDIR"), (.str (Str.ofString "S_IFDIR") 1772), (.int 16384 1771)⟩, ⟨PyData.keyHash P (Str.ofString "S_IFCHR"), (.str (Str.ofString "S_IFCHR") 1774), (.int 8192 1773)⟩, ⟨PyData.keyHash P (Str.ofString "S_IFBLK"), (.str (Str.ofString "S_IFBLK") 1776), (.int 24576 1775)⟩, ⟨PyData.keyHash P (Str.ofString "S_IFREG"), (.str (Str.ofString "S_IFREG") 1778), (.int 32768 1777)⟩, ⟨PyData.keyHash P (Str.ofString "S_IFIFO"), (.str (Str.ofString "S_IFIFO") 1780), (.int 4096 1779)⟩, ⟨PyData.keyHash P (Str.ofString "S_IFLNK"), (.str (Str.ofString "S_IFLNK") 1782), (.int 40960 1781)⟩, ⟨PyData.keyHash P (Str.ofString "S_IFSOCK"), (.str (Str.ofString "S_IFSOCK") 1784), (.int 49152 1783)⟩, ⟨PyData.keyHash P (Str.ofString "S_ISUID"), (.str (Str.ofString "S_ISUID") 1786), (.int 2048 1785)⟩, ⟨PyData.keyHash P (Str.ofString "S_ISGID"), (.str (Str.ofString "S_ISGID") 1788), (.int 1024 1787)⟩, ⟨PyData.keyHash P (Str.ofString "S_ISVTX"), (.str (Str.ofString "S_ISVTX") 1790), (.int 512 1789)⟩, ⟨PyData.keyHash P (Str.ofString "S_IRUSR"), (.str (Str.ofString "S_IRUSR") 1792), (.int 256 1791)⟩, ⟨PyData.keyHash P (Str.ofString "S_IWUSR"), (.str (Str.ofString "S_IWUSR") 1794), (.int 128 1793)⟩, ⟨PyData.keyHash P (Str.ofString "S_IXUSR"), (.str (Str.ofString "S_IXUSR") 1796), (.int 64 1795)⟩, ⟨PyData.keyHash P (Str.ofString "S_IRGRP"), (.str (Str.ofString "S_IRGRP") 1798), (.int 32 1797)⟩, ⟨PyData.keyHash P (Str.ofString "S_IWGRP"), (.str (Str.ofString "S_IWGRP") 1800), (.int 16 1799)⟩, ⟨PyData.keyHash P (Str.ofString "S_IXGRP"), (.str (Str.ofString "S_IXGRP") 1802), (.int 8 1801)⟩, ⟨PyData.keyHash P (Str.ofString "S_IROTH"), (.str (Str.ofString "S_IROTH") 1804), (.int 4 1803)⟩, ⟨PyData.keyHash P (Str.ofString "S_IWOTH"), (.str (Str.ofString "S_IWOTH") 1806), (.int 2 1805)⟩, ⟨PyData.keyHash P (Str.ofString "S_IXOTH"), (.str (Str.ofString "S_IXOTH") 1808), (.int 1 1807)⟩, ⟨PyData.keyHash P (Str.ofString "_filemode_table"), (.str (Str.ofString "_filemode_table") 1834), (.ref 97)⟩, ⟨PyData.keyHash P (Str.ofString "filemode"), (.str (Str.ofString "filemode") 1846), (.ref 104)⟩, ⟨PyData.keyHash P (Str.ofString "_law_by_signs"), (.str (Str.ofString "_law_by_signs") 1859), (.ref 111)⟩, ⟨PyData.keyHash P (Str.ofString "_law_octet"), (.str (Str.ofString "_law_octet") 1866), (.ref 118)⟩, ⟨PyData.keyHash P (Str.ofString "_law_scores"), (.str (Str.ofString "_law_scores") 1872), (.ref 123)⟩, ⟨PyData.keyHash P (Str.ofString "_law_alike"), (.str (Str.ofString "_law_alike") 1878), (.ref 128)⟩, ⟨PyData.keyHash P (Str.ofString "_law_squares"), (.str (Str.ofString "_law_squares") 1884), (.ref 133)⟩, ⟨PyData.keyHash P (Str.ofString "law"), (.str (Str.ofString "law") 1890), (.ref 138)⟩].toArray 50, [].toArray⟩
def o12F (P : Params) : Obj := ⟨.none, none, .fields [(.int 14 0), (.int 0 0), (.ref 37), (.int 24 0), (.int 0 0), (.ref 49), (.int 33 0), (.int 0 0), (.ref 56), (.int 36 0), (.int 0 0), (.ref 63), (.int 58 0), (.int 0 0), (.ref 103), (.int 76 0), (.int 0 0), (.ref 110), (.int 83 0), (.int 0 0), (.ref 117), (.int 89 0), (.int 0 0), (.ref 122), (.int 94 0), (.int 0 0), (.ref 127), (.int 96 0), (.int 0 0), (.ref 132), (.int 98 0), (.int 0 0), (.ref 137)].toArray, [].toArray⟩
def o31F (P : Params) : Obj := ⟨(.type "tuple"), none, .seq [(.str (Str.ofString "iso-8859-1") 1724)].toArray 0, [].toArray⟩
def o32F (P : Params) : Obj := ⟨(.type "tuple"), none, .seq [].toArray 0, [].toArray⟩
def o33F (P : Params) : Obj := ⟨.none, none, .fields [].toArray, [].toArray⟩
def o34F (P : Params) : Obj := ⟨(.type "tuple"), none, .seq [(.str (Str.ofString "header_bytes") 1728), (.str (Str.ofString "charset") 1729), (.str (Str.ofString "encoded") 1730)].toArray 0, [].toArray⟩
def o35F (P : Params) : Obj := ⟨(.type "tuple"), none, .seq [].toArray 0, [].toArray⟩
def o36F (P : Params) : Obj := ⟨.none, none, .func (mkFn 11 0 .none .none .none), [].toArray⟩
def o37F (P : Params) : Obj := ⟨(.type "code"), none, .fields [(.str (Str.ofString "header_encode") 1725), (.str (Str.ofString "header_encode") 1726), (.str (Str.ofString "/claim/cut.py") 1727), (.int 14 0), (.int 2 0), (.int 0 0), (.int 0 0), (.int 3 0), (.ref 32), (.bool true), (.int 181 0), (.ref 33), .none, (.ref 34), (.ref 35), (.ref 36), (.int 1731 0), (.int 14 0), (.str (Str.ofString "/claim/cut.py") 1732)].toArray, [].toArray⟩
def o38F (P : Params) : Obj := ⟨(.type "function"), none, .func (mkFn 11 3 (.ref 31) (.str (Str.ofString "cpy313.email.quoprimime") 1225) (.ref 37)), [].toArray⟩
def o39F (P : Params) : Obj := ⟨(.type "slice"), none, .fields [.none, .none, .none].toArray, [].toArray⟩
def o40F (P : Params) : Obj := ⟨(.type "list"), none, .seq (big40F).toArray 0, [].toArray⟩
def o41F (P : Params) : Obj := ⟨(.type "bytes_iterator"), none, .fields [.none, (.int 2 0)].toArray, [].toArray⟩
def o42F (P : Params) : Obj := ⟨(.type "tuple"), none, .seq [].toArray 0, [].toArray⟩
def o43F (P : Params) : Obj := ⟨(.type "StopIteration"), none, .fields [(.ref 42), .none, .none, .none, (.bool false), .none].toArray, [].toArray⟩
def o44F (P : Params) : Obj := ⟨(.type "tuple"), none, .seq [].toArray 0, [].toArray⟩
def o45F (P : Params) : Obj := ⟨.none, none, .fields [].toArray, [].toArray⟩
def o46F (P : Params) : Obj := ⟨(.type "tuple"), none, .seq [(.str (Str.ofString "expected") 1747), (.str (Str.ofString "actual") 1748), (.str (Str.ofString "missing") 1749), (.str (Str.ofString "item") 1750)].toArray 0, [].toArray⟩
def o47F (P : Params) : Obj := ⟨(.type "tuple"), none, .seq [].toArray 0, [].toArray⟩
def o48F (P : Params) : Obj := ⟨.none, none, .func (mkFn 16 0 .none .none .none), [].toArray⟩
def o49F (P : Params) : Obj := ⟨(.type "code"), none, .fields [(.str (Str.ofString "unorderable_list_difference") 1744), (.str (Str.ofString "unorderable_list_difference") 1745), (.str (Str.ofString "/claim/cut.py") 1746), (.int 24 0), (.int 2 0), (.int 0 0), (.int 0 0), (.int 3 0), (.ref 44), (.bool true), (.int 181 0), (.ref 45), .none, (.ref 46), (.ref 47), (.ref 48), (.int 1751 0), (.int 24 0), (.str (Str.ofString "/claim/cut.py") 1752)].toArray, [].toArray⟩
def o50F (P : Params) : Obj := ⟨(.type "function"), none, .func (mkFn 16 3 .none (.str (Str.ofString "cpy313.unittest.util") 1742) (.ref 49)), [].toArray⟩
def o51F (P : Params) : Obj := ⟨(.type "tuple"), none, .seq [].toArray 0, [].toArray⟩
def o52F (P : Params) : Obj := ⟨.none, none, .fields [].toArray, [].toArray⟩
def o53F (P : Params) : Obj := ⟨(.type "tuple"), none, .seq [(.str (Str.ofString "x") 1757), (.str (Str.ofString "y") 1758)].toArray 0, [].toArray⟩
def o54F (P : Params) : Obj := ⟨(.type "tuple"), none, .seq [].toArray 0, [].toArray⟩
def o55F (P : Params) : Obj := ⟨.none, none, .func (mkFn 17 0 .none .none .none), [].toArray⟩
def o56F (P : Params) : Obj := ⟨(.type "code"), none, .fields [(.str (Str.ofString "three_way_cmp") 1754), (.str (Str.ofString "three_way_cmp") 1755), (.str (Str.ofString "/claim/cut.py") 1756), (.int 33 0), (.int 2 0), (.int 0 0), (.int 0 0), (.int 3 0), (.ref 51), (.bool true), (.int 181 0), (.ref 52), .none, (.ref 53), (.ref 54), (.ref 55), (.int 1759 0), (.int 33 0), (.str (Str.ofString "/claim/cut.py") 1760)].toArray, [].toArray⟩
def o57F (P : Params) : Obj := ⟨(.type "function"), none, .func (mkFn 17 3 .none (.str (Str.ofString "cpy313.unittest.util") 1742) (.ref 56)), [].toArray⟩
def o58F (P : Params) : Obj := ⟨(.type "tuple"), none, .seq [].toArray 0, [].toArray⟩
def o59F (P : Params) : Obj := ⟨.none, none, .fields [].toArray, [].toArray⟩
def o60F (P : Params) : Obj := ⟨(.type "tuple"), none, .seq [(.str (Str.ofString "mode") 1767)].toArray 0, [].toArray⟩
def o61F (P : Params) : Obj := ⟨(.type "tuple"), none, .seq [].toArray 0, [].toArray⟩
def o62F (P : Params) : Obj := ⟨.none, none, .func (mkFn 19 0 .none .none .none), [].toArray⟩
def o63F (P : Params) : Obj := ⟨(.type "code"), none, .fields [(.str (Str.ofString "S_IFMT") 1764), (.str (Str.ofString "S_IFMT") 1765), (.str (Str.ofString "/claim/cut.py") 1766), (.int 36 0), (.int 1 0), (.int 0 0), (.int 0 0), (.int 3 0), (.ref 58), (.bool true), (.int 181 0), (.ref 59), .none, (.ref 60), (.ref 61), (.ref 62), (.int 1768 0), (.int 36 0), (.str (Str.ofString "/claim/cut.py") 1769)].toArray, [].toArray⟩
def o64F (P : Params) : Obj := ⟨(.type "function"), none, .func (mkFn 19 3 .none (.str (Str.ofString "cpy313.stat") 1762) (.ref 63)), [].toArray⟩
def o65F (P : Params) : Obj := ⟨(.type "tuple"), none, .seq [(.int 40960 1781), (.str (Str.ofString "l") 1809)].toArray 0, [].toArray⟩
def o66F (P : Params) : Obj := ⟨(.type "tuple"), none, .seq [(.int 49152 1783), (.str (Str.ofString "s") 1810)].toArray 0, [].toArray⟩
def o67F (P : Params) : Obj := ⟨(.type "tuple"), none, .seq [(.int 32768 1777), (.str (Str.ofString "-") 1811)].toArray 0, [].toArray⟩
def o68F (P : Params) : Obj := ⟨(.type "tuple"), none, .seq [(.int 24576 1775), (.str (Str.ofString "b") 1812)].toArray 0, [].toArray⟩
def o69F (P : Params) : Obj := ⟨(.type "tuple"), none, .seq [(.int 16384 1771), (.str (Str.ofString "d") 1813)].toArray 0, [].toArray⟩
def o70F (P : Params) : Obj := ⟨(.type "tuple"), none, .seq [(.int 8192 1773), (.str (Str.ofString "c") 1814)].toArray 0, [].toArray⟩
def o71F (P : Params) : Obj := ⟨(.type "tuple"), none, .seq [(.int 4096 1779), (.str (Str.ofString "p") 1815)].toArray 0, [].toArray⟩
def o72F (P : Params) : Obj := ⟨(.type "tuple"), none, .seq [(.ref 65), (.ref 66), (.ref 67), (.ref 68), (.ref 69), (.ref 70), (.ref 71)].toArray 0, [].toArray⟩
def o73F (P : Params) : Obj := ⟨(.type "tuple"), none, .seq [(.int 256 1791), (.str (Str.ofString "r") 1816)].toArray 0, [].toArray⟩
def o74F (P : Params) : Obj := ⟨(.type "tuple"), none, .seq [(.ref 73)].toArray 0, [].toArray⟩
def o75F (P : Params) : Obj := ⟨(.type "tuple"), none, .seq [(.int 128 1793), (.str (Str.ofString "w") 1817)].toArray 0, [].toArray⟩
def o76F (P : Params) : Obj := ⟨(.type "tuple"), none, .seq [(.ref 75)].toArray 0, [].toArray⟩
def o77F (P : Params) : Obj := ⟨(.type "tuple"), none, .seq [(.int 2112 1818), (.str (Str.ofString "s") 1819)].toArray 0, [].toArray⟩
def o78F (P : Params) : Obj := ⟨(.type "tuple"), none, .seq [(.int 2048 1785), (.str (Str.ofString "S") 1820)].toArray 0, [].toArray⟩
def o79F (P : Params) : Obj := ⟨(.type "tuple"), none, .seq [(.int 64 1795), (.str (Str.ofString "x") 1821)].toArray 0, [].toArray⟩
def o80F (P : Params) : Obj := ⟨(.type "tuple"), none, .seq [(.ref 77), (.ref 78), (.ref 79)].toArray 0, [].toArray⟩
def o81F (P : Params) : Obj := ⟨(.type "tuple"), none, .seq [(.int 32 1797), (.str (Str.ofString "r") 1822)].toArray 0, [].toArray⟩
def o82F (P : Params) : Obj := ⟨(.type "tuple"), none, .seq [(.ref 81)].toArray 0, [].toArray⟩
def o83F (P : Params) : Obj := ⟨(.type "tuple"), none, .seq [(.int 16 1799), (.str (Str.ofString "w") 1823)].toArray 0, [].toArray⟩
def o84F (P : Params) : Obj := ⟨(.type "tuple"), none, .seq [(.ref 83)].toArray 0, [].toArray⟩
def o85F (P : Params) : Obj := ⟨(.type "tuple"), none, .seq [(.int 1032 1824), (.str (Str.ofString "s") 1825)].toArray 0, [].toArray⟩
def o86F (P : Params) : Obj := ⟨(.type "tuple"), none, .seq [(.int 1024 1787), (.str (Str.ofString "S") 1826)].toArray 0, [].toArray⟩
def o87F (P : Params) : Obj := ⟨(.type "tuple"), none, .seq [(.int 8 1801), (.str (Str.ofString "x") 1827)].toArray 0, [].toArray⟩
def o88F (P : Params) : Obj := ⟨(.type "tuple"), none, .seq [(.ref 85), (.ref 86), (.ref 87)].toArray 0, [].toArray⟩
def o89F (P : Params) : Obj := ⟨(.type "tuple"), none, .seq [(.int 4 1803), (.str (Str.ofString "r") 1828)].toArray 0, [].toArray⟩
def o90F (P : Params) : Obj := ⟨(.type "tuple"), none, .seq [(.ref 89)].toArray 0, [].toArray⟩
def o91F (P : Params) : Obj := ⟨(.type "tuple"), none, .seq [(.int 2 1805), (.str (Str.ofString "w") 1829)].toArray 0, [].toArray⟩
def o92F (P : Params) : Obj := ⟨(.type "tuple"), none, .seq [(.ref 91)].toArray 0, [].toArray⟩
def o93F (P : Params) : Obj := ⟨(.type "tuple"), none, .seq [(.int 513 1830), (.str (Str.ofString "t") 1831)].toArray 0, [].toArray⟩
def o94F (P : Params) : Obj := ⟨(.type "tuple"), none, .seq [(.int 512 1789), (.str (Str.ofString "T") 1832)].toArray 0, [].toArray⟩
def o95F (P : Params) : Obj := ⟨(.type "tuple"), none, .seq [(.int 1 1807), (.str (Str.ofString "x") 1833)].toArray 0, [].toArray⟩
def o96F (P : Params) : Obj := ⟨(.type "tuple"), none, .seq [(.ref 93), (.ref 94), (.ref 95)].toArray 0, [].toArray⟩
def o97F (P : Params) : Obj := ⟨(.type "tuple"), none, .seq [(.ref 72), (.ref 74), (.ref 76), (.ref 80), (.ref 82), (.ref 84), (.ref 88), (.ref 90), (.ref 92), (.ref 96)].toArray 0, [].toArray⟩
def o98F (P : Params) : Obj := ⟨(.type "tuple"), none, .seq [].toArray 0, [].toArray⟩
def o99F (P : Params) : Obj := ⟨.none, none, .fields [].toArray, [].toArray⟩
def o100F (P : Params) : Obj := ⟨(.type "tuple"), none, .seq [(.str (Str.ofString "mode") 1838), (.str (Str.ofString "perm") 1839), (.str (Str.ofString "index") 1840), (.str (Str.ofString "table") 1841), (.str (Str.ofString "bit") 1842), (.str (Str.ofString "char") 1843)].toArray 0, [].toArray⟩
def o101F (P : Params) : Obj := ⟨(.type "tuple"), none, .seq [].toArray 0, [].toArray⟩
def o102F (P : Params) : Obj := ⟨.none, none, .func (mkFn 40 0 .none .none .none), [].toArray⟩
def o103F (P : Params) : Obj := ⟨(.type "code"), none, .fields [(.str (Str.ofString "filemode") 1835), (.str (Str.ofString "filemode") 1836), (.str (Str.ofString "/claim/cut.py") 1837), (.int 58 0), (.int 1 0), (.int 0 0), (.int 0 0), (.int 3 0), (.ref 98), (.bool true), (.int 181 0), (.ref 99), .none, (.ref 100), (.ref 101), (.ref 102), (.int 1844 0), (.int 58 0), (.str (Str.ofString "/claim/cut.py") 1845)].toArray, [].toArray⟩
def o104F (P : Params) : Obj := ⟨(.type "function"), none, .func (mkFn 40 3 .none (.str (Str.ofString "cpy313.stat") 1762) (.ref 103)), [].toArray⟩
def o105F (P : Params) : Obj := ⟨(.type "tuple"), none, .seq [].toArray 0, [].toArray⟩
def o106F (P : Params) : Obj := ⟨.none, none, .fields [].toArray, [].toArray⟩
def o107F (P : Params) : Obj := ⟨(.type "tuple"), none, .seq [(.str (Str.ofString "m") 1852), (.str (Str.ofString "place") 1853), (.str (Str.ofString "k") 1854), (.str (Str.ofString "figure") 1855), (.str (Str.ofString "above") 1856)].toArray 0, [].toArray⟩
def o108F (P : Params) : Obj := ⟨(.type "tuple"), none, .seq [].toArray 0, [].toArray⟩
def o109F (P : Params) : Obj := ⟨.none, none, .func (mkFn 42 0 .none .none .none), [].toArray⟩
def o110F (P : Params) : Obj := ⟨(.type "code"), none, .fields [(.str (Str.ofString "_law_by_signs") 1849), (.str (Str.ofString "_law_by_signs") 1850), (.str (Str.ofString "/claim/cut.py") 1851), (.int 76 0), (.int 1 0), (.int 0 0), (.int 0 0), (.int 3 0), (.ref 105), (.bool true), (.int 181 0), (.ref 106), .none, (.ref 107), (.ref 108), (.ref 109), (.int 1857 0), (.int 76 0), (.str (Str.ofString "/claim/cut.py") 1858)].toArray, [].toArray⟩
def o111F (P : Params) : Obj := ⟨(.type "function"), none, .func (mkFn 42 3 .none (.str (Str.ofString "law_oc0066_01") 1847) (.ref 110)), [].toArray⟩
def o112F (P : Params) : Obj := ⟨(.type "tuple"), none, .seq [].toArray 0, [].toArray⟩
def o113F (P : Params) : Obj := ⟨.none, none, .fields [].toArray, [].toArray⟩
def o114F (P : Params) : Obj := ⟨(.type "tuple"), none, .seq [(.str (Str.ofString "octet") 1863)].toArray 0, [].toArray⟩
def o115F (P : Params) : Obj := ⟨(.type "tuple"), none, .seq [].toArray 0, [].toArray⟩
def o116F (P : Params) : Obj := ⟨.none, none, .func (mkFn 43 0 .none .none .none), [].toArray⟩
def o117F (P : Params) : Obj := ⟨(.type "code"), none, .fields [(.str (Str.ofString "_law_octet") 1860), (.str (Str.ofString "_law_octet") 1861), (.str (Str.ofString "/claim/cut.py") 1862), (.int 83 0), (.int 1 0), (.int 0 0), (.int 0 0), (.int 3 0), (.ref 112), (.bool true), (.int 181 0), (.ref 113), .none, (.ref 114), (.ref 115), (.ref 116), (.int 1864 0), (.int 83 0), (.str (Str.ofString "/claim/cut.py") 1865)].toArray, [].toArray⟩
def o118F (P : Params) : Obj := ⟨(.type "function"), none, .func (mkFn 43 3 .none (.str (Str.ofString "law_oc0066_01") 1847) (.ref 117)), [].toArray⟩
def o119F (P : Params) : Obj := ⟨(.type "tuple"), none, .seq [].toArray 0, [].toArray⟩
def o120F (P : Params) : Obj := ⟨.none, none, .fields [].toArray, [].toArray⟩
def o121F (P : Params) : Obj := ⟨.none, none, .func (mkFn 44 0 .none .none .none), [].toArray⟩
def o122F (P : Params) : Obj := ⟨(.type "code"), none, .fields [(.str (Str.ofString "_law_scores") 1867), (.str (Str.ofString "_law_scores") 1868), (.str (Str.ofString "/claim/cut.py") 1869), (.int 89 0), (.int 1 0), (.int 0 0), (.int 0 0), (.int 3 0), (.ref 119), (.bool true), (.int 181 0), (.ref 120), .none, .none, .none, (.ref 121), (.int 1870 0), (.int 89 0), (.str (Str.ofString "/claim/cut.py") 1871)].toArray, [].toArray⟩
def o123F (P : Params) : Obj := ⟨(.type "function"), none, .func (mkFn 44 3 .none (.str (Str.ofString "law_oc0066_01") 1847) (.ref 122)), [].toArray⟩
def o124F (P : Params) : Obj := ⟨(.type "tuple"), none, .seq [].toArray 0, [].toArray⟩
def o125F (P : Params) : Obj := ⟨.none, none, .fields [].toArray, [].toArray⟩
def o126F (P : Params) : Obj := ⟨.none, none, .func (mkFn 45 0 .none .none .none), [].toArray⟩
def o127F (P : Params) : Obj := ⟨(.type "code"), none, .fields [(.str (Str.ofString "_law_alike") 1873), (.str (Str.ofString "_law_alike") 1874), (.str (Str.ofString "/claim/cut.py") 1875), (.int 94 0), (.int 1 0), (.int 0 0), (.int 0 0), (.int 3 0), (.ref 124), (.bool true), (.int 181 0), (.ref 125), .none, .none, .none, (.ref 126), (.int 1876 0), (.int 94 0), (.str (Str.ofString "/claim/cut.py") 1877)].toArray, [].toArray⟩
def o128F (P : Params) : Obj := ⟨(.type "function"), none, .func (mkFn 45 3 .none (.str (Str.ofString "law_oc0066_01") 1847) (.ref 127)), [].toArray⟩
def o129F (P : Params) : Obj := ⟨(.type "tuple"), none, .seq [].toArray 0, [].toArray⟩
def o130F (P : Params) : Obj := ⟨.none, none, .fields [].toArray, [].toArray⟩
def o131F (P : Params) : Obj := ⟨.none, none, .func (mkFn 46 0 .none .none .none), [].toArray⟩
def o132F (P : Params) : Obj := ⟨(.type "code"), none, .fields [(.str (Str.ofString "_law_squares") 1879), (.str (Str.ofString "_law_squares") 1880), (.str (Str.ofString "/claim/cut.py") 1881), (.int 96 0), (.int 1 0), (.int 0 0), (.int 0 0), (.int 3 0), (.ref 129), (.bool true), (.int 181 0), (.ref 130), .none, .none, .none, (.ref 131), (.int 1882 0), (.int 96 0), (.str (Str.ofString "/claim/cut.py") 1883)].toArray, [].toArray⟩
def o133F (P : Params) : Obj := ⟨(.type "function"), none, .func (mkFn 46 3 .none (.str (Str.ofString "law_oc0066_01") 1847) (.ref 132)), [].toArray⟩
def o134F (P : Params) : Obj := ⟨(.type "tuple"), none, .seq [].toArray 0, [].toArray⟩
def o135F (P : Params) : Obj := ⟨.none, none, .fields [].toArray, [].toArray⟩
def o136F (P : Params) : Obj := ⟨.none, none, .func (mkFn 47 0 .none .none .none), [].toArray⟩
def o137F (P : Params) : Obj := ⟨(.type "code"), none, .fields [(.str (Str.ofString "law") 1885), (.str (Str.ofString "law") 1886), (.str (Str.ofString "/claim/cut.py") 1887), (.int 98 0), (.int 1 0), (.int 0 0), (.int 0 0), (.int 3 0), (.ref 134), (.bool true), (.int 181 0), (.ref 135), .none, .none, .none, (.ref 136), (.int 1888 0), (.int 98 0), (.str (Str.ofString "/claim/cut.py") 1889)].toArray, [].toArray⟩
def o138F (P : Params) : Obj := ⟨(.type "function"), none, .func (mkFn 47 3 .none (.str (Str.ofString "law_oc0066_01") 1847) (.ref 137)), [].toArray⟩
def sF (P : Params) : BT := (.node (boot_o_0 P) (.node (boot_o_1 P) (.node (o3F P) (.node (boot_o_7 P) (.node (o15A P) (.node (o31F P) (.node (o63F P) (.node (o127F P) .nil .nil) .nil) (.node (o95F P) .nil .nil)) (.node (o47F P) (.node (o79F P) .nil .nil) (.node (o111F P) .nil .nil))) (.node (o23B P) (.node (o39F P) (.node (o71F P) (.node (o135F P) .nil .nil) .nil) (.node (o103F P) .nil .nil)) (.node (o55F P) (.node (o87F P) .nil .nil) (.node (o119F P) .nil .nil)))) (.node (o11P P) (.node (o19A P) (.node (o35F P) (.node (o67F P) (.node (o131F P) .nil .nil) .nil) (.node (o99F P) .nil .nil)) (.node (o51F P) (.node (o83F P) .nil .nil) (.node (o115F P) .nil .nil))) (.node (o27B P) (.node (o43F P) (.node (o75F P) .nil .nil) (.node (o107F P) .nil .nil)) (.node (o59F P) (.node (o91F P) .nil .nil) (.node (o123F P) .nil .nil))))) (.node (boot_o_5 P) (.node (boot_o_9 P) (.node (o17A P) (.node (o33F P) (.node (o65F P) (.node (o129F P) .nil .nil) .nil) (.node (o97F P) .nil .nil)) (.node (o49F P) (.node (o81F P) .nil .nil) (.node (o113F P) .nil .nil))) (.node (o25B P) (.node (o41F P) (.node (o73F P) (.node (o137F P) .nil .nil) .nil) (.node (o105F P) .nil .nil)) (.node (o57F P) (.node (o89F P) .nil .nil) (.node (o121F P) .nil .nil)))) (.node (o13P P) (.node (o21B P) (.node (o37F P) (.node (o69F P) (.node (o133F P) .nil .nil) .nil) (.node (o101F P) .nil .nil)) (.node (o53F P) (.node (o85F P) .nil .nil) (.node (o117F P) .nil .nil))) (.node (o29C P) (.node (o45F P) (.node (o77F P) .nil .nil) (.node (o109F P) .nil .nil)) (.node (o61F P) (.node (o93F P) .nil .nil) (.node (o125F P) .nil .nil)))))) (.node (boot_o_2 P) (.node (boot_o_4 P) (.node (boot_o_8 P) (.node (o16A P) (.node (o32F P) (.node (o64F P) (.node (o128F P) .nil .nil) .nil) (.node (o96F P) .nil .nil)) (.node (o48F P) (.node (o80F P) .nil .nil) (.node (o112F P) .nil .nil))) (.node (o24C P) (.node (o40F P) (.node (o72F P) (.node (o136F P) .nil .nil) .nil) (.node (o104F P) .nil .nil)) (.node (o56F P) (.node (o88F P) .nil .nil) (.node (o120F P) .nil .nil)))) (.node (o12F P) (.node (o20A P) (.node (o36F P) (.node (o68F P) (.node (o132F P) .nil .nil) .nil) (.node (o100F P) .nil .nil)) (.node (o52F P) (.node (o84F P) .nil .nil) (.node (o116F P) .nil .nil))) (.node (o28C P) (.node (o44F P) (.node (o76F P) .nil .nil) (.node (o108F P) .nil .nil)) (.node (o60F P) (.node (o92F P) .nil .nil) (.node (o124F P) .nil .nil))))) (.node (boot_o_6 P) (.node (boot_o_10 P) (.node (o18A P) (.node (o34F P) (.node (o66F P) (.node (o130F P) .nil .nil) .nil) (.node (o98F P) .nil .nil)) (.node (o50F P) (.node (o82F P) .nil .nil) (.node (o114F P) .nil .nil))) (.node (o26B P) (.node (o42F P) (.node (o74F P) (.node (o138F P) .nil .nil) .nil) (.node (o106F P) .nil .nil)) (.node (o58F P) (.node (o90F P) .nil .nil) (.node (o122F P) .nil .nil)))) (.node (o14P P) (.node (o22B P) (.node (o38F P) (.node (o70F P) (.node (o134F P) .nil .nil) .nil) (.node (o102F P) .nil .nil)) (.node (o54F P) (.node (o86F P) .nil .nil) (.node (o118F P) .nil .nil))) (.node (o30C P) (.node (o46F P) (.node (o78F P) .nil .nil) (.node (o110F P) .nil .nil)) (.node (o62F P) (.node (o94F P) .nil .nil) (.node (o126F P) .nil .nil)))))))
-- F: n 139 toks 1891 steps 1 1 pos 98 0 117 104  pos' 98 0

def envT : Env := { scope := PySem.Challenge.pw_oc0066_01.main.scope, locals := mainNs, globals := mainNs, cells := [], code := .ref 13, frame := some 14 }
def bodyT : List Stmt := behindTheImports PySem.Challenge.pw_oc0066_01
def cT : Code := .body bodyT envT
def stA : List Stmt := bodyT.take 1
def stC : List Stmt := (bodyT.drop 10).take 1
def p0 : Pos := ⟨0, 0, 0, 0⟩
abbrev BT0 : List Frame := [topFrame p0]
abbrev stT (t : BT) (n k : Nat) (os : OsState) : SharedT := ⟨t, n, {}, #[], boot_drawn, k, os⟩
abbrev endA (w : World) (os : OsState) : Option (Flow × SharedT × Code × Pos) := some (.next, stT (sA w.params) 21 1215 os, cT, ⟨1, 0, 1, 11⟩)
abbrev endB (w : World) (os : OsState) : Option (Flow × SharedT × Code × Pos) := some (.next, stT (sB w.params) 28 1438 os, cT, ⟨11, 0, 11, 28⟩)
abbrev endC (w : World) (os : OsState) : Option (Flow × SharedT × Code × Pos) := some (.next, stT (sC w.params) 31 1724 os, cT, ⟨12, 9, 12, 110⟩)
abbrev endD (w : World) (os : OsState) : Option (Flow × SharedT × Code × Pos) := some (.next, stT (sF w.params) 139 1891 os, cT, ⟨98, 0, 117, 104⟩)
theorem eEndA : endA = endA := rfl
theorem eEndB : endB = endB := rfl
theorem eEndC : endC = endC := rfl
theorem eEndD : endD = endD := rfl
end
end Mine
name_quick hEndA for Mine.endA by Mine.eEndA
name_quick hEndB for Mine.endB by Mine.eEndB
name_quick hEndC for Mine.endC by Mine.eEndC
name_quick hEndD for Mine.endD by Mine.eEndD

end
section
open PySem PySem.W PyProof.Rows
set_option maxRecDepth 100000
set_option maxHeartbeats 0
namespace Mine
theorem seg_more {tb : String → Option Builtin} {p : Program} {w : World} {n₀ : Nat} {ann : Option Value} {b m : Nat} : ∀ {n : Nat} {s : Shared} {t : Thread} {r : Flow × Shared × Code × Pos}, segRun tb p w n₀ ann b n s t = some r → segRun tb p w n₀ ann b (n + m) s t = some r
  | 0, _, _, _, h => by cases h
  | n + 1, s, t, r, h => by
    rw [show n + 1 + m = n + m + 1 by omega]
    unfold segRun at h ⊢
    cases he : endAt b t with
    | some f => rw [he] at h; exact h
    | none =>
      rw [he] at h
      cases hk : stepOk n₀ ann t with
      | false => rw [hk] at h; cases h
      | true =>
        rw [hk] at h
        cases hs : step (denote tb) p w s t with
        | halt o s' => rw [hs] at h; cases h
        | go s' t' => rw [hs] at h; exact seg_more h
noncomputable section
abbrev wA (a b : Bool) (w : World) : World := (w.withFollow "special-get-raises" b).withFollow "comprehension-iter-twice" a
def compA : PySem.Expr := match dAt 0 with | .Assign _ e _ => e | _ => default
def scA : Scope := match compA with | .ListComp _ _ sc _ => sc | _ => default
def cLA : Code := .compLoop compA 0 (.ref 16) (.ref 17) (compEnvC scA [] 18 envT)
def o16M (k : Nat) : Obj := ⟨(.type "range_iterator"), none, .fields [(.int (Int.ofNat k) 0), (.int (Int.ofNat (256 - k)) 0), (.int 1 0)].toArray, [].toArray⟩
def o17M (k : Nat) : Obj := ⟨(.type "list"), none, .seq (big17A.take k).toArray k, [].toArray⟩
def o18M (P : Params) (k : Nat) : Obj := ⟨(.type "dict"), none, .dict [⟨PyData.keyHash P (Str.ofString "c"), (.str (Str.ofString "c") 191), (.int (Int.ofNat (k - 1)) (186 + 4 * k))⟩].toArray 1, [].toArray⟩
def sMA (P : Params) (k : Nat) : BT := (.node (boot_o_0 P) (.node (boot_o_1 P) (.node (boot_o_3 P) (.node (boot_o_7 P) (.node (o15A P) .nil .nil) .nil) (.node (o11P P) .nil .nil)) (.node (boot_o_5 P) (.node (boot_o_9 P) (.node (o17M k) .nil .nil) .nil) (.node (o13P P) .nil .nil))) (.node (boot_o_2 P) (.node (boot_o_4 P) (.node (boot_o_8 P) (.node (o16M k) .nil .nil) .nil) (.node (o12P P) .nil .nil)) (.node (boot_o_6 P) (.node (boot_o_10 P) (.node (o18M P k) .nil .nil) .nil) (.node (o14P P) .nil .nil))))
abbrev stMA (k : Nat) (P : Params) (os : OsState) : SharedT := stT (sMA P k) 19 (190 + 4 * k) os
def frA (w : World) (os : OsState) : Frame := match segGoT treeTable PySem.Challenge.pw_oc0066_01 (wA true true w) 11 (some (.ref 6)) 1 79 (stT (sP w.params) 15 187 os) (piecesOf stA envT cT p0 [topFrame p0]) with
  | some (_, ⟨_, _, _, f :: _⟩) => f
  | _ => topFrame p0
def thA (w : World) (os : OsState) : Thread := ⟨denote treeTable cLA, cLA, ⟨1, 15, 1, 26⟩, [frA w os, topFrame p0]⟩
def preA (n : Nat) (w : World) (os : OsState) := segGoT treeTable PySem.Challenge.pw_oc0066_01 w 11 (some (.ref 6)) 1 n (stT (sP w.params) 15 187 os) (piecesOf stA envT cT p0 [topFrame p0])
def chA (k n : Nat) (w : World) (os : OsState) := segGoT treeTable PySem.Challenge.pw_oc0066_01 w 11 (some (.ref 6)) 1 n (stMA k w.params os) (thA w os)
def atA (k : Nat) (w : World) (os : OsState) : Option (SharedT × Thread) := some (stMA k w.params os, thA w os)
def lastA (w : World) (os : OsState) := segRunT treeTable PySem.Challenge.pw_oc0066_01 w 11 (some (.ref 6)) 1 28 (stMA 256 w.params os) (thA w os)
theorem ePreA : preA = preA := rfl
theorem eChA : chA = chA := rfl
theorem eAtA : atA = atA := rfl
theorem eLastA : lastA = lastA := rfl
end
end Mine
name_quick hPreA for Mine.preA by Mine.ePreA
name_quick hChA for Mine.chA by Mine.eChA
name_quick hAtA for Mine.atA by Mine.eAtA
name_quick hLastA for Mine.lastA by Mine.eLastA
namespace Mine
theorem preA0 (w : World) : Fast.hPreA 89 (wA false false w) = Fast.hAtA 1 (wA false false w) := by kernel_rfl
theorem preA1 (w : World) : Fast.hPreA 89 (wA false true w) = Fast.hAtA 1 (wA false true w) := by kernel_rfl
theorem preA2 (w : World) : Fast.hPreA 79 (wA true false w) = Fast.hAtA 1 (wA true false w) := by kernel_rfl
theorem preA3 (w : World) : Fast.hPreA 79 (wA true true w) = Fast.hAtA 1 (wA true true w) := by kernel_rfl
theorem turnA1 (w : World) : Fast.hChA 1 629 w = Fast.hAtA 18 w := by kernel_rfl
theorem turnA18 (w : World) : Fast.hChA 18 629 w = Fast.hAtA 35 w := by kernel_rfl
theorem turnA35 (w : World) : Fast.hChA 35 629 w = Fast.hAtA 52 w := by kernel_rfl
theorem turnA52 (w : World) : Fast.hChA 52 629 w = Fast.hAtA 69 w := by kernel_rfl
theorem turnA69 (w : World) : Fast.hChA 69 629 w = Fast.hAtA 86 w := by kernel_rfl
theorem turnA86 (w : World) : Fast.hChA 86 629 w = Fast.hAtA 103 w := by kernel_rfl
theorem turnA103 (w : World) : Fast.hChA 103 629 w = Fast.hAtA 120 w := by kernel_rfl
theorem turnA120 (w : World) : Fast.hChA 120 629 w = Fast.hAtA 137 w := by kernel_rfl
theorem turnA137 (w : World) : Fast.hChA 137 629 w = Fast.hAtA 154 w := by kernel_rfl
theorem turnA154 (w : World) : Fast.hChA 154 629 w = Fast.hAtA 171 w := by kernel_rfl
theorem turnA171 (w : World) : Fast.hChA 171 629 w = Fast.hAtA 188 w := by kernel_rfl
theorem turnA188 (w : World) : Fast.hChA 188 629 w = Fast.hAtA 205 w := by kernel_rfl
theorem turnA205 (w : World) : Fast.hChA 205 629 w = Fast.hAtA 222 w := by kernel_rfl
theorem turnA222 (w : World) : Fast.hChA 222 629 w = Fast.hAtA 239 w := by kernel_rfl
theorem turnA239 (w : World) : Fast.hChA 239 629 w = Fast.hAtA 256 w := by kernel_rfl
theorem endAq (w : World) : Fast.hLastA w = Fast.hEndA w := by kernel_rfl
abbrev QA : World → Prop := (fun w : World => ∀ (os : OsState) (N : Nat) r, segRun treeTable PySem.Challenge.pw_oc0066_01 w 11 (some (.ref 6)) 1 N (stMA 1 w.params os).abs (thA w os) = some r → segRun treeTable PySem.Challenge.pw_oc0066_01 w 11 (some (.ref 6)) 1 (89 + N) (stT (sP w.params) 15 187 os).abs (piecesOf stA envT cT p0 [topFrame p0]) = some r)
theorem qA0 (w : World) : QA (wA false false w) := fun os N r h => by
  have g := segGo_of (congrFun (show preA 89 (wA false false w) = atA 1 (wA false false w) by rw [Fast.hPreA_eq, Fast.hAtA_eq]; exact preA0 w) os)
  exact seg_go g h
theorem qA1 (w : World) : QA (wA false true w) := fun os N r h => by
  have g := segGo_of (congrFun (show preA 89 (wA false true w) = atA 1 (wA false true w) by rw [Fast.hPreA_eq, Fast.hAtA_eq]; exact preA1 w) os)
  exact seg_go g h
theorem qA2 (w : World) : QA (wA true false w) := fun os N r h => by
  have g := segGo_of (congrFun (show preA 79 (wA true false w) = atA 1 (wA true false w) by rw [Fast.hPreA_eq, Fast.hAtA_eq]; exact preA2 w) os)
  have := seg_go g (seg_more (m := 10) h)
  rw [show 89 + N = 79 + (N + 10) by omega]
  exact this
theorem qA3 (w : World) : QA (wA true true w) := fun os N r h => by
  have g := segGo_of (congrFun (show preA 79 (wA true true w) = atA 1 (wA true true w) by rw [Fast.hPreA_eq, Fast.hAtA_eq]; exact preA3 w) os)
  have := seg_go g (seg_more (m := 10) h)
  rw [show 89 + N = 79 + (N + 10) by omega]
  exact this
theorem preA_all : ∀ w : World, QA w :=
  byRow2 "comprehension-iter-twice" (P := QA)
    (fun w => byRow2 "special-get-raises" (P := fun w => QA (w.withFollow "comprehension-iter-twice" false)) qA0 qA1 w)
    (fun w => byRow2 "special-get-raises" (P := fun w => QA (w.withFollow "comprehension-iter-twice" true)) qA2 qA3 w)
theorem goA {w : World} {os : OsState} {k j n N : Nat} {r} (h : Fast.hChA k n w = Fast.hAtA j w) (q : segRun treeTable PySem.Challenge.pw_oc0066_01 w 11 (some (.ref 6)) 1 N (stMA j w.params os).abs (thA w os) = some r) : segRun treeTable PySem.Challenge.pw_oc0066_01 w 11 (some (.ref 6)) 1 (n + N) (stMA k w.params os).abs (thA w os) = some r :=
  seg_go (segGo_of (congrFun (show chA k n w = atA j w by rw [Fast.hChA_eq, Fast.hAtA_eq]; exact h) os)) q
theorem sgA (w : World) (os : OsState) : segRun treeTable PySem.Challenge.pw_oc0066_01 w 11 (some (.ref 6)) 1 9552 (stT (sP w.params) 15 187 os).abs (piecesOf  stA envT cT p0 [topFrame p0]) = some (.next, (stT (sA w.params) 21 1215 os).abs, cT, ⟨1, 0, 1, 11⟩) := by
  rw [show 9552 = 89 + (629 + (629 + (629 + (629 + (629 + (629 + (629 + (629 + (629 + (629 + (629 + (629 + (629 + (629 + (629 + (28)))))))))))))))) from rfl]
  refine preA_all w os _ _ ?_
  refine goA (turnA1 w) ?_
  refine goA (turnA18 w) ?_
  refine goA (turnA35 w) ?_
  refine goA (turnA52 w) ?_
  refine goA (turnA69 w) ?_
  refine goA (turnA86 w) ?_
  refine goA (turnA103 w) ?_
  refine goA (turnA120 w) ?_
  refine goA (turnA137 w) ?_
  refine goA (turnA154 w) ?_
  refine goA (turnA171 w) ?_
  refine goA (turnA188 w) ?_
  refine goA (turnA205 w) ?_
  refine goA (turnA222 w) ?_
  refine goA (turnA239 w) ?_
  exact segRun_of (congrFun (show lastA w = endA w by rw [Fast.hLastA_eq, Fast.hEndA_eq]; exact endAq w) os)
end Mine

end
section
open PySem PySem.W PyProof.Rows
set_option maxRecDepth 100000
set_option maxHeartbeats 0
namespace Mine
noncomputable section
def setsOf : List Nat → Nat → List Value → List Value
  | [], _, l => l
  | d :: ds, t, l => setsOf ds (t + 3) (l.set d (bc d t))
def stB0 : List Stmt := (bodyT.drop 1).take 7
def stB1 : List Stmt := (bodyT.drop 8).take 2
def o22G : Obj := ⟨(.type "list"), none, .seq (big17A).toArray 0, [].toArray⟩
def o3G (P : Params) : Obj := ⟨(.type "dict"), none, .dict [⟨PyData.keyHash P (Str.ofString "__name__"), (.str (Str.ofString "__name__") 165), (.str (Str.ofString "cpy313.email.quoprimime") 1225)⟩, ⟨PyData.keyHash P (Str.ofString "__doc__"), (.str (Str.ofString "__doc__") 166), .none⟩, ⟨PyData.keyHash P (Str.ofString "__package__"), (.str (Str.ofString "__package__") 167), .none⟩, ⟨PyData.keyHash P (Str.ofString "__loader__"), (.str (Str.ofString "__loader__") 168), (.builtin "__main__.__loader__#opaque")⟩, ⟨PyData.keyHash P (Str.ofString "__spec__"), (.str (Str.ofString "__spec__") 169), .none⟩, ⟨PyData.keyHash P (Str.ofString "__annotations__"), (.str (Str.ofString "__annotations__") 170), (.ref 6)⟩, ⟨PyData.keyHash P (Str.ofString "__builtins__"), (.str (Str.ofString "__builtins__") 171), (.ref 4)⟩, ⟨PyData.keyHash P (Str.ofString "__file__"), (.str (Str.ofString "__file__") 173), (.str (Str.ofString "/claim/cut.py") 172)⟩, ⟨PyData.keyHash P (Str.ofString "__cached__"), (.str (Str.ofString "__cached__") 174), .none⟩, ⟨PyData.keyHash P (Str.ofString "_QUOPRI_MAP"), (.str (Str.ofString "_QUOPRI_MAP") 1214), (.ref 17)⟩, ⟨PyData.keyHash P (Str.ofString "_QUOPRI_HEADER_MAP"), (.str (Str.ofString "_QUOPRI_HEADER_MAP") 1215), (.ref 22)⟩, ⟨PyData.keyHash P (Str.ofString "_QUOPRI_BODY_MAP"), (.str (Str.ofString "_QUOPRI_BODY_MAP") 1216), (.ref 24)⟩, ⟨PyData.keyHash P (Str.ofString "ascii_lowercase"), (.str (Str.ofString "ascii_lowercase") 1218), (.str (Str.ofString "abcdefghijklmnopqrstuvwxyz") 1217)⟩, ⟨PyData.keyHash P (Str.ofString "ascii_uppercase"), (.str (Str.ofString "ascii_uppercase") 1220), (.str (Str.ofString "ABCDEFGHIJKLMNOPQRSTUVWXYZ") 1219)⟩, ⟨PyData.keyHash P (Str.ofString "ascii_letters"), (.str (Str.ofString "ascii_letters") 1222), (.str (Str.ofString "abcdefghijklmnopqrstuvwxyzABCDEFGHIJKLMNOPQRSTUVWXYZ") 1221)⟩, ⟨PyData.keyHash P (Str.ofString "digits"), (.str (Str.ofString "digits") 1224), (.str (Str.ofString "0123456789") 1223)⟩].toArray 16, [].toArray⟩
def sG (P : Params) : BT := (.node (boot_o_0 P) (.node (boot_o_1 P) (.node (o3G P) (.node (boot_o_7 P) (.node (o15A P) .nil .nil) (.node (o23B P) .nil .nil)) (.node (o11P P) (.node (o19A P) .nil .nil) .nil)) (.node (boot_o_5 P) (.node (boot_o_9 P) (.node (o17A P) .nil .nil) .nil) (.node (o13P P) (.node (o21B P) .nil .nil) .nil))) (.node (boot_o_2 P) (.node (boot_o_4 P) (.node (boot_o_8 P) (.node (o16A P) .nil .nil) (.node (o24B P) .nil .nil)) (.node (o12P P) (.node (o20A P) .nil .nil) .nil)) (.node (boot_o_6 P) (.node (boot_o_10 P) (.node (o18A P) .nil .nil) .nil) (.node (o14P P) (.node (o22G) .nil .nil) .nil))))
def runG (w : World) (os : OsState) := segRunT treeTable PySem.Challenge.pw_oc0066_01 w 11 (some (.ref 6)) 1 109 (stT (sA w.params) 21 1215 os) (piecesOf stB0 envT cT ⟨1, 0, 1, 11⟩ [topFrame p0])
abbrev endG (w : World) (os : OsState) : Option (Flow × SharedT × Code × Pos) := some (.next, stT (sG w.params) 25 1227 os, cT, ⟨8, 0, 8, 8⟩)
theorem eRunG : runG = runG := rfl
theorem eEndG : endG = endG := rfl
def bsB : List Nat := [45, 33, 42, 43, 47, 97, 98, 99, 100, 101, 102, 103, 104, 105, 106, 107, 108, 109, 110, 111, 112, 113, 114, 115, 116, 117, 118, 119, 120, 121, 122, 65, 66, 67, 68, 69, 70, 71, 72, 73, 74, 75, 76, 77, 78, 79, 80, 81, 82, 83, 84, 85, 86, 87, 88, 89, 90, 48, 49, 50, 51, 52, 53, 54, 55, 56, 57]
def o3MB (P : Params) (v t : Nat) : Obj := ⟨(.type "dict"), none, .dict [⟨PyData.keyHash P (Str.ofString "__name__"), (.str (Str.ofString "__name__") 165), (.str (Str.ofString "cpy313.email.quoprimime") 1225)⟩, ⟨PyData.keyHash P (Str.ofString "__doc__"), (.str (Str.ofString "__doc__") 166), .none⟩, ⟨PyData.keyHash P (Str.ofString "__package__"), (.str (Str.ofString "__package__") 167), .none⟩, ⟨PyData.keyHash P (Str.ofString "__loader__"), (.str (Str.ofString "__loader__") 168), (.builtin "__main__.__loader__#opaque")⟩, ⟨PyData.keyHash P (Str.ofString "__spec__"), (.str (Str.ofString "__spec__") 169), .none⟩, ⟨PyData.keyHash P (Str.ofString "__annotations__"), (.str (Str.ofString "__annotations__") 170), (.ref 6)⟩, ⟨PyData.keyHash P (Str.ofString "__builtins__"), (.str (Str.ofString "__builtins__") 171), (.ref 4)⟩, ⟨PyData.keyHash P (Str.ofString "__file__"), (.str (Str.ofString "__file__") 173), (.str (Str.ofString "/claim/cut.py") 172)⟩, ⟨PyData.keyHash P (Str.ofString "__cached__"), (.str (Str.ofString "__cached__") 174), .none⟩, ⟨PyData.keyHash P (Str.ofString "_QUOPRI_MAP"), (.str (Str.ofString "_QUOPRI_MAP") 1214), (.ref 17)⟩, ⟨PyData.keyHash P (Str.ofString "_QUOPRI_HEADER_MAP"), (.str (Str.ofString "_QUOPRI_HEADER_MAP") 1215), (.ref 22)⟩, ⟨PyData.keyHash P (Str.ofString "_QUOPRI_BODY_MAP"), (.str (Str.ofString "_QUOPRI_BODY_MAP") 1216), (.ref 24)⟩, ⟨PyData.keyHash P (Str.ofString "ascii_lowercase"), (.str (Str.ofString "ascii_lowercase") 1218), (.str (Str.ofString "abcdefghijklmnopqrstuvwxyz") 1217)⟩, ⟨PyData.keyHash P (Str.ofString "ascii_uppercase"), (.str (Str.ofString "ascii_uppercase") 1220), (.str (Str.ofString "ABCDEFGHIJKLMNOPQRSTUVWXYZ") 1219)⟩, ⟨PyData.keyHash P (Str.ofString "ascii_letters"), (.str (Str.ofString "ascii_letters") 1222), (.str (Str.ofString "abcdefghijklmnopqrstuvwxyzABCDEFGHIJKLMNOPQRSTUVWXYZ") 1221)⟩, ⟨PyData.keyHash P (Str.ofString "digits"), (.str (Str.ofString "digits") 1224), (.str (Str.ofString "0123456789") 1223)⟩, ⟨PyData.keyHash P (Str.ofString "c"), (.str (Str.ofString "c") 1235), (.int (Int.ofNat v) t)⟩].toArray 17, [].toArray⟩
def cLB : Code := match dAt 8 with | .For t _ b e _ => .forLoop t (.ref 25) b e envT | _ => default
def o25MB (k : Nat) : Obj := ⟨(.type "bytes_iterator"), none, .fields [(.bytes (bsB.map UInt8.ofNat).toArray 1233), (.int (Int.ofNat k) 0)].toArray, [].toArray⟩
def o22MB (k : Nat) : Obj := ⟨(.type "list"), none, .seq (setsOf (bsB.take k) 1236 big17A).toArray 0, [].toArray⟩
def sMB (P : Params) (k : Nat) : BT := (.node (boot_o_0 P) (.node (boot_o_1 P) (.node (o3MB P (bsB.getD (k - 1) 0) (1231 + 3 * k)) (.node (boot_o_7 P) (.node (o15A P) .nil .nil) (.node (o23B P) .nil .nil)) (.node (o11P P) (.node (o19A P) .nil .nil) .nil)) (.node (boot_o_5 P) (.node (boot_o_9 P) (.node (o17A P) .nil .nil) (.node (o25MB k) .nil .nil)) (.node (o13P P) (.node (o21B P) .nil .nil) .nil))) (.node (boot_o_2 P) (.node (boot_o_4 P) (.node (boot_o_8 P) (.node (o16A P) .nil .nil) (.node (o24B P) .nil .nil)) (.node (o12P P) (.node (o20A P) .nil .nil) .nil)) (.node (boot_o_6 P) (.node (boot_o_10 P) (.node (o18A P) .nil .nil) .nil) (.node (o14P P) (.node (o22MB k) .nil .nil) .nil))))
abbrev stMB (k : Nat) (P : Params) (os : OsState) : SharedT := stT (sMB P k) 26 (1234 + 3 * k) os
def frB (w : World) (os : OsState) : Frame := match segGoT treeTable PySem.Challenge.pw_oc0066_01 (w.withFollow "special-get-raises" true) 11 (some (.ref 6)) 1 89 (stT (sG w.params) 25 1227 os) (piecesOf stB1 envT cT ⟨8, 0, 8, 8⟩ [topFrame p0]) with
  | some (_, ⟨_, _, _, f :: _⟩) => f
  | _ => topFrame p0
def thB (w : World) (os : OsState) : Thread := ⟨denote treeTable cLB, cLB, ⟨10, 4, 10, 25⟩, [frB w os, topFrame p0]⟩
def preB (n : Nat) (w : World) (os : OsState) := segGoT treeTable PySem.Challenge.pw_oc0066_01 w 11 (some (.ref 6)) 1 n (stT (sG w.params) 25 1227 os) (piecesOf stB1 envT cT ⟨8, 0, 8, 8⟩ [topFrame p0])
def chB (k n : Nat) (w : World) (os : OsState) := segGoT treeTable PySem.Challenge.pw_oc0066_01 w 11 (some (.ref 6)) 1 n (stMB k w.params os) (thB w os)
def atB (k : Nat) (w : World) (os : OsState) : Option (SharedT × Thread) := some (stMB k w.params os, thB w os)
def lastB (w : World) (os : OsState) := segRunT treeTable PySem.Challenge.pw_oc0066_01 w 11 (some (.ref 6)) 1 42 (stMB 67 w.params os) (thB w os)
theorem ePreB : preB = preB := rfl
theorem eChB : chB = chB := rfl
theorem eAtB : atB = atB := rfl
theorem eLastB : lastB = lastB := rfl
end
end Mine
name_quick hRunG for Mine.runG by Mine.eRunG
name_quick hEndG for Mine.endG by Mine.eEndG
name_quick hPreB for Mine.preB by Mine.ePreB
name_quick hChB for Mine.chB by Mine.eChB
name_quick hAtB for Mine.atB by Mine.eAtB
name_quick hLastB for Mine.lastB by Mine.eLastB
namespace Mine
theorem preB0 (w : World) : Fast.hPreB 89 (w.withFollow "special-get-raises" false) = Fast.hAtB 1 (w.withFollow "special-get-raises" false) := by kernel_rfl
theorem preB1 (w : World) : Fast.hPreB 89 (w.withFollow "special-get-raises" true) = Fast.hAtB 1 (w.withFollow "special-get-raises" true) := by kernel_rfl
theorem turnB1 (w : World) : Fast.hChB 1 495 w = Fast.hAtB 12 w := by kernel_rfl
theorem turnB12 (w : World) : Fast.hChB 12 495 w = Fast.hAtB 23 w := by kernel_rfl
theorem turnB23 (w : World) : Fast.hChB 23 495 w = Fast.hAtB 34 w := by kernel_rfl
theorem turnB34 (w : World) : Fast.hChB 34 495 w = Fast.hAtB 45 w := by kernel_rfl
theorem turnB45 (w : World) : Fast.hChB 45 495 w = Fast.hAtB 56 w := by kernel_rfl
theorem turnB56 (w : World) : Fast.hChB 56 495 w = Fast.hAtB 67 w := by kernel_rfl
theorem endBq (w : World) : Fast.hLastB w = Fast.hEndB w := by kernel_rfl
abbrev QB : World → Prop := (fun w : World => ∀ (os : OsState) (N : Nat) r, segRun treeTable PySem.Challenge.pw_oc0066_01 w 11 (some (.ref 6)) 1 N (stMB 1 w.params os).abs (thB w os) = some r → segRun treeTable PySem.Challenge.pw_oc0066_01 w 11 (some (.ref 6)) 1 (89 + N) (stT (sG w.params) 25 1227 os).abs (piecesOf stB1 envT cT ⟨8, 0, 8, 8⟩ [topFrame p0]) = some r)
theorem qB0 (w : World) : QB (w.withFollow "special-get-raises" false) := fun os N r h => by
  have g := segGo_of (congrFun (show preB 89 (w.withFollow "special-get-raises" false) = atB 1 (w.withFollow "special-get-raises" false) by rw [Fast.hPreB_eq, Fast.hAtB_eq]; exact preB0 w) os)
  exact seg_go g h
theorem qB1 (w : World) : QB (w.withFollow "special-get-raises" true) := fun os N r h => by
  have g := segGo_of (congrFun (show preB 89 (w.withFollow "special-get-raises" true) = atB 1 (w.withFollow "special-get-raises" true) by rw [Fast.hPreB_eq, Fast.hAtB_eq]; exact preB1 w) os)
  exact seg_go g h
theorem preB_all : ∀ w : World, QB w := byRow2 "special-get-raises" (P := QB) qB0 qB1
theorem goB {w : World} {os : OsState} {k j n N : Nat} {r} (h : Fast.hChB k n w = Fast.hAtB j w) (q : segRun treeTable PySem.Challenge.pw_oc0066_01 w 11 (some (.ref 6)) 1 N (stMB j w.params os).abs (thB w os) = some r) : segRun treeTable PySem.Challenge.pw_oc0066_01 w 11 (some (.ref 6)) 1 (n + N) (stMB k w.params os).abs (thB w os) = some r :=
  seg_go (segGo_of (congrFun (show chB k n w = atB j w by rw [Fast.hChB_eq, Fast.hAtB_eq]; exact h) os)) q
theorem sgB (w : World) (os : OsState) : segRun treeTable PySem.Challenge.pw_oc0066_01 w 11 (some (.ref 6)) 1 3101 (stT (sG w.params) 25 1227 os).abs (piecesOf  stB1 envT cT ⟨8, 0, 8, 8⟩ [topFrame p0]) = some (.next, (stT (sB w.params) 28 1438 os).abs, cT, ⟨11, 0, 11, 28⟩) := by
  rw [show 3101 = 89 + (495 + (495 + (495 + (495 + (495 + (495 + (42))))))) from rfl]
  refine preB_all w os _ _ ?_
  refine goB (turnB1 w) ?_
  refine goB (turnB12 w) ?_
  refine goB (turnB23 w) ?_
  refine goB (turnB34 w) ?_
  refine goB (turnB45 w) ?_
  refine goB (turnB56 w) ?_
  exact segRun_of (congrFun (show lastB w = endB w by rw [Fast.hLastB_eq, Fast.hEndB_eq]; exact endBq w) os)
theorem qG (w : World) : Fast.hRunG w = Fast.hEndG w := by kernel_rfl
theorem sgG (w : World) (os : OsState) : segRun treeTable PySem.Challenge.pw_oc0066_01 w 11 (some (.ref 6)) 1 109 (stT (sA w.params) 21 1215 os).abs (piecesOf stB0 envT cT ⟨1, 0, 1, 11⟩ [topFrame p0]) = some (.next, (stT (sG w.params) 25 1227 os).abs, cT, ⟨8, 0, 8, 8⟩) :=
  segRun_of (congrFun (show runG w = endG w by rw [Fast.hRunG_eq, Fast.hEndG_eq]; exact qG w) os)
end Mine

end
section
open PySem PySem.W PyProof.Rows
set_option maxRecDepth 100000
set_option maxHeartbeats 0
namespace Mine
noncomputable section
def bsC : List Nat := [32, 33, 34, 35, 36, 37, 38, 39, 40, 41, 42, 43, 44, 45, 46, 47, 48, 49, 50, 51, 52, 53, 54, 55, 56, 57, 58, 59, 60, 62, 63, 64, 65, 66, 67, 68, 69, 70, 71, 72, 73, 74, 75, 76, 77, 78, 79, 80, 81, 82, 83, 84, 85, 86, 87, 88, 89, 90, 91, 92, 93, 94, 95, 96, 97, 98, 99, 100, 101, 102, 103, 104, 105, 106, 107, 108, 109, 110, 111, 112, 113, 114, 115, 116, 117, 118, 119, 120, 121, 122, 123, 124, 125, 126, 9]
def o3MC (P : Params) (v t : Nat) : Obj := ⟨(.type "dict"), none, .dict [⟨PyData.keyHash P (Str.ofString "__name__"), (.str (Str.ofString "__name__") 165), (.str (Str.ofString "cpy313.email.quoprimime") 1225)⟩, ⟨PyData.keyHash P (Str.ofString "__doc__"), (.str (Str.ofString "__doc__") 166), .none⟩, ⟨PyData.keyHash P (Str.ofString "__package__"), (.str (Str.ofString "__package__") 167), .none⟩, ⟨PyData.keyHash P (Str.ofString "__loader__"), (.str (Str.ofString "__loader__") 168), (.builtin "__main__.__loader__#opaque")⟩, ⟨PyData.keyHash P (Str.ofString "__spec__"), (.str (Str.ofString "__spec__") 169), .none⟩, ⟨PyData.keyHash P (Str.ofString "__annotations__"), (.str (Str.ofString "__annotations__") 170), (.ref 6)⟩, ⟨PyData.keyHash P (Str.ofString "__builtins__"), (.str (Str.ofString "__builtins__") 171), (.ref 4)⟩, ⟨PyData.keyHash P (Str.ofString "__file__"), (.str (Str.ofString "__file__") 173), (.str (Str.ofString "/claim/cut.py") 172)⟩, ⟨PyData.keyHash P (Str.ofString "__cached__"), (.str (Str.ofString "__cached__") 174), .none⟩, ⟨PyData.keyHash P (Str.ofString "_QUOPRI_MAP"), (.str (Str.ofString "_QUOPRI_MAP") 1214), (.ref 17)⟩, ⟨PyData.keyHash P (Str.ofString "_QUOPRI_HEADER_MAP"), (.str (Str.ofString "_QUOPRI_HEADER_MAP") 1215), (.ref 22)⟩, ⟨PyData.keyHash P (Str.ofString "_QUOPRI_BODY_MAP"), (.str (Str.ofString "_QUOPRI_BODY_MAP") 1216), (.ref 24)⟩, ⟨PyData.keyHash P (Str.ofString "ascii_lowercase"), (.str (Str.ofString "ascii_lowercase") 1218), (.str (Str.ofString "abcdefghijklmnopqrstuvwxyz") 1217)⟩, ⟨PyData.keyHash P (Str.ofString "ascii_uppercase"), (.str (Str.ofString "ascii_uppercase") 1220), (.str (Str.ofString "ABCDEFGHIJKLMNOPQRSTUVWXYZ") 1219)⟩, ⟨PyData.keyHash P (Str.ofString "ascii_letters"), (.str (Str.ofString "ascii_letters") 1222), (.str (Str.ofString "abcdefghijklmnopqrstuvwxyzABCDEFGHIJKLMNOPQRSTUVWXYZ") 1221)⟩, ⟨PyData.keyHash P (Str.ofString "digits"), (.str (Str.ofString "digits") 1224), (.str (Str.ofString "0123456789") 1223)⟩, ⟨PyData.keyHash P (Str.ofString "c"), (.str (Str.ofString "c") 1235), (.int (Int.ofNat v) t)⟩].toArray 17, [].toArray⟩
def cLC : Code := match dAt 10 with | .For t _ b e _ => .forLoop t (.ref 28) b e envT | _ => default
def o28MC (k : Nat) : Obj := ⟨(.type "bytes_iterator"), none, .fields [(.bytes (bsC.map UInt8.ofNat).toArray 1438), (.int (Int.ofNat k) 0)].toArray, [].toArray⟩
def o24MC (k : Nat) : Obj := ⟨(.type "list"), none, .seq (setsOf (bsC.take k) 1441 big24B).toArray 0, [].toArray⟩
def sMC (P : Params) (k : Nat) : BT := (.node (boot_o_0 P) (.node (boot_o_1 P) (.node (o3MC P (bsC.getD (k - 1) 0) (1436 + 3 * k)) (.node (boot_o_7 P) (.node (o15A P) .nil .nil) (.node (o23B P) .nil .nil)) (.node (o11P P) (.node (o19A P) .nil .nil) (.node (o27B P) .nil .nil))) (.node (boot_o_5 P) (.node (boot_o_9 P) (.node (o17A P) .nil .nil) (.node (o25B P) .nil .nil)) (.node (o13P P) (.node (o21B P) .nil .nil) .nil))) (.node (boot_o_2 P) (.node (boot_o_4 P) (.node (boot_o_8 P) (.node (o16A P) .nil .nil) (.node (o24MC k) .nil .nil)) (.node (o12P P) (.node (o20A P) .nil .nil) (.node (o28MC k) .nil .nil))) (.node (boot_o_6 P) (.node (boot_o_10 P) (.node (o18A P) .nil .nil) (.node (o26B P) .nil .nil)) (.node (o14P P) (.node (o22B P) .nil .nil) .nil))))
abbrev stMC (k : Nat) (P : Params) (os : OsState) : SharedT := stT (sMC P k) 29 (1439 + 3 * k) os
def frC (w : World) (os : OsState) : Frame := match segGoT treeTable PySem.Challenge.pw_oc0066_01 (w.withFollow "special-get-raises" true) 11 (some (.ref 6)) 1 55 (stT (sB w.params) 28 1438 os) (piecesOf stC envT cT ⟨11, 0, 11, 28⟩ [topFrame p0]) with
  | some (_, ⟨_, _, _, f :: _⟩) => f
  | _ => topFrame p0
def thC (w : World) (os : OsState) : Thread := ⟨denote treeTable cLC, cLC, ⟨13, 4, 13, 23⟩, [frC w os, topFrame p0]⟩
def preC (n : Nat) (w : World) (os : OsState) := segGoT treeTable PySem.Challenge.pw_oc0066_01 w 11 (some (.ref 6)) 1 n (stT (sB w.params) 28 1438 os) (piecesOf stC envT cT ⟨11, 0, 11, 28⟩ [topFrame p0])
def chC (k n : Nat) (w : World) (os : OsState) := segGoT treeTable PySem.Challenge.pw_oc0066_01 w 11 (some (.ref 6)) 1 n (stMC k w.params os) (thC w os)
def atC (k : Nat) (w : World) (os : OsState) : Option (SharedT × Thread) := some (stMC k w.params os, thC w os)
def lastC (w : World) (os : OsState) := segRunT treeTable PySem.Challenge.pw_oc0066_01 w 11 (some (.ref 6)) 1 18 (stMC 95 w.params os) (thC w os)
theorem ePreC : preC = preC := rfl
theorem eChC : chC = chC := rfl
theorem eAtC : atC = atC := rfl
theorem eLastC : lastC = lastC := rfl
end
end Mine
name_quick hPreC for Mine.preC by Mine.ePreC
name_quick hChC for Mine.chC by Mine.eChC
name_quick hAtC for Mine.atC by Mine.eAtC
name_quick hLastC for Mine.lastC by Mine.eLastC
namespace Mine
theorem preC0 (w : World) : Fast.hPreC 55 (w.withFollow "special-get-raises" false) = Fast.hAtC 1 (w.withFollow "special-get-raises" false) := by kernel_rfl
theorem preC1 (w : World) : Fast.hPreC 55 (w.withFollow "special-get-raises" true) = Fast.hAtC 1 (w.withFollow "special-get-raises" true) := by kernel_rfl
theorem turnC1 (w : World) : Fast.hChC 1 540 w = Fast.hAtC 13 w := by kernel_rfl
theorem turnC13 (w : World) : Fast.hChC 13 540 w = Fast.hAtC 25 w := by kernel_rfl
theorem turnC25 (w : World) : Fast.hChC 25 540 w = Fast.hAtC 37 w := by kernel_rfl
theorem turnC37 (w : World) : Fast.hChC 37 540 w = Fast.hAtC 49 w := by kernel_rfl
theorem turnC49 (w : World) : Fast.hChC 49 540 w = Fast.hAtC 61 w := by kernel_rfl
theorem turnC61 (w : World) : Fast.hChC 61 540 w = Fast.hAtC 73 w := by kernel_rfl
theorem turnC73 (w : World) : Fast.hChC 73 540 w = Fast.hAtC 85 w := by kernel_rfl
theorem turnC85 (w : World) : Fast.hChC 85 450 w = Fast.hAtC 95 w := by kernel_rfl
theorem endCq (w : World) : Fast.hLastC w = Fast.hEndC w := by kernel_rfl
abbrev QC : World → Prop := (fun w : World => ∀ (os : OsState) (N : Nat) r, segRun treeTable PySem.Challenge.pw_oc0066_01 w 11 (some (.ref 6)) 1 N (stMC 1 w.params os).abs (thC w os) = some r → segRun treeTable PySem.Challenge.pw_oc0066_01 w 11 (some (.ref 6)) 1 (55 + N) (stT (sB w.params) 28 1438 os).abs (piecesOf stC envT cT ⟨11, 0, 11, 28⟩ [topFrame p0]) = some r)
theorem qC0 (w : World) : QC (w.withFollow "special-get-raises" false) := fun os N r h => by
  have g := segGo_of (congrFun (show preC 55 (w.withFollow "special-get-raises" false) = atC 1 (w.withFollow "special-get-raises" false) by rw [Fast.hPreC_eq, Fast.hAtC_eq]; exact preC0 w) os)
  exact seg_go g h
theorem qC1 (w : World) : QC (w.withFollow "special-get-raises" true) := fun os N r h => by
  have g := segGo_of (congrFun (show preC 55 (w.withFollow "special-get-raises" true) = atC 1 (w.withFollow "special-get-raises" true) by rw [Fast.hPreC_eq, Fast.hAtC_eq]; exact preC1 w) os)
  exact seg_go g h
theorem preC_all : ∀ w : World, QC w := byRow2 "special-get-raises" (P := QC) qC0 qC1
theorem goC {w : World} {os : OsState} {k j n N : Nat} {r} (h : Fast.hChC k n w = Fast.hAtC j w) (q : segRun treeTable PySem.Challenge.pw_oc0066_01 w 11 (some (.ref 6)) 1 N (stMC j w.params os).abs (thC w os) = some r) : segRun treeTable PySem.Challenge.pw_oc0066_01 w 11 (some (.ref 6)) 1 (n + N) (stMC k w.params os).abs (thC w os) = some r :=
  seg_go (segGo_of (congrFun (show chC k n w = atC j w by rw [Fast.hChC_eq, Fast.hAtC_eq]; exact h) os)) q
theorem sgC (w : World) (os : OsState) : segRun treeTable PySem.Challenge.pw_oc0066_01 w 11 (some (.ref 6)) 1 4303 (stT (sB w.params) 28 1438 os).abs (piecesOf  stC envT cT ⟨11, 0, 11, 28⟩ [topFrame p0]) = some (.next, (stT (sC w.params) 31 1724 os).abs, cT, ⟨12, 9, 12, 110⟩) := by
  rw [show 4303 = 55 + (540 + (540 + (540 + (540 + (540 + (540 + (540 + (450 + (18))))))))) from rfl]
  refine preC_all w os _ _ ?_
  refine goC (turnC1 w) ?_
  refine goC (turnC13 w) ?_
  refine goC (turnC25 w) ?_
  refine goC (turnC37 w) ?_
  refine goC (turnC49 w) ?_
  refine goC (turnC61 w) ?_
  refine goC (turnC73 w) ?_
  refine goC (turnC85 w) ?_
  exact segRun_of (congrFun (show lastC w = endC w by rw [Fast.hLastC_eq, Fast.hEndC_eq]; exact endCq w) os)
end Mine

end
section
open PySem PySem.W PyProof.Rows
set_option maxRecDepth 100000
set_option maxHeartbeats 0
namespace Mine
noncomputable section
def stD1 : List Stmt := (bodyT.drop 11).take 3
def stD2 : List Stmt := bodyT.drop 14
def o12D : Obj := ⟨.none, none, .fields [(.int 14 0), (.int 0 0), (.ref 37)].toArray, [].toArray⟩
def o3D (P : Params) : Obj := ⟨(.type "dict"), none, .dict [⟨PyData.keyHash P (Str.ofString "__name__"), (.str (Str.ofString "__name__") 165), (.str (Str.ofString "cpy313.email.quoprimime") 1225)⟩, ⟨PyData.keyHash P (Str.ofString "__doc__"), (.str (Str.ofString "__doc__") 166), .none⟩, ⟨PyData.keyHash P (Str.ofString "__package__"), (.str (Str.ofString "__package__") 167), .none⟩, ⟨PyData.keyHash P (Str.ofString "__loader__"), (.str (Str.ofString "__loader__") 168), (.builtin "__main__.__loader__#opaque")⟩, ⟨PyData.keyHash P (Str.ofString "__spec__"), (.str (Str.ofString "__spec__") 169), .none⟩, ⟨PyData.keyHash P (Str.ofString "__annotations__"), (.str (Str.ofString "__annotations__") 170), (.ref 6)⟩, ⟨PyData.keyHash P (Str.ofString "__builtins__"), (.str (Str.ofString "__builtins__") 171), (.ref 4)⟩, ⟨PyData.keyHash P (Str.ofString "__file__"), (.str (Str.ofString "__file__") 173), (.str (Str.ofString "/claim/cut.py") 172)⟩, ⟨PyData.keyHash P (Str.ofString "__cached__"), (.str (Str.ofString "__cached__") 174), .none⟩, ⟨PyData.keyHash P (Str.ofString "_QUOPRI_MAP"), (.str (Str.ofString "_QUOPRI_MAP") 1214), (.ref 17)⟩, ⟨PyData.keyHash P (Str.ofString "_QUOPRI_HEADER_MAP"), (.str (Str.ofString "_QUOPRI_HEADER_MAP") 1215), (.ref 22)⟩, ⟨PyData.keyHash P (Str.ofString "_QUOPRI_BODY_MAP"), (.str (Str.ofString "_QUOPRI_BODY_MAP") 1216), (.ref 24)⟩, ⟨PyData.keyHash P (Str.ofString "ascii_lowercase"), (.str (Str.ofString "ascii_lowercase") 1218), (.str (Str.ofString "abcdefghijklmnopqrstuvwxyz") 1217)⟩, ⟨PyData.keyHash P (Str.ofString "ascii_uppercase"), (.str (Str.ofString "ascii_uppercase") 1220), (.str (Str.ofString "ABCDEFGHIJKLMNOPQRSTUVWXYZ") 1219)⟩, ⟨PyData.keyHash P (Str.ofString "ascii_letters"), (.str (Str.ofString "ascii_letters") 1222), (.str (Str.ofString "abcdefghijklmnopqrstuvwxyzABCDEFGHIJKLMNOPQRSTUVWXYZ") 1221)⟩, ⟨PyData.keyHash P (Str.ofString "digits"), (.str (Str.ofString "digits") 1224), (.str (Str.ofString "0123456789") 1223)⟩, ⟨PyData.keyHash P (Str.ofString "c"), (.str (Str.ofString "c") 1235), (.int 10 1739)⟩, ⟨PyData.keyHash P (Str.ofString "header_encode"), (.str (Str.ofString "header_encode") 1733), (.ref 38)⟩, ⟨PyData.keyHash P (Str.ofString "_QUOPRI_BODY_ENCODE_MAP"), (.str (Str.ofString "_QUOPRI_BODY_ENCODE_MAP") 1734), (.ref 40)⟩].toArray 19, [].toArray⟩
def sD (P : Params) : BT := (.node (boot_o_0 P) (.node (boot_o_1 P) (.node (o3D P) (.node (boot_o_7 P) (.node (o15A P) (.node (o31F P) .nil .nil) .nil) (.node (o23B P) (.node (o39F P) .nil .nil) .nil)) (.node (o11P P) (.node (o19A P) (.node (o35F P) .nil .nil) .nil) (.node (o27B P) (.node (o43F P) .nil .nil) .nil))) (.node (boot_o_5 P) (.node (boot_o_9 P) (.node (o17A P) (.node (o33F P) .nil .nil) .nil) (.node (o25B P) (.node (o41F P) .nil .nil) .nil)) (.node (o13P P) (.node (o21B P) (.node (o37F P) .nil .nil) .nil) (.node (o29C P) .nil .nil)))) (.node (boot_o_2 P) (.node (boot_o_4 P) (.node (boot_o_8 P) (.node (o16A P) (.node (o32F P) .nil .nil) .nil) (.node (o24C P) (.node (o40F P) .nil .nil) .nil)) (.node (o12D) (.node (o20A P) (.node (o36F P) .nil .nil) .nil) (.node (o28C P) .nil .nil))) (.node (boot_o_6 P) (.node (boot_o_10 P) (.node (o18A P) (.node (o34F P) .nil .nil) .nil) (.node (o26B P) (.node (o42F P) .nil .nil) .nil)) (.node (o14P P) (.node (o22B P) (.node (o38F P) .nil .nil) .nil) (.node (o30C P) .nil .nil)))))
def runE (w : World) (os : OsState) := segRunT treeTable PySem.Challenge.pw_oc0066_01 w 11 (some (.ref 6)) 1 400 (stT (sC w.params) 31 1724 os) (piecesOf stD1 envT cT ⟨12, 9, 12, 110⟩ [topFrame p0])
abbrev endE (w : World) (os : OsState) : Option (Flow × SharedT × Code × Pos) := some (.next, stT (sD w.params) 44 1742 os, cT, ⟨20, 9, 20, 16⟩)
def runD (w : World) (os : OsState) := segRunT treeTable PySem.Challenge.pw_oc0066_01 w 11 (some (.ref 6)) 1 834 (stT (sD w.params) 44 1742 os) (piecesOf stD2 envT cT ⟨20, 9, 20, 16⟩ [topFrame p0])
theorem eRunE : runE = runE := rfl
theorem eEndE : endE = endE := rfl
theorem eRunD : runD = runD := rfl
end
end Mine
name_quick hRunE for Mine.runE by Mine.eRunE
name_quick hEndE for Mine.endE by Mine.eEndE
name_quick hRunD for Mine.runD by Mine.eRunD
namespace Mine
theorem qE0 (w : World) : Fast.hRunE (w.withFollow "special-get-raises" false) = Fast.hEndE (w.withFollow "special-get-raises" false) := by kernel_rfl
theorem qE1 (w : World) : Fast.hRunE (w.withFollow "special-get-raises" true) = Fast.hEndE (w.withFollow "special-get-raises" true) := by kernel_rfl
theorem qE (w : World) : Fast.hRunE w = Fast.hEndE w := byRow2 "special-get-raises" (P := fun w => Fast.hRunE w = Fast.hEndE w) qE0 qE1 w
theorem qD (w : World) : Fast.hRunD w = Fast.hEndD w := by kernel_rfl
theorem sgE (w : World) (os : OsState) : segRun treeTable PySem.Challenge.pw_oc0066_01 w 11 (some (.ref 6)) 1 400 (stT (sC w.params) 31 1724 os).abs (piecesOf stD1 envT cT ⟨12, 9, 12, 110⟩ [topFrame p0]) = some (.next, (stT (sD w.params) 44 1742 os).abs, cT, ⟨20, 9, 20, 16⟩) :=
  segRun_of (congrFun (show runE w = endE w by rw [Fast.hRunE_eq, Fast.hEndE_eq]; exact qE w) os)
theorem sgD (w : World) (os : OsState) : segRun treeTable PySem.Challenge.pw_oc0066_01 w 11 (some (.ref 6)) 1 834 (stT (sD w.params) 44 1742 os).abs (piecesOf stD2 envT cT ⟨20, 9, 20, 16⟩ [topFrame p0]) = some (.next, (stT (sF w.params) 139 1891 os).abs, cT, ⟨98, 0, 117, 104⟩) :=
  segRun_of (congrFun (show runD w = endD w by rw [Fast.hRunD_eq, Fast.hEndD_eq]; exact qD w) os)
end Mine

end
section
open PySem PySem.W PyProof.Rows
set_option maxRecDepth 100000
set_option maxHeartbeats 0
namespace Mine
noncomputable section
def opn1 (w : World) := importEnds treeTable (opening PySem.Challenge.pw_oc0066_01) w 600 (start (opening PySem.Challenge.pw_oc0066_01)).1 (start (opening PySem.Challenge.pw_oc0066_01)).2
abbrev opn2 (w : World) : Option Shared := some ⟨boot_heap w.params, #[], boot_drawn, boot_toks, (start (opening PySem.Challenge.pw_oc0066_01)).1.os⟩
theorem eOpn1 : opn1 = opn1 := rfl
theorem eOpn2 : opn2 = opn2 := rfl
end
end Mine
name_quick hOpn1 for Mine.opn1 by Mine.eOpn1
name_quick hOpn2 for Mine.opn2 by Mine.eOpn2
namespace Mine
theorem qOpn (w : World) : Fast.hOpn1 w = Fast.hOpn2 w := by kernel_rfl
theorem qFence (w : World) : (fun os => (fenceModules? PySem.Challenge.pw_oc0066_01 ⟨boot_heap w.params, #[], boot_drawn, boot_toks, os⟩).map (fun s => (s.heap, s.gens, s.drawn, s.toks))) = fun _ => some (boot_heap w.params, #[], boot_drawn, boot_toks) := by kernel_rfl
end Mine

end
section
open PySem PySem.W PyProof.Rows
set_option maxRecDepth 100000
set_option maxHeartbeats 0
namespace Mine
noncomputable section
def KK : Params → Frag := fun P => (nat_lit 3, o3F P) :: (nat_lit 22, o22B P) :: (nat_lit 31, o31F P) :: (nat_lit 37, o37F P) :: (nat_lit 38, o38F P) :: (nat_lit 49, o49F P) :: (nat_lit 50, o50F P) :: (nat_lit 56, o56F P) :: (nat_lit 57, o57F P) :: (nat_lit 63, o63F P) :: (nat_lit 64, o64F P) :: (nat_lit 65, o65F P) :: (nat_lit 66, o66F P) :: (nat_lit 67, o67F P) :: (nat_lit 68, o68F P) :: (nat_lit 69, o69F P) :: (nat_lit 70, o70F P) :: (nat_lit 71, o71F P) :: (nat_lit 72, o72F P) :: (nat_lit 73, o73F P) :: (nat_lit 74, o74F P) :: (nat_lit 75, o75F P) :: (nat_lit 76, o76F P) :: (nat_lit 77, o77F P) :: (nat_lit 78, o78F P) :: (nat_lit 79, o79F P) :: (nat_lit 80, o80F P) :: (nat_lit 81, o81F P) :: (nat_lit 82, o82F P) :: (nat_lit 83, o83F P) :: (nat_lit 84, o84F P) :: (nat_lit 85, o85F P) :: (nat_lit 86, o86F P) :: (nat_lit 87, o87F P) :: (nat_lit 88, o88F P) :: (nat_lit 89, o89F P) :: (nat_lit 90, o90F P) :: (nat_lit 91, o91F P) :: (nat_lit 92, o92F P) :: (nat_lit 93, o93F P) :: (nat_lit 94, o94F P) :: (nat_lit 95, o95F P) :: (nat_lit 96, o96F P) :: (nat_lit 97, o97F P) :: (nat_lit 103, o103F P) :: (nat_lit 104, o104F P) :: (nat_lit 110, o110F P) :: (nat_lit 111, o111F P) :: (nat_lit 117, o117F P) :: (nat_lit 118, o118F P) :: (nat_lit 122, o122F P) :: (nat_lit 123, o123F P) :: (nat_lit 127, o127F P) :: (nat_lit 128, o128F P) :: (nat_lit 132, o132F P) :: (nat_lit 133, o133F P) :: (nat_lit 137, o137F P) :: (nat_lit 138, o138F P) :: []
def KA : List Addr := [nat_lit 3, nat_lit 22, nat_lit 31, nat_lit 37, nat_lit 38, nat_lit 49, nat_lit 50, nat_lit 56, nat_lit 57, nat_lit 63, nat_lit 64, nat_lit 65, nat_lit 66, nat_lit 67, nat_lit 68, nat_lit 69, nat_lit 70, nat_lit 71, nat_lit 72, nat_lit 73, nat_lit 74, nat_lit 75, nat_lit 76, nat_lit 77, nat_lit 78, nat_lit 79, nat_lit 80, nat_lit 81, nat_lit 82, nat_lit 83, nat_lit 84, nat_lit 85, nat_lit 86, nat_lit 87, nat_lit 88, nat_lit 89, nat_lit 90, nat_lit 91, nat_lit 92, nat_lit 93, nat_lit 94, nat_lit 95, nat_lit 96, nat_lit 97, nat_lit 103, nat_lit 104, nat_lit 110, nat_lit 111, nat_lit 117, nat_lit 118, nat_lit 122, nat_lit 123, nat_lit 127, nat_lit 128, nat_lit 132, nat_lit 133, nat_lit 137, nat_lit 138]
def looseV : List Str := [Str.ofString "_QUOPRI_MAP", Str.ofString "_QUOPRI_HEADER_MAP", Str.ofString "_QUOPRI_BODY_MAP", Str.ofString "ascii_lowercase", Str.ofString "ascii_uppercase", Str.ofString "ascii_letters", Str.ofString "digits", Str.ofString "header_encode", Str.ofString "_QUOPRI_BODY_ENCODE_MAP", Str.ofString "unorderable_list_difference", Str.ofString "three_way_cmp", Str.ofString "S_IFMT", Str.ofString "S_IFDIR", Str.ofString "S_IFCHR", Str.ofString "S_IFBLK", Str.ofString "S_IFREG", Str.ofString "S_IFIFO", Str.ofString "S_IFLNK", Str.ofString "S_IFSOCK", Str.ofString "S_ISUID", Str.ofString "S_ISGID", Str.ofString "S_ISVTX", Str.ofString "S_IRUSR", Str.ofString "S_IWUSR", Str.ofString "S_IXUSR", Str.ofString "S_IRGRP", Str.ofString "S_IWGRP", Str.ofString "S_IXGRP", Str.ofString "S_IROTH", Str.ofString "S_IWOTH", Str.ofString "S_IXOTH", Str.ofString "_filemode_table", Str.ofString "filemode", Str.ofString "_law_by_signs", Str.ofString "_law_octet", Str.ofString "_law_scores", Str.ofString "_law_alike", Str.ofString "_law_squares"]
theorem ka_eq (P : Params) : KA = (KK P).map (·.1) := by kernel_rfl
abbrev hookV : Hook := kHook KK KA ka_eq
def qv : Program := { PySem.Challenge.pw_oc0066_01 with main := { PySem.Challenge.pw_oc0066_01.main with body := [dAt 47] } }
def H1 (P : Params) : Heap := absHeap (sF P) 139 {}
abbrev XtV (s : Shared) : Bool := xlAt qv [] s && recOk (RowW.records PySem.Challenge.rw_oc0066_01.row.toRowW) s
abbrev fin1 (w : World) (os : OsState) : Shared := ⟨H1 w.params, #[], boot_drawn, 1891, os⟩
def look1 (w : World) (os : OsState) : Bool := staticsOk (importedModules PySem.Challenge.pw_oc0066_01.main.body) (boot_heap w.params) (H1 w.params) && namesBound PySem.Challenge.pw_oc0066_01 (H1 w.params) && gensDone (fin1 w os) && laidKept (boot_heap w.params) (H1 w.params)
def look2 (w : World) (os : OsState) := openSeen qv looseV (importedModules PySem.Challenge.pw_oc0066_01.main.body) XtV true (fin1 w os)
def good2 := openGood qv looseV
def look3 (w : World) (os : OsState) : List (Option Obj) := KA.map (fin1 w os).heap.get?
def good3 (w : World) : List (Option Obj) := (KK w.params).map fun p => some p.2
theorem eLook1 : look1 = look1 := rfl
theorem eLook2 : look2 = look2 := rfl
theorem eLook3 : look3 = look3 := rfl
theorem eGood2 : good2 = good2 := rfl
theorem eGood3 : good3 = good3 := rfl
def pre1 (w : World) (os : OsState) := topGo treeTable PySem.Challenge.pw_oc0066_01 w 11 (some (.ref 6)) 12 ⟨boot_heap w.params, #[], boot_drawn, boot_toks, os⟩ (topStub PySem.Challenge.pw_oc0066_01)
abbrev pre2 (w : World) (os : OsState) : Option (Shared × Thread) := some ((stT (sP w.params) 15 187 os).abs, ⟨denote treeTable cT, cT, p0, [topFrame p0]⟩)
def blk1 (w : World) (os : OsState) := segRun treeTable PySem.Challenge.pw_oc0066_01 w 11 (some (.ref 6)) 1 1 (stT (sP w.params) 15 187 os).abs (blockOf bodyT envT cT p0 [topFrame p0])
abbrev blk2 (w : World) (os : OsState) : Option (Flow × Shared × Code × Pos) := some (.next, (stT (sP w.params) 15 187 os).abs, cT, p0)
def end1 (w : World) (os : OsState) := topRun treeTable PySem.Challenge.pw_oc0066_01 w 11 (some (.ref 6)) 2 (stT (sF w.params) 139 1891 os).abs ⟨doneF .next, cT, ⟨98, 0, 117, 104⟩, [topFrame p0]⟩
abbrev end2 (w : World) (os : OsState) : Option Shared := some (fin1 w os)
theorem ePre1 : pre1 = pre1 := rfl
theorem ePre2 : pre2 = pre2 := rfl
theorem eBlk1 : blk1 = blk1 := rfl
theorem eBlk2 : blk2 = blk2 := rfl
theorem eEnd1 : end1 = end1 := rfl
theorem eEnd2 : end2 = end2 := rfl
end
end Mine
name_quick hLook1 for Mine.look1 by Mine.eLook1
name_quick hLook2 for Mine.look2 by Mine.eLook2
name_quick hLook3 for Mine.look3 by Mine.eLook3
name_quick hGood2 for Mine.good2 by Mine.eGood2
name_quick hGood3 for Mine.good3 by Mine.eGood3
name_quick hPre1 for Mine.pre1 by Mine.ePre1
name_quick hPre2 for Mine.pre2 by Mine.ePre2
name_quick hBlk1 for Mine.blk1 by Mine.eBlk1
name_quick hBlk2 for Mine.blk2 by Mine.eBlk2
name_quick hEnd1 for Mine.end1 by Mine.eEnd1
name_quick hEnd2 for Mine.end2 by Mine.eEnd2
namespace Mine
theorem qPre (w : World) : Fast.hPre1 w = Fast.hPre2 w := by kernel_rfl
theorem qBlk (w : World) : Fast.hBlk1 w = Fast.hBlk2 w := by kernel_rfl
theorem qEnd (w : World) : Fast.hEnd1 w = Fast.hEnd2 w := by kernel_rfl
theorem qLook1 (w : World) : Fast.hLook1 w = fun _ => true := by kernel_rfl
theorem qLook3 (w : World) : Fast.hLook3 w = fun _ => Fast.hGood3 w := by kernel_rfl
theorem qLook2 (w : World) : Fast.hLook2 w = fun _ => Fast.hGood2 := by kernel_rfl
theorem qSize (w : World) : ((boot_heap w.params).isNs mainGlobals && (#[] : Array GenState).size == 0, (boot_heap w.params).objs.size, (boot_heap w.params).nsMap mainGlobals "__annotations__") = (true, 11, some (Value.ref 6)) := by kernel_rfl
end Mine

end
section
open PySem PySem.W PyProof.Rows
set_option maxRecDepth 100000
set_option maxHeartbeats 0
namespace Mine
theorem pPre (w : World) : pre1 w = pre2 w := by rw [Fast.hPre1_eq, Fast.hPre2_eq]; exact qPre w
theorem pBlk (w : World) : blk1 w = blk2 w := by rw [Fast.hBlk1_eq, Fast.hBlk2_eq]; exact qBlk w
theorem pEnd (w : World) : end1 w = end2 w := by rw [Fast.hEnd1_eq, Fast.hEnd2_eq]; exact qEnd w
theorem pLook1 (w : World) : look1 w = fun _ => true := by rw [Fast.hLook1_eq]; exact qLook1 w
theorem pLook2 (w : World) : look2 w = fun _ => good2 := by rw [Fast.hLook2_eq, Fast.hGood2_eq]; exact qLook2 w
theorem pLook3 (w : World) : look3 w = fun _ => good3 w := by rw [Fast.hLook3_eq, Fast.hGood3_eq]; exact qLook3 w
theorem body_cut : bodyT = stA ++ (stB0 ++ (stB1 ++ (stC ++ (stD1 ++ (stD2 ++ []))))) := by
  unfold stA stB0 stB1 stC stD1 stD2
  rw [List.append_nil, show bodyT.drop 14 = (bodyT.drop 11).drop 3 by rw [List.drop_drop], List.take_append_drop, show bodyT.drop 11 = (bodyT.drop 10).drop 1 by rw [List.drop_drop], List.take_append_drop, show bodyT.drop 10 = (bodyT.drop 8).drop 2 by rw [List.drop_drop], List.take_append_drop,
    show bodyT.drop 8 = (bodyT.drop 1).drop 7 by rw [List.drop_drop], List.take_append_drop, List.take_append_drop]
theorem run_all (w : World) (os : OsState) : topRun treeTable PySem.Challenge.pw_oc0066_01 w 11 (some (.ref 6)) (12 + (1 + (9552 + (109 + (3101 + (4303 + (400 + (834 + 2)))))))) ⟨boot_heap w.params, #[], boot_drawn, boot_toks, os⟩ (topStub PySem.Challenge.pw_oc0066_01) = some (fin1 w os) := by
  refine go_top (congrFun (pPre w) os) (piece_block (congrFun (pBlk w) os) ?_)
  show topRun treeTable _ w 11 _ _ _ (restOf bodyT envT cT p0 [topFrame p0]) = _
  rw [body_cut]
  refine piece_app (sgA w os) ?_
  refine piece_app (sgG w os) ?_
  refine piece_app (sgB w os) ?_
  refine piece_app (sgC w os) ?_
  refine piece_app (sgE w os) ?_
  refine piece_app (sgD w os) ?_
  exact piece_nil (congrFun (pEnd w) os)
theorem pOpn (w : World) : opn1 w = opn2 w := by rw [Fast.hOpn1_eq, Fast.hOpn2_eq]; exact qOpn w
theorem open1 : ∀ w : World, (fencedOpening treeTable PySem.Challenge.pw_oc0066_01 w 36000).map (fun s => (s.heap, s.gens, s.drawn, s.toks)) = some (boot_heap w.params, #[], boot_drawn, boot_toks) :=
  open_cut (He := boot_heap) (ge := #[]) (de := boot_drawn) (ke := boot_toks) (M := 600) pOpn (by decide) qFence
theorem left : LeftO PySem.Challenge.pw_oc0066_01 qv looseV XtV (Hook.obs hookV) (Hook.val hookV) 36000 :=
  LeftO.of_pieces (H₀ := boot_heap) (H₁ := H1) (gs₀ := #[]) (gs₁ := #[]) (d₀ := boot_drawn) (d₁ := boot_drawn) (k₀ := boot_toks) (k₁ := 1891) (m₀ := 11) (ann := some (.ref 6)) (M := 12 + (1 + (9552 + (109 + (3101 + (4303 + (400 + (834 + 2))))))))
    open1 qSize run_all (by decide) (fun w => by
      funext os
      show (look1 w os, look2 w os, look3 w os) = (true, good2, good3 w)
      rw [congrFun (pLook1 w) os, congrFun (pLook2 w) os, congrFun (pLook3 w) os])
abbrev lawRec : DefRec := ((defOf qv (Str.ofString "law")).get (by rfl)).1
theorem top_walk (walk : WalkO qv looseV (XL qv []) hookV.says PySem.Challenge.rw_oc0066_01.row.toRowW lawRec [] fun f vs => PySem.call f vs) : PySem.Challenge.rw_oc0066_01.Holds := by
  w_on; o_law
  refine holds_open (q := qv) (loose := looseV) (Xt := XtV) (XP := XL qv []) (Yf := Hook.obs hookV) (Ya := Hook.val hookV) (YP := Hook.says hookV) (N := 36000) left (Hook.of hookV) (Hook.keeps hookV) (fun s e => xl_of s (Bool.and_eq_true_iff.mp e).1) XL.keeps (by rfl) (by rfl) (by rfl) (fun s e => recFacts_of (Bool.and_eq_true_iff.mp e).2) (by rfl) (by first | assumption | decide +kernel) (by decide +kernel) ⟨rfl, rfl, rfl, rfl, rfl, by decide +kernel⟩ ?hw ?hc
  case hw => w_witness2
  exact walk
end Mine

end
section
open PySem PySem.W PyProof.Rows PySem.Calls
set_option maxRecDepth 100000
namespace Mine
abbrev Stays (h h' : Heap) : Prop := ∀ b o, h.get? b = some o → h'.get? b = some o
theorem Stays.refl (h : Heap) : Stays h h := fun _ _ e => e
theorem Stays.trans {a b c : Heap} (x : Stays a b) (y : Stays b c) : Stays a c := fun b o e => y b o (x b o e)
abbrev lobj (ys : List Value) (n : Nat) : Obj := { cls := .type "list", data := .seq ys.toArray n }

/-- a tree that runs through and turns nothing that stood -/
def Pev {α : Type} (p : Program) (w : World) (A : Around) (t : Sem α) (s : Shared) (R : α → Heap → Prop) : Prop :=
  ∀ (Q : α → Shared → Prop) (E : Value → Shared → Prop), (∀ a h' tk, Stays s.heap h' → R a h' → Q a { s with heap := h', toks := tk }) → wpAny (model p w) A t Q E s

section
variable {p : Program} {w : World} {A : Around} {env : Env} {s : Shared}
theorem Pev.mono {α : Type} {t : Sem α} {R R' : α → Heap → Prop} (h : Pev p w A t s R) (k : ∀ a h', Stays s.heap h' → R a h' → R' a h') : Pev p w A t s R' :=
  fun Q E q => h Q E fun a h' tk st r => q a h' tk st (k a h' st r)
theorem Pev.bind {α β : Type} {t : Sem α} {f : α → Sem β} {R : α → Heap → Prop} {R' : β → Heap → Prop} (h : Pev p w A t s R)
    (k : ∀ a h' tk, Stays s.heap h' → R a h' → Pev p w A (f a) { s with heap := h', toks := tk } R') : Pev p w A (t >>= f) s R' :=
  fun Q E q => wpAny_bind (h _ E fun a h' tk st r => k a h' tk st r Q E fun b h'' tk' st' r' => q b h'' tk' (st.trans st') r')

theorem fresh_of_size {h h' : Heap} {a : Addr} (st : Stays h h') (k : h'.objs.size ≤ a) : h.get? a = none := by
  cases e : h.get? a with
  | none => rfl
  | some o => exact absurd (Heap.lt_size (st a o e)) (Nat.not_lt.mpr k)
theorem ne_of_stays {h : Heap} {a b : Addr} {o : Obj} (e : h.get? b = some o) (k : h.get? a = none) : b ≠ a := fun q => by rw [q, k] at e; cases e

theorem neq {a b : Nat} (h : a ≠ b) : (a : Addr) ≠ (b : Addr) := h
/-- a comprehension over a list, its own name a cell -/
theorem compC_core {elt iter : Expr} {x : Str} {px : Pos} {scope : Scope} {cl : List (Str × Addr)} {pos : Pos} {items : List Value} {F : Value → Value → Prop} {pos' : Pos} {use : Option (Value → Sem Unit)} {Q : Value → Shared → Prop} {E : Value → Shared → Prop}
    (hh : A.handled = none) (hclos : closureFor scope env = pure cl) (hkind : scope.kind = .function)
    (hnames : ∀ y ∈ scope.names, y.2 = .local → scope.names.lookup y.1 = some .local)
    (hcs : ∀ n, cellsFrom n scope.names cl = (x, n) :: cl) (hpc : ∀ h, pushCells h scope.names = h.push { cls := .type "cell", data := .cell none })
    (hx : (relabel scope env).names.lookup x = some .cell) (hsz : items.length ≤ sizeLine)
    (hit : Pev p w A (eval iter env) s (fun v h => ∃ l, v = .ref l ∧ h.IsList l items.toArray))
    (helt : ∀ C c v (s₃ : Shared), v ∈ items → Stays s.heap s₃.heap → s₃.heap.IsCell c (some v) → Pev p w A (eval elt (compEnvC scope ((x, c) :: cl) C env)) s₃ (fun y _ => F v y))
    (hs : ∀ x, foldedSetIterable iter env x = pure x)
    (hend : ∀ (D C : Nat) h₂ tk₂ ys n m', D ≠ C → s.heap.get? D = none → s.heap.get? C = none → Stays s.heap h₂ → h₂.get? D = some (lobj ys n) → Paired F items ys → h₂.Ns C m' →
      compPost (model p w) A E use Q (.ref D) C (.ok .next) { s with heap := h₂, toks := tk₂ }) :
    wpAny (model p w) A (comprehension (.ListComp elt [⟨.Name x px, iter, [], 0⟩] scope pos) scope env pos' (newList []) false (eval iter env) use) Q E s := by
  refine wpAny_comprehension_free rfl hs hclos hkind hnames ?_
  refine hit _ E ?_
  rintro _ h₁ tk₁ st₁ ⟨l, rfl, hl⟩
  have hlt : l < h₁.objs.size := by obtain ⟨_, e, _⟩ := hl; exact Heap.lt_size e
  refine wpAny_pyIter_list hl ?_
  show wpAny _ _ (newList []) _ _ _
  refine wpAny_newObj_type ?_ (by size_fits)
  simp only [newFunctionEnv, Option.isSome_some, if_true]
  refine wpAny_bind (wpAny_alloc ?_)
  refine wpAny_bind (wpAny_layCells _ (fun name kind cells => by cases hkc : kind == NameKind.cell <;> simp [hkc]) _ _ _ _ ?_)
  rw [hcs, hpc]
  dsimp only
  refine wpAny_bind (wpAny_pure ?_)
  refine wpAny_pure ?_
  dsimp only
  -- the addresses
  generalize hn0 : h₁.objs.size = n0 at hlt ⊢
  generalize hHI : h₁.push { cls := .type "list_iterator", dict := none, data := .fields #[.ref l, .int 0 0] } = HI
  have hIs : HI.objs.size = n0 + 1 := by rw [← hHI, Heap.size_push, hn0]
  generalize hHD : HI.push { cls := .type "list", dict := none, data := .seq (List.toArray ([] : List Value)) } = HD
  have hDs : HD.objs.size = n0 + 2 := by rw [← hHD, Heap.size_push, hIs]
  generalize hHC : HD.push { cls := .type "dict", data := .dict #[] } = HC
  have hCs : HC.objs.size = n0 + 3 := by rw [← hHC, Heap.size_push, hDs]
  generalize hHc : HC.push { cls := .type "cell", data := .cell none } = Hc
  rw [hIs, hDs, hCs]
  have hlN : @LT.lt Nat _ l n0 := hlt
  have W := Walks.list (prog := p) (w := w) (A := A) hh n0 l (Nat.ne_of_lt hlt) items.toArray
  have up1 : ∀ b o, h₁.get? b = some o → Hc.get? b = some o := fun b o e => by
    rw [← hHc, ← hHC, ← hHD, ← hHI]
    exact Heap.get?_push_of_some _ (Heap.get?_push_of_some _ (Heap.get?_push_of_some _ (Heap.get?_push_of_some _ e)))
  have gI : Hc.get? n0 = some { cls := .type "list_iterator", dict := none, data := .fields #[.ref l, .int 0 0] } := by
    rw [← hHc, ← hHC, ← hHD, ← hHI, ← hn0]
    exact Heap.get?_push_of_some _ (Heap.get?_push_of_some _ (Heap.get?_push_of_some _ (Heap.get?_push_size _ rfl)))
  have gD : Hc.get? (n0 + 1) = some (lobj [] 0) := by
    rw [← hHc, ← hHC, ← hHD, ← hIs]
    exact Heap.get?_push_of_some _ (Heap.get?_push_of_some _ (Heap.get?_push_size _ rfl))
  have gC : Hc.Ns (n0 + 2) (fun _ => none) := by
    have q := (Heap.Ns.new HD (.type "dict")).push { cls := .type "cell", data := .cell none }
    rw [hDs] at q
    rw [← hHc, ← hHC]
    exact q
  have gc : Hc.IsCell (n0 + 3) none := by
    rw [← hHc, ← hCs]
    exact ⟨_, Heap.get?_push_size _ rfl, rfl⟩
  have st0 : Stays s.heap Hc := fun b o e => up1 b o (st₁ b o e)
  have fr : ∀ a, n0 ≤ a → s.heap.get? a = none := fun a ha => fresh_of_size st₁ (by rw [hn0]; exact ha)
  have loop : codeAny (model p w) A (.compLoop (.ListComp elt [⟨.Name x px, iter, [], 0⟩] scope pos) 0 (.ref n0) (.ref (n0 + 1)) (compEnvC scope ((x, n0 + 3) :: cl) (n0 + 2) env))
      (compPost (model p w) A E use Q (.ref (n0 + 1)) (n0 + 2)) { s with heap := Hc, toks := tk₁ } := by
    refine codeAny_compLoop_tests
      (fun k s' => ∃ h' tk i ys m' v₀, s' = { s with heap := h', toks := tk } ∧ i ≤ items.length ∧ k = items.length + 1 - i ∧ (h'.IsListIter n0 l i ∧ h'.IsList l items.toArray) ∧
        h'.get? (n0 + 1) = some (lobj ys i) ∧ h'.Ns (n0 + 2) m' ∧ h'.IsCell (n0 + 3) v₀ ∧ Stays s.heap h' ∧ Paired F (items.take i) ys ∧ ys.length = i) ?_ (items.length + 1)
      ⟨Hc, tk₁, 0, [], _, none, rfl, Nat.zero_le _, rfl, ⟨⟨_, gI, rfl, rfl⟩, (let ⟨o, e, r⟩ := hl; ⟨o, up1 _ _ e, r⟩)⟩, gD, gC, gc, st0, by rw [List.take_zero]; exact .nil, rfl⟩
    rintro k s' ⟨h', tk, i, ys, m', v₀, rfl, hi, rfl, hst, hD, hC, hc, st, hF, hyl⟩
    by_cases hlt' : i < items.length
    · refine W.item i _ _ _ (by simpa using hlt') hst fun v h₂ tk₂ hPv hst₂ hk₂ => ?_
      have hv : items[i]? = some v := by simpa using hPv
      have k2 : ∀ b o, b ≠ n0 → h'.get? b = some o → h₂.get? b = some o := fun b o hb e => hk₂ b o (by simpa using hb) e
      have c2 : h₂.IsCell (n0 + 3) v₀ := let ⟨o, ho, hd⟩ := hc; ⟨o, k2 (n0 + 3) o (by omega) ho, hd⟩
      refine wpAny_assign_Name (wpAny_storeName_cell (env := compEnvC scope ((x, n0 + 3) :: cl) (n0 + 2) env) (c := n0 + 3) (by exact hkind) hx (by simp [compEnvC, List.lookup_cons]) c2 (fun h₃ hc₃ hs₃ => ?_))
      refine wpAny_tests_nil ?_
      simp only [if_true]
      have k3 : ∀ b o, b ≠ n0 → b ≠ n0 + 3 → h'.get? b = some o → h₃.get? b = some o := fun b o h1 h2 e => hs₃.extBut b o h2 (k2 b o h1 e)
      have st3 : Stays s.heap h₃ := fun b o e => k3 b o (ne_of_stays e (fr n0 (by omega))) (ne_of_stays e (fr (n0 + 3) (by omega))) (st b o e)
      refine helt (n0 + 2) (n0 + 3) v { s with heap := h₃, toks := tk₂ } (List.mem_of_getElem? hv) st3 hc₃ _ _ ?_
      intro y h₄ tk₄ st₄ hy
      have k4 : ∀ b o, b ≠ n0 → b ≠ n0 + 3 → h'.get? b = some o → h₄.get? b = some o := fun b o h1 h2 e => st₄ b o (k3 b o h1 h2 e)
      refine append_at (hsz := by show ys.toArray.size ≤ sizeLine; rw [List.size_toArray, hyl]; omega) (k4 (n0 + 1) _ (by omega) (by omega) hD) fun h₅ hs₅ hD₅ => ?_
      have k5 : ∀ b o, b ≠ n0 + 1 → h₄.get? b = some o → h₅.get? b = some o := fun b o h1 e => hs₅.extBut b o h1 e
      refine ⟨items.length + 1 - (i + 1), by omega, h₅, tk₄, i + 1, ys ++ [y], m', some v, rfl, hlt', rfl, ?_, ?_, ?_, ?_, ?_, ?_, ?_⟩
      · have hst₃ : h₃.IsListIter n0 l (i + 1) ∧ h₃.IsList l items.toArray := W.frame _ _ _ hst₂ fun b hb o e => hs₃.extBut b o (by
          have hb' : b = n0 ∨ b = l := by simpa using hb
          rcases hb' with q | q <;> (intro q2; rw [q] at q2; exact absurd q2 (neq (by omega)))) e
        exact W.frame _ _ _ hst₃ fun b hb o e => k5 b o (by
          have hb' : b = n0 ∨ b = l := by simpa using hb
          rcases hb' with q | q <;> (intro q2; rw [q] at q2; exact absurd q2 (neq (by omega)))) (st₄ b o e)
      · rw [hD₅]
        show some ({ cls := .type "list", data := .seq (ys.toArray.push y) (i + 1) } : Obj) = some (lobj (ys ++ [y]) (i + 1))
        rw [List.push_toArray]
      · exact (((hC.at' fun o e => k3 (n0 + 2) o (by omega) (by omega) e).keeps st₄).at' fun o e => k5 (n0 + 2) o (by omega) e)
      · obtain ⟨o, ho, hd⟩ := hc₃
        exact ⟨o, k5 (n0 + 3) o (by omega) (st₄ _ o ho), hd⟩
      · exact fun b o e => k5 b o (ne_of_stays e (fr (n0 + 1) (by omega))) (st₄ b o (st3 b o e))
      · rw [List.take_add_one, hv]
        exact hF.snoc hy
      · rw [List.length_append, List.length_singleton, hyl]
    · obtain rfl : i = items.length := by omega
      refine W.done _ _ _ (by simpa using hst) fun h₂ tk₂ hk₂ => ?_
      have k2 : ∀ b o, b ≠ n0 → h'.get? b = some o → h₂.get? b = some o := fun b o hb e => hk₂ b o (by simpa using hb) e
      rw [List.take_length] at hF
      exact hend (n0 + 1) (n0 + 2) h₂ tk₂ ys items.length m' (by omega) (fr (n0 + 1) (by omega)) (fr (n0 + 2) (by omega)) (fun b o e => k2 b o (ne_of_stays e (fr n0 (by omega))) (st b o e)) (k2 (n0 + 1) _ (neq (by omega)) hD) hF (hC.at' fun o e => k2 (n0 + 2) o (by omega) e)
  refine codeAny_compStart_list ?_ ?_
  · exact loop
  · exact W.self 0 _ _ _ ⟨⟨_, gI, rfl, rfl⟩, (let ⟨o, e, r⟩ := hl; ⟨o, up1 _ _ e, r⟩)⟩ loop


theorem pcompC {elt iter : Expr} {x : Str} {px : Pos} {scope : Scope} {cl : List (Str × Addr)} {pos : Pos} {items : List Value} {F : Value → Value → Prop}
    (hh : A.handled = none) (hclos : closureFor scope env = pure cl) (hkind : scope.kind = .function)
    (hnames : ∀ y ∈ scope.names, y.2 = .local → scope.names.lookup y.1 = some .local)
    (hcs : ∀ n, cellsFrom n scope.names cl = (x, n) :: cl) (hpc : ∀ h, pushCells h scope.names = h.push { cls := .type "cell", data := .cell none })
    (hx : (relabel scope env).names.lookup x = some .cell) (hsz : items.length ≤ sizeLine)
    (hit : Pev p w A (eval iter env) s (fun v h => ∃ l, v = .ref l ∧ h.IsList l items.toArray))
    (helt : ∀ C c v (s₃ : Shared), v ∈ items → Stays s.heap s₃.heap → s₃.heap.IsCell c (some v) → Pev p w A (eval elt (compEnvC scope ((x, c) :: cl) C env)) s₃ (fun y _ => F v y))
    (hs : ∀ x, foldedSetIterable iter env x = pure x) :
    Pev p w A (eval (.ListComp elt [⟨.Name x px, iter, [], 0⟩] scope pos) env) s (fun r h => ∃ D ys n, r = .ref D ∧ s.heap.get? D = none ∧ h.get? D = some (lobj ys n) ∧ Paired F items ys) := by
  intro Q E hQ
  rw [eval_ListComp]
  refine compC_core hh hclos hkind hnames hcs hpc hx hsz hit helt hs ?_
  intro D C h₂ tk₂ ys n m' hDC hD hC st gD hF nC
  refine ⟨m', nC, fun h₃ hs₃ => ?_⟩
  exact hQ (.ref D) h₃ tk₂ (fun b o e => hs₃.extBut b o (ne_of_stays e hC) (st b o e)) ⟨D, ys, n, rfl, hD, hs₃.extBut D _ (neq hDC) gD, hF⟩

/-- the same, stored into a local of the frame -/
theorem assignC {h₀ : Heap} {m : Str → Option Value} {news : List (Addr × Obj)} {elt iter : Expr} {x y : Str} {px py : Pos} {scope : Scope} {cl : List (Str × Addr)} {pos spos : Pos} {items : List Value} {F : Value → Value → Prop} {Q : Flow → Shared → Prop} {E : Value → Shared → Prop}
    (Fm : Fr h₀ env.locals s.heap m) (N : News h₀ env.locals s.heap news)
    (hsw : swapsWith (.ListComp elt [⟨.Name x px, iter, [], 0⟩] scope pos) (some (.Name y py)) spos.line env = pure true)
    (hy : env.kindOf y = some .local) (hp : (env.scope.kind == .class || (env.scope.kind == .module && env.locals != env.globals)) = false)
    (hh : A.handled = none) (hclos : closureFor scope env = pure cl) (hkind : scope.kind = .function)
    (hnames : ∀ y ∈ scope.names, y.2 = .local → scope.names.lookup y.1 = some .local)
    (hcs : ∀ n, cellsFrom n scope.names cl = (x, n) :: cl) (hpc : ∀ h, pushCells h scope.names = h.push { cls := .type "cell", data := .cell none })
    (hx : (relabel scope env).names.lookup x = some .cell) (hsz : items.length ≤ sizeLine)
    (hit : Pev p w A (eval iter env) s (fun v h => ∃ l, v = .ref l ∧ h.IsList l items.toArray))
    (helt : ∀ C c v (s₃ : Shared), v ∈ items → Stays s.heap s₃.heap → s₃.heap.IsCell c (some v) → Pev p w A (eval elt (compEnvC scope ((x, c) :: cl) C env)) s₃ (fun y _ => F v y))
    (hs : ∀ x, foldedSetIterable iter env x = pure x)
    (k : ∀ (D : Nat) h' tk ys n, Fr h₀ env.locals h' (fun z => if z = y then some (.ref D) else m z) → News h₀ env.locals h' ((D, lobj ys n) :: news) → (∀ q ∈ news, q.1 ≠ D) → Paired F items ys → Q .next { s with heap := h', toks := tk }) :
    wpAny (model p w) A (exec (.Assign [.Name y py] (.ListComp elt [⟨.Name x px, iter, [], 0⟩] scope pos) spos) env) Q E s := by
  rw [exec_Assign_Name_used _ _ _ _ hsw]
  refine wpAny_bind (wpAny_standAt (wpAny_bind ?_))
  show wpAny _ A (do let _ ← comprehension (.ListComp elt [⟨.Name x px, iter, [], 0⟩] scope pos) scope env _ (newList []) false (eval iter env) (some (assign (.Name y py) env))) _ _ s
  refine wpAny_bind (wpAny_mono (compC_core (use := some (assign (.Name y py) env)) (Q := fun _ s' => Q .next s') hh hclos hkind hnames hcs hpc hx hsz hit helt hs ?_) (fun _ s' hq => wpAny_pure (wpAny_pure hq)) fun _ _ e => e)
  intro D C h₂ tk₂ ys n m' hDC hD hC st gD hF nC
  show wpAny _ A (assign (.Name y py) env (.ref D)) _ _ _
  have F₂ := Fm.keeps st
  have N₂ := N.grown st
  have hLC : C ≠ env.locals := fun q => by
    obtain ⟨o, _, _, e, _⟩ := Fm.ns
    rw [← q] at e
    rw [hC] at e; cases e
  have hLD : D ≠ env.locals := fun q => by
    obtain ⟨o, _, _, e, _⟩ := Fm.ns
    rw [← q] at e
    rw [hD] at e; cases e
  have hD0 : h₀.get? D = none := by
    cases e : h₀.get? D with
    | none => rfl
    | some o => have := Fm.keep _ _ e; rw [hD] at this; cases this
  have hC0 : h₀.get? C = none := by
    cases e : h₀.get? C with
    | none => rfl
    | some o => have := Fm.keep _ _ e; rw [hC] at this; cases this
  refine wpAny_assign_Name (wpAny_storeName_local hy F₂.ns (fun h₃ hn₃ hs₃ => ?_) hp)
  have hL₀ : h₀.get? env.locals = none := Heap.get?_none_of_le Fm.above
  have F₃ : Fr h₀ env.locals h₃ (fun z => if z = y then some (.ref D) else m z) := ⟨hn₃, fun b o e => hs₃.extBut b o (fun q => by rw [q, hL₀] at e; cases e) (F₂.keep b o e), F₂.above⟩
  refine ⟨m', nC.sameBut hs₃ hLC, fun h₄ hs₄ => ?_⟩
  refine k D h₄ _ ys n (F₃.change hs₄ hLC hC0) (fun q hq => ?_) (fun q hq => ?_) hF
  · rcases List.mem_cons.mp hq with rfl | hq
    · exact ⟨hs₄.extBut D _ (neq hDC) (hs₃.extBut D _ hLD gD), hLD, hD0⟩
    · refine ⟨hs₄.extBut _ _ (ne_of_stays (N q hq).1 hC) (hs₃.extBut _ _ (N q hq).2.1 (N₂ q hq).1), (N q hq).2⟩
  · exact ne_of_stays (N q hq).1 hD

theorem Pev.keeps {α : Type} {t : Sem α} {R : α → Prop} {E : Value → Shared → Prop} (h : Pev p w A t s (fun a _ => R a)) : wpAny (model p w) A t (fun a s' => R a ∧ Keeps s s') E s :=
  h _ E fun _ h' tk st r => ⟨r, h', tk, rfl, st⟩

/-- a comprehension over a list, its own name a local, with tests -/
theorem pcompL {elt iter : Expr} {x : Str} {px : Pos} {ifs : List Expr} {scope : Scope} {cl : List (Str × Addr)} {pos : Pos} {items : List Value} (pz : Value → Bool) {F : Value → Value → Prop}
    (hh : A.handled = none) (hclos : closureFor scope env = pure cl) (hcell : ∀ y ∈ scope.names, y.2 ≠ .cell) (hkind : scope.kind = .function)
    (hnames : ∀ y ∈ scope.names, y.2 = .local → scope.names.lookup y.1 = some .local) (hx : scope.names.lookup x = some .local) (hsz : items.length ≤ sizeLine)
    (hit : Pev p w A (eval iter env) s (fun v h => ∃ l, v = .ref l ∧ h.IsList l items.toArray))
    (htest : ∀ C v (s₃ : Shared) m₃, v ∈ items → Stays s.heap s₃.heap → s₃.heap.Ns C m₃ → m₃ x = some v →
      Pev p w A (forIn ifs true fun c r => if r = true then do let ok ← isTrue c (compEnvC scope cl C env) (eval c (compEnvC scope cl C env)); pure (ForInStep.yield ok) else pure (ForInStep.yield r)) s₃ (fun ok _ => ok = pz v))
    (helt : ∀ C v (s₃ : Shared) m₃, v ∈ items → pz v = true → Stays s.heap s₃.heap → s₃.heap.Ns C m₃ → m₃ x = some v → Pev p w A (eval elt (compEnvC scope cl C env)) s₃ (fun y _ => F v y))
    (hs : ∀ x, foldedSetIterable iter env x = pure x) :
    Pev p w A (eval (.ListComp elt [⟨.Name x px, iter, ifs, 0⟩] scope pos) env) s (fun r h => ∃ D ys n, r = .ref D ∧ s.heap.get? D = none ∧ h.get? D = some (lobj ys n) ∧ Paired F (items.filter pz) ys) := by
  intro Q E hQ
  refine wpAny_ListComp_free pz F hclos hcell hkind hnames hx ?_ hs
  refine hit _ E ?_
  rintro _ h₁ tk₁ st₁ ⟨l, rfl, hl⟩
  have hlt : l < h₁.objs.size := by obtain ⟨_, e, _⟩ := hl; exact Heap.lt_size e
  have up : ∀ (H : Heap), (∀ b o, b ∉ [h₁.objs.size] → (h₁.push { cls := .type "list_iterator", data := .fields #[.ref l, .int 0 0] }).get? b = some o → H.get? b = some o) → Stays s.heap H :=
    fun H hk b o e => hk b o (fun hm => by rw [List.mem_singleton.mp hm] at e; exact absurd (Heap.lt_size (st₁ _ _ e)) (Nat.lt_irrefl _)) (Heap.get?_push_of_some _ (st₁ b o e))
  refine wpAny_pyIter_list hl ⟨h₁.objs.size, [h₁.objs.size, l], [h₁.objs.size], items.toArray.size, _, _, rfl, Walks.list hh _ _ (Nat.ne_of_lt hlt) items.toArray, (by rw [List.size_toArray]; exact hsz), ⟨⟨_, Heap.get?_push_size _ rfl, rfl, rfl⟩, hl.push _⟩, ?_, ⟨?_, ?_⟩, ?_⟩
  · intro b hb
    show b < (h₁.push _).objs.size
    rw [Heap.size_push]
    have hb' : b = h₁.objs.size ∨ b = l := by simpa using hb
    rcases hb' with q | q <;> rw [q]
    · exact Nat.lt_succ_self _
    · exact Nat.lt_succ_of_lt hlt
  · intro C i v s₃ m₃ E' _ hP hn hm hk _
    exact (htest C v s₃ m₃ (List.mem_of_getElem? (by simpa using hP)) (up _ hk) hn hm).keeps
  · intro C i v s₃ m₃ E' _ hP hp hn hm hk _
    exact (helt C v s₃ m₃ (List.mem_of_getElem? (by simpa using hP)) hp (up _ hk) hn hm).keeps
  · intro D h' tk ys vs' hnew hlD hpl hlen hP hF hk
    have e : vs' = items := by simpa using list_of_places hlen hP
    subst e
    obtain ⟨n, hn⟩ := hpl
    refine hQ _ h' tk (up _ hk) ⟨D, ys.toList, n, rfl, ?_, by rw [hn, Array.toArray_toList], hF⟩
    cases e : s.heap.get? D with
    | none => rfl
    | some o' => rw [Heap.get?_push_of_some _ (st₁ _ _ e)] at hnew; cases hnew
end
end Mine

end
section
open PySem PySem.W PyProof.Rows PySem.Calls
set_option maxRecDepth 100000
namespace Mine
abbrev prg : Program := PySem.Challenge.rw_oc0066_01.row.prog
abbrev TopV (mean : ExcName → Option Value) (mg mb : Str → Option Value) (h : Heap) : Prop := Top qv (looseW qv looseV) mean mg mb h
abbrev AA (dp un : Nat) (fr : Option (List Env)) (gd : Option (List Code)) : Around := ⟨none, dp, fr, gd, un⟩
theorem fillK : ∀ (w : World) (h : Heap), (KK w.params).In h → PySem.Challenge.rw_oc0066_01.row.prog = PySem.Challenge.rw_oc0066_01.row.prog := by
  w_on
  k_fill
  intros
  rfl

section
variable {w : World} {A : Around} {s : Shared} {Q E : Value → Shared → Prop} {K : Frag} {mean : ExcName → Option Value} {mg mb : Str → Option Value} {env : Env}
theorem enterK {name : Str} {params : Arguments} {body : List Stmt} {scope : Scope} {pm cdv doc oc : Value} {od : Option Addr} {osl : Array (Option Value)} {f : Addr} {args : List Value} {binds : List (Str × Value)}
    (X : K.In s.heap) (T : TopV mean mg mb s.heap) (ho : K.lookup f = some ⟨oc, od, .func (docDef name params body scope pm cdv doc), osl⟩) (hcd : codeIn K cdv name = true) (hroom : A.depth < recursionLimit)
    (hbind : bindArgs (docDef name params body scope pm cdv doc) ⟨args, []⟩ = pure binds) (hloc : ∀ x ∈ binds, scope.names.lookup x.1 = some .local)
    (h : ∀ h₁, Fr s.heap s.heap.objs.size h₁ (fun x => binds.reverse.lookup x) →
      wpAny (model prg w) (A.deeper (envOf name scope s.heap.objs.size f cdv)) (execs body (envOf name scope s.heap.objs.size f cdv))
        (fun fl s' => Q (match fl with | .ret v => v | _ => .none) s')
        (fun e s' => wpAny (model prg w) (A.deeper (envOf name scope s.heap.objs.size f cdv)) (leaving (envOf name scope s.heap.objs.size f cdv) e) (fun _ s'' => E e s'') (fun e' s'' => E e' s'') s')
        { s with heap := h₁, toks := s.toks + binds.length })
    (hco : scope.isCoroutine = false) (hgen : scope.isGenerator = false) (hk : scope.kind = .function) (hcell : ∀ x ∈ scope.names, x.2 ≠ .cell) :
    wpAny (model prg w) A (call (.ref f) args) Q E s :=
  wpAny_call (call_plain (R := fun r s' => match r with | .ok (.ret v) => Q v s' | .ok _ => False | .error e => E e s') hroom (X _ _ ho) rfl T.nolimit (codeRec_of X hcd) hbind hloc (fun h₁ F => wpAny_mono (h h₁ F) (fun _ _ q => q) fun _ _ q => q) hco hgen hk hcell)

theorem enterC {name : Str} {params : Arguments} {body : List Stmt} {scope : Scope} {pm cdv doc oc : Value} {od : Option Addr} {osl : Array (Option Value)} {f : Addr} {args : List Value} {binds : List (Str × Value)}
    (X : K.In s.heap) (T : TopV mean mg mb s.heap) (ho : K.lookup f = some ⟨oc, od, .func (docDef name params body scope pm cdv doc), osl⟩) (hcd : codeIn K cdv name = true) (hroom : A.depth < recursionLimit)
    (hbind : bindArgs (docDef name params body scope pm cdv doc) ⟨args, []⟩ = pure binds)
    (hkind : (binds.all fun y => scope.names.lookup y.1 == some .local || scope.names.lookup y.1 == some .cell) = true)
    (h : ∀ h₁ tk, Fr s.heap s.heap.objs.size h₁ (bindL (envOfC name scope s.heap.objs.size f cdv).kindOf binds fun _ => none) →
      Cl s.heap.objs.size (cellsFrom (s.heap.objs.size + 1) scope.names []) h₁ (bindC (envOfC name scope s.heap.objs.size f cdv).kindOf binds fun _ => none) →
      wpAny (model prg w) (A.deeper (envOfC name scope s.heap.objs.size f cdv)) (execs body (envOfC name scope s.heap.objs.size f cdv))
        (fun fl s' => Q (match fl with | .ret v => v | _ => .none) s')
        (fun e s' => wpAny (model prg w) (A.deeper (envOfC name scope s.heap.objs.size f cdv)) (leaving (envOfC name scope s.heap.objs.size f cdv) e) (fun _ s'' => E e s'') (fun e' s'' => E e' s'') s')
        { s with heap := h₁, toks := tk })
    (hco : scope.isCoroutine = false) (hgen : scope.isGenerator = false) (hk : scope.kind = .function) :
    wpAny (model prg w) A (call (.ref f) args) Q E s :=
  wpAny_call (call_cells (R := fun r s' => match r with | .ok (.ret v) => Q v s' | .ok _ => False | .error e => E e s') hroom (X _ _ ho) rfl T.nolimit (codeRec_of X hcd) hbind (kindsX hkind _) (fun h₁ tk F C => wpAny_mono (h h₁ tk F C) (fun _ _ q => q) fun _ _ q => q) hco hgen hk)

/-- names -/
theorem nmG {x : Str} {pos : Pos} {v : Value} (X : K.In s.heap) (T : TopV mean mg mb s.heap) (e : nsIn K mainGlobals x = some (some v)) (h : Q v s)
    (hg : env.globals = mainGlobals) (hk : env.scope.kind = .function) (hx : env.kindOf x = some .globalImplicit) (hd : (x == ("__debug__" : Str)) = false) :
    wpAny (model prg w) A (eval (.Name x pos) env) Q E s :=
  Name_function_global hk hx (loadGlobal_global (env := env) (by rw [hg]; exact T.g) (mg_of X T.g e) h) hd
theorem nmB {x : Str} {pos : Pos} {v : Value} (X : K.In s.heap) (T : TopV mean mg mb s.heap) (e : nsIn K mainGlobals x = some none) (hv : bootBuiltins x = some v) (hn : x ≠ "__name__") (h : Q v s)
    (hg : env.globals = mainGlobals) (hb : env.builtins = builtinsNs) (hk : env.scope.kind = .function) (hx : env.kindOf x = some .globalImplicit) (hd : (x == ("__debug__" : Str)) = false) :
    wpAny (model prg w) A (eval (.Name x pos) env) Q E s :=
  Name_function_global hk hx (loadGlobal_builtin (env := env) (by rw [hg]; exact T.g) (mg_none_of X T.g e) (by rw [hb]; exact T.b) ((T.builtins x hn).trans hv) h) hd
theorem nmL {x : Str} {pos : Pos} {v : Value} {m : Str → Option Value} (hn : s.heap.Ns env.locals m) (hv : m x = some v) (h : Q v s) (hk : env.scope.kind = .function) (hl : env.kindOf x = some .local) (hd : (x == ("__debug__" : Str)) = false) :
    wpAny (model prg w) A (eval (.Name x pos) env) Q E s := wpAny_Name (wpAny_loadName_local hk hl hn hv h) hd
theorem nmC {x : Str} {pos : Pos} {v : Value} {c : Addr} (hc : env.cells.lookup x = some c) (hv : s.heap.IsCell c (some v)) (h : Q v s) (hk : env.scope.kind = .function) (hl : env.kindOf x = some .cell) (hd : (x == ("__debug__" : Str)) = false) :
    wpAny (model prg w) A (eval (.Name x pos) env) Q E s := wpAny_Name (wpAny_loadName_cell hk hl hc hv h) hd

/-- sum, len of a list of ints -/
theorem sum_ints {l : Addr} {vs : List Value} {ns : List Int} (hh : A.handled = none) (hl : s.heap.IsList l vs.toArray) (hi : IntsAre vs ns)
    (h : ∀ h' tk t', Stays s.heap h' → Q (.int ns.sum t') { s with heap := h', toks := tk }) : wpAny (model prg w) A (call (.builtin "sum") [.ref l]) Q E s := by
  obtain ⟨xs, hxs⟩ := hi.allInts.items
  rw [hxs] at hl
  refine sum_intListG hh hl fun h' tk t' hk => ?_
  have e : preSum (numAt xs) xs.size = ns.sum := by
    have h1 := hi.numsOf
    have h2 : numsOf (intItems xs).toList = ns := by rw [← hxs]; exact h1
    rw [← h2, nums_intItems, preSum_eq, List.take_of_length_le (by simp)]
  rw [e]
  exact h h' tk t' hk
end

theorem lkeep {h h' : Heap} {l : Addr} {items : Array Value} (x : h.IsList l items) (k : Stays h h') : h'.IsList l items := let ⟨o, e, r⟩ := x; ⟨o, k _ _ e, r⟩
theorem ints_mem : ∀ {vs : List Value} {ns : List Int}, IntsAre vs ns → ∀ v ∈ vs, ∃ n t, v = .int n t ∧ n ∈ ns
  | _, _, .nil, _, h => nomatch h
  | _, _, .cons n t r, v, h => by
    rcases List.mem_cons.mp h with rfl | h
    · exact ⟨n, t, rfl, List.mem_cons_self⟩
    · obtain ⟨n', t', e, hm⟩ := ints_mem r v h; exact ⟨n', t', e, List.mem_cons_of_mem _ hm⟩
theorem filter_tt {α : Type} : ∀ l : List α, l.filter (fun _ => true) = l
  | [] => rfl
  | a :: l => by rw [List.filter_cons_of_pos rfl, filter_tt l]
theorem paired_ints {F : Value → Value → Prop} {f : Int → Int} : ∀ {vs ys : List Value} {ns : List Int}, IntsAre vs ns → Paired F vs ys → (∀ v y, F v y → ∃ n t t', v = .int n t ∧ y = .int (f n) t') → IntsAre ys (ns.map f)
  | _, _, _, .nil, .nil, _ => .nil
  | _, _, _, .cons n t r, .cons h p, k => by
    obtain ⟨n', t', t'', e, rfl⟩ := k _ _ h
    cases e
    exact .cons _ _ (paired_ints r p k)
theorem mul_ok {n m : Int} (h : -1000 ≤ n ∧ n ≤ 1000) : IntMulOk n m := IntMulOk.of_left (intBits_le_64 (by omega) (by omega))
set_option maxHeartbeats 4000000 in
theorem sp_squares {w : World} {dp un : Nat} {fr : Option (List Env)} {gd : Option (List Code)} {s : Shared} {Q E : Value → Shared → Prop} {mean : ExcName → Option Value} {mg mb : Str → Option Value} {l : Addr} {vs : List Value} {ns : List Int}
    (X : (KK w.params).In s.heap) (T : TopV mean mg mb s.heap) (hA : dp < recursionLimit) (hl : s.heap.IsList l vs.toArray) (hi : IntsAre vs ns) (hb : ∀ n ∈ ns, -1000 ≤ n ∧ n ≤ 1000) (hlen : ns.length ≤ 1000)
    (hret : ∀ t' h' tk, Stays s.heap h' → Q (.int (ns.map fun x => x * x).sum t') { s with heap := h', toks := tk }) :
    wpAny (model prg w) (AA dp un fr gd) (call (.ref 133) [.ref l]) Q E s := by
  refine' enterK (binds := [(Str.ofString "row", .ref l)]) X T ?k6 ?k7 hA ?kb ?kl ?_ ?c2 ?c3 ?c4 ?c5
  case k6 => k_is
  case k7 => k_is
  case kb => exact rfl
  case kl => exact locs rfl
  case c2 => exact rfl
  case c3 => exact rfl
  case c4 => exact rfl
  case c5 => decide
  intro h₁ F
  (try dsimp only)
  have N : News s.heap s.heap.objs.size h₁ [] := News.nil
  walk1
  walk1
  walk1
  walk1
  walk1
  walk1
  refine pcompL (cl := []) (items := vs) (F := fun v y => ∃ n t t', v = .int n t ∧ n ∈ ns ∧ y = .int (n * n) t') (fun _ => true) rfl (by with_unfolding_all rfl) (by decide) rfl (by decide) rfl ?hsz ?hit ?ht ?he (fun _ => rfl) _ _ ?_
  case hsz => rw [hi.length, sizeLine_eq]; omega
  case hit => exact fun Q' E' q => nmL F.ns rfl (q _ h₁ _ (Stays.refl _) ⟨l, rfl, lkeep hl F.keep⟩) rfl rfl rfl
  case ht => exact fun C v s₃ m₃ _ _ _ _ Q' E' q => wpAny_tests_nil (q true s₃.heap s₃.toks (Stays.refl _) rfl)
  case he =>
    intro C v s₃ m₃ hv _ _ hn hm Q' E' q
    obtain ⟨n, t, rfl, hnm⟩ := ints_mem hi v hv
    refine wpAny_BinOp (nmL hn hm ?_ rfl rfl rfl)
    refine nmL hn hm ?_ rfl rfl rfl
    exact mul_int (q _ s₃.heap _ (Stays.refl _) ⟨n, t, _, rfl, hnm, rfl⟩) (mul_ok (hb n hnm))
  rintro _ h₂ tk₂ st₂ ⟨D, ys, k, rfl, hD, gD, hF⟩
  rw [filter_tt] at hF
  refine args_nil ?_
  refine sum_ints (ns := ns.map fun x => x * x) rfl ⟨_, gD, rfl, _, rfl⟩ (paired_ints hi hF (fun v y hvy => by obtain ⟨n, t, t', rfl, _, rfl⟩ := hvy; exact ⟨n, t, t', rfl, rfl⟩)) ?_
  intro h₃ tk₃ t₃ st₃
  exact hret _ _ _ (fun b o e => st₃ b o (st₂ b o (F.keep b o e)))

def cntI (ns : List Int) (p : Int) : Nat := (ns.filter fun q => decide (q = p)).length
def numOfV : Value → Int
  | .int n _ => n
  | _ => 0
theorem filter_ints (g : Int → Bool) : ∀ {vs : List Value} {ns : List Int}, IntsAre vs ns → (vs.filter fun v => g (numOfV v)).length = (ns.filter g).length
  | _, _, .nil => rfl
  | _, _, .cons n t r => by
    rw [List.filter_cons, List.filter_cons]
    show (if g n = true then _ else _ : List Value).length = (if g n = true then _ else _ : List Int).length
    by_cases h : g n = true
    · rw [if_pos h, if_pos h, List.length_cons, List.length_cons, filter_ints g r]
    · rw [if_neg h, if_neg h, filter_ints g r]
theorem paired_len {F : Value → Value → Prop} : ∀ {vs ys : List Value}, Paired F vs ys → ys.length = vs.length
  | _, _, .nil => rfl
  | _, _, .cons _ p => by rw [List.length_cons, List.length_cons, paired_len p]

set_option maxHeartbeats 4000000 in
theorem sp_alike {w : World} {dp un : Nat} {fr : Option (List Env)} {gd : Option (List Code)} {s : Shared} {Q E : Value → Shared → Prop} {mean : ExcName → Option Value} {mg mb : Str → Option Value} {l : Addr} {vs : List Value} {ns : List Int}
    (X : (KK w.params).In s.heap) (T : TopV mean mg mb s.heap) (hA : dp < recursionLimit) (hl : s.heap.IsList l vs.toArray) (hi : IntsAre vs ns) (hlen : ns.length ≤ 1000)
    (hret : ∀ t' h' tk, Stays s.heap h' → Q (.int (ns.map fun p => ((cntI ns p : Nat) : Int) ^ 2).sum t') { s with heap := h', toks := tk }) :
    wpAny (model prg w) (AA dp un fr gd) (call (.ref 128) [.ref l]) Q E s := by
  refine' enterC (binds := [(Str.ofString "numbers", .ref l)]) X T ?k6 ?k7 hA ?kb ?kl ?_ ?c2 ?c3 ?c4
  case k6 => k_is
  case k7 => k_is
  case kb => exact rfl
  case kl => exact rfl
  case c2 => exact rfl
  case c3 => exact rfl
  case c4 => exact rfl
  intro h₁ tk₁ F C
  have N : News s.heap s.heap.objs.size h₁ [] := News.nil
  have cN : h₁.IsCell (s.heap.objs.size + 1) (some (.ref l)) := C.cell (Str.ofString "numbers") _ rfl
  (try dsimp only)
  walk1
  walk1
  walk1
  walk1
  walk1
  walk1
  refine pcompC (cl := [(Str.ofString "numbers", s.heap.objs.size + 1)]) (items := vs) (F := fun v y => ∃ n t t', v = .int n t ∧ y = .int (((cntI ns n : Nat) : Int) ^ 2) t') rfl (by with_unfolding_all rfl) rfl (by decide) (fun _ => rfl) (fun _ => rfl) rfl ?hsz ?hit ?he (fun _ => rfl) _ _ ?_
  case hsz => rw [hi.length, sizeLine_eq]; omega
  case hit => exact fun Q' E' q => nmC (c := s.heap.objs.size + 1) rfl cN (q _ h₁ _ (Stays.refl _) ⟨l, rfl, lkeep hl F.keep⟩) rfl rfl rfl
  case he =>
    intro C1 c v s₃ hv st hc Q' E' q
    obtain ⟨n, t, rfl, hnm⟩ := ints_mem hi v hv
    have X3 := X.keeps (fun b o e => st b o (F.keep b o e))
    have T3 := T.keeps (fun b o e => st b o (F.keep b o e))
    refine wpAny_BinOp (Call_ (nmB (x := Str.ofString "len") (v := .builtin "len") X3 T3 (by k_is) (by boot_fast) (by decide) ?_ rfl rfl rfl rfl rfl))
    refine callWith_builtin1 (args_cons ?_)
    refine pcompL (cl := [(Str.ofString "p", c)]) (items := vs) (F := fun _ _ => True) (fun v' => decide (numOfV v' = n)) rfl (by with_unfolding_all rfl) (by decide) rfl (by decide) rfl ?hsz ?hit ?ht ?he2 (fun _ => rfl) _ _ ?_
    case hsz => rw [hi.length, sizeLine_eq]; omega
    case hit => exact fun Q' E' q => nmC (c := s.heap.objs.size + 1) rfl (cN.keeps st) (q _ s₃.heap _ (Stays.refl _) ⟨l, rfl, lkeep hl (fun b o e => st b o (F.keep b o e))⟩) rfl rfl rfl
    case ht =>
      intro C2 v' s₄ m₄ hv' st4 hn hm Q' E' q
      obtain ⟨n', t', rfl, hnm'⟩ := ints_mem hi v' hv'
      refine wpAny_tests_one (wpAny_isTrue_Compare1 ?_)
      refine nmL hn hm ?_ rfl rfl rfl
      refine nmC (c := c) rfl (hc.keeps st4) ?_ rfl rfl rfl
      exact eq_int (wpAny_truthy_bool (q _ s₄.heap _ (Stays.refl _) rfl))
    case he2 =>
      intro C2 v' s₄ m₄ hv' _ st4 hn hm Q' E' q
      exact nmL hn hm (q _ s₄.heap _ (Stays.refl _) True.intro) rfl rfl rfl
    rintro _ h₅ tk₅ st₅ ⟨D, ys, k, rfl, hD, gD, hF⟩
    refine args_nil ?_
    have e : ys.toArray.size = cntI ns n := by
      rw [List.size_toArray, paired_len hF]
      exact filter_ints (fun a => decide (a = n)) hi
    have eL : cntI ns n ≤ 1000 := Nat.le_trans (List.length_filter_le _ _) hlen
    refine call_len_list ⟨_, gD, rfl, _, rfl⟩ (by rw [e]; omega) ?_
    rw [e]
    refine wpAny_Constant_int ?_
    refine pow_int_small (by decide) (by decide) (by omega) ?_
    exact q _ h₅ _ st₅ ⟨n, t, _, rfl, rfl⟩
  rintro _ h₂ tk₂ st₂ ⟨D, ys, k, rfl, hD, gD, hF⟩
  refine args_nil ?_
  refine sum_ints (ns := ns.map fun p => ((cntI ns p : Nat) : Int) ^ 2) rfl ⟨_, gD, rfl, _, rfl⟩ (paired_ints hi hF (fun v y hvy => hvy)) ?_
  intro h₃ tk₃ t₃ st₃
  exact hret _ _ _ (fun b o e => st₃ b o (st₂ b o (F.keep b o e)))
end Mine

end
section
open PySem PySem.W PyProof.Rows PySem.Calls
set_option maxRecDepth 100000
namespace Mine
theorem fillK2 : ∀ (w : World) (h : Heap), (KK w.params).In h → PySem.Challenge.rw_oc0066_01.row.prog = PySem.Challenge.rw_oc0066_01.row.prog := by
  w_on
  k_fill
  intros
  rfl
theorem sub_any {w : World} {A : Around} {s : Shared} {Q E : Value → Shared → Prop} {a b : Int} {t u : Tok} (h : ∀ t' tk, Q (.int (a - b) t') { s with toks := tk }) : wpAny (model prg w) A (binaryOp .Sub (.int a t) (.int b u)) Q E s := sub_int (h _ _)
set_option maxHeartbeats 4000000 in
theorem sp_scores {w : World} {dp un : Nat} {fr : Option (List Env)} {gd : Option (List Code)} {s : Shared} {Q E : Value → Shared → Prop} {mean : ExcName → Option Value} {mg mb : Str → Option Value} {l : Addr} {vs : List Value} {ns : List Int}
    (X : (KK w.params).In s.heap) (T : TopV mean mg mb s.heap) (hA : dp < recursionLimit) (hl : s.heap.IsList l vs.toArray) (hi : IntsAre vs ns) (hlen : ns.length ≤ 1000)
    (hret : ∀ D ys n h' tk, Stays s.heap h' → s.heap.get? D = none → h'.get? D = some (lobj ys n) → IntsAre ys (ns.map fun p => ((ns.filter fun q => decide (q < p)).length : Int) - ((ns.filter fun q => decide (p < q)).length : Int)) → Q (.ref D) { s with heap := h', toks := tk }) :
    wpAny (model prg w) (AA dp un fr gd) (call (.ref 123) [.ref l]) Q E s := by
  refine' enterC (binds := [(Str.ofString "numbers", .ref l)]) X T ?k6 ?k7 hA ?kb ?kl ?_ ?c2 ?c3 ?c4
  case k6 => k_is
  case k7 => k_is
  case kb => exact rfl
  case kl => exact rfl
  case c2 => exact rfl
  case c3 => exact rfl
  case c4 => exact rfl
  intro h₁ tk₁ F C
  obtain ⟨oc, hoc, hdc⟩ := C.cell (Str.ofString "p") _ rfl
  have hcL : @LT.lt Nat _ s.heap.objs.size (s.heap.objs.size + 1) := Nat.lt_succ_self _
  have N : News s.heap s.heap.objs.size h₁ [(s.heap.objs.size + 1, oc)] := fun p hp => by
    rw [List.mem_singleton.mp hp]
    exact ⟨hoc, Nat.ne_of_gt hcL, Heap.get?_none_of_le (Nat.le_of_lt hcL)⟩
  (try dsimp only)
  iterate 8 walk1
  rename_i R ha l1 h2 F2 N2
  have gR : h2.get? R = some (lobj [] 0) := (N2 (R, _) (.head _)).1
  have gc : h2.get? (s.heap.objs.size + 1) = some oc := (N2 (s.heap.objs.size + 1, oc) (.tail _ (.head _))).1
  have nRL : R ≠ s.heap.objs.size := (N2 (R, _) (.head _)).2.1
  have fR : s.heap.get? R = none := (N2 (R, _) (.head _)).2.2
  have fc : s.heap.get? (s.heap.objs.size + 1) = none := Heap.get?_none_of_le (Nat.le_of_lt hcL)
  have nRc : R ≠ s.heap.objs.size + 1 := fun q => by
    rw [q, gc] at gR
    rw [Option.some.inj gR] at hdc
    cases hdc
  refine wpAny_For (nmL F2.ns rfl ?_ rfl rfl rfl) (fun _ => rfl)
  have hl2 := lkeep hl F2.keep
  refine wpAny_pyIter_list hl2 ?_
  have sI : ∀ {a : Addr} {o : Obj}, h2.get? a = some o → a ≠ h2.objs.size := fun e => Nat.ne_of_lt (Heap.lt_size e)
  have nlI : l ≠ h2.objs.size := by obtain ⟨o, e, _⟩ := hl2; exact sI e
  have up : Stays h2 (h2.push { cls := .type "list_iterator", data := .fields #[.ref l, .int 0 0] }) := fun b o e => Heap.get?_push_of_some _ e
  have W := Walks.list (prog := prg) (w := w) (A := (AA dp un fr gd).deeper (envOfC (dN 44) (dS 44) s.heap.objs.size 123 (Value.ref 122))) rfl h2.objs.size l nlI vs.toArray
  have hvl : vs.length = ns.length := hi.length
  generalize hI : h2.objs.size = I at *
  have nRI : R ≠ I := sI gR
  have ncI : s.heap.objs.size + 1 ≠ I := sI gc
  have nLI : s.heap.objs.size ≠ I := by obtain ⟨o, _, _, e, _⟩ := F2.ns; exact sI e
  have fI : s.heap.get? I = none := by
    cases e : s.heap.get? I with
    | none => rfl
    | some o => exact absurd rfl (sI (F2.keep _ _ e))
  refine codeAny_forLoop_any
    (fun k s' => ∃ h' tk i ys v₀, s' = { s with heap := h', toks := tk } ∧ i ≤ vs.length ∧ k = vs.length + 1 - i ∧ (h'.IsListIter I l i ∧ h'.IsList l vs.toArray) ∧ h'.get? R = some (lobj ys i) ∧ ys.length = i ∧
      IntsAre ys ((ns.take i).map fun p => ((ns.filter fun q => decide (q < p)).length : Int) - ((ns.filter fun q => decide (p < q)).length : Int)) ∧ h'.IsCell (s.heap.objs.size + 1) v₀ ∧
      Fr s.heap s.heap.objs.size h' fun y => if y = Str.ofString "rows" then some (Value.ref R) else bindL (envOfC (dN 44) (dS 44) s.heap.objs.size 123 (Value.ref 122)).kindOf [(Str.ofString "numbers", Value.ref l)] (fun _ => none) y) ?_ (vs.length + 1)
    ⟨_, _, 0, [], none, rfl, Nat.zero_le _, rfl, ⟨⟨_, by rw [← hI]; exact Heap.get?_push_size _ rfl, rfl, rfl⟩, lkeep hl2 up⟩, up _ _ gR, rfl, by rw [List.take_zero]; exact .nil, ⟨oc, up _ _ gc, hdc⟩, F2.keeps up⟩
  rintro k s' ⟨h', tk', i, ys, v₀, rfl, hle, rfl, hst, hR, hyl, hys, hc, F3⟩
  by_cases hlt : i < vs.length
  · refine W.item i _ _ _ (by simpa using hlt) hst fun v h₃ tk₃ hPv hst₃ hk₃ => ?_
    have hv : vs[i]? = some v := by simpa using hPv
    obtain ⟨n, t, rfl, hn⟩ := IntsAre.at hi i v hv
    have k3 : ∀ b o, b ≠ I → h'.get? b = some o → h₃.get? b = some o := fun b o hb e => hk₃ b o (by simpa using hb) e
    refine wpAny_of_eq (a := ()) rfl ?_
    have c3 : h₃.IsCell (s.heap.objs.size + 1) v₀ := let ⟨o, ho, hd⟩ := hc; ⟨o, k3 _ o ncI ho, hd⟩
    refine wpAny_assign_Name (wpAny_storeName_cell (c := s.heap.objs.size + 1) rfl rfl rfl c3 fun h₄ c4 hs₄ => ?_)
    have k4 : ∀ b o, b ≠ I → b ≠ s.heap.objs.size + 1 → h'.get? b = some o → h₄.get? b = some o := fun b o h1 h2 e => hs₄.extBut b o h2 (k3 b o h1 e)
    have st4 : Stays s.heap h₄ := fun b o e => k4 b o (ne_of_stays e fI) (ne_of_stays e fc) (F3.keep b o e)
    have F4 : Fr s.heap s.heap.objs.size h₄ fun y => if y = Str.ofString "rows" then some (Value.ref R) else bindL (envOfC (dN 44) (dS 44) s.heap.objs.size 123 (Value.ref 122)).kindOf [(Str.ofString "numbers", Value.ref l)] (fun _ => none) y :=
      ⟨F3.ns.at' fun o e => k4 _ o nLI (Nat.ne_of_lt hcL) e, st4, F3.above⟩
    have gR4 := k4 R _ nRI nRc hR
    have N4 : News s.heap s.heap.objs.size h₄ [(R, lobj ys i)] := fun p hp => by
      rw [List.mem_singleton.mp hp]
      exact ⟨gR4, nRL, fR⟩
    iterate 6 walk1
    refine args_cons ?_
    refine wpAny_BinOp (Call_ (nmB (x := Str.ofString "len") (v := .builtin "len") (X.keeps fun b o e => (Stays.refl h₄) b o (st4 b o e)) (T.keeps fun b o e => (Stays.refl h₄) b o (st4 b o e)) (by k_is) (by boot_fast) (by decide) ?_ rfl rfl rfl rfl rfl))
    refine callWith_builtin1 (args_cons ?_)
    refine pcompL (cl := [(Str.ofString "p", s.heap.objs.size + 1)]) (items := vs) (F := fun _ _ => True) (fun v' => decide (numOfV v' < n)) rfl (by with_unfolding_all rfl) (by decide) rfl (by decide) rfl ?hsz ?hit ?ht ?he2 (fun _ => rfl) _ _ ?_
    case hsz => rw [hi.length, sizeLine_eq]; omega
    case hit => exact fun Q' E' q => nmL (F4.keeps (Stays.refl h₄)).ns rfl (q _ h₄ _ (Stays.refl _) ⟨l, rfl, lkeep hl fun b o e => (Stays.refl h₄) b o (st4 b o e)⟩) rfl rfl rfl
    case ht =>
      intro C2 v' s₄ m₄ hv' st5 hn2 hm2 Q' E' q
      obtain ⟨n', t', rfl, hnm'⟩ := ints_mem hi v' hv'
      refine wpAny_tests_one (wpAny_isTrue_Compare1 ?_)
      refine nmL hn2 hm2 ?_ rfl rfl rfl
      refine nmC (c := s.heap.objs.size + 1) rfl (c4.keeps fun b o e => st5 b o ((Stays.refl h₄) b o e)) ?_ rfl rfl rfl
      exact lt_int (wpAny_truthy_bool (q _ s₄.heap _ (Stays.refl _) rfl))
    case he2 =>
      intro C2 v' s₄ m₄ hv' _ st5 hn2 hm2 Q' E' q
      exact nmL hn2 hm2 (q _ s₄.heap _ (Stays.refl _) True.intro) rfl rfl rfl
    rintro _ h₅1 tk₅1 st₅1 ⟨D1, ys1, k1, rfl, hD1, gD1, hF1⟩
    refine args_nil ?_
    have e1 : ys1.toArray.size = (ns.filter fun q => decide (q < n)).length := by
      rw [List.size_toArray, paired_len hF1]
      exact filter_ints (fun a => decide (a < n)) hi
    have eL1 : (ns.filter fun q => decide (q < n)).length ≤ 1000 := Nat.le_trans (List.length_filter_le _ _) hlen
    refine call_len_list ⟨_, gD1, rfl, _, rfl⟩ (by rw [e1]; omega) ?_
    rw [e1]
    refine (Call_ (nmB (x := Str.ofString "len") (v := .builtin "len") (X.keeps fun b o e => st₅1 b o (st4 b o e)) (T.keeps fun b o e => st₅1 b o (st4 b o e)) (by k_is) (by boot_fast) (by decide) ?_ rfl rfl rfl rfl rfl))
    refine callWith_builtin1 (args_cons ?_)
    refine pcompL (cl := [(Str.ofString "p", s.heap.objs.size + 1)]) (items := vs) (F := fun _ _ => True) (fun v' => decide (n < numOfV v')) rfl (by with_unfolding_all rfl) (by decide) rfl (by decide) rfl ?hsz ?hit ?ht ?he2 (fun _ => rfl) _ _ ?_
    case hsz => rw [hi.length, sizeLine_eq]; omega
    case hit => exact fun Q' E' q => nmL (F4.keeps st₅1).ns rfl (q _ h₅1 _ (Stays.refl _) ⟨l, rfl, lkeep hl fun b o e => st₅1 b o (st4 b o e)⟩) rfl rfl rfl
    case ht =>
      intro C2 v' s₄ m₄ hv' st5 hn2 hm2 Q' E' q
      obtain ⟨n', t', rfl, hnm'⟩ := ints_mem hi v' hv'
      refine wpAny_tests_one (wpAny_isTrue_Compare1 ?_)
      refine nmL hn2 hm2 ?_ rfl rfl rfl
      refine nmC (c := s.heap.objs.size + 1) rfl (c4.keeps fun b o e => st5 b o (st₅1 b o e)) ?_ rfl rfl rfl
      exact gt_int (wpAny_truthy_bool (q _ s₄.heap _ (Stays.refl _) rfl))
    case he2 =>
      intro C2 v' s₄ m₄ hv' _ st5 hn2 hm2 Q' E' q
      exact nmL hn2 hm2 (q _ s₄.heap _ (Stays.refl _) True.intro) rfl rfl rfl
    rintro _ h₅2 tk₅2 st₅2 ⟨D2, ys2, k2, rfl, hD2, gD2, hF2⟩
    refine args_nil ?_
    have e2 : ys2.toArray.size = (ns.filter fun q => decide (n < q)).length := by
      rw [List.size_toArray, paired_len hF2]
      exact filter_ints (fun a => decide (n < a)) hi
    have eL2 : (ns.filter fun q => decide (n < q)).length ≤ 1000 := Nat.le_trans (List.length_filter_le _ _) hlen
    refine call_len_list ⟨_, gD2, rfl, _, rfl⟩ (by rw [e2]; omega) ?_
    rw [e2]
    have st5 : Stays h₄ h₅2 := fun b o e => st₅2 b o (st₅1 b o e)
    refine sub_any fun u tku => ?_
    refine args_nil ?_
    refine append_at (hsz := by show ys.toArray.size ≤ sizeLine; rw [List.size_toArray, hyl, sizeLine_eq]; omega) (st5 R _ gR4) fun h₆ hs₆ hR₆ => ?_
    have k6 : ∀ b o, b ≠ R → h₅2.get? b = some o → h₆.get? b = some o := fun b o h1 e => hs₆.extBut b o h1 e
    refine wpAny_execs_nil ?_
    refine ⟨vs.length + 1 - (i + 1), by omega, h₆, _, i + 1, ys ++ [.int (((ns.filter fun q => decide (q < n)).length : Int) - ((ns.filter fun q => decide (n < q)).length : Int)) u], some (.int n t), rfl, hlt, rfl, ?_, ?_, ?_, ?_, ?_, ?_⟩
    · have e4 : h₄.IsListIter I l (i + 1) ∧ h₄.IsList l vs.toArray := W.frame _ _ _ hst₃ fun b hb o e => hs₄.extBut b o (fun q => by
        have hb' : b = I ∨ b = l := by simpa using hb
        rcases hb' with q2 | q2
        · exact ncI (q.symm.trans q2)
        · obtain ⟨ol, el, _⟩ := hl
          rw [← q2, q, fc] at el; cases el) e
      exact W.frame _ _ _ e4 fun b hb o e => k6 b o (fun q => by
        have hb' : b = I ∨ b = l := by simpa using hb
        rcases hb' with q2 | q2
        · exact nRI (q.symm.trans q2)
        · obtain ⟨ol, el, _⟩ := hl
          rw [← q2, q, fR] at el; cases el) (st5 b o e)
    · rw [hR₆]
      show some ({ cls := .type "list", data := .seq (ys.toArray.push _) (i + 1) } : Obj) = some (lobj (ys ++ [_]) (i + 1))
      rw [List.push_toArray]
    · rw [List.length_append, List.length_singleton, hyl]
    · rw [List.take_add_one, hn, List.map_append]
      exact hys.append (.cons _ _ .nil)
    · obtain ⟨o, ho, hd⟩ := c4
      exact ⟨o, k6 _ o (Ne.symm nRc) (st5 _ o ho), hd⟩
    · exact ⟨(F4.keeps st5).ns.at' fun o e => k6 _ o (Ne.symm nRL) e, fun b o e => k6 b o (ne_of_stays e fR) (st5 b o (st4 b o e)), F4.above⟩
  · obtain rfl : i = vs.length := by omega
    refine W.done _ _ _ (by simpa using hst) fun h₃ tk₃ hk₃ => ?_
    have k3 : ∀ b o, b ≠ I → h'.get? b = some o → h₃.get? b = some o := fun b o hb e => hk₃ b o (by simpa using hb) e
    refine wpAny_execs_nil ?_
    have F5 : Fr s.heap s.heap.objs.size h₃ fun y => if y = Str.ofString "rows" then some (Value.ref R) else bindL (envOfC (dN 44) (dS 44) s.heap.objs.size 123 (Value.ref 122)).kindOf [(Str.ofString "numbers", Value.ref l)] (fun _ => none) y :=
      ⟨F3.ns.at' fun o e => k3 _ o nLI e, fun b o e => k3 b o (ne_of_stays e fI) (F3.keep b o e), F3.above⟩
    have N5 : News s.heap s.heap.objs.size h₃ [] := News.nil
    show wpAny _ _ (execs _ _) _ _ _
    iterate 3 walk1
    rw [hvl, List.take_length] at hys
    exact hret R ys _ h₃ _ F5.keep fR (k3 R _ nRI hR) hys
end Mine

end
section
open PySem PySem.W PyProof.Rows PySem.Calls
set_option maxRecDepth 100000
namespace Mine
def st (s : Shared) (h : Heap) (tk : Nat) : Shared := { s with heap := h, toks := tk }
def NoE : Value → Shared → Prop := fun _ _ => False
/-- a tree that runs through, raising nothing; a structure, so that no elaborator runs it -/
structure Wp (w : World) (A : Around) {α : Type} (x : Sem α) (Q : α → Shared → Prop) (s : Shared) : Prop where
  out : wpAny (model prg w) A x Q NoE s
section
variable {w : World} {A : Around} {s : Shared} {h : Heap} {tk : Nat} {Q : Value → Shared → Prop} {env : Env} {K : Frag} {mean : ExcName → Option Value} {mg mb : Str → Option Value}
theorem Wp.mono {α : Type} {x : Sem α} {Q Q' : α → Shared → Prop} (h : Wp w A x Q s) (k : ∀ a s', Q a s' → Q' a s') : Wp w A x Q' s := ⟨wpAny_mono h.out k fun _ _ e => e⟩
theorem Wp.use {α : Type} {x : Sem α} {Q : α → Shared → Prop} {E : Value → Shared → Prop} (h : Wp w A x Q s) : wpAny (model prg w) A x Q E s := wpAny_mono h.out (fun _ _ e => e) fun _ _ e => e.elim
theorem Wp.deep {α β : Type} {x : Sem α} {f : α → Sem β} {B : α → Around} {Q : α → β → Shared → Prop} {E : Value → Shared → Prop} (h : Wp w A x (fun a s' => Wp w (B a) (f a) (Q a) s') s) : wpAny (model prg w) A x (fun a s' => wpAny (model prg w) (B a) (f a) (Q a) E s') E s :=
  wpAny_mono h.out (fun _ _ e => e.use) fun _ _ e => e.elim
theorem r_int {i : Int} {k : Nat} {pos : Pos} (q : ∀ t tk', Q (.int i t) (st s h tk')) : Wp w A (eval (.Constant (.int i) k pos) env) Q (st s h tk) := ⟨wpAny_Constant_int (q _ _)⟩
theorem r_str {i : Str} {k : Nat} {pos : Pos} (q : ∀ t tk', Q (.str i t) (st s h tk')) : Wp w A (eval (.Constant (.str i) k pos) env) Q (st s h tk) := ⟨wpAny_Constant_str (q _ _)⟩
theorem r_boo {i : Bool} {k : Nat} {pos : Pos} (q : Q (.bool i) s) : Wp w A (eval (.Constant (.bool i) k pos) env) Q s := ⟨wpAny_Constant_bool q⟩
theorem r_loc {x : Str} {pos : Pos} {v : Value} {m : Str → Option Value} (hn : h.Ns env.locals m) (hv : m x = some v) (q : Q v (st s h tk)) (hk : env.scope.kind = .function) (hl : env.kindOf x = some .local) (hd : (x == ("__debug__" : Str)) = false) :
    Wp w A (eval (.Name x pos) env) Q (st s h tk) := ⟨nmL hn hv q hk hl hd⟩
theorem r_cel {x : Str} {pos : Pos} {v : Value} {c : Addr} (hc : env.cells.lookup x = some c) (hv : h.IsCell c (some v)) (q : Q v (st s h tk)) (hk : env.scope.kind = .function) (hl : env.kindOf x = some .cell) (hd : (x == ("__debug__" : Str)) = false) :
    Wp w A (eval (.Name x pos) env) Q (st s h tk) := ⟨nmC hc hv q hk hl hd⟩
theorem r_glo {x : Str} {pos : Pos} {v : Value} (X : K.In h) (T : TopV mean mg mb h) (e : nsIn K mainGlobals x = some (some v)) (q : Q v (st s h tk))
    (hg : env.globals = mainGlobals) (hk : env.scope.kind = .function) (hx : env.kindOf x = some .globalImplicit) (hd : (x == ("__debug__" : Str)) = false) :
    Wp w A (eval (.Name x pos) env) Q (st s h tk) := ⟨nmG (s := st s h tk) X T e q hg hk hx hd⟩
theorem r_blt {x : Str} {pos : Pos} {v : Value} (X : K.In h) (T : TopV mean mg mb h) (e : nsIn K mainGlobals x = some none) (hv : bootBuiltins x = some v) (hn : x ≠ "__name__") (q : Q v (st s h tk))
    (hg : env.globals = mainGlobals) (hb : env.builtins = builtinsNs) (hk : env.scope.kind = .function) (hx : env.kindOf x = some .globalImplicit) (hd : (x == ("__debug__" : Str)) = false) :
    Wp w A (eval (.Name x pos) env) Q (st s h tk) := ⟨nmB (s := st s h tk) X T e hv hn q hg hb hk hx hd⟩
theorem r_bin {l r : PySem.Expr} {op : Operator} {pos : Pos} (q : Wp w A (eval l env) (fun a s₁ => Wp w A (eval r env) (fun b s₂ => Wp w A (binaryOp op a b) Q s₂) s₁) s) : Wp w A (eval (.BinOp l op r pos) env) Q s :=
  ⟨wpAny_BinOp (wpAny_mono q.out (fun _ _ e => e.deep) fun _ _ e => e)⟩
theorem r_cmp {l r : PySem.Expr} {op : CmpOp} {pos : Pos} (q : Wp w A (eval l env) (fun a s₁ => Wp w A (eval r env) (fun b s₂ => Wp w A (compareOp op a b) Q s₂) s₁) s) (hm : behindInMarks op r = false) : Wp w A (eval (.Compare l [op] [r] pos) env) Q s :=
  ⟨wpAny_Compare1 (wpAny_mono q.out (fun _ _ e => e.deep) fun _ _ e => e) hm⟩
theorem r_ifc {l r : PySem.Expr} {op : CmpOp} {pos : Pos} {whole : Sem Value} {Q : Bool → Shared → Prop} (q : Wp w A (eval l env) (fun a s₁ => Wp w A (eval r env) (fun b s₂ => Wp w A (compareOp op a b) (fun c s₃ => Wp w A (truthy c) Q s₃) s₂) s₁) s) (hm : behindInMarks op r = false) :
    Wp w A (isTrue (.Compare l [op] [r] pos) env whole) Q s :=
  ⟨wpAny_isTrue_Compare1 (wpAny_mono q.out (fun _ _ e => wpAny_mono e.out (fun _ _ e => e.deep) fun _ _ e => e) fun _ _ e => e) hm⟩
theorem r_tb {b : Bool} {Q : Bool → Shared → Prop} (q : Q b s) : Wp w A (truthy (.bool b)) Q s := ⟨wpAny_truthy_bool q⟩
theorem r_not {x : PySem.Expr} {pos : Pos} {whole : Sem Value} {Q : Bool → Shared → Prop} (q : Wp w A (isTrue x env (eval x env)) (fun b s₁ => Q (!b) s₁) s) : Wp w A (isTrue (.UnaryOp .Not x pos) env whole) Q s := ⟨wpAny_isTrue_Not q.out⟩
theorem r_tv {e : PySem.Expr} {whole : Sem Value} {Q : Bool → Shared → Prop} (q : Wp w A whole (fun v s₁ => Wp w A (truthy v) Q s₁) s)
    (he : isTrue e env whole = (do let v ← whole; standAt e.pos; holding [v] (truthy v))) : Wp w A (isTrue e env whole) Q s := ⟨wpAny_isTrue_value q.deep he⟩
theorem r_if {test : PySem.Expr} {body orelse : List Stmt} {pos : Pos} {Q : Flow → Shared → Prop}
    (q : Wp w A (isTrue test env (eval test env)) (fun b s₂ => (b = true → Wp w A (execs body env) Q s₂) ∧ (b = false → Wp w A (execs orelse env) Q s₂)) s) : Wp w A (exec (.If test body orelse pos) env) Q s :=
  ⟨wpAny_If (wpAny_mono q.out (fun b _ e => by cases b; exact (e.2 rfl).out; exact (e.1 rfl).out) fun _ _ e => e)⟩
theorem r_sub_ {value slice : PySem.Expr} {pos : Pos} (q : Wp w A (eval value env) (fun o s₁ => Wp w A (eval slice env) (fun i s₂ => Wp w A (subscriptTail value slice o i) Q s₂) s₁) s) : Wp w A (eval (.Subscript value slice pos) env) Q s :=
  ⟨Subscript_ (wpAny_mono q.out (fun _ _ e => e.deep) fun _ _ e => e)⟩
theorem r_args {e : PySem.Expr} {rest : List PySem.Expr} {pos : Pos} {Q : List Value → Shared → Prop}
    (q : Wp w A (eval e env) (fun v s₁ => Wp w A (spliced (backTo pos (starEach rest env))) (fun vs s₂ => Q (v :: vs) s₂) s₁) s)
    (he : starEach (e :: rest) env = (false, eval e env) :: starEach rest env) : Wp w A (spliced (backTo pos (starEach (e :: rest) env))) Q s := ⟨args_cons q.deep he⟩
theorem r_args0 {pos : Pos} {Q : List Value → Shared → Prop} (q : Q [] s) : Wp w A (spliced (backTo pos (starEach [] env))) Q s := ⟨args_nil q⟩
theorem r_list {elts : List PySem.Expr} {pos : Pos} (q : Wp w A (spliced (backTo pos (starEach elts env)))
      (fun vs s₁ => vs.length ≤ sizeLine ∧ Q (.ref s₁.heap.objs.size) { s₁ with heap := s₁.heap.push (lobj vs 0) }) s) : Wp w A (eval (.List elts pos) env) Q s := ⟨wpAny_List q.out⟩
theorem r_tup {elts : List PySem.Expr} {k : Nat} {pos : Pos} (q : Wp w A (spliced (backTo pos (starEach elts env)))
      (fun vs s₁ => vs.length ≤ sizeLine ∧ Q (.ref s₁.heap.objs.size) { s₁ with heap := s₁.heap.push { cls := .type "tuple", data := .seq vs.toArray } }) s) : Wp w A (eval (.Tuple elts k pos) env) Q s := ⟨wpAny_Tuple q.out⟩
theorem r_asg {x : Str} {p pos : Pos} {value : PySem.Expr} {Q : Flow → Shared → Prop}
    (q : Wp w A (eval value env) (fun v s₁ => Wp w A (storeName env x v) (fun _ => Q .next) s₁) s)
    (hs : swapsWith value (some (.Name x p)) pos.line env = pure false) : Wp w A (exec (.Assign [.Name x p] value pos) env) Q s := ⟨wpAny_Assign_Name q.deep hs⟩
theorem r_cons {st' : Stmt} {rest : List Stmt} {Q : Flow → Shared → Prop} (q : Wp w A (exec st' env) (fun f s' => (f = .next → Wp w A (execs rest env) Q s') ∧ (f ≠ .next → Q f s')) s) :
    Wp w A (execs (st' :: rest) env) Q s := ⟨wpAny_execs_cons (wpAny_mono q.out (fun f s' e => by cases f <;> first | exact (e.1 rfl).out | exact e.2 (fun x => nomatch x)) fun _ _ e => e)⟩
/-- a statement that goes on -/
theorem r_next {rest : List Stmt} {Q : Flow → Shared → Prop} (q : Wp w A (execs rest env) Q s) : ((Flow.next = .next → Wp w A (execs rest env) Q s) ∧ (Flow.next ≠ .next → Q .next s)) := ⟨fun _ => q, fun x => (x rfl).elim⟩
theorem r_ret' {P : Prop} {f : Flow} {q : Prop} (hf : f ≠ .next) (k : q) : ((f = .next → P) ∧ (f ≠ .next → q)) := ⟨fun x => (hf x).elim, fun _ => k⟩
theorem r_nil {Q : Flow → Shared → Prop} (q : Q .next s) : Wp w A (execs [] env) Q s := ⟨wpAny_execs_nil q⟩
theorem r_ret {e : PySem.Expr} {pos : Pos} {Q : Flow → Shared → Prop} (q : Wp w A (eval e env) (fun v => Q (.ret v)) s) : Wp w A (exec (.Return (some e) pos) env) Q s := ⟨wpAny_Return_some q.out⟩
theorem r_brk {pos : Pos} {Q : Flow → Shared → Prop} (q : Q .brk s) : Wp w A (exec (.Break pos) env) Q s := ⟨wpAny_Break q⟩
theorem r_expr {e : PySem.Expr} {pos : Pos} {Q : Flow → Shared → Prop} (q : Wp w A (eval e env) (fun _ => Q .next) s) (hi : interactive env = false) (hs : swapsWith e none pos.line env = pure false) : Wp w A (exec (.Expr e pos) env) Q s := ⟨wpAny_Expr_any q.out hi hs⟩
theorem r_setL {h₀ : Heap} {x : Str} {v : Value} {m : Str → Option Value} {Q : Unit → Shared → Prop} (F : Fr h₀ env.locals h m)
    (q : ∀ h' tk', Fr h₀ env.locals h' (fun y => if y = x then some v else m y) → Heap.SameBut env.locals h h' → Q () (st s h' tk')) (hl : env.kindOf x = some .local) (hk : env.scope.kind = .function) :
    Wp w A (storeName env x v) Q (st s h tk) :=
  ⟨wpAny_storeName_local hl F.ns (fun h' hn hs => q h' _ (F.set hn hs) hs) (by rw [hk]; rfl)⟩
theorem r_asgn {x : Str} {p : Pos} {v : Value} {Q : Unit → Shared → Prop} (q : Wp w A (storeName env x v) Q s) : Wp w A (assign (.Name x p) env v) Q s := ⟨wpAny_assign_Name q.out⟩
theorem r_call {func : PySem.Expr} {args : List PySem.Expr} {pos : Pos} (q : Wp w A (eval func env) (fun f s₁ => Wp w A (callWith pos f [] (backTo pos (starEach args env)) []) Q s₁) s)
    (he : eval (.Call func args [] pos) env = (do callWith pos (← eval func env) [] (backTo pos (starEach args env)) (backToKw pos (keywordEach [] env)))) : Wp w A (eval (.Call func args [] pos) env) Q s := ⟨Call_ q.deep he⟩
theorem r_cwB {pos : Pos} {id : String} {e : PySem.Expr} {rest : List PySem.Expr} (q : Wp w A (spliced (backTo pos (starEach (e :: rest) env))) (fun vs s₁ => Wp w A (call (.builtin id) vs) Q s₁) s)
    (he : starEach (e :: rest) env = (false, eval e env) :: starEach rest env) (hp : (backTo pos (starEach rest env)).any (·.1) = false) : Wp w A (callWith pos (.builtin id) [] (backTo pos (starEach (e :: rest) env)) []) Q s := ⟨PyProof.Rows.callWith_builtin1 q.deep he hp⟩
theorem r_cwT {pos : Pos} {T : String} {e : PySem.Expr} {rest : List PySem.Expr} (q : Wp w A (spliced (backTo pos (starEach (e :: rest) env))) (fun vs s₁ => Wp w A (call (.type T) vs) Q s₁) s)
    (he : starEach (e :: rest) env = (false, eval e env) :: starEach rest env) (hp : (backTo pos (starEach rest env)).any (·.1) = false) : Wp w A (callWith pos (.type T) [] (backTo pos (starEach (e :: rest) env)) []) Q s := ⟨PySem.Pv.callWith_type1 q.deep he hp⟩
theorem r_cwF {pos : Pos} {a : Addr} {o : Obj} {fd : FuncData} {e : PySem.Expr} {rest : List PySem.Expr} (q : Wp w A (spliced (backTo pos (starEach (e :: rest) env))) (fun vs s₁ => (s₁.heap.get? a = some o) ∧ Wp w A (call (.ref a) vs) Q s₁) s) (ho : o.data = .func fd)
    (he : starEach (e :: rest) env = (false, eval e env) :: starEach rest env) :
    Wp w A (callWith pos (.ref a) [] (backTo pos (starEach (e :: rest) env)) []) Q s := by
  rw [he] at q ⊢
  exact ⟨callWith_function (o := o) (fd := fd) (evalArgs_plain (wpAny_mono q.out (fun _ _ e => (⟨⟨e.1, ho⟩, e.2.out⟩ : (_ ∧ _) ∧ _)) fun _ _ e => e))⟩
theorem r_meth {o : PySem.Expr} {name : Str} {apos pos : Pos} {args : List PySem.Expr} {T id : String}
    (hbase : attributeBase o name env (eval o env) = eval o env)
    (hfew : ((backTo pos (starEach args env)).all (fun x => !x.1) && (backToKw pos (keywordEach [] env)).all (fun x => x.1.isSome)
      && decide (args.length + ([] : List Keyword).length + (if ([] : List Keyword).isEmpty then 0 else 1) < 30)) = true)
    (hline : (apos.endLine == pos.line) = true) (pa : PlainAttrs T) (slot : Slot T name id) (hty : typeOf (.builtin id) = pure (.type "method_descriptor"))
    (q : Wp w A (eval o env) (fun ov s₁ => s₁.TypeIs ov T ∧ (∀ a, ov = .ref a → ∃ ob, s₁.heap.get? a = some ob ∧ ob.dict = none) ∧ Wp w A (callWith pos (.builtin id) [ov] (backTo pos (starEach args env)) []) Q s₁) s) :
    Wp w A (eval (.Call (.Attribute o name apos) args [] pos) env) Q s :=
  ⟨wpAny_Call_method hbase hfew hline pa slot hty (wpAny_mono q.out (fun _ _ e => ⟨e.1, e.2.1, e.2.2.out⟩) fun _ _ e => e)⟩
theorem r_cwM1 {pos : Pos} {id : String} {ov : Value} {e : PySem.Expr} (q : Wp w A (eval e env) (fun v s₁ => Wp w A (call (.builtin id) [ov, v]) Q s₁) s) (he : starEach [e] env = [(false, eval e env)]) :
    Wp w A (callWith pos (.builtin id) [ov] (backTo pos (starEach [e] env)) []) Q s := by
  rw [he]
  exact ⟨callWith_builtin rfl (evalArgs_plain (Calls.spliced_cons (wpAny_mono q.out (fun _ _ e => Calls.spliced_nil e.out) fun _ _ e => e)))⟩
theorem r_cwM0 {pos : Pos} {id : String} {ov : Value} (q : Wp w A (call (.builtin id) [ov]) Q s) : Wp w A (callWith pos (.builtin id) [ov] (backTo pos (starEach [] env)) []) Q s :=
  ⟨callWith_builtin rfl (PyProof.Rows.evalArgs_none q.out)⟩
theorem r_app {D : Addr} {ys : List Value} {n : Nat} {x : Value} (ho : h.get? D = some (lobj ys n)) (hsz : ys.length ≤ 1000)
    (q : ∀ h', Heap.SameBut D h h' → h'.get? D = some (lobj (ys ++ [x]) (n + 1)) → Q .none (st s h' tk)) : Wp w A (call (.builtin "list.append") [.ref D, x]) Q (st s h tk) :=
  ⟨append_at (s := st s h tk) ho (fun h' hs hg => q h' hs (by rw [hg]; show some ({ cls := .type "list", data := .seq (ys.toArray.push x) (n + 1) } : Obj) = _; rw [List.push_toArray])) (by show ys.toArray.size ≤ sizeLine; rw [List.size_toArray, sizeLine_eq]; omega)⟩
variable {a b : Int} {t u : Tok}
theorem r_add (q : ∀ t' tk', Q (.int (a + b) t') (st s h tk')) : Wp w A (binaryOp .Add (.int a t) (.int b u)) Q (st s h tk) := ⟨PyProof.Rows.add_int (q _ _)⟩
theorem r_sub (q : ∀ t' tk', Q (.int (a - b) t') (st s h tk')) : Wp w A (binaryOp .Sub (.int a t) (.int b u)) Q (st s h tk) := ⟨PyProof.Rows.sub_int (q _ _)⟩
theorem r_mul (hm : IntMulOk a b) (q : ∀ t' tk', Q (.int (a * b) t') (st s h tk')) : Wp w A (binaryOp .Mult (.int a t) (.int b u)) Q (st s h tk) := ⟨PyProof.Rows.mul_int (q _ _) hm⟩
theorem r_fdiv (hb : b ≠ 0) (hb2 : b.natAbs < 1073741824) (q : ∀ t' tk', Q (.int (a.fdiv b) t') (st s h tk')) : Wp w A (binaryOp .FloorDiv (.int a t) (.int b u)) Q (st s h tk) := ⟨floordiv_int hb (q _ _) (.inl (PyProof.noPylong_small hb2))⟩
theorem r_mod (hb : b ≠ 0) (q : ∀ t' tk', Q (.int (a.fmod b) t') (st s h tk')) : Wp w A (binaryOp .Mod (.int a t) (.int b u)) Q (st s h tk) := ⟨mod_int' hb (q _ _)⟩
theorem r_pow (h0 : 0 ≤ b) (h1 : b ≤ 1000000) (ha : a.natAbs < 2 ^ 64) (q : ∀ t' tk', Q (.int (a ^ b.toNat) t') (st s h tk')) : Wp w A (binaryOp .Pow (.int a t) (.int b u)) Q (st s h tk) := ⟨pow_int_small h0 h1 ha (q _ _)⟩
theorem r_and (q : ∀ t' tk', Q (.int (Builtin.bitAnd a b) t') (st s h tk')) : Wp w A (binaryOp .BitAnd (.int a t) (.int b u)) Q (st s h tk) := ⟨and_int (q _ _)⟩
theorem r_eq (q : Q (.bool (a == b)) (st s h tk)) : Wp w A (compareOp .Eq (.int a t) (.int b u)) Q (st s h tk) := ⟨PyProof.Rows.eq_int q⟩
theorem r_ne (q : Q (.bool (a != b)) (st s h tk)) : Wp w A (compareOp .NotEq (.int a t) (.int b u)) Q (st s h tk) := ⟨PyProof.Rows.ne_int q⟩

theorem Wp.pev {α : Type} {x : Sem α} {R : α → Heap → Prop} (q : Wp w A x (fun a s' => ∃ h' tk', s' = st s h' tk' ∧ Stays h h' ∧ R a h') (st s h tk)) : Pev prg w A x (st s h tk) R :=
  fun _ _ k => wpAny_mono q.out (fun a s' e => by obtain ⟨h', tk', rfl, hs, hr⟩ := e; exact k a h' tk' hs hr) fun _ _ e => e.elim
theorem Wp.of_pev {α : Type} {x : Sem α} {R : α → Heap → Prop} {Q : α → Shared → Prop} (q : Pev prg w A x (st s h tk) R) (k : ∀ a h' tk', Stays h h' → R a h' → Q a (st s h' tk')) : Wp w A x Q (st s h tk) := ⟨q _ _ k⟩
theorem lp_next {P Qb : Prop} {Qr : Value → Prop} (p : P) : ((Flow.next = .next ∨ Flow.next = .cont) → P) ∧ (Flow.next = .brk → Qb) ∧ (∀ v, Flow.next = .ret v → Qr v) := ⟨fun _ => p, fun x => (nomatch x), fun _ x => (nomatch x)⟩
theorem lp_brk {P Qb : Prop} {Qr : Value → Prop} (p : Qb) : ((Flow.brk = .next ∨ Flow.brk = .cont) → P) ∧ (Flow.brk = .brk → Qb) ∧ (∀ v, Flow.brk = .ret v → Qr v) := ⟨fun x => x.elim (fun x => nomatch x) (fun x => nomatch x), fun _ => p, fun _ x => (nomatch x)⟩
theorem lp_ret {P Qb : Prop} {Qr : Value → Prop} {v : Value} (p : Qr v) : ((Flow.ret v = .next ∨ Flow.ret v = .cont) → P) ∧ (Flow.ret v = .brk → Qb) ∧ (∀ v', Flow.ret v = .ret v' → Qr v') := ⟨fun x => x.elim (fun x => nomatch x) (fun x => nomatch x), fun x => (nomatch x), fun _ x => by cases x; exact p⟩
/-- the loop over what an iterator gives -/
theorem r_loopW {I : Addr} {fp wr : List Addr} {n : Nat} {P : Nat → Value → Prop} {St : Nat → Heap → Prop} {target : PySem.Expr} {body orelse : List Stmt} {Q : Flow → Shared → Prop} {R : Result → Shared → Prop}
    (W : Walks prg w A I fp wr n P St) (J : Nat → Heap → Prop) (h0 : St 0 h) (j0 : J 0 h)
    (hJ : ∀ i h h', J i h → (∀ b o, b ∉ wr → h.get? b = some o → h'.get? b = some o) → J i h')
    (hgo : ∀ i v (s' : Shared) (Q' : Unit → Shared → Prop), St i s'.heap → Q' () s' → Wp w A (letOwnedTupleGo target (.ref I) v) Q' s')
    (step : ∀ i v h tk, i < n → P i v → St (i + 1) h → J i h → Wp w A (assign target env v) (fun _ s₂ => Wp w A (execs body env) (fun f s₃ =>
      ((f = .next ∨ f = .cont) → ∃ h' tk', s₃ = st s h' tk' ∧ (∀ b ∈ fp, ∀ o, h.get? b = some o → h'.get? b = some o) ∧ J (i + 1) h') ∧ (f = .brk → Q .next s₃) ∧ (∀ v, f = .ret v → Q (.ret v) s₃)) s₂) (st s h tk))
    (done : ∀ h tk, J n h → Wp w A (execs orelse env) Q (st s h tk)) (hR : ∀ f s', Q f s' → R (.ok f) s') :
    codeAny (model prg w) A (.forLoop target (.ref I) body orelse env) R (st s h tk) := by
  refine codeAny_forLoop_any (fun k s' => ∃ h' tk' i, s' = st s h' tk' ∧ i ≤ n ∧ k = n + 1 - i ∧ St i h' ∧ J i h') ?_ (n + 1) ⟨h, tk, 0, rfl, Nat.zero_le _, rfl, h0, j0⟩
  rintro k s' ⟨h', tk', i, rfl, hle, rfl, hSt, hj⟩
  by_cases hlt : i < n
  · refine W.item i _ _ _ hlt hSt fun v h₄ tk₄ hPv hst₄ hk₄ => ?_
    refine (hgo (i + 1) v _ _ hst₄ ?_).use
    refine wpAny_mono (step i v h₄ tk₄ hlt hPv hst₄ (hJ _ _ _ hj hk₄)).out (fun _ s₂ e => wpAny_mono e.out (fun f s₃ e => ?_) fun _ _ e => e.elim) fun _ _ e => e.elim
    obtain ⟨e1, e2, e3⟩ := e
    have nx : (f = .next ∨ f = .cont) → ∃ m, m < n + 1 - i ∧ ∃ h' tk' i', s₃ = st s h' tk' ∧ i' ≤ n ∧ m = n + 1 - i' ∧ St i' h' ∧ J i' h' := fun hf => by
      obtain ⟨h₅, tk₅, rfl, hk, hj'⟩ := e1 hf
      exact ⟨n + 1 - (i + 1), by omega, h₅, tk₅, i + 1, rfl, hlt, rfl, W.frame _ _ _ hst₄ hk, hj'⟩
    cases f with
    | next => exact nx (.inl rfl)
    | cont => exact nx (.inr rfl)
    | brk => exact hR _ _ (e2 rfl)
    | ret v => exact hR _ _ (e3 v rfl)
  · obtain rfl : i = n := by omega
    refine W.done _ _ _ hSt fun h₃ tk₃ hk₃ => ?_
    exact wpAny_mono (done h₃ tk₃ (hJ _ _ _ hj hk₃)).out (fun f s' q => hR f s' q) fun _ _ e => e.elim
theorem r_for {target iter : PySem.Expr} {body orelse : List Stmt} {pos : Pos} {Q : Flow → Shared → Prop}
    (q : Wp w A (eval iter env) (fun x s₁ => Wp w A (pyIter x) (fun it s₂ => codeAny (model prg w) A (.forLoop target it body orelse env) (fun r s' => match r with | .ok f => Q f s' | .error e => cameBackBy (model prg w) A env NoE e s') s₂) s₁) s)
    (hs : ∀ x, foldedSetIterable iter env x = pure x) : Wp w A (exec (.For target iter body orelse pos) env) Q s := ⟨wpAny_For q.deep hs⟩
end
end Mine

end
section
open PySem PySem.W PyProof.Rows PySem.Calls
set_option maxRecDepth 100000
namespace Mine
theorem fillK3 : ∀ (w : World) (h : Heap), (KK w.params).In h → PySem.Challenge.rw_oc0066_01.row.prog = PySem.Challenge.rw_oc0066_01.row.prog := by
  w_on
  k_fill
  intros
  rfl
def retV : Flow → Value
  | .ret v => v
  | _ => .none
theorem w_enter {w : World} {A : Around} {s : Shared} {h : Heap} {tk : Nat} {Q : Value → Shared → Prop} {K : Frag} {mean : ExcName → Option Value} {mg mb : Str → Option Value} {name : Str} {params : Arguments} {body : List Stmt} {scope : Scope} {pm cdv doc oc : Value} {od : Option Addr} {osl : Array (Option Value)} {f : Addr} {args : List Value} {binds : List (Str × Value)}
    (X : K.In h) (T : TopV mean mg mb h) (ho : K.lookup f = some ⟨oc, od, .func (docDef name params body scope pm cdv doc), osl⟩) (hcd : codeIn K cdv name = true) (hroom : A.depth < recursionLimit)
    (hbind : bindArgs (docDef name params body scope pm cdv doc) ⟨args, []⟩ = pure binds) (hloc : ∀ x ∈ binds, scope.names.lookup x.1 = some .local)
    (q : ∀ h₁ tk₁ L, L = h.objs.size → Fr h L h₁ (fun x => binds.reverse.lookup x) → Wp w (A.deeper (envOf name scope L f cdv)) (execs body (envOf name scope L f cdv)) (fun fl s' => Q (retV fl) s') (st s h₁ tk₁))
    (hco : scope.isCoroutine = false) (hgen : scope.isGenerator = false) (hk : scope.kind = .function) (hcell : ∀ x ∈ scope.names, x.2 ≠ .cell) :
    Wp w A (call (.ref f) args) Q (st s h tk) :=
  ⟨enterK (s := st s h tk) X T ho hcd hroom hbind hloc (fun h₁ F => wpAny_mono (q h₁ _ _ rfl F).out (fun fl s' e => by cases fl <;> exact e) fun _ _ e => e.elim) hco hgen hk hcell⟩
def figAt (m : Int) (k : Nat) : Int := (m.fdiv (8 ^ (2 - k))).fmod 8
def abvAt (m : Int) (k : Nat) : Int := (m.fdiv (2 ^ (11 - k))).fmod 2
def plAt (m : Int) : Nat → Int
  | 0 => [1, 6, 3, 1, 4, 1, 2, 1, 0, 1, 5, 1, 7, 1, 1, 1].getD ((m.fdiv 4096).fmod 16).toNat 0
  | k + 1 => plAt m k * 16 + (figAt m k).fdiv 2 * 4 + [0, 3, 1, 2].getD ((figAt m k).fmod 2 + 2 * abvAt m k).toNat 0
theorem norm2 {m : Str → Option Value} {x y : Str} {a b : Value} (hx : m x = some a) (hy : m y = some b) : m = fun z => if z = x then some a else if z = y then some b else m z := by
  funext z
  by_cases h1 : z = x
  · rw [if_pos h1, h1, hx]
  · by_cases h2 : z = y
    · rw [if_neg h1, if_pos h2, h2, hy]
    · rw [if_neg h1, if_neg h2]

theorem pl0_bound (m : Int) : 0 ≤ plAt m 0 ∧ plAt m 0 ≤ 7 := by
  show 0 ≤ [1, 6, 3, 1, 4, 1, 2, 1, 0, 1, 5, 1, 7, 1, 1, 1].getD ((m.fdiv 4096).fmod 16).toNat (0 : Int) ∧ [1, 6, 3, 1, 4, 1, 2, 1, 0, 1, 5, 1, 7, 1, 1, 1].getD ((m.fdiv 4096).fmod 16).toNat (0 : Int) ≤ 7
  have h0 : 0 ≤ (m.fdiv 4096).fmod 16 := Int.fmod_nonneg_of_pos _ (by decide)
  have h1 : (m.fdiv 4096).fmod 16 < 16 := Int.fmod_lt_of_pos _ (by decide)
  generalize (m.fdiv 4096).fmod 16 = r at *
  obtain ⟨n, rfl⟩ := Int.eq_ofNat_of_zero_le h0
  have hn : n < 16 := by omega
  rw [Int.toNat_natCast]
  clear h0 h1
  have : ∀ n : Fin 16, 0 ≤ [1, 6, 3, 1, 4, 1, 2, 1, 0, 1, 5, 1, 7, 1, 1, 1].getD n.val (0 : Int) ∧ [1, 6, 3, 1, 4, 1, 2, 1, 0, 1, 5, 1, 7, 1, 1, 1].getD n.val (0 : Int) ≤ 7 := by decide
  exact this ⟨n, hn⟩
theorem fig_bound (m : Int) (k : Nat) : 0 ≤ figAt m k ∧ figAt m k ≤ 7 := by
  have h0 : 0 ≤ figAt m k := Int.fmod_nonneg_of_pos _ (by decide)
  have h1 : figAt m k < 8 := Int.fmod_lt_of_pos _ (by decide)
  omega
theorem abv_bound (m : Int) (k : Nat) : 0 ≤ abvAt m k ∧ abvAt m k ≤ 1 := by
  have h0 : 0 ≤ abvAt m k := Int.fmod_nonneg_of_pos _ (by decide)
  have h1 : abvAt m k < 2 := Int.fmod_lt_of_pos _ (by decide)
  omega
theorem fa_bound (m : Int) (k : Nat) : 0 ≤ (figAt m k).fmod 2 + 2 * abvAt m k ∧ (figAt m k).fmod 2 + 2 * abvAt m k < 4 := by
  have h0 : 0 ≤ (figAt m k).fmod 2 := Int.fmod_nonneg_of_pos _ (by decide)
  have h1 : (figAt m k).fmod 2 < 2 := Int.fmod_lt_of_pos _ (by decide)
  have := abv_bound m k
  omega
theorem sm_bound (r : Int) (h0 : 0 ≤ r) (h1 : r < 4) : 0 ≤ [0, 3, 1, 2].getD r.toNat (0 : Int) ∧ [0, 3, 1, 2].getD r.toNat (0 : Int) ≤ 3 := by
  rcases (show r = 0 ∨ r = 1 ∨ r = 2 ∨ r = 3 by omega) with rfl | rfl | rfl | rfl <;> decide
theorem fd2 (a : Int) : a.fdiv 2 = a / 2 := Int.fdiv_eq_ediv_of_nonneg a (by decide)
theorem pl_bound (m : Int) : ∀ k, k ≤ 2 → 0 ≤ plAt m k ∧ plAt m k < 100000
  | 0, _ => by have := pl0_bound m; omega
  | 1, _ => by
    have h1 := pl0_bound m; have h2 := fig_bound m 0; have h3 := fa_bound m 0; have h4 := sm_bound _ h3.1 h3.2
    show 0 ≤ plAt m 0 * 16 + (figAt m 0).fdiv 2 * 4 + [0, 3, 1, 2].getD ((figAt m 0).fmod 2 + 2 * abvAt m 0).toNat 0 ∧ plAt m 0 * 16 + (figAt m 0).fdiv 2 * 4 + [0, 3, 1, 2].getD ((figAt m 0).fmod 2 + 2 * abvAt m 0).toNat 0 < 100000
    rw [fd2]; omega
  | 2, _ => by
    have h1 := pl0_bound m; have h2 := fig_bound m 0; have h3 := fa_bound m 0; have h4 := sm_bound _ h3.1 h3.2
    have h2' := fig_bound m 1; have h3' := fa_bound m 1; have h4' := sm_bound _ h3'.1 h3'.2
    show 0 ≤ (plAt m 0 * 16 + (figAt m 0).fdiv 2 * 4 + [0, 3, 1, 2].getD ((figAt m 0).fmod 2 + 2 * abvAt m 0).toNat 0) * 16 + (figAt m 1).fdiv 2 * 4 + [0, 3, 1, 2].getD ((figAt m 1).fmod 2 + 2 * abvAt m 1).toNat 0 ∧ (plAt m 0 * 16 + (figAt m 0).fdiv 2 * 4 + [0, 3, 1, 2].getD ((figAt m 0).fmod 2 + 2 * abvAt m 0).toNat 0) * 16 + (figAt m 1).fdiv 2 * 4 + [0, 3, 1, 2].getD ((figAt m 1).fmod 2 + 2 * abvAt m 1).toNat 0 < 100000
    rw [fd2, fd2]; omega
theorem pw8 {i : Nat} (h : i < 3) : (8 : Int) ^ (2 - (i : Int)).toNat = 8 ^ (2 - i) ∧ (8 : Int) ^ (2 - i) ≠ 0 ∧ ((8 : Int) ^ (2 - i)).natAbs < 1073741824 := by
  rcases (show i = 0 ∨ i = 1 ∨ i = 2 by omega) with rfl | rfl | rfl <;> decide
theorem pw2 {i : Nat} (h : i < 3) : (2 : Int) ^ (11 - (i : Int)).toNat = 2 ^ (11 - i) ∧ (2 : Int) ^ (11 - i) ≠ 0 ∧ ((2 : Int) ^ (11 - i)).natAbs < 1073741824 := by
  rcases (show i = 0 ∨ i = 1 ∨ i = 2 by omega) with rfl | rfl | rfl <;> decide
abbrev eSig (L : Addr) : Env := envOf (dN 42) (dS 42) L 111 (Value.ref 110)
theorem _root_.PyProof.Rows.Fr.as2 {h₀ h : Heap} {L : Addr} {m : Str → Option Value} {x y : Str} {a b : Value} (F : Fr h₀ L h m) (hx : m x = some a) (hy : m y = some b) : Fr h₀ L h fun z => if z = x then some a else if z = y then some b else m z :=
  (norm2 hx hy) ▸ F
def sigBody : List Stmt := match (dB 42) with
  | [_, .For _ _ b _ _, _] => b
  | _ => []

section
variable {w : World} {A : Around} {s : Shared} {h : Heap} {tk : Nat} {Q : Value → Shared → Prop}
theorem r_item {value slice : PySem.Expr} {l : Addr} {vs : List Value} {ns : List Int} {k : Int} {u : Tok} (hl : h.IsList l vs.toArray) (hi : IntsAre vs ns)
    (h0 : 0 ≤ k) (h1 : k < ns.length) (hfit : k < 2 ^ 63) (q : ∀ t, Q (.int (ns.getD k.toNat 0) t) (st s h tk))
    (hs : subscripted slice false (.ref l) (.int k u) = operate [.ref l, .int k u] (getItem (.ref l) (.int k u))) :
    Wp w A (subscriptTail value slice (.ref l) (.int k u)) Q (st s h tk) := ⟨item_anyK (s := st s h tk) hl hi h0 h1 hfit q hs⟩
theorem r_range {n : Int} {t : Tok} (q : ∀ t1 t2 tk', Q (.ref h.objs.size) (st s (h.push { cls := .type "range", data := .fields #[.int 0 t1, .int n t, .int 1 t2] }) tk')) : Wp w A (call (.type "range") [.int n t]) Q (st s h tk) := ⟨call_range_1 (q _ _ _)⟩
theorem r_itRange {r : Addr} {a b c : Int} {t u v : Tok} (hr : IsRange h r a b c t u v) (hsmall : Builtin.Range.small a b c = true)
    (q : Q (.ref h.objs.size) (st s (h.push { cls := .type "range_iterator", data := .fields #[rawInt a, rawInt (Builtin.Range.rangeSize a b c), rawInt c] }) tk)) : Wp w A (pyIter (.ref r)) Q (st s h tk) := ⟨wpAny_pyIter_range (s := st s h tk) hr hsmall q⟩
end

theorem _root_.PyProof.Rows.Fr.but {h₀ h h' : Heap} {L I : Addr} {m : Str → Option Value} (F : Fr h₀ L h m) (hL : L ≠ I) (h0 : h₀.get? I = none) (k : ∀ b o, b ∉ [I] → h.get? b = some o → h'.get? b = some o) : Fr h₀ L h' m :=
  ⟨F.ns.at' fun o e => k _ o (by simpa using hL) e, fun b o e => k b o (by simpa using ne_of_stays e h0) (F.keep b o e), F.above⟩
set_option maxHeartbeats 400000 in
theorem signs_body {w : World} {A : Around} {s : Shared} {h h₀ : Heap} {tk : Nat} {Q : Flow → Shared → Prop} {L : Addr} {m p : Int} {i : Nat} {t tp ti : Tok} {rest : Str → Option Value}
    (hi : i < 3) (hp : 0 ≤ p ∧ p < 100000)
    (F : Fr h₀ L h fun y => if y = Str.ofString "k" then some (Value.int (i : Int) ti) else if y = Str.ofString "place" then some (Value.int p tp) else if y = Str.ofString "m" then some (Value.int m t) else rest y)
    (q : ∀ h' tk' tp' (rest' : Str → Option Value), (∀ b o, b ≠ L → h.get? b = some o → h'.get? b = some o) → (Fr h₀ L h' fun y => if y = Str.ofString "place" then some (Value.int (p * 16 + (figAt m i).fdiv 2 * 4 + [0, 3, 1, 2].getD ((figAt m i).fmod 2 + 2 * abvAt m i).toNat 0) tp') else if y = Str.ofString "m" then some (Value.int m t) else rest' y) → Q .next (st s h' tk')) :
    Wp w A (execs sigBody (eSig L)) Q (st s h tk) := by
  obtain ⟨e8, n8, b8⟩ := pw8 hi
  obtain ⟨e2, n2, b2⟩ := pw2 hi
  refine r_cons (r_asg (r_bin (r_bin ?_)) rfl)
  refine r_loc F.ns (v := .int m t) rfl ?_ rfl rfl rfl
  refine r_bin (r_int fun _ _ => ?_)
  refine r_bin (r_int fun _ _ => ?_)
  refine r_loc F.ns (v := .int (i : Int) ti) rfl ?_ rfl rfl rfl
  refine r_sub fun _ _ => ?_
  refine r_pow (by omega) (by omega) (by decide) fun _ _ => ?_
  rw [e8]
  refine r_fdiv n8 b8 fun _ _ => ?_
  refine r_int fun _ _ => ?_
  refine r_mod (by decide) fun t1 _ => ?_
  refine r_setL (h₀ := h₀) F (fun h1 tk1 F1 s1 => r_next ?_) rfl rfl
  refine r_cons (r_asg (r_bin (r_bin ?_)) rfl)
  refine r_loc F1.ns (v := .int m t) rfl ?_ rfl rfl rfl
  refine r_bin (r_int fun _ _ => ?_)
  refine r_bin (r_int fun _ _ => ?_)
  refine r_loc F1.ns (v := .int (i : Int) ti) rfl ?_ rfl rfl rfl
  refine r_sub fun _ _ => ?_
  refine r_pow (by omega) (by omega) (by decide) fun _ _ => ?_
  rw [e2]
  refine r_fdiv n2 b2 fun _ _ => ?_
  refine r_int fun _ _ => ?_
  refine r_mod (by decide) fun t2 _ => ?_
  refine r_setL (h₀ := h₀) F1 (fun h2 tk2 F2 s2 => r_next ?_) rfl rfl
  refine r_cons (r_asg (r_bin (r_bin (r_bin ?_))) rfl)
  refine r_loc F2.ns (v := .int p tp) rfl ?_ rfl rfl rfl
  refine r_int fun _ _ => ?_
  refine r_mul (IntMulOk.of_left (intBits_le_64 (by omega) (by omega))) fun _ _ => ?_
  refine r_bin (r_bin ?_)
  refine r_loc F2.ns (v := .int (figAt m i) t1) rfl ?_ rfl rfl rfl
  refine r_int fun _ _ => ?_
  refine r_fdiv (by decide) (by decide) fun _ _ => ?_
  refine r_int fun _ _ => ?_
  have hf := fig_bound m i
  refine r_mul (IntMulOk.of_left (intBits_le_64 (by rw [fd2]; omega) (by rw [fd2]; omega))) fun _ _ => ?_
  refine r_add fun _ _ => ?_
  refine r_sub_ (r_list ?_)
  refine r_args (r_int fun u0 _ => ?_) rfl
  refine r_args (r_int fun u1 _ => ?_) rfl
  refine r_args (r_int fun u2 _ => ?_) rfl
  refine r_args (r_int fun u3 tk3 => ?_) rfl
  refine r_args0 ⟨by rw [sizeLine_eq]; show 4 ≤ _; omega, ?_⟩
  show Wp _ _ (eval _ _) _ (st s (h2.push (lobj [.int 0 u0, .int 3 u1, .int 1 u2, .int 2 u3] 0)) tk3)
  have k3 : Stays h2 (h2.push (lobj [.int 0 u0, .int 3 u1, .int 1 u2, .int 2 u3] 0)) := fun b o e => Heap.get?_push_of_some _ e
  have g3 : (h2.push (lobj [.int 0 u0, .int 3 u1, .int 1 u2, .int 2 u3] 0)).get? h2.objs.size = some (lobj [.int 0 u0, .int 3 u1, .int 1 u2, .int 2 u3] 0) := Heap.get?_push_size _ rfl
  have F3 := F2.keeps k3
  refine r_bin (r_bin ?_)
  refine r_loc F3.ns (v := .int (figAt m i) t1) rfl ?_ rfl rfl rfl
  refine r_int fun _ _ => ?_
  refine r_mod (by decide) fun _ _ => ?_
  refine r_bin (r_int fun _ _ => ?_)
  refine r_loc F3.ns (v := .int (abvAt m i) t2) rfl ?_ rfl rfl rfl
  refine r_mul (IntMulOk.of_left (intBits_le_64 (by decide) (by decide))) fun _ _ => ?_
  refine r_add fun _ _ => ?_
  have hfa := fa_bound m i
  refine r_item (vs := [.int 0 u0, .int 3 u1, .int 1 u2, .int 2 u3]) (ns := [0, 3, 1, 2]) ⟨_, g3, rfl, _, rfl⟩ (.cons _ _ (.cons _ _ (.cons _ _ (.cons _ _ .nil)))) hfa.1 hfa.2 (by omega) ?_ (by with_unfolding_all rfl)
  intro _
  refine r_add fun _ _ => ?_
  refine r_setL (h₀ := h₀) F3 (fun h4 tk4 F4 s4 => r_next (r_nil ?_)) rfl rfl
  refine q h4 _ _ _ (fun b o hb e => s4.extBut b o hb (k3 b o (s2.extBut b o hb (s1.extBut b o hb e)))) (F4.as2 rfl rfl)

set_option maxHeartbeats 400000 in
theorem sp_signs {w : World} {dp un : Nat} {fr : Option (List Env)} {gd : Option (List Code)} {s : Shared} {h : Heap} {tk : Nat} {Q : Value → Shared → Prop} {mean : ExcName → Option Value} {mg mb : Str → Option Value} {m : Int} {t : Tok}
    (X : (KK w.params).In h) (T : TopV mean mg mb h) (hA : dp < recursionLimit)
    (hret : ∀ t' h' tk, Stays h h' → Q (.int (plAt m 3) t') (st s h' tk)) :
    Wp w (AA dp un fr gd) (call (.ref 111) [.int m t]) Q (st s h tk) := by
  refine' w_enter (binds := [(Str.ofString "m", .int m t)]) X T ?k6 ?k7 hA ?kb ?kl ?_ ?c2 ?c3 ?c4 ?c5
  case k6 => k_is
  case k7 => k_is
  case kb => exact rfl
  case kl => exact locs rfl
  case c2 => exact rfl
  case c3 => exact rfl
  case c4 => exact rfl
  case c5 => decide
  intro h₁ tk₁ L hL F
  refine r_cons (r_asg (r_sub_ (r_list ?_)) rfl)
  refine r_args (r_int fun u0 _ => ?_) rfl
  refine r_args (r_int fun u1 _ => ?_) rfl
  refine r_args (r_int fun u2 _ => ?_) rfl
  refine r_args (r_int fun u3 _ => ?_) rfl
  refine r_args (r_int fun u4 _ => ?_) rfl
  refine r_args (r_int fun u5 _ => ?_) rfl
  refine r_args (r_int fun u6 _ => ?_) rfl
  refine r_args (r_int fun u7 _ => ?_) rfl
  refine r_args (r_int fun u8 _ => ?_) rfl
  refine r_args (r_int fun u9 _ => ?_) rfl
  refine r_args (r_int fun u10 _ => ?_) rfl
  refine r_args (r_int fun u11 _ => ?_) rfl
  refine r_args (r_int fun u12 _ => ?_) rfl
  refine r_args (r_int fun u13 _ => ?_) rfl
  refine r_args (r_int fun u14 _ => ?_) rfl
  refine r_args (r_int fun u15 tk3 => ?_) rfl
  refine r_args0 ⟨by rw [sizeLine_eq]; show 16 ≤ _; omega, ?_⟩
  have hvs : IntsAre [.int 1 u0, .int 6 u1, .int 3 u2, .int 1 u3, .int 4 u4, .int 1 u5, .int 2 u6, .int 1 u7, .int 0 u8, .int 1 u9, .int 5 u10, .int 1 u11, .int 7 u12, .int 1 u13, .int 1 u14, .int 1 u15] [1, 6, 3, 1, 4, 1, 2, 1, 0, 1, 5, 1, 7, 1, 1, 1] := by repeat constructor
  generalize [Value.int 1 u0, .int 6 u1, .int 3 u2, .int 1 u3, .int 4 u4, .int 1 u5, .int 2 u6, .int 1 u7, .int 0 u8, .int 1 u9, .int 5 u10, .int 1 u11, .int 7 u12, .int 1 u13, .int 1 u14, .int 1 u15] = vs at hvs ⊢
  show Wp _ _ (eval _ _) _ (st s (h₁.push (lobj vs 0)) tk3)
  have k3 : Stays h₁ (h₁.push (lobj vs 0)) := fun b o e => Heap.get?_push_of_some _ e
  have g3 : (h₁.push (lobj vs 0)).get? h₁.objs.size = some (lobj vs 0) := Heap.get?_push_size _ rfl
  have F3 := F.keeps k3
  refine r_bin (r_bin ?_)
  refine r_loc F3.ns (v := .int m t) rfl ?_ rfl rfl rfl
  refine r_int fun _ _ => ?_
  refine r_fdiv (by decide) (by decide) fun _ _ => ?_
  refine r_int fun _ _ => ?_
  refine r_mod (by decide) fun _ _ => ?_
  refine r_item (vs := vs) (ns := [1, 6, 3, 1, 4, 1, 2, 1, 0, 1, 5, 1, 7, 1, 1, 1]) ⟨_, g3, rfl, _, rfl⟩ hvs (Int.fmod_nonneg_of_pos _ (by decide)) (Int.fmod_lt_of_pos _ (by decide)) (Int.lt_trans (Int.fmod_lt_of_pos _ (by decide)) (by decide)) ?_ (by with_unfolding_all rfl)
  intro tp
  refine r_setL (h₀ := h) F3 (fun h4 tk4 F4 s4 => r_next ?_) rfl rfl
  refine r_cons (r_for (r_call (r_blt (x := Str.ofString "range") (v := .type "range") (X.keeps F4.keep) (T.keeps F4.keep) (by k_is) (by boot_fast) (by decide) ?_ rfl rfl rfl rfl rfl) rfl) (fun _ => rfl))
  refine r_cwT (r_args (r_int fun u tk5 => r_args0 ?_) rfl) rfl rfl
  refine r_range fun t1 t2 tk6 => ?_
  refine r_itRange (IsRange.new ..) (by decide) ?_
  generalize hb : h4.push { cls := .type "range", data := .fields #[.int 0 t1, .int 3 u, .int 1 t2] } = h5
  have k5 : Stays h4 h5 := fun b o e => by rw [← hb]; exact Heap.get?_push_of_some _ e
  have F6 := F4.keeps fun b o e => Heap.get?_push_of_some { cls := .type "range_iterator", data := .fields #[rawInt 0, rawInt (Builtin.Range.rangeSize 0 3 1), rawInt 1] } (k5 b o e)
  have hL5 : L ≠ h5.objs.size := by
    obtain ⟨o, _, _, e, _⟩ := F4.ns
    exact Nat.ne_of_lt (Heap.lt_size (k5 _ _ e))
  have fI : h.get? h5.objs.size = none := Heap.get?_none_of_le (by
    have := F4.above
    obtain ⟨o, _, _, e, _⟩ := F4.ns
    exact Nat.le_of_lt (Nat.lt_of_le_of_lt this (Heap.lt_size (k5 _ _ e))))
  have hit : IsRangeIter (h5.push { cls := .type "range_iterator", data := .fields #[rawInt 0, rawInt (Builtin.Range.rangeSize 0 3 1), rawInt 1] }) h5.objs.size (0 + ((0 : Nat) : Int) * 1) (((3 : Nat) : Int) - ((0 : Nat) : Int)) 1 := Heap.get?_push_size _ rfl
  generalize h5.push { cls := .type "range_iterator", data := .fields #[rawInt 0, rawInt (Builtin.Range.rangeSize 0 3 1), rawInt 1] } = h6 at *
  generalize h5.objs.size = I at *
  refine r_loopW (Q := fun f s' => (f = .next → Wp w _ (execs _ _) _ s') ∧ (f ≠ .next → _)) (LCg.range_walks rfl 0 3)
    (fun i h' => ∃ (tp : Tok) (rest : Str → Option Value), Fr h L h' fun y => if y = Str.ofString "place" then some (Value.int (plAt m i) tp) else if y = Str.ofString "m" then some (Value.int m t) else rest y)
    hit ⟨_, _, F6.as2 (x := Str.ofString "place") (y := Str.ofString "m") rfl rfl⟩ ?hJ ?hgo ?step ?done (fun _ _ x => x)
  case hJ => exact fun i h' h'' ⟨tp, rest, Fx⟩ k => ⟨tp, rest, Fx.but hL5 fI k⟩
  case hgo => exact fun _ v s' Q' _ q => ⟨wpAny_of_eq (a := ()) rfl q⟩
  case step =>
    rintro i v h₇ tk₇ hi ⟨ti, rfl⟩ hSt ⟨tp', rest, F7⟩
    rw [Int.zero_add]
    refine r_asgn (r_setL F7 (fun h₈ tk₈ F8 s8 => ?_) rfl rfl)
    refine signs_body hi (pl_bound m i (by omega)) F8 fun h₉ tk₉ tp₉ rest₉ k9 F9 => lp_next ?_
    exact ⟨h₉, tk₉, rfl, fun b hb o e => by
      rw [List.mem_singleton] at hb
      exact k9 b o (fun q => hL5 (q.symm.trans hb)) (s8.extBut b o (fun q => hL5 (q.symm.trans hb)) e), tp₉, rest₉, F9⟩
  case done =>
    rintro h₇ tk₇ ⟨tp', rest, F7⟩
    refine r_nil (r_next ?_)
    refine r_cons (r_ret ?_)
    refine r_loc F7.ns (v := .int (plAt m 3) tp') rfl ?_ rfl rfl rfl
    exact r_ret' (fun x => nomatch x) (hret _ _ _ F7.keep)
end Mine

end
section
open PySem PySem.W PyProof.Rows PySem.Calls
set_option maxRecDepth 100000
namespace Mine
theorem fillK4 : ∀ (w : World) (h : Heap), (KK w.params).In h → PySem.Challenge.rw_oc0066_01.row.prog = PySem.Challenge.rw_oc0066_01.row.prog := by
  w_on
  k_fill
  intros
  rfl
set_option maxHeartbeats 4000000 in
theorem sp_ifmt {w : World} {dp un : Nat} {fr : Option (List Env)} {gd : Option (List Code)} {s : Shared} {Q E : Value → Shared → Prop} {mean : ExcName → Option Value} {mg mb : Str → Option Value} {m : Int} {t : Tok}
    (X : (KK w.params).In s.heap) (T : TopV mean mg mb s.heap) (hA : dp < recursionLimit) 
    (hret : ∀ v t' h' tk, v = Builtin.bitAnd m 61440 → Stays s.heap h' → Q (.int v t') { s with heap := h', toks := tk }) :
    wpAny (model prg w) (AA dp un fr gd) (call (.ref 64) [.int m t]) Q E s := by
  refine' enterK (binds := [(Str.ofString "mode", .int m t)]) X T ?k6 ?k7 hA ?kb ?kl ?_ ?c2 ?c3 ?c4 ?c5
  case k6 => k_is
  case k7 => k_is
  case kb => exact rfl
  case kl => exact locs rfl
  case c2 => exact rfl
  case c3 => exact rfl
  case c4 => exact rfl
  case c5 => decide
  intro h₁ F
  (try dsimp only)
  have N : News s.heap s.heap.objs.size h₁ [] := News.nil
  k_steps
  exact hret _ _ _ _ rfl F.keep

def cmpS (x y : Str) : Int := b2i (decide (y.cps.toList < x.cps.toList)) - b2i (decide (x.cps.toList < y.cps.toList))

set_option maxHeartbeats 4000000 in
theorem sp_cmp {w : World} {dp un : Nat} {fr : Option (List Env)} {gd : Option (List Code)} {s : Shared} {Q E : Value → Shared → Prop} {mean : ExcName → Option Value} {mg mb : Str → Option Value} {x y : Str} {t u : Tok}
    (X : (KK w.params).In s.heap) (T : TopV mean mg mb s.heap) (hA : dp < recursionLimit) 
    (hret : ∀ v t' h' tk, v = cmpS x y → Stays s.heap h' → Q (.int v t') { s with heap := h', toks := tk }) :
    wpAny (model prg w) (AA dp un fr gd) (call (.ref 57) [.str x t, .str y u]) Q E s := by
  refine' enterK (binds := [(Str.ofString "x", .str x t), (Str.ofString "y", .str y u)]) X T ?k6 ?k7 hA ?kb ?kl ?_ ?c2 ?c3 ?c4 ?c5
  case k6 => k_is
  case k7 => k_is
  case kb => exact rfl
  case kl => exact locs rfl
  case c2 => exact rfl
  case c3 => exact rfl
  case c4 => exact rfl
  case c5 => decide
  intro h₁ F
  (try dsimp only)
  have N : News s.heap s.heap.objs.size h₁ [] := News.nil
  k_steps
  exact hret _ _ _ _ rfl F.keep

def octF (o : Int) : Int := if o = 32 then 95 * 256 else if (48 ≤ o ∧ o ≤ 57) ∨ (65 ≤ o ∧ o ≤ 90) ∨ (97 ≤ o ∧ o ≤ 122) ∨ o = 33 ∨ o = 42 ∨ o = 43 ∨ o = 45 ∨ o = 47 then o * 256 else 61 * 256 + o

set_option maxHeartbeats 4000000 in
theorem sp_octet {w : World} {dp un : Nat} {fr : Option (List Env)} {gd : Option (List Code)} {s : Shared} {Q E : Value → Shared → Prop} {mean : ExcName → Option Value} {mg mb : Str → Option Value} {o : Int} {t : Tok}
    (X : (KK w.params).In s.heap) (T : TopV mean mg mb s.heap) (hA : dp < recursionLimit) (h0 : 0 ≤ o) (h1 : o < 256)
    (hret : ∀ v t' h' tk, v = octF o → Stays s.heap h' → Q (.int v t') { s with heap := h', toks := tk }) :
    wpAny (model prg w) (AA dp un fr gd) (call (.ref 118) [.int o t]) Q E s := by
  refine' enterK (binds := [(Str.ofString "octet", .int o t)]) X T ?k6 ?k7 hA ?kb ?kl ?_ ?c2 ?c3 ?c4 ?c5
  case k6 => k_is
  case k7 => k_is
  case kb => exact rfl
  case kl => exact locs rfl
  case c2 => exact rfl
  case c3 => exact rfl
  case c4 => exact rfl
  case c5 => decide
  intro h₁ F
  (try dsimp only)
  have N : News s.heap s.heap.objs.size h₁ [] := News.nil
  k_steps
  all_goals (
    (rename Fr _ _ _ _ => F')
    refine hret _ _ _ _ ?_ F'.keep
    (try simp only [List.any_cons, List.any_nil, Bool.or_false, Bool.or_eq_true, Bool.or_eq_false_iff, beq_iff_eq, beq_eq_false_iff_ne, ne_eq, Bool.not_eq_true] at *)
    unfold octF
    (repeat' split) <;> omega)

end Mine

end
section
open PySem PySem.W PyProof.Rows PySem.Calls
set_option maxRecDepth 100000
namespace Mine
section
variable {prog : Program} {w : World} {A : Around} {E : Value → Shared → Prop} {s : Shared}
theorem nextOf_tuple_item {it l : Addr} {i : Nat} {items : Array Value} {x : Value} {Q : Value → Shared → Prop} (hit : s.heap.IsTupleIter it l i)
    (hl : s.heap.IsTuple l items) (hx : items[i]? = some x)
    (hQ : ∀ h', h'.IsTupleIter it l (i + 1) → Heap.SameBut it s.heap h' → Q x { s with heap := h' }) :
    wpAny (model prog w) A (Builtin.SmallTypes.nextOf (.ref it)) Q E s := by
  obtain ⟨o, ho, hc, hd⟩ := id hit
  obtain ⟨ol, hol, _, nl, hdl⟩ := hl
  unfold Builtin.SmallTypes.nextOf
  refine wpAny_bind (wpAny_callSpecial?_slot (name := Str.ofString "__next__") hit.typeIs F.slot_tuple_iterator_next
    (wpAny_call_entry F.slot_tuple_iterator_next hit.typeIs F.entry_tuple_iterator_next ?_ (F.args_tuple_iterator_next_1 _)))
  show wpAny _ _ (field (.ref it) 0 >>= _) _ _ s
  refine wpAny_bind (wpAny_field ho hd (x := .ref l) rfl ?_)
  show wpAny _ _ (if (Value.ref l == Value.none) = true then _ else _) _ _ s
  rw [if_neg (show ¬ ((Value.ref l == Value.none) = true) from Bool.false_ne_true)]
  show wpAny _ _ (field (.ref it) 1 >>= _) _ _ s
  refine wpAny_bind (wpAny_field ho hd (x := .int i 0) rfl ?_)
  show wpAny _ _ (seqItems? (.ref l) >>= _) _ _ s
  refine wpAny_bind (wpAny_seqItems hol hdl ?_)
  simp only [Int.toNat_natCast, hx]
  refine wpAny_bind (wpAny_setField ho hd (by simp) (wpAny_pure ⟨x, rfl, wpAny_pure (hQ _ ?_ (Heap.SameBut.update ..))⟩))
  exact ⟨_, Heap.get?_update_self _ ho (Obj.isFreed_of_fields (Obj.data_mapFields hd _)), (Obj.cls_mapFields ..).trans hc, by
    rw [Obj.data_mapFields hd]; simp [rawInt]⟩

theorem nextOf_tuple_end {it l : Addr} {i : Nat} {items : Array Value} {Q : Value → Shared → Prop} (hh : A.handled = none)
    (hit : s.heap.IsTupleIter it l i) (hl : s.heap.IsTuple l items) (hx : items[i]? = none)
    (hE : ∀ h' e, Heap.ExtBut it s.heap h' → (∃ o, h'.get? e = some o ∧ o.cls = .type "StopIteration") → E (.ref e) { s with heap := h' }) :
    wpAny (model prog w) A (Builtin.SmallTypes.nextOf (.ref it)) Q E s := by
  obtain ⟨o, ho, hc, hd⟩ := id hit
  obtain ⟨ol, hol, _, nl, hdl⟩ := hl
  unfold Builtin.SmallTypes.nextOf
  refine wpAny_bind (wpAny_callSpecial?_slot (name := Str.ofString "__next__") hit.typeIs F.slot_tuple_iterator_next
    (wpAny_call_entry F.slot_tuple_iterator_next hit.typeIs F.entry_tuple_iterator_next ?_ (F.args_tuple_iterator_next_1 _)))
  show wpAny _ _ (field (.ref it) 0 >>= _) _ _ s
  refine wpAny_bind (wpAny_field ho hd (x := .ref l) rfl ?_)
  show wpAny _ _ (if (Value.ref l == Value.none) = true then _ else _) _ _ s
  rw [if_neg (show ¬ ((Value.ref l == Value.none) = true) from Bool.false_ne_true)]
  show wpAny _ _ (field (.ref it) 1 >>= _) _ _ s
  refine wpAny_bind (wpAny_field ho hd (x := .int i 0) rfl ?_)
  show wpAny _ _ (seqItems? (.ref l) >>= _) _ _ s
  refine wpAny_bind (wpAny_seqItems hol hdl ?_)
  simp only [Int.toNat_natCast, hx]
  refine wpAny_bind (wpAny_rule (wpAny_bind (wpAny_setField ho hd (by simp) ?_)))
  show wpAny _ _ (newExc (.type "StopIteration") [] >>= _) _ _ _
  refine wpAny_bind ?_
  simp only [newExc, newTuple]
  refine wpAny_bind (wpAny_newObj_type ?_ (by size_fits))
  refine wpAny_bind (m := firstArgMember _ _) (wpAny_of_eq (a := Value.none) (by first | rfl | (simp only [firstArgMember]; rfl)) ?_)
  refine wpAny_newObj_type ?_ (by size_fits)
  simp only [raiseNew]
  refine wpAny_bind (wpAny_handled ?_)
  first | rw [show A.in1.handled = none from hh] | rw [hh]
  refine wpAny_bind (wpAny_pure (wpAny_throw ?_))
  exact hE _ _ (((Heap.SameBut.update ..).extBut.push _).push _) ⟨_, Heap.get?_push_size _ rfl, rfl⟩
end
theorem Draws.tuple {prog : Program} {w : World} {A : Around} (hh : A.handled = none) (it l : Addr) (hne : l ≠ it) (items : Array Value) :
    Draws prog w A it [it, l] items.size (fun i v => items[i]? = some v) (fun i h => h.IsTupleIter it l i ∧ h.IsTuple l items) where
  live := fun _ _ st => let ⟨o, ho, _⟩ := st.1; ⟨o, ho⟩
  frame := fun _ _ _ st hk => ⟨st.1.at fun o e => hk it (by simp) o e, st.2.at fun o e => hk l (by simp) o e⟩
  item := fun i s Q E hi st hQ => by
    refine nextOf_tuple_item st.1 st.2 (x := items[i]) (by simp [hi]) fun h' hit' hs' => ?_
    exact hQ _ h' s.toks (by simp [hi]) ⟨hit', st.2.extBut hs'.extBut hne⟩ hs'
  done := fun s Q E st hE => nextOf_tuple_end hh st.1 st.2 (by simp) hE

set_option maxHeartbeats 1000000 in
open AutoSeq1 (wpAny_loadPart') in
theorem meets_enumerate_newT (l : Addr) (items : Array Value) (n : Nat) (dct : Option Addr) (sl : Array (Option Value)) :
    Meets (Builtin.«enumerate.__new__» ⟨[.type "enumerate", .ref l], []⟩) (fun _ R s => s.heap.get? l = some { cls := .type "tuple", dict := dct, data := .seq items n, slots := sl } ∧
      R (.ok (.ret (.ref (s.heap.push { cls := .type "tuple_iterator", data := .fields #[.ref l, .int 0 0] }).objs.size)))
        { s with heap := (s.heap.push { cls := .type "tuple_iterator", data := .fields #[.ref l, .int 0 0] }).push { cls := .type "enumerate", data := .fields #[.none, .bool false, .ref s.heap.objs.size, rawInt 0, .none, .none] } }) :=
  .of_wp fun prog w A R s h => by
    obtain ⟨hp, g, d, tk, os⟩ := s; obtain ⟨hl, h⟩ := h
    have hsub := sub_enumerate
    have hL : Heap.IsTuple (Shared.heap ⟨hp, g, d, tk, os⟩) l items := ⟨_, hl, rfl, n, rfl⟩
    wp_walk using wpAny_loadPart' hl
    refine wpAny_stack_any fun st => wpAny_pure ?_
    split
    · rename_i c _ _ _ _ _
      cases (c == Value.type "enumerate")
      · wp_walk using wpAny_loadPart' hl, wpAny_pyIter_tuple hL
        exact ⟨_, rfl, h⟩
      · wp_walk using wpAny_loadPart' hl, wpAny_pyIter_tuple hL
        exact ⟨_, rfl, h⟩
    · wp_walk using wpAny_loadPart' hl, wpAny_pyIter_tuple hL
      exact ⟨_, rfl, h⟩

theorem call_enumerate_tuple {prog : Program} {w : World} {A : Around} {E : Value → Shared → Prop} {s : Shared} {l : Addr} {items : Array Value} {Q : Value → Shared → Prop} (hL : s.heap.IsTuple l items)
    (h : ∀ h', IsEnum h' (s.heap.objs.size + 1) s.heap.objs.size 0 .none → h'.IsTupleIter s.heap.objs.size l 0 → h'.objs.size = s.heap.objs.size + 2 →
      (∀ b o, s.heap.get? b = some o → h'.get? b = some o) → Q (.ref (s.heap.objs.size + 1)) { s with heap := h' }) :
    wpAny (model prog w) A (call (.type "enumerate") [.ref l]) Q E s := by
  obtain ⟨⟨c, dct, dt, sl⟩, hl, hc, n, hd⟩ := hL
  replace hc : c = .type "tuple" := hc
  replace hd : dt = .seq items n := hd
  subst hc hd
  refine callType_new F.called_enumerate (by decide) (F.typeCall_enumerate_1 _) (F.newCall_enumerate_1 _) (fun obj => F.args_object_init_2 obj _) F.entry_enumerate_new
    (meets_enumerate_newT l items n dct sl) ⟨hl, ?_⟩
  have hz : (s.heap.push { cls := .type "tuple_iterator", data := .fields #[.ref l, .int 0 0] }).objs.size = s.heap.objs.size + 1 := Heap.size_push ..
  show _ ∧ _
  rw [hz]
  have he : IsEnum ((s.heap.push { cls := .type "tuple_iterator", data := .fields #[.ref l, .int 0 0] }).push
      { cls := .type "enumerate", data := .fields #[.none, .bool false, .ref s.heap.objs.size, rawInt 0, .none, .none] }) (s.heap.objs.size + 1) s.heap.objs.size 0 .none := by
    have := Heap.get?_push_size (s.heap.push { cls := .type "tuple_iterator", data := .fields #[.ref l, .int 0 0] })
      (o := { cls := .type "enumerate", data := .fields #[.none, .bool false, .ref s.heap.objs.size, rawInt 0, .none, .none] }) rfl
    rw [hz] at this; exact this
  refine ⟨⟨_, he, rfl⟩, h _ he ⟨_, Heap.get?_push_of_some _ (Heap.get?_push_size _ rfl), rfl, rfl⟩ (by rw [Heap.size_push, hz]) fun b o x => Heap.get?_push_of_some _ (Heap.get?_push_of_some _ x)⟩

section
variable {w : World} {A : Around} {s : Shared} {h : Heap} {tk : Nat} {Q : Value → Shared → Prop} {env : Env}
theorem r_enumT {l : Addr} {items : Array Value} (hL : h.IsTuple l items)
    (q : ∀ h', IsEnum h' (h.objs.size + 1) h.objs.size 0 .none → h'.IsTupleIter h.objs.size l 0 → Stays h h' → Q (.ref (h.objs.size + 1)) (st s h' tk)) : Wp w A (call (.type "enumerate") [.ref l]) Q (st s h tk) :=
  ⟨call_enumerate_tuple (s := st s h tk) hL fun h' h1 h2 _ h3 => q h' h1 h2 h3⟩
theorem r_itEnum {e it : Addr} {i : Int} {old : Value} (he : IsEnum h e it i old) (q : Q (.ref e) (st s h tk)) : Wp w A (pyIter (.ref e)) Q (st s h tk) := ⟨wpAny_pyIter_enum (s := st s h tk) he q⟩
theorem r_itTup {l : Addr} {items : Array Value} (hL : h.IsTuple l items) (q : Q (.ref h.objs.size) (st s (h.push { cls := .type "tuple_iterator", data := .fields #[.ref l, .int 0 0] }) tk)) : Wp w A (pyIter (.ref l)) Q (st s h tk) :=
  ⟨wpAny_pyIter_tuple (s := st s h tk) hL q⟩
/-- the loop over what an iterator of tuples gives, into two or more names -/
theorem r_loopT {I : Addr} {fp wr : List Addr} {n : Nat} {P : Nat → Array Value → Prop} {St : Nat → Heap → Prop} {Mid : Nat → Addr → Heap → Prop} {elts : List PySem.Expr} {k : Nat} {pos : Pos} {body orelse : List Stmt} {Q : Flow → Shared → Prop} {R : Result → Shared → Prop}
    (W : WalksT prg w A I fp wr n P St Mid) (J : Nat → Heap → Prop) (h0 : St 0 h) (j0 : J 0 h)
    (hJ : ∀ i h h', J i h → (∀ b o, b ∉ wr → h.get? b = some o → h'.get? b = some o) → J i h')
    (step : ∀ i T vals h tk, i < n → P i vals → h.IsTuple T vals → St (i + 1) h → J i h → Wp w A (assign (.Tuple elts k pos) env (.ref T)) (fun _ s₂ => Wp w A (execs body env) (fun f s₃ =>
      ((f = .next ∨ f = .cont) → ∃ h' tk', s₃ = st s h' tk' ∧ (∀ b ∈ fp, ∀ o, h.get? b = some o → h'.get? b = some o) ∧ J (i + 1) h') ∧ (f = .brk → Q .next s₃) ∧ (∀ v, f = .ret v → Q (.ret v) s₃)) s₂) (st s h tk))
    (done : ∀ h tk, J n h → Wp w A (execs orelse env) Q (st s h tk)) (hR : ∀ f s', Q f s' → R (.ok f) s') :
    codeAny (model prg w) A (.forLoop (.Tuple elts k pos) (.ref I) body orelse env) R (st s h tk) := by
  refine codeAny_forLoop_any (fun k s' => ∃ h' tk' i, s' = st s h' tk' ∧ i ≤ n ∧ k = n + 1 - i ∧ St i h' ∧ J i h') ?_ (n + 1) ⟨h, tk, 0, rfl, Nat.zero_le _, rfl, h0, j0⟩
  rintro k s' ⟨h', tk', i, rfl, hle, rfl, hSt, hj⟩
  by_cases hlt : i < n
  · refine W.item i _ _ _ hlt hSt fun T vals h₄ tk₄ hPv hT hT2 hMid hk₄ => ?_
    refine W.go _ _ _ i T _ _ _ hMid fun h₅ hst₅ hk₅ => ?_
    have hap := W.apart _ _ _ hMid
    refine wpAny_mono (step i T vals h₅ tk₄ hlt hPv (hT2.at fun o e => hk₅ T o hap e) hst₅ (hJ _ _ _ (hJ _ _ _ hj hk₄) hk₅)).out (fun _ s₂ e => wpAny_mono e.out (fun f s₃ e => ?_) fun _ _ e => e.elim) fun _ _ e => e.elim
    obtain ⟨e1, e2, e3⟩ := e
    have nx : (f = .next ∨ f = .cont) → ∃ m, m < n + 1 - i ∧ ∃ h' tk' i', s₃ = st s h' tk' ∧ i' ≤ n ∧ m = n + 1 - i' ∧ St i' h' ∧ J i' h' := fun hf => by
      obtain ⟨h₆, tk₆, rfl, hk, hj'⟩ := e1 hf
      exact ⟨n + 1 - (i + 1), by omega, h₆, tk₆, i + 1, rfl, hlt, rfl, W.frame _ _ _ hst₅ hk, hj'⟩
    cases f with
    | next => exact nx (.inl rfl)
    | cont => exact nx (.inr rfl)
    | brk => exact hR _ _ (e2 rfl)
    | ret v => exact hR _ _ (e3 v rfl)
  · obtain rfl : i = n := by omega
    refine W.done _ _ _ hSt fun h₃ tk₃ hk₃ => ?_
    exact wpAny_mono (done h₃ tk₃ (hJ _ _ _ hj hk₃)).out (fun f s' q => hR f s' q) fun _ _ e => e.elim
end
end Mine

end
section
open PySem PySem.W PyProof.Rows PySem.Calls
set_option maxRecDepth 100000
namespace Mine
theorem fillK5 : ∀ (w : World) (h : Heap), (KK w.params).In h → PySem.Challenge.rw_oc0066_01.row.prog = PySem.Challenge.rw_oc0066_01.row.prog := by
  w_on
  k_fill
  intros
  rfl
def All2 {α β : Type} (R : α → β → Prop) : List α → List β → Prop
  | [], [] => True
  | a :: as, b :: bs => R a b ∧ All2 R as bs
  | _, _ => False
theorem All2.at {α β : Type} {R : α → β → Prop} : ∀ {as : List α} {bs : List β}, All2 R as bs → ∀ (i : Nat) (a : α), as[i]? = some a → ∃ b, bs[i]? = some b ∧ R a b
  | [], [], _, i, a, e => by simp at e
  | a :: as, b :: bs, h, 0, a', e => by
    have : a = a' := by simpa using e
    exact ⟨b, rfl, this ▸ h.1⟩
  | a :: as, b :: bs, h, i + 1, a', e => by
    have e' : as[i]? = some a' := by simpa using e
    obtain ⟨b', h1, h2⟩ := All2.at h.2 i a' e'
    exact ⟨b', by simpa using h1, h2⟩
  | [], _ :: _, h, _, _, _ => h.elim
  | _ :: _, [], h, _, _, _ => h.elim
theorem All2.len {α β : Type} {R : α → β → Prop} : ∀ {as : List α} {bs : List β}, All2 R as bs → as.length = bs.length
  | [], [], _ => rfl
  | a :: as, b :: bs, h => by rw [List.length_cons, List.length_cons, All2.len h.2]
  | [], _ :: _, h => h.elim
  | _ :: _, [], h => h.elim
theorem tkeep {h h' : Heap} {l : Addr} {items : Array Value} (x : h.IsTuple l items) (k : Stays h h') : h'.IsTuple l items := let ⟨o, e, r⟩ := x; ⟨o, k _ _ e, r⟩
def PairAt (h : Heap) (a : Addr) (p : Int × Str) : Prop := ∃ t u, h.IsTuple a #[.int p.1 t, .str p.2 u]
def TabAt (h : Heap) (a : Addr) (ps : List (Int × Str)) : Prop := ∃ as : List Addr, h.IsTuple a (as.map Value.ref).toArray ∧ All2 (PairAt h) as ps
def fmT : List (List (Int × Str)) := [
  [(40960, Str.ofString "l"), (49152, Str.ofString "s"), (32768, Str.ofString "-"), (24576, Str.ofString "b"), (16384, Str.ofString "d"), (8192, Str.ofString "c"), (4096, Str.ofString "p")],
  [(256, Str.ofString "r")], [(128, Str.ofString "w")], [(2112, Str.ofString "s"), (2048, Str.ofString "S"), (64, Str.ofString "x")],
  [(32, Str.ofString "r")], [(16, Str.ofString "w")], [(1032, Str.ofString "s"), (1024, Str.ofString "S"), (8, Str.ofString "x")],
  [(4, Str.ofString "r")], [(2, Str.ofString "w")], [(513, Str.ofString "t"), (512, Str.ofString "T"), (1, Str.ofString "x")]]
theorem tabs_at {w : World} {h : Heap} (X : (KK w.params).In h) : ∃ as : List Addr, h.IsTuple 97 (as.map Value.ref).toArray ∧ All2 (TabAt h) as fmT := by
  refine ⟨[72, 74, 76, 80, 82, 84, 88, 90, 92, 96], ⟨_, X 97 _ (by k_is), rfl, _, rfl⟩, ?_⟩
  refine ⟨?_, ?_, ?_, ?_, ?_, ?_, ?_, ?_, ?_, ?_, True.intro⟩
  · exact ⟨[65, 66, 67, 68, 69, 70, 71], ⟨_, X 72 _ (by k_is), rfl, _, rfl⟩, ⟨_, _, _, X 65 _ (by k_is), rfl, _, rfl⟩, ⟨_, _, _, X 66 _ (by k_is), rfl, _, rfl⟩, ⟨_, _, _, X 67 _ (by k_is), rfl, _, rfl⟩, ⟨_, _, _, X 68 _ (by k_is), rfl, _, rfl⟩, ⟨_, _, _, X 69 _ (by k_is), rfl, _, rfl⟩, ⟨_, _, _, X 70 _ (by k_is), rfl, _, rfl⟩, ⟨_, _, _, X 71 _ (by k_is), rfl, _, rfl⟩, True.intro⟩
  · exact ⟨[73], ⟨_, X 74 _ (by k_is), rfl, _, rfl⟩, ⟨_, _, _, X 73 _ (by k_is), rfl, _, rfl⟩, True.intro⟩
  · exact ⟨[75], ⟨_, X 76 _ (by k_is), rfl, _, rfl⟩, ⟨_, _, _, X 75 _ (by k_is), rfl, _, rfl⟩, True.intro⟩
  · exact ⟨[77, 78, 79], ⟨_, X 80 _ (by k_is), rfl, _, rfl⟩, ⟨_, _, _, X 77 _ (by k_is), rfl, _, rfl⟩, ⟨_, _, _, X 78 _ (by k_is), rfl, _, rfl⟩, ⟨_, _, _, X 79 _ (by k_is), rfl, _, rfl⟩, True.intro⟩
  · exact ⟨[81], ⟨_, X 82 _ (by k_is), rfl, _, rfl⟩, ⟨_, _, _, X 81 _ (by k_is), rfl, _, rfl⟩, True.intro⟩
  · exact ⟨[83], ⟨_, X 84 _ (by k_is), rfl, _, rfl⟩, ⟨_, _, _, X 83 _ (by k_is), rfl, _, rfl⟩, True.intro⟩
  · exact ⟨[85, 86, 87], ⟨_, X 88 _ (by k_is), rfl, _, rfl⟩, ⟨_, _, _, X 85 _ (by k_is), rfl, _, rfl⟩, ⟨_, _, _, X 86 _ (by k_is), rfl, _, rfl⟩, ⟨_, _, _, X 87 _ (by k_is), rfl, _, rfl⟩, True.intro⟩
  · exact ⟨[89], ⟨_, X 90 _ (by k_is), rfl, _, rfl⟩, ⟨_, _, _, X 89 _ (by k_is), rfl, _, rfl⟩, True.intro⟩
  · exact ⟨[91], ⟨_, X 92 _ (by k_is), rfl, _, rfl⟩, ⟨_, _, _, X 91 _ (by k_is), rfl, _, rfl⟩, True.intro⟩
  · exact ⟨[93, 94, 95], ⟨_, X 96 _ (by k_is), rfl, _, rfl⟩, ⟨_, _, _, X 93 _ (by k_is), rfl, _, rfl⟩, ⟨_, _, _, X 94 _ (by k_is), rfl, _, rfl⟩, ⟨_, _, _, X 95 _ (by k_is), rfl, _, rfl⟩, True.intro⟩
abbrev eFm (L : Addr) : Env := envOf (dN 40) (dS 40) L 104 (Value.ref 103)
def fmInner : List Stmt := match dB 40 with
  | [_, .For _ _ [.For _ _ b _ _] _ _, _] => b
  | _ => []
def fmElse : List Stmt := match dB 40 with
  | [_, .For _ _ [.For _ _ _ b _] _ _, _] => b
  | _ => []
def fmOuter : List Stmt := match dB 40 with
  | [_, .For _ _ b _ _, _] => b
  | _ => []
def hits (i : Nat) (md b : Int) : Bool := if i = 0 then Builtin.bitAnd md 61440 == b else Builtin.bitAnd md b == b
theorem i_eq0 (i : Nat) : ((i : Int) == 0) = decide (i = 0) := by
  by_cases h : i = 0
  · subst h; rfl
  · have : ((i : Int) == 0) = false := by simpa using h
    rw [this, decide_eq_false h]
section
variable {w : World} {s : Shared} {h h₀ : Heap} {tk : Nat} {Q : Flow → Shared → Prop} {mean : ExcName → Option Value} {mg mb : Str → Option Value} {dp un : Nat} {fr : Option (List Env)} {gd : Option (List Code)}
theorem fm_append {A : Around} {L P : Addr} {e : PySem.Expr} {p1 p2 p3 p4 : Pos} {m : Str → Option Value} {ys : List Value} {n : Nat} {v : Value}
    (F : Fr h₀ L h m) (hp : m (Str.ofString "perm") = some (.ref P)) (hP : h.get? P = some (lobj ys n)) (hys : ys.length ≤ 1000)
    (he : ∀ Q' : Value → Shared → Prop, (∀ tk', Q' v (st s h tk')) → Wp w A (eval e (eFm L)) Q' (st s h tk))
    (hst : starEach [e] (eFm L) = [(false, eval e (eFm L))])
    (hfew : ((backTo p3 (starEach [e] (eFm L))).all (fun x => !x.1) && (backToKw p3 (keywordEach [] (eFm L))).all (fun x => x.1.isSome)
      && decide ([e].length + ([] : List Keyword).length + (if ([] : List Keyword).isEmpty then 0 else 1) < 30)) = true) (hline : (p2.endLine == p3.line) = true)
    (hs : swapsWith (.Call (.Attribute (.Name (Str.ofString "perm") p1) (Str.ofString "append") p2) [e] [] p3) none p4.line (eFm L) = pure false)
    (q : ∀ h' tk', Heap.SameBut P h h' → h'.get? P = some (lobj (ys ++ [v]) (n + 1)) → Q .next (st s h' tk')) :
    Wp w A (exec (.Expr (.Call (.Attribute (.Name (Str.ofString "perm") p1) (Str.ofString "append") p2) [e] [] p3) p4) (eFm L)) Q (st s h tk) := by
  refine r_expr ?_ rfl hs
  refine r_meth (T := "list") (id := "list.append") rfl hfew hline PySem.F.plainAttrs_list slot_list_append type_list_append ?_
  refine r_loc F.ns hp ?_ rfl rfl rfl
  refine ⟨⟨_, hP, rfl⟩, fun a ha => by cases ha; exact ⟨_, hP, rfl⟩, ?_⟩
  refine r_cwM1 (he _ fun tk' => ?_) hst
  exact r_app hP hys fun h' h1 h2 => q h' _ h1 h2

set_option maxHeartbeats 400000 in
theorem fm_test {L P : Addr} {i : Nat} {md b : Int} {c : Str} {m : Str → Option Value} {ys : List Value} {n : Nat} {t ti tb uc : Tok}
    (X : (KK w.params).In h₀) (T : TopV mean mg mb h₀) (hA : dp < recursionLimit)
    (F : Fr h₀ L h fun y => if y = Str.ofString "char" then some (.str c uc) else if y = Str.ofString "bit" then some (.int b tb) else m y)
    (hm : m (Str.ofString "mode") = some (.int md t)) (hp : m (Str.ofString "perm") = some (.ref P)) (hi : m (Str.ofString "index") = some (.int (i : Int) ti))
    (hP : h.get? P = some (lobj ys n)) (hys : ys.length ≤ 1000)
    (q1 : hits i md b = true → ∀ h' tk', Heap.ExtBut P h h' → h'.get? P = some (lobj (ys ++ [.str c uc]) (n + 1)) → Q .brk (st s h' tk'))
    (q2 : hits i md b = false → ∀ h' tk', Stays h h' → Q .next (st s h' tk')) :
    Wp w (AA dp un fr gd) (execs fmInner (eFm L)) Q (st s h tk) := by
  have X1 := X.keeps F.keep
  have T1 := T.keeps F.keep
  refine r_cons (r_if (r_ifc (r_loc F.ns (v := .int (i : Int) ti) hi ?_ rfl rfl rfl) (by with_unfolding_all rfl)))
  refine r_int fun _ _ => ?_
  refine r_eq (r_tb ⟨fun hb => ?_, fun hb => ?_⟩)
  · rw [i_eq0, decide_eq_true_eq] at hb
    refine r_cons (r_if (r_ifc (r_call (r_glo (x := Str.ofString "S_IFMT") (v := .ref 64) X1 T1 (by k_is) ?_ rfl rfl rfl rfl) rfl) (by with_unfolding_all rfl)))
    refine r_cwF (o := o64F w.params) (r_args (r_loc F.ns (v := .int md t) hm ?_ rfl rfl rfl) rfl) rfl rfl
    refine r_args0 ⟨X1 64 _ (by k_is), ?_⟩
    refine ⟨sp_ifmt (s := st s h _) X1 T1 hA ?_⟩
    rintro v t' h1 tk1 rfl hs1
    show Wp _ _ (eval _ _) _ (st s h1 tk1)
    refine r_loc (F.keeps hs1).ns (v := .int b tb) rfl ?_ rfl rfl rfl
    refine r_eq (r_tb ⟨fun hb' => ?_, fun hb' => ?_⟩)
    · refine r_cons (fm_append (F.keeps hs1) hp (hs1 _ _ hP) hys (v := .str c uc) (fun Q' q => r_loc (F.keeps hs1).ns rfl (q _) rfl rfl rfl) rfl rfl rfl rfl fun h2 tk2 hs2 hP2 => r_next ?_)
      refine r_cons (r_brk (r_ret' (fun x => nomatch x) (r_ret' (fun x => nomatch x) (r_ret' (fun x => nomatch x) ?_))))
      exact q1 (by rw [hits, if_pos hb]; exact hb') h2 _ (fun b o hb e => hs2.extBut b o hb (hs1 b o e)) hP2
    · refine r_nil (r_next (r_nil (r_next (r_nil ?_))))
      exact q2 (by rw [hits, if_pos hb]; exact hb') h1 _ hs1
  · rw [i_eq0, decide_eq_false_iff_not] at hb
    refine r_cons (r_if (r_ifc (r_bin (r_loc F.ns (v := .int md t) hm ?_ rfl rfl rfl)) (by with_unfolding_all rfl)))
    refine r_loc F.ns (v := .int b tb) rfl ?_ rfl rfl rfl
    refine r_and fun _ _ => ?_
    refine r_loc F.ns (v := .int b tb) rfl ?_ rfl rfl rfl
    refine r_eq (r_tb ⟨fun hb' => ?_, fun hb' => ?_⟩)
    · refine r_cons (fm_append F hp hP hys (v := .str c uc) (fun Q' q => r_loc F.ns rfl (q _) rfl rfl rfl) rfl rfl rfl rfl fun h2 tk2 hs2 hP2 => r_next ?_)
      refine r_cons (r_brk (r_ret' (fun x => nomatch x) (r_ret' (fun x => nomatch x) (r_ret' (fun x => nomatch x) ?_))))
      exact q1 (by rw [hits, if_neg hb]; exact hb') h2 _ (fun b o hb e => hs2.extBut b o hb e) hP2
    · refine r_nil (r_next (r_nil (r_next (r_nil ?_))))
      exact q2 (by rw [hits, if_neg hb]; exact hb') h _ (Stays.refl _)

theorem r_pair {A : Around} {env : Env} {x y : Str} {px py pos : Pos} {k : Nat} {T : Addr} {v1 v2 : Value} {m : Str → Option Value} {Q : Unit → Shared → Prop} (hh : A.handled = none) (hT : h.IsTuple T #[v1, v2]) (F : Fr h₀ env.locals h m)
    (hx : env.kindOf x = some .local) (hy : env.kindOf y = some .local) (hk : env.scope.kind = .function)
    (q : ∀ h' tk', (Fr h₀ env.locals h' fun z => if z = y then some v2 else if z = x then some v1 else m z) → (∀ b o, b ≠ env.locals → h.get? b = some o → h'.get? b = some o) → Q () (st s h' tk')) :
    Wp w A (assign (.Tuple [.Name x px, .Name y py] k pos) env (.ref T)) Q (st s h tk) := by
  refine ⟨wpAny_assign_Tuple (s := st s h tk) hh hT rfl rfl fun h1 e1 => ?_⟩
  have s1 : Stays h h1 := fun b o e => e1 b o (Nat.ne_of_lt (Heap.lt_size e)) e
  have F1 := F.keeps s1
  show wpAny _ _ (assignInOrder [assign (.Name x px) env, assign (.Name y py) env] [v1, v2]) _ _ (st s h1 tk)
  refine wpAny_assignInOrder_more (wpAny_mono (r_asgn (r_setL F1 (Q := fun _ s' => Wp w A (assign (.Name y py) env v2) Q s') (fun h2 tk2 F2 s2 => ?_) hx hk)).out (fun _ s' e => wpAny_assignInOrder_more (wpAny_mono e.out (fun _ _ e => wpAny_assignInOrder_none e) fun _ _ e => e)) fun _ _ e => e)
  refine r_asgn (r_setL F2 (fun h3 tk3 F3 s3 => ?_) hy hk)
  exact q h3 tk3 F3 fun b o hb e => s3.extBut b o hb (s2.extBut b o hb (s1 b o e))

def pick (i : Nat) (md : Int) (ps : List (Int × Str)) : Str := match ps.find? (fun p => hits i md p.1) with
  | some p => p.2
  | none => if i = 0 then Str.ofString "?" else Str.ofString "-"
theorem find_none_take {α : Type} {f : α → Bool} : ∀ {l : List α} {j : Nat}, (∀ p ∈ l.take j, f p = false) → ∀ p, l[j]? = some p → f p = true → l.find? f = some p
  | [], j, _, p, e, _ => by simp at e
  | a :: l, 0, _, p, e, hp => by
    have : a = p := by simpa using e
    rw [List.find?_cons, this, hp]
  | a :: l, j + 1, h, p, e, hp => by
    have e' : l[j]? = some p := by simpa using e
    rw [List.find?_cons, h a (by simp)]
    exact find_none_take (fun p hm => h p (by rw [List.take_succ_cons]; exact List.mem_cons_of_mem _ hm)) p e' hp
theorem go_tupIter {A : Around} {I a : Addr} {i : Nat} {target : PySem.Expr} {v : Value} {s' : Shared} {Q' : Unit → Shared → Prop} (hI : s'.heap.IsTupleIter I a i) (q : Q' () s') : Wp w A (letOwnedTupleGo target (.ref I) v) Q' s' := by
  obtain ⟨o, ho, hc, hd⟩ := hI
  refine ⟨?_⟩
  unfold letOwnedTupleGo
  split
  · cases v with
    | ref b =>
      refine wpAny_bind (wpAny_load ho ?_)
      rw [hc, hd]
      exact wpAny_pure q
    | _ => exact wpAny_pure q
  · cases v with
    | ref b =>
      refine wpAny_bind (wpAny_load ho ?_)
      rw [hc, hd]
      exact wpAny_pure q
    | _ => exact wpAny_pure q
  · exact wpAny_pure q
theorem take_snoc {α : Type} {l : List α} {j : Nat} {p : α} {P : α → Prop} (h : ∀ q ∈ l.take j, P q) (e : l[j]? = some p) (hp : P p) : ∀ q ∈ l.take (j + 1), P q := fun q hq => by
  rw [List.take_add_one, e] at hq
  rcases List.mem_append.mp hq with h1 | h1
  · exact h q h1
  · have : q = p := by simpa using h1
    rw [this]; exact hp
set_option maxHeartbeats 400000 in
theorem fm_inner {L P a : Addr} {i : Nat} {md : Int} {ps : List (Int × Str)} {m : Str → Option Value} {ys : List Value} {n : Nat} {t ti : Tok}
    (X : (KK w.params).In h₀) (T : TopV mean mg mb h₀) (hA : dp < recursionLimit)
    (F : Fr h₀ L h m)
    (hm : m (Str.ofString "mode") = some (.int md t)) (hp : m (Str.ofString "perm") = some (.ref P)) (hi : m (Str.ofString "index") = some (.int (i : Int) ti)) (ht : m (Str.ofString "table") = some (.ref a))
    (hP : h.get? P = some (lobj ys n)) (hPL : P ≠ L) (fP : h₀.get? P = none) (hys : ys.length ≤ 1000) (tab : TabAt h₀ a ps)
    (q : ∀ h' tk' (m' : Str → Option Value) u, m' (Str.ofString "mode") = some (.int md t) → m' (Str.ofString "perm") = some (.ref P) → Fr h₀ L h' m' → h'.get? P = some (lobj (ys ++ [.str (pick i md ps) u]) (n + 1)) →
      (∀ b o, b ≠ L → b ≠ P → h.get? b = some o → h'.get? b = some o) → Q .next (st s h' tk')) :
    Wp w (AA dp un fr gd) (execs fmOuter (eFm L)) Q (st s h tk) := by
  obtain ⟨as, ha, hall⟩ := tab
  refine r_cons (r_for (r_loc F.ns (v := .ref a) ht ?_ rfl rfl rfl) (fun _ => rfl))
  refine r_itTup (tkeep ha F.keep) ?_
  have k1 : Stays h (h.push { cls := .type "tuple_iterator", data := .fields #[.ref a, .int 0 0] }) := fun b o e => Heap.get?_push_of_some _ e
  have hI0 : (h.push { cls := .type "tuple_iterator", data := .fields #[.ref a, .int 0 0] }).IsTupleIter h.objs.size a 0 := ⟨_, Heap.get?_push_size _ rfl, rfl, rfl⟩
  have hLI : L ≠ h.objs.size := by obtain ⟨o, _, _, e, _⟩ := F.ns; exact Nat.ne_of_lt (Heap.lt_size e)
  have hPI : P ≠ h.objs.size := Nat.ne_of_lt (Heap.lt_size hP)
  have haI : a ≠ h.objs.size := by obtain ⟨o, e, _⟩ := ha; exact Nat.ne_of_lt (Heap.lt_size (F.keep _ _ e))
  have hlt : ∀ b o, h.get? b = some o → b ≠ h.objs.size := fun b o e => Nat.ne_of_lt (Heap.lt_size e)
  have F1 := F.keeps k1
  generalize h.push { cls := .type "tuple_iterator", data := .fields #[.ref a, .int 0 0] } = h1 at *
  generalize h.objs.size = I at *
  have fI : h₀.get? I = none := by
    cases e : h₀.get? I with
    | none => rfl
    | some o => exact absurd rfl (hlt _ _ (F.keep _ _ e))
  refine r_loopW (Q := fun f s' => (f = .next → Wp w _ (execs _ _) _ s') ∧ (f ≠ .next → _)) (Walks.tuple rfl I a haI (as.map Value.ref).toArray)
    (fun j h' => ∃ (m' : Str → Option Value), m' (Str.ofString "mode") = some (.int md t) ∧ m' (Str.ofString "perm") = some (.ref P) ∧ m' (Str.ofString "index") = some (.int (i : Int) ti) ∧ Fr h₀ L h' m' ∧
      h'.get? P = some (lobj ys n) ∧ (∀ b o, b ≠ L → b ≠ P → h.get? b = some o → h'.get? b = some o) ∧ (∀ p ∈ ps.take j, hits i md p.1 = false))
    ⟨hI0, tkeep ha F1.keep⟩ ⟨m, hm, hp, hi, F1, k1 _ _ hP, fun b o _ _ e => k1 b o e, fun p hp => by simp at hp⟩ ?hJ ?hgo ?step ?done (fun _ _ x => x)
  case hJ =>
    rintro j h2 h3 ⟨m', e1, e2, e3, Fx, gP, kx, nx⟩ k
    exact ⟨m', e1, e2, e3, Fx.but hLI fI k, k _ _ (by simpa using hPI) gP, fun b o b1 b2 e => k b o (by simpa using hlt b o e) (kx b o b1 b2 e), nx⟩
  case hgo => exact fun _ v s' Q' hst q => go_tupIter hst.1 q
  case step =>
    rintro j v h2 tk2 hj hv hSt ⟨m', e1, e2, e3, Fx, gP, kx, nx⟩
    have hv' : (as.map Value.ref)[j]? = some v := by simpa using hv
    rw [List.getElem?_map] at hv'
    obtain ⟨pa, hpa, rfl⟩ := Option.map_eq_some_iff.mp hv'
    obtain ⟨⟨b, c⟩, hb, tb, uc, hpair⟩ := hall.at j pa hpa
    refine r_pair rfl (tkeep hpair Fx.keep) Fx rfl rfl rfl fun h3 tk3 F3 k3 => ?_
    refine fm_test (m := m') X T hA F3 e1 e2 e3 (k3 _ _ hPL gP) hys ?_ ?_
    · intro hh h4 tk4 k4 gP4
      refine lp_brk (r_next (r_nil ?_))
      have hpick : pick i md ps = c := by
        unfold pick
        rw [find_none_take (f := fun p => hits i md p.1) nx (b, c) hb hh]
      refine q h4 tk4 (fun z => if z = Str.ofString "char" then some (.str c uc) else if z = Str.ofString "bit" then some (.int b tb) else m' z) uc e1 e2 ⟨F3.ns.at' fun o e => k4 _ o (Ne.symm hPL) e, fun b o e => k4 b o (ne_of_stays e fP) (F3.keep b o e), F3.above⟩ (by rw [hpick]; exact gP4) ?_
      exact fun b o b1 b2 e => k4 b o b2 (k3 b o b1 (kx b o b1 b2 e))
    · intro hh h4 tk4 k4
      refine lp_next ⟨h4, tk4, rfl, fun b hb o e => ?_, fun z => if z = Str.ofString "char" then some (.str c uc) else if z = Str.ofString "bit" then some (.int b tb) else m' z, e1, e2, e3, F3.keeps k4, k4 _ _ (k3 _ _ hPL gP), fun b o b1 b2 e => k4 b o (k3 b o b1 (kx b o b1 b2 e)), take_snoc nx hb hh⟩
      refine k4 b o (k3 b o (fun q => ?_) e)
      have hb' : b = I ∨ b = a := by simpa using hb
      rcases hb' with rfl | rfl
      · exact hLI q.symm
      · obtain ⟨o', e', _⟩ := ha
        exact absurd (Heap.lt_size e') (Nat.not_lt.mpr (q ▸ F.above))
  case done =>
    rintro h2 tk2 ⟨m', e1, e2, e3, Fx, gP, kx, nx⟩
    have hlen : (as.map Value.ref).toArray.size = ps.length := by rw [List.size_toArray, List.length_map, hall.len]
    rw [hlen, List.take_length] at nx
    have hnone : ps.find? (fun p => hits i md p.1) = none := List.find?_eq_none.mpr fun p hp => by rw [nx p hp]; exact Bool.false_ne_true
    refine r_cons (r_if (r_ifc (r_loc Fx.ns (v := .int (i : Int) ti) e3 ?_ rfl rfl rfl) (by with_unfolding_all rfl)))
    refine r_int fun _ _ => ?_
    refine r_eq (r_tb ⟨fun hb => ?_, fun hb => ?_⟩)
    · rw [i_eq0, decide_eq_true_eq] at hb
      refine r_cons (r_expr ?_ rfl rfl)
      refine r_meth (T := "list") (id := "list.append") rfl rfl rfl PySem.F.plainAttrs_list slot_list_append type_list_append ?_
      refine r_loc Fx.ns e2 ⟨⟨_, gP, rfl⟩, fun a ha => by cases ha; exact ⟨_, gP, rfl⟩, ?_⟩ rfl rfl rfl
      refine r_cwM1 (r_str fun u _ => ?_) rfl
      refine r_app gP hys fun h3 k3 gP3 => ?_
      refine r_next (r_nil (r_next (r_nil (r_next (r_nil ?_)))))
      refine q h3 _ m' u e1 e2 ⟨Fx.ns.at' fun o e => k3.extBut _ o (Ne.symm hPL) e, fun b o e => k3.extBut b o (ne_of_stays e fP) (Fx.keep b o e), Fx.above⟩ (by rw [pick, hnone, if_pos hb]; exact gP3) fun b o b1 b2 e => k3.extBut b o b2 (kx b o b1 b2 e)
    · rw [i_eq0, decide_eq_false_iff_not] at hb
      refine r_cons (r_expr ?_ rfl rfl)
      refine r_meth (T := "list") (id := "list.append") rfl rfl rfl PySem.F.plainAttrs_list slot_list_append type_list_append ?_
      refine r_loc Fx.ns e2 ⟨⟨_, gP, rfl⟩, fun a ha => by cases ha; exact ⟨_, gP, rfl⟩, ?_⟩ rfl rfl rfl
      refine r_cwM1 (r_str fun u _ => ?_) rfl
      refine r_app gP hys fun h3 k3 gP3 => ?_
      refine r_next (r_nil (r_next (r_nil (r_next (r_nil ?_)))))
      refine q h3 _ m' u e1 e2 ⟨Fx.ns.at' fun o e => k3.extBut _ o (Ne.symm hPL) e, fun b o e => k3.extBut b o (ne_of_stays e fP) (Fx.keep b o e), Fx.above⟩ (by rw [pick, hnone, if_neg hb]; exact gP3) fun b o b1 b2 e => k3.extBut b o b2 (kx b o b1 b2 e)

theorem _root_.PyProof.Rows.Fr.buts {h₀ h h' : Heap} {L : Addr} {wr : List Addr} {m : Str → Option Value} (F : Fr h₀ L h m) (hL : L ∉ wr) (h0 : ∀ b ∈ wr, h₀.get? b = none) (k : ∀ b o, b ∉ wr → h.get? b = some o → h'.get? b = some o) : Fr h₀ L h' m :=
  ⟨F.ns.at' fun o e => k _ o hL e, fun b o e => k b o (fun q => by rw [h0 b q] at e; cases e) (F.keep b o e), F.above⟩
def fmChars (md : Int) (i : Nat) : List Str := (List.range i).map fun k => pick k md (fmT.getD k [])
def fmText (md : Int) : Str := Txt.join (Str.ofString "") (fmChars md 10)
theorem pick_len {i : Nat} {md : Int} {ps : List (Int × Str)} (h : ∀ p ∈ ps, p.2.length = 1) : (pick i md ps).length = 1 := by
  unfold pick
  split
  · rename_i p e
    exact h p (List.mem_of_find?_eq_some e)
  · split <;> rfl
theorem fmT_len : ∀ k, ∀ p ∈ fmT.getD k [], p.2.length = 1 := by
  intro k p hp
  by_cases hk : k < 10
  · have : ∀ k : Fin 10, ∀ p ∈ fmT.getD k.val [], p.2.length = 1 := by decide
    exact this ⟨k, hk⟩ p hp
  · rw [List.getD_eq_getElem?_getD, List.getElem?_eq_none (by show 10 ≤ k; omega)] at hp
    cases hp
theorem fmChars_sum (md : Int) : ∀ i, ((fmChars md i).map (·.length)).sum = i
  | 0 => rfl
  | i + 1 => by
    unfold fmChars
    rw [List.range_succ, List.map_append, List.map_append, List.sum_append]
    have := fmChars_sum md i
    unfold fmChars at this
    rw [this]
    show i + ((pick i md (fmT.getD i [])).length + 0) = i + 1
    rw [pick_len (fmT_len i)]
set_option maxHeartbeats 400000 in
theorem sp_filemode {Q : Value → Shared → Prop} {md : Int} {t : Tok}
    (X : (KK w.params).In h) (T : TopV mean mg mb h) (hA : dp + 1 < recursionLimit)
    (hret : ∀ t' h' tk, Stays h h' → Q (.str (fmText md) t') (st s h' tk)) :
    Wp w (AA dp un fr gd) (call (.ref 104) [.int md t]) Q (st s h tk) := by
  refine' w_enter (binds := [(Str.ofString "mode", .int md t)]) X T ?k6 ?k7 (Nat.lt_of_succ_lt hA) ?kb ?kl ?_ ?c2 ?c3 ?c4 ?c5
  case k6 => k_is
  case k7 => k_is
  case kb => exact rfl
  case kl => exact locs rfl
  case c2 => exact rfl
  case c3 => exact rfl
  case c4 => exact rfl
  case c5 => decide
  intro h₁ tk₁ L hL F
  refine r_cons (r_asg (r_list (r_args0 ⟨Nat.zero_le _, ?_⟩)) rfl)
  have k1 : Stays h₁ (h₁.push (lobj [] 0)) := fun b o e => Heap.get?_push_of_some _ e
  have gP : (h₁.push (lobj [] 0)).get? h₁.objs.size = some (lobj [] 0) := Heap.get?_push_size _ rfl
  have hPL : h₁.objs.size ≠ L := by obtain ⟨o, _, _, e, _⟩ := F.ns; exact Nat.ne_of_gt (Heap.lt_size e)
  have fP : h.get? h₁.objs.size = none := Heap.get?_none_of_le (by
    have := F.above
    obtain ⟨o, _, _, e, _⟩ := F.ns
    exact Nat.le_of_lt (Nat.lt_of_le_of_lt this (Heap.lt_size e)))
  show Wp _ _ (storeName _ _ (.ref h₁.objs.size)) _ (st s (h₁.push (lobj [] 0)) tk₁)
  have F1 := F.keeps k1
  generalize h₁.push (lobj [] 0) = h2 at *
  generalize h₁.objs.size = P at *
  refine r_setL (h₀ := h) F1 (fun h3 tk3 F3 s3 => r_next ?_) rfl rfl
  have gP3 := s3.extBut P _ hPL gP
  have X3 := X.keeps F3.keep
  have T3 := T.keeps F3.keep
  obtain ⟨as, hT97, hall⟩ := tabs_at X
  refine r_cons (r_for (r_call (r_blt (x := Str.ofString "enumerate") (v := .type "enumerate") X3 T3 (by k_is) (by boot_fast) (by decide) ?_ rfl rfl rfl rfl rfl) rfl) (fun _ => rfl))
  refine r_cwT (r_args (r_glo (x := Str.ofString "_filemode_table") (v := .ref 97) X3 T3 (by k_is) (r_args0 ?_) rfl rfl rfl rfl) rfl) rfl rfl
  have lt3 : ∀ b o, h3.get? b = some o → b < h3.objs.size := fun b o e => Heap.lt_size e
  refine r_enumT (tkeep hT97 F3.keep) fun h4 he hit k4 => ?_
  refine r_itEnum he ?_
  have hLn : L < h3.objs.size := by obtain ⟨o, _, _, e, _⟩ := F3.ns; exact lt3 _ _ e
  have h97n : (97 : Addr) < h3.objs.size := by obtain ⟨o, e, _⟩ := hT97; exact lt3 _ _ (F3.keep _ _ e)
  have hPn := lt3 _ _ gP3
  have fe : ∀ b ∈ [h3.objs.size + 1, h3.objs.size], h.get? b = none := fun b hb => Heap.get?_none_of_le (by
    have : h.objs.size ≤ L := F3.above
    have hb' : b = h3.objs.size + 1 ∨ b = h3.objs.size := by simpa using hb
    show h.objs.size ≤ b
    rcases hb' with rfl | rfl
    · exact Nat.le_trans this (Nat.le_of_lt (Nat.lt_succ_of_lt hLn))
    · exact Nat.le_trans this (Nat.le_of_lt hLn))
  have hLw : L ∉ [h3.objs.size + 1, h3.objs.size] := fun q => by
    have hb' : L = h3.objs.size + 1 ∨ L = h3.objs.size := by simpa using q
    rcases hb' with e | e
    · exact absurd hLn (by rw [e]; exact Nat.not_lt.mpr (Nat.le_succ _))
    · exact absurd hLn (by rw [e]; exact Nat.lt_irrefl _)
  have hPw : P ∉ [h3.objs.size + 1, h3.objs.size] := fun q => by
    have hb' : P = h3.objs.size + 1 ∨ P = h3.objs.size := by simpa using q
    rcases hb' with e | e
    · exact absurd hPn (by rw [e]; exact Nat.not_lt.mpr (Nat.le_succ _))
    · exact absurd hPn (by rw [e]; exact Nat.lt_irrefl _)
  have h1 : h3.objs.size + 1 ≠ h3.objs.size := Nat.succ_ne_self _
  have h2' : h3.objs.size + 1 ∉ [h3.objs.size, (97 : Addr)] := fun q => by
    have hb' : h3.objs.size + 1 = h3.objs.size ∨ h3.objs.size + 1 = 97 := by simpa using q
    rcases hb' with e | e
    · exact h1 e
    · exact absurd h97n (by rw [← e]; exact Nat.not_lt.mpr (Nat.le_succ _))
  have h97it : (97 : Addr) ≠ h3.objs.size := Nat.ne_of_lt h97n
  have F4 := F3.keeps k4
  have gP4 := k4 _ _ gP3
  generalize h3.objs.size + 1 = e at *
  generalize h3.objs.size = it at *
  refine r_loopT (Q := fun f s' => (f = .next → Wp w _ (execs _ _) _ s') ∧ (f ≠ .next → _)) (WalksT.enumerateD (Draws.tuple rfl it 97 h97it (as.map Value.ref).toArray) e h1 h2' (by simp))
    (fun i h' => ∃ (m' : Str → Option Value) (ys : List Value) (n : Nat), m' (Str.ofString "mode") = some (.int md t) ∧ m' (Str.ofString "perm") = some (.ref P) ∧ Fr h L h' m' ∧ h'.get? P = some (lobj ys n) ∧ ys.length = i ∧ StrsAre ys (fmChars md i))
    ⟨⟨_, he⟩, hit, tkeep hT97 F4.keep⟩ ⟨_, [], 0, rfl, rfl, F4, gP4, rfl, .nil⟩ ?hJ ?step ?done (fun _ _ x => x)
  case hJ =>
    rintro i h5 h6 ⟨m', ys, n, e1, e2, Fx, g, hl, hys⟩ k
    exact ⟨m', ys, n, e1, e2, Fx.buts hLw fe k, k _ _ hPw g, hl, hys⟩
  case step =>
    rintro i T' vals h5 tk5 hi ⟨ti, x, hx, rfl⟩ hT' hSt ⟨m', ys, n, e1, e2, Fx, g, hl, hys⟩
    have hx' : (as.map Value.ref)[i]? = some x := by simpa using hx
    rw [List.getElem?_map] at hx'
    obtain ⟨a, ha, rfl⟩ := Option.map_eq_some_iff.mp hx'
    obtain ⟨ps, hps, htab⟩ := hall.at i a ha
    have hi10 : i < 10 := (List.getElem?_eq_some_iff.mp hps).1
    refine r_pair rfl hT' Fx rfl rfl rfl fun h6 tk6 F6 k6 => ?_
    refine fm_inner (i := i) (md := md) (t := t) (ti := ti) (a := a) (P := P) X T hA F6 e1 e2 rfl rfl (k6 _ _ hPL g) hPL fP (by omega) htab ?_
    intro h7 tk7 m7 u e17 e27 F7 g7 k7
    refine lp_next ⟨h7, tk7, rfl, fun b hb o eo => ?_, m7, _, _, e17, e27, F7, g7, by rw [List.length_append, hl]; rfl, ?_⟩
    · have hb' : b = e ∨ b = it ∨ b = 97 := by simpa using hb
      have bL : b ≠ L := fun q => by
        rcases hb' with r | r | r
        · exact hLw (by rw [← q, r]; simp)
        · exact hLw (by rw [← q, r]; simp)
        · obtain ⟨o', e', _⟩ := hT97
          have := Heap.lt_size e'
          have h3 : h.objs.size ≤ L := F4.above
          exact absurd this (by rw [← r, q]; exact Nat.not_lt.mpr h3)
      have bP : b ≠ P := fun q => by
        rcases hb' with r | r | r
        · exact hPw (by rw [← q, r]; simp)
        · exact hPw (by rw [← q, r]; simp)
        · obtain ⟨o', e', _⟩ := hT97
          rw [← r, q, fP] at e'
          cases e'
      exact k7 b o bL bP (k6 b o bL eo)
    · have : fmChars md (i + 1) = fmChars md i ++ [pick i md ps] := by
        unfold fmChars
        rw [List.range_succ, List.map_append]
        show _ ++ [pick i md (fmT.getD i [])] = _
        rw [List.getD_eq_getElem?_getD, hps]
        rfl
      rw [this]
      exact hys.append' (.cons _ _ .nil)
  case done =>
    rintro h5 tk5 ⟨m', ys, n, e1, e2, Fx, g, hl, hys⟩
    have hlen : (as.map Value.ref).toArray.size = 10 := by rw [List.size_toArray, List.length_map, hall.len]; rfl
    rw [hlen] at hl hys
    refine r_nil (r_next ?_)
    refine r_cons (r_ret ?_)
    refine r_meth (T := "str") (id := "str.join") rfl rfl rfl PySem.F.plainAttrs_str PySem.F.slot_str_join PySem.F.type_str_join ?_
    refine r_str fun u _ => ⟨typeIs_str _ _ _, (fun _ e => nomatch e), ?_⟩
    refine r_cwM1 (r_loc Fx.ns (v := .ref P) e2 ?_ rfl rfl rfl) rfl
    refine ⟨join_listW (ys := fmChars md 10) (items := ys.toArray) ⟨_, g, rfl, _, rfl⟩ hys (by decide) (by rw [fmChars_sum]; show 10 + (fmChars md 10).length ≤ _; unfold fmChars; rw [List.length_map, List.length_range]; decide) ?_⟩
    intro t' k
    exact r_ret' (fun x => nomatch x) (hret _ _ _ Fx.keep)
end
end Mine

end
section
open PySem PySem.W PyProof.Rows PySem.Calls
set_option maxRecDepth 100000
namespace Mine
section
open Builtin
variable {c1 c2 : UInt8} {t t1 : Tok}
theorem dec_road {id : String} : _codecs.decodeRoad id [c1, c2].toArray (PySem.Str.ofString "latin1") none [] = mkStr ⟨#[c1.toNat, c2.toNat]⟩ := by kernel_rfl
theorem dec_args (a b : Value) : argsOk "bytes.decode" ⟨[a, b], []⟩ := by
  unfold argsOk; rw [signature?_of (id := "bytes.decode") (n := ['e', 'd', 'o', 'c', 'e', 'd']) (o := ['s', 'e', 't', 'y', 'b']) (by kernel_rfl) FB.owner_bytes]; kernel_rfl
theorem dec_entry : «bytes.decode» ⟨[.bytes [c1, c2].toArray t, .str (PySem.Str.ofString "latin1") t1], []⟩ = (mkStr (PySem.Str.ofString "utf-8") >>= fun _ => mkStr (PySem.Str.ofString "latin1") >>= fun e => mkStr (PySem.Str.ofString "bytes.decode") >>= fun d =>
    call (.builtin "_codecs.decode.text") [.bytes [c1, c2].toArray t, e, .none, d] >>= fun v => ret v) := by kernel_rfl
theorem dec_text {t2 : Tok} {d : PySem.Str} :
    Meets («_codecs.decode.text» ⟨[.bytes [c1, c2].toArray t, .str (PySem.Str.ofString "latin1") t1, .none, .str d t2], []⟩) (fun _ R s => R (.ok (.ret (.str ⟨#[c1.toNat, c2.toNat]⟩ s.toks))) { s with toks := s.toks + 1 }) := by
  refine .of_wp fun prog w A R s h => ?_
  show wpAny _ _ (Bytes.bytesLike _ (.bytes _ t) >>= fun r => _) _ _ s
  refine wpAny_bind (wpAny_of_eq KBd.like_eq ?_)
  refine wpAny_bind (wpAny_of_eq KBd.held_eq ?_)
  show wpAny _ _ (_codecs.decodeRoad _ [c1, c2].toArray (PySem.Str.ofString "latin1") none [] >>= fun v => _) _ _ s
  rw [dec_road]
  exact wpAny_bind (wpAny_mkStr (wpAny_pure ⟨_, rfl, h⟩) (by rw [sizeLine_eq]; show 2 ≤ _; omega))
theorem dec_meets :
    Meets («bytes.decode» ⟨[.bytes [c1, c2].toArray t, .str (PySem.Str.ofString "latin1") t1], []⟩) (fun _ R s => ∀ t' k, R (.ok (.ret (.str ⟨#[c1.toNat, c2.toNat]⟩ t'))) { s with toks := k }) := by
  refine .of_wp fun prog w A R s h => ?_
  rw [dec_entry]
  refine wpAny_bind (wpAny_mkStr ?_ (by decide))
  refine wpAny_bind (wpAny_mkStr ?_ (by decide))
  refine wpAny_bind (wpAny_mkStr ?_ (by decide))
  exact wpAny_bind (call_function_meets KBd.kind_text KBd.plain_text KBd.entry_text (KBd.args_text _ _ _ _) dec_text (wpAny_pure ⟨_, rfl, h _ _⟩))
end
section
variable {w : World} {A : Around} {s : Shared} {h : Heap} {tk : Nat} {Q : Value → Shared → Prop} {c1 c2 : UInt8} {t t1 : Tok}
theorem r_dec (q : ∀ t' k, Q (.str ⟨#[c1.toNat, c2.toNat]⟩ t') (st s h k)) : Wp w A (call (.builtin "bytes.decode") [.bytes [c1, c2].toArray t, .str (PySem.Str.ofString "latin1") t1]) Q (st s h tk) :=
  ⟨call_meets FB.slot_bytes_decode (typeIs_bytes _ _ _) FB.entry_bytes_decode (dec_args _ _) dec_meets q⟩
end
section
open Builtin Builtin.Str
variable {prog : Program} {w : World} {A : Around} {E : Value → Shared → Prop} {s : Shared}
theorem look_text {D : Addr} {items : Array Value} {c : Nat} {x : PySem.Str} {u : Tok} {Q : Mapped → Shared → Prop} (hl : s.heap.IsList D items) (hc : c < 1000) (hx : items[c]? = some (.str x u)) (h : ∀ tk, Q (.text x) { s with toks := tk }) :
    wpAny (model prog w) A (tableLookup (.ref D) c) Q E s := by
  unfold tableLookup
  refine wpAny_bind (wpAny_attempt (wpAny_bind (wpAny_mkInt (wpAny_getItem_list hl (by omega) (by omega) (by simpa using hx) ?_))))
  exact wpAny_bind (wpAny_pure (wpAny_bind (wpAny_pure (wpAny_pure (h _)))))
end
section
open Builtin Builtin.Str
variable {prog : Program} {w : World} {A : Around} {E : Value → Shared → Prop} {s : Shared}
def KnownOk (g : Nat → PySem.Str) (kn : List (Nat × Option Nat)) : Prop := ∀ c a, kn.lookup c = some a → ∃ d, a = some d ∧ (g c).cps = #[d]
abbrev TrS : Type := List PySem.Str × Nat × Bool × List (Nat × Option Nat) × Bool
theorem tr_loop {f : Nat → TrS → Sem (ForInStep TrS)} {g : Nat → PySem.Str} {c1 c2 : Nat} {fa : Bool} {Q : TrS → Shared → Prop}
    (step : ∀ c ps tot fa kn (s' : Shared), (c = c1 ∨ c = c2) → tot ≤ 1000 → KnownOk g kn → (∃ tk, s' = { s with toks := tk }) →
      wpAny (model prog w) A (f c (ps, tot, fa, kn, false)) (fun r s'' => ∃ x tot' fa' kn', r = .yield (x :: ps, tot', fa', kn', false) ∧ x.cps = (g c).cps ∧ tot' ≤ tot + 3 ∧ KnownOk g kn' ∧ ∃ tk, s'' = { s with toks := tk }) E s')
    (q : ∀ x1 x2 tot fa kn tk, x1.cps = (g c1).cps → x2.cps = (g c2).cps → tot ≤ 6 → Q ([x2, x1], tot, fa, kn, false) { s with toks := tk }) :
    wpAny (model prog w) A (forIn #[c1, c2] (([], 0, fa, [], false) : TrS) f) Q E s := by
  show wpAny _ _ (forIn [c1, c2].toArray (([], 0, fa, [], false) : TrS) f) Q E s
  rw [List.forIn_toArray, List.forIn_cons]
  refine wpAny_bind (wpAny_mono (step c1 [] 0 fa [] s (.inl rfl) (by omega) (fun c a e => by simp at e) ⟨s.toks, rfl⟩) ?_ fun _ _ e => e)
  rintro r s1 ⟨x1, t1, fa1, kn1, rfl, hx1, ht1, hk1, tk1, rfl⟩
  show wpAny _ _ (forIn [c2] _ f) Q E _
  rw [List.forIn_cons]
  refine wpAny_bind (wpAny_mono (step c2 [x1] t1 fa1 kn1 _ (.inr rfl) (by omega) hk1 ⟨tk1, rfl⟩) ?_ fun _ _ e => e)
  rintro r s2 ⟨x2, t2, fa2, kn2, rfl, hx2, ht2, hk2, tk2, rfl⟩
  show wpAny _ _ (forIn [] _ f) Q E _
  rw [List.forIn_nil]
  exact wpAny_pure (q x1 x2 t2 fa2 kn2 tk2 hx1 hx2 (by omega))
set_option maxHeartbeats 400000 in
theorem tr_two {D : Addr} {items : Array Value} {g : Nat → PySem.Str} {c1 c2 : Nat} {t : Tok} {Q : PySem.Fin → Shared → Prop} (hl : s.heap.IsList D items) (hc1 : c1 < 256) (hc2 : c2 < 256)
    (hg : ∀ c, c < 256 → ∃ u, items[c]? = some (.str (g c) u)) (hg1 : ∀ c, c < 256 → (g c).length = 1 ∨ (g c).length = 3)
    (q : ∀ t' tk, Q (.done (.ret (.str ⟨(g c1).cps ++ (g c2).cps⟩ t'))) { s with toks := tk }) :
    wpAny (model prog w) A («str.translate» ⟨[.str ⟨#[c1, c2]⟩ t, .ref D], []⟩) Q E s := by
  unfold «str.translate»
  refine wpAny_bind (wpAny_of_eq (a := (Value.str ⟨#[c1,c2]⟩ t, (⟨#[c1,c2]⟩ : PySem.Str), Value.ref D)) rfl ?_)
  show wpAny _ _ _ _ _ s
  dsimp only
  rw [if_neg (by intro h; cases h)]
  refine wpAny_bind (tr_loop (g := g) ?step ?q)
  case q =>
    intro x1 x2 tot fa kn tk h1 h2 ht
    have hto : tooLong tot = false := by
      unfold tooLong
      rw [sizeLine_eq]
      simp only [decide_eq_false_iff_not]
      omega
    dsimp only
    rw [hto, if_neg Bool.false_ne_true]
    have e : List.foldl (fun acc (p : PySem.Str) => acc ++ p.cps) #[] [x2, x1].reverse = (g c1).cps ++ (g c2).cps := by
      show (#[] ++ x1.cps) ++ x2.cps = _
      rw [Array.empty_append, h1, h2]
    rw [e]
    have l1 : (g c1).cps.size ≤ 3 := by
      have := hg1 c1 hc1
      unfold PySem.Str.length at this
      omega
    have l2 : (g c2).cps.size ≤ 3 := by
      have := hg1 c2 hc2
      unfold PySem.Str.length at this
      omega
    exact wpAny_bind (wpAny_mkStr (wpAny_pure (q _ _)) (by rw [sizeLine_eq]; show ((g c1).cps ++ (g c2).cps).size ≤ _; rw [Array.size_append]; omega))
  case step =>
    rintro c ps tot fa kn _ hc ht hk ⟨tk, rfl⟩
    have hc' : c < 256 := by rcases hc with rfl | rfl <;> assumption
    obtain ⟨u, hu⟩ := hg c hc'
    have hto : tooLong tot = false := by
      unfold tooLong
      rw [sizeLine_eq]
      simp only [decide_eq_false_iff_not]
      omega
    have hlen := hg1 c hc'
    dsimp only
    rw [hto, if_neg Bool.false_ne_true]
    cases fa with
    | true =>
      rw [if_pos rfl]
      cases hkn : List.lookup c kn with
      | some a =>
        obtain ⟨d, rfl, hd⟩ := hk c a hkn
        refine wpAny_bind (wpAny_pure ?_)
        exact wpAny_pure ⟨_, _, _, _, rfl, hd.symm, by omega, hk, _, rfl⟩
      | none =>
        refine wpAny_bind (look_text (x := g c) (u := u) hl (by omega) hu fun tk1 => ?_)
        dsimp only
        by_cases hone : ((g c).length == 1 && (g c).cps.all fun x => decide (x < 128)) = true
        · rw [if_pos hone]
          have h1 : (g c).cps.size = 1 := by
            rw [Bool.and_eq_true] at hone
            exact beq_iff_eq.mp hone.1
          have h2 : (g c).cps[0]? = some (g c).cps[0] := by simp
          rw [h2]
          dsimp only
          refine wpAny_bind (wpAny_pure ?_)
          dsimp only
          refine wpAny_pure ⟨_, _, _, _, rfl, ?_, by omega, ?_, _, rfl⟩
          · apply Array.ext
            · exact h1.symm
            · intro i i1 i2
              have i0 : i = 0 := by
                have : i < 1 := i1
                omega
              subst i0
              rfl
          · intro c' a' e
            rw [List.lookup_cons] at e
            cases hcc : (c' == c) with
            | false => rw [hcc] at e; exact hk c' a' e
            | true =>
              rw [hcc] at e
              have e1 : c' = c := beq_iff_eq.mp hcc
              have e2 : some (g c).cps[0] = a' := Option.some.inj e
              subst e1
              refine ⟨_, e2.symm, ?_⟩
              apply Array.ext
              · exact h1
              · intro i i1 i2
                have i0 : i = 0 := by
                  have : i < 1 := i2
                  omega
                subst i0
                rfl
        · rw [if_neg hone]
          dsimp only
          refine wpAny_bind (wpAny_pure ?_)
          dsimp only
          refine wpAny_bind (wpAny_rule ?_)
          rw [if_neg Bool.false_ne_true]
          refine wpAny_bind (look_text (x := g c) (u := u) hl (by omega) hu fun tk2 => ?_)
          exact wpAny_pure ⟨_, _, _, _, rfl, rfl, by omega, hk, _, rfl⟩
    | false =>
      rw [if_neg Bool.false_ne_true]
      rw [if_neg Bool.false_ne_true]
      refine wpAny_bind (look_text (x := g c) (u := u) hl (by omega) hu fun tk2 => ?_)
      exact wpAny_pure ⟨_, _, _, _, rfl, rfl, by omega, hk, _, rfl⟩
end
section
variable {w : World} {A : Around} {s : Shared} {h : Heap} {tk : Nat} {Q : Value → Shared → Prop}
theorem r_tr {D : Addr} {items : Array Value} {g : Nat → PySem.Str} {c1 c2 : Nat} {t : Tok} (hl : h.IsList D items) (hc1 : c1 < 256) (hc2 : c2 < 256)
    (hg : ∀ c, c < 256 → ∃ u, items[c]? = some (.str (g c) u)) (hg1 : ∀ c, c < 256 → (g c).length = 1 ∨ (g c).length = 3)
    (q : ∀ t' k, Q (.str ⟨(g c1).cps ++ (g c2).cps⟩ t') (st s h k)) : Wp w A (call (.builtin "str.translate") [.str ⟨#[c1, c2]⟩ t, .ref D]) Q (st s h tk) :=
  ⟨wpAny_call_entry F.slot_str_translate (typeIs_str _ _ _) F.entry_str_translate (tr_two (s := st s h tk) hl hc1 hc2 hg hg1 fun t' k => ⟨_, rfl, q t' k⟩) (F.args_str_translate_2 _ _)⟩
end
end Mine

end
section
open PySem PySem.W PyProof.Rows PySem.Calls
set_option maxRecDepth 100000
namespace Mine
theorem fillK6 : ∀ (w : World) (h : Heap), (KK w.params).In h → PySem.Challenge.rw_oc0066_01.row.prog = PySem.Challenge.rw_oc0066_01.row.prog := by
  w_on
  k_fill
  intros
  rfl
section
variable {w : World} {A : Around} {s : Shared} {h : Heap} {tk : Nat} {Q : Value → Shared → Prop} {env : Env}
theorem r_join {v₁ v₂ : PySem.Expr} {rest : List PySem.Expr} {pos : Pos} (q : Wp w A (joinParts Str.empty (eval v₁ env :: eval v₂ env :: evalEach rest env)) Q s) : Wp w A (eval (.JoinedStr (v₁ :: v₂ :: rest) pos) env) Q s := ⟨JoinedStr_many q.out⟩
theorem r_jp {out : PySem.Str} {x : Sem Value} {rest : List (Sem Value)} (q : Wp w A x (fun v s₁ => ∃ y t, v = .str y t ∧ (out ++ y).length ≤ sizeLine ∧ Wp w A (joinParts (out ++ y) rest) Q s₁) s) : Wp w A (joinParts out (x :: rest)) Q s :=
  ⟨joinParts_cons (wpAny_mono q.out (fun v s₁ e => by obtain ⟨y, t, rfl, h1, h2⟩ := e; exact ⟨h1, h2.out⟩) fun _ _ e => e)⟩
theorem r_jp0 {out : PySem.Str} (hsz : out.length ≤ sizeLine) (q : ∀ t tk', Q (.str out t) (st s h tk')) : Wp w A (joinParts out []) Q (st s h tk) := ⟨joinParts_nil (q _ _) hsz⟩
theorem r_fmtS {value : PySem.Expr} {pos : Pos} (q : Wp w A (eval value env) (fun v s₁ => ∃ h x t tk', s₁ = st s h tk' ∧ v = .str x t ∧ x.length ≤ sizeLine ∧ ∀ t' tk'', Q (.str x t') (st s h tk'')) (st s h tk)) : Wp w A (eval (.FormattedValue value 115 none pos) env) Q (st s h tk) :=
  ⟨wpAny_FormattedValue_s (wpAny_mono q.out (fun v s₁ e => by
    obtain ⟨h, x, t, tk', rfl, rfl, h1, h2⟩ := e
    exact PySem.SB.convS_str (fun t' k => formatField_str (fun t'' k' => h2 t'' k') h1) h1) fun _ _ e => e)⟩
end
def encS (c : Nat) : PySem.Str := match big22B[c]? with
  | some (.str x _) => x
  | _ => PySem.Str.empty
theorem enc_all : ((List.range 256).all fun c => match big22B[c]? with | some (.str x _) => x.length == 1 || x.length == 3 | _ => false) = true := by kernel_rfl
theorem enc_at (c : Nat) (hc : c < 256) : ∃ u, big22B[c]? = some (.str (encS c) u) ∧ ((encS c).length = 1 ∨ (encS c).length = 3) := by
  have h := List.all_eq_true.mp enc_all c (List.mem_range.mpr hc)
  unfold encS
  split at h
  · rename_i x u e
    rw [e]
    refine ⟨u, rfl, ?_⟩
    have h' := Bool.or_eq_true_iff.mp h
    exact h'.imp (fun k => beq_iff_eq.mp k) (fun k => beq_iff_eq.mp k)
  · cases h
def wordOf (a b : Nat) : PySem.Str := Str.empty ++ Str.ofString "=?" ++ Str.ofString "iso-8859-1" ++ Str.ofString "?q?" ++ ⟨(encS a).cps ++ (encS b).cps⟩ ++ Str.ofString "?="
section
variable {w : World} {s : Shared} {h : Heap} {tk : Nat} {Q : Value → Shared → Prop} {mean : ExcName → Option Value} {mg mb : Str → Option Value} {dp un : Nat} {fr : Option (List Env)} {gd : Option (List Code)}
theorem w_enterD {A : Around} {K : Frag} {name : Str} {params : Arguments} {body : List Stmt} {scope : Scope} {dV pm cdv doc oc : Value} {od : Option Addr} {osl : Array (Option Value)} {f : Addr} {args : List Value} {binds : List (Str × Value)}
    (X : K.In h) (T : TopV mean mg mb h) (ho : K.lookup f = some ⟨oc, od, .func { docDef name params body scope pm cdv doc with defaults := dV }, osl⟩) (hcd : codeIn K cdv name = true) (hroom : A.depth < recursionLimit)
    (hbind : ∀ tk, BindsTo (st s h tk) { docDef name params body scope pm cdv doc with defaults := dV } ⟨args, []⟩ binds) (hloc : ∀ x ∈ binds, scope.names.lookup x.1 = some .local)
    (q : ∀ h₁ tk₁ L, L = h.objs.size → Fr h L h₁ (fun x => binds.reverse.lookup x) → Wp w (A.deeper (envOf name scope L f cdv)) (execs body (envOf name scope L f cdv)) (fun fl s' => Q (retV fl) s') (st s h₁ tk₁))
    (hco : scope.isCoroutine = false) (hgen : scope.isGenerator = false) (hk : scope.kind = .function) (hcell : ∀ x ∈ scope.names, x.2 ≠ .cell) :
    Wp w A (call (.ref f) args) Q (st s h tk) :=
  ⟨wpAny_call (call_plainD (s := st s h tk) (R := fun r s' => match r with | .ok (.ret v) => Q v s' | .ok _ => False | .error e => NoE e s') hroom (X _ _ ho) rfl T.nolimit (codeRec_of X hcd) (hbind _) hloc (fun h₁ F => wpAny_mono (q h₁ _ _ rfl F).out (fun fl s' e => by cases fl <;> exact e) fun _ _ e => e.elim) hco hgen hk hcell)⟩
set_option maxHeartbeats 400000 in
theorem sp_head {c1 c2 : UInt8} {t : Tok} (X : (KK w.params).In h) (T : TopV mean mg mb h) (hA : dp < recursionLimit)
    (hret : ∀ t' h' tk, Stays h h' → Q (.str (wordOf c1.toNat c2.toNat) t') (st s h' tk)) :
    Wp w (AA dp un fr gd) (call (.ref 38) [.bytes [c1, c2].toArray t]) Q (st s h tk) := by
  refine' w_enterD (dV := .ref 31) (binds := [(Str.ofString "header_bytes", .bytes [c1, c2].toArray t), (Str.ofString "charset", .str (Str.ofString "iso-8859-1") 1724)]) X T ?k6 ?k7 hA ?kb ?kl ?_ ?c2 ?c3 ?c4 ?c5
  case k6 => k_is
  case k7 => k_is
  case kb => exact fun tk => binds_K (K := KK w.params) X rfl (by k_is) rfl rfl rfl
  case kl => exact locs rfl
  case c2 => exact rfl
  case c3 => exact rfl
  case c4 => exact rfl
  case c5 => decide
  intro h₁ tk₁ L hL F
  have X1 := X.keeps F.keep
  have T1 := T.keeps F.keep
  have lt1 := UInt8.toNat_lt c1
  have lt2 := UInt8.toNat_lt c2
  refine r_cons (r_if (r_not (r_tv (r_loc F.ns (v := .bytes [c1, c2].toArray t) rfl ?_ rfl rfl rfl) rfl)))
  refine ⟨truthy_bytes (s := st s h₁ tk₁) (show 2 ≤ 1099511627776 by omega) ⟨fun hb => (by cases hb), fun _ => ?_⟩⟩
  refine r_nil (r_next ?_)
  show Wp _ _ (execs _ _) _ (st s h₁ _)
  refine r_cons (r_asg ?_ rfl)
  refine r_meth (T := "str") (id := "str.translate") rfl rfl rfl PySem.F.plainAttrs_str PySem.F.slot_str_translate PySem.F.type_str_translate ?_
  refine r_meth (T := "bytes") (id := "bytes.decode") rfl rfl rfl PySem.W.FB.plainAttrs_bytes PySem.W.FB.slot_bytes_decode PySem.W.FB.type_bytes_decode ?_
  refine r_loc F.ns (v := .bytes [c1, c2].toArray t) rfl ⟨typeIs_bytes _ _ _, (fun _ e => nomatch e), ?_⟩ rfl rfl rfl
  refine r_cwM1 (r_str fun u _ => ?_) rfl
  refine r_dec fun t' k => ⟨typeIs_str _ _ _, (fun _ e => nomatch e), ?_⟩
  refine r_cwM1 (r_glo (x := Str.ofString "_QUOPRI_HEADER_MAP") (v := .ref 22) X1 T1 (by k_is) ?_ rfl rfl rfl rfl) rfl
  have hl : h₁.IsList 22 big22B.toArray := ⟨_, X1 22 _ (by k_is), rfl, _, rfl⟩
  refine r_tr (g := encS) hl lt1 lt2 (fun c hc => by obtain ⟨u, e, _⟩ := enc_at c hc; exact ⟨u, by simpa using e⟩) (fun c hc => by obtain ⟨u, _, e⟩ := enc_at c hc; exact e) fun t2 k2 => ?_
  refine r_setL (h₀ := h) F (fun h2 tk2 F2 s2 => r_next ?_) rfl rfl
  have hz : (encS c1.toNat).cps.size ≤ 3 ∧ (encS c2.toNat).cps.size ≤ 3 := by
    obtain ⟨_, _, e1⟩ := enc_at c1.toNat lt1
    obtain ⟨_, _, e2⟩ := enc_at c2.toNat lt2
    unfold PySem.Str.length at e1 e2
    omega
  have hz2 : (⟨(encS c1.toNat).cps ++ (encS c2.toNat).cps⟩ : PySem.Str).length ≤ 6 := by
    show ((encS c1.toNat).cps ++ (encS c2.toNat).cps).size ≤ 6
    rw [Array.size_append]
    omega
  refine r_cons (r_ret (r_join (r_jp (r_str fun _ _ => ⟨_, _, rfl, by decide, ?_⟩))))
  refine r_jp (r_fmtS (r_loc F2.ns (v := .str (Str.ofString "iso-8859-1") 1724) rfl ⟨h2, _, _, _, rfl, rfl, by decide, fun _ _ => ⟨_, _, rfl, by decide, ?_⟩⟩ rfl rfl rfl))
  refine r_jp (r_str fun _ _ => ⟨_, _, rfl, by decide, ?_⟩)
  refine r_jp (r_fmtS (r_loc F2.ns (v := .str ⟨(encS c1.toNat).cps ++ (encS c2.toNat).cps⟩ t2) rfl ⟨h2, _, _, _, rfl, rfl, by rw [sizeLine_eq]; omega, fun _ _ => ⟨_, _, rfl, ?_, ?_⟩⟩ rfl rfl rfl))
  · rw [strLen_append, sizeLine_eq]
    show 15 + _ ≤ _
    omega
  refine r_jp (r_str fun _ _ => ⟨_, _, rfl, ?_, ?_⟩)
  · rw [strLen_append, strLen_append, sizeLine_eq]
    show 15 + _ + 2 ≤ _
    omega
  refine r_jp0 ?_ fun t' tk' => ?_
  · rw [strLen_append, strLen_append, sizeLine_eq]
    show 15 + _ + 2 ≤ _
    omega
  exact r_ret' (fun x => nomatch x) (hret _ _ _ F2.keep)
end
end Mine

end
section
open PySem PySem.W PyProof.Rows PySem.Calls
set_option maxRecDepth 100000
namespace Mine
theorem fillK7 : ∀ (w : World) (h : Heap), (KK w.params).In h → PySem.Challenge.rw_oc0066_01.row.prog = PySem.Challenge.rw_oc0066_01.row.prog := by
  w_on
  k_fill
  intros
  rfl
abbrev frOf (l : List Env) : List Addr := l.filterMap (·.frame)
theorem note_new {M : Model} {A : Around} {E : Value → Shared → Prop} {s : Shared} {base : Heap} {env : Env} {outer : List Env} {L e : Addr} {oe : Obj} {vs : Array Value} {Q : Unit → Shared → Prop}
    (hfr : A.frames = some (env :: outer)) (hl : s.heap.FunFrames base (env :: outer)) (hf : env.frame = some L) (he : s.heap.get? e = some oe) (hd : oe.data = .fields vs) (h1 : vs[1]? = some .none)
    (h : ∀ h' T oe' vs' oT ts, (∀ b o, b ∉ frOf (env :: outer) → b ≠ e → s.heap.get? b = some o → h'.get? b = some o) → (∀ b o, b ≠ e → s.heap.get? b = some o → ∃ sl, h'.get? b = some { o with slots := sl }) →
      h'.get? e = some oe' → oe'.cls = oe.cls → oe'.data = .fields vs' → vs'[1]? = some (.ref T) → s.heap.get? T = none → T ≠ e → h'.get? T = some oT → oT.data = .fields ts → 3 < ts.size → Q () { s with heap := h' }) :
    wpAny M A (noteFrame (.ref e) env) (fun _ s' => wpAny M A (setFlight (.ref e) none) Q E s') E s := by
  have hsz : 1 < vs.size := (Array.getElem?_eq_some_iff.mp h1).1
  have hene : e ∉ frOf (env :: outer) := fun hm => by
    obtain ⟨_, o, ho, hnf⟩ := hl.mem hm
    rw [he] at ho; injection ho with ho; subst ho; exact hnf vs hd
  unfold noteFrame
  simp only [hf]
  refine wpAny_bind (wpAny_field he hd h1 ?_)
  rw [if_neg (by decide)]
  refine wpAny_bind (wpAny_frameOf_fun hfr hl hf fun h₁ hs₁ => ?_)
  refine wpAny_bind (wpAny_entryPlaceOf fun pl hpl => ?_)
  unfold EntryCells.newEntry newFields
  refine wpAny_bind (wpAny_newObj_type ?_ (hpl.sizeOk5 _ _ _ _ _))
  have he₁ : h₁.get? e = some oe := (hs₁.2.1 e hene).trans he
  have hts : ∃ ts : Array Value, (({ cls := .type "traceback", data := .fields ([Value.none, .ref L, .none, rawInt L, .none] ++ (if pl.isEmpty then List.replicate 6 Value.none else pl)).toArray } : Obj)) = { cls := .type "traceback", data := .fields ts } ∧ 3 < ts.size := ⟨_, rfl, by simp only [List.size_toArray, List.length_append, List.length_cons, List.length_nil]; omega⟩
  obtain ⟨ts, ets, hts3⟩ := hts
  show wpAny M A (setField (.ref e) 1 (.ref h₁.objs.size)) _ E { s with heap := h₁.push ({ cls := .type "traceback", data := .fields ([Value.none, .ref L, .none, rawInt L, .none] ++ (if pl.isEmpty then List.replicate 6 Value.none else pl)).toArray } : Obj) }
  rw [ets]
  have he₂ := Heap.get?_push_of_some (h := h₁) { cls := .type "traceback", data := .fields ts } he₁
  refine wpAny_setField he₂ hd hsz ?_
  have hTe : h₁.objs.size ≠ e := Nat.ne_of_gt (Heap.lt_size he₁)
  have hd₃ := Obj.data_mapFields hd (·.setIfInBounds 1 (Value.ref h₁.objs.size))
  have he₃ := Heap.get?_update_self (Obj.mapFields (·.setIfInBounds 1 (Value.ref h₁.objs.size))) he₂ (Obj.isFreed_of_fields hd₃)
  have hT₃ := (Heap.get?_update_other (h₁.push { cls := .type "traceback", data := .fields ts }) (Obj.mapFields (·.setIfInBounds 1 (Value.ref h₁.objs.size))) (Ne.symm hTe)).trans (Heap.get?_push_size h₁ rfl)
  unfold setFlight
  refine wpAny_bind (wpAny_field he₃ hd₃ (x := .ref h₁.objs.size) (by simp [hsz]) ?_)
  rw [if_pos (show (Value.ref h₁.objs.size != Value.none) = true from by simp)]
  refine wpAny_setField hT₃ rfl hts3 ?_
  have keep : ∀ b o, b ≠ e → h₁.get? b = some o →
      (((h₁.push { cls := .type "traceback", data := .fields ts }).update e (Obj.mapFields (·.setIfInBounds 1 (Value.ref h₁.objs.size)))).update h₁.objs.size
        (Obj.mapFields (·.setIfInBounds 3 ((none : Option Addr).elim Value.none fun f => rawInt f)))).get? b = some o := fun b o hbe hb => by
    have hbT : h₁.objs.size ≠ b := Nat.ne_of_gt (Heap.lt_size hb)
    rw [Heap.get?_update_other _ _ hbT, Heap.get?_update_other _ _ (Ne.symm hbe)]
    exact Heap.get?_push_of_some _ hb
  refine h _ h₁.objs.size _ _ _ _ (fun b o hb hbe e => keep b o hbe ((hs₁.2.1 b hb).trans e)) (fun b o hbe e => ?_) ?_ (Obj.cls_mapFields _ _) hd₃ (by simp [hsz]) ?_ hTe (Heap.get?_update_self _ hT₃ (Obj.isFreed_of_fields (Obj.data_mapFields rfl _))) (Obj.data_mapFields rfl _) (by simpa using hts3)
  · obtain ⟨sl, e'⟩ := hs₁.2.2 b o e
    exact ⟨sl, keep b _ hbe e'⟩
  · rw [Heap.get?_update_other _ _ hTe]; exact he₃
  · rw [hs₁.1]; exact Heap.get?_none_of_le (Nat.le_refl _)
theorem kints : ∀ {vs : List Value} {ns : List Int}, IntsAre vs ns → kf_ints vs = true
  | _, _, .nil => rfl
  | _, _, .cons _ _ r => by unfold kf_ints; exact kints r
theorem int_at : ∀ {vs : List Value} {ns : List Int}, IntsAre vs ns → ∀ (k : Int) (i : Nat) (h1 : i < vs.length) (h2 : i < ns.length), isInt k vs[i] = decide (ns[i] = k)
  | _, _, .cons n t r, k, 0, _, _ => by
    show isInt k (.int n t) = decide (n = k)
    by_cases h : n = k
    · rw [decide_eq_true h, h]; show (k == k) = true; exact beq_self_eq_true k
    · rw [decide_eq_false h]; show (n == k) = false; exact beq_eq_false_iff_ne.mpr h
  | _, _, .cons n t r, k, i + 1, h1, h2 => int_at r k i (Nat.lt_of_succ_lt_succ h1) (Nat.lt_of_succ_lt_succ h2)
theorem ints_eraseIdx : ∀ {vs : List Value} {ns : List Int}, IntsAre vs ns → ∀ j, IntsAre (vs.eraseIdx j) (ns.eraseIdx j)
  | _, _, .nil, _ => .nil
  | _, _, .cons _ _ r, 0 => r
  | _, _, .cons _ _ r, j + 1 => .cons _ _ (ints_eraseIdx r j)
section
variable {w : World} {A : Around} {s : Shared} {h : Heap} {tk : Nat} {Q : Value → Shared → Prop} {E : Value → Shared → Prop}
theorem upd_list {h : Heap} {l : Addr} {vs : List Value} {n : Nat} {f : Array Value → Array Value} {ws : List Value} (hl : h.get? l = some (lobj vs n)) (hf : f vs.toArray = ws.toArray) : ∃ n', (h.update l (Obj.mapSeq f)).get? l = some (lobj ws n') := by
  rw [Heap.get?_update_self _ hl rfl]
  refine ⟨if (f vs.toArray).size == vs.toArray.size then n else n + 1, ?_⟩
  show some ({ cls := .type "list", data := .seq (f vs.toArray) (if (f vs.toArray).size == vs.toArray.size then n else n + 1) } : Obj) = _
  rw [hf]
theorem r_pop {l : Addr} {vs : List Value} {y : Value} {n : Nat} (hl : h.get? l = some (lobj (vs ++ [y]) n)) (hsz : vs.length ≤ 1000)
    (q : ∀ h' n', Heap.SameBut l h h' → h'.get? l = some (lobj vs n') → Q y (st s h' tk)) : Wp w A (call (.builtin "list.pop") [.ref l]) Q (st s h tk) := by
  have hs : (vs ++ [y]).toArray.size = vs.length + 1 := by simp
  refine ⟨call_meets F.slot_list_pop ⟨_, hl, rfl⟩ F.entry_list_pop (F.args_list_pop_1 _) (MeetsSeq.list_pop_last l (vs ++ [y]).toArray n y (by rw [hs]; simp) (by rw [hs, sizeLine_eq]; omega)) ⟨hl, ?_⟩⟩
  obtain ⟨n', e⟩ := upd_list (f := fun xs => xs.eraseIdxIfInBounds ((vs ++ [y]).toArray.size - 1)) (ws := vs) hl (by
    rw [hs]
    simp
    rw [List.eraseIdx_append_of_length_le (Nat.le_refl _), Nat.sub_self]
    simp)
  exact q _ n' (Heap.SameBut.update ..) e
theorem w_remove {l : Addr} {vs : List Value} {ns : List Int} {k : Int} {t : Tok} {n : Nat} (hh : A.handled = none) (hl : h.get? l = some (lobj vs n)) (hi : IntsAre vs ns) (hsz : vs.length ≤ 1000)
    (q1 : k ∈ ns → ∀ h' ws n', Heap.SameBut l h h' → h'.get? l = some (lobj ws n') → IntsAre ws (ns.erase k) → Q .none (st s h' tk))
    (q2 : k ∉ ns → ∀ h' tk' e, Heap.NewExc h h' e "ValueError" → E (.ref e) (st s h' tk')) : wpAny (model prg w) A (call (.builtin "list.remove") [.ref l, .int k t]) Q E (st s h tk) := by
  have hlen := hi.length
  by_cases hk : k ∈ ns
  · have hj := List.idxOf_lt_length_of_mem hk
    have hj' : ns.idxOf k < vs.length := by omega
    refine call_meets F.slot_list_remove ⟨_, hl, rfl⟩ F.entry_list_remove (F.args_list_remove_2 _ _)
      (MeetsSeq.list_remove l vs.toArray n (.int k t) (isInt k) (fun y hy => kf_eq (kints hi) y (by simpa using hy)) (ns.idxOf k) (by simpa using hj') ?_ ?_ (by rw [List.size_toArray, sizeLine_eq]; omega)) ⟨hl, ?_⟩
    · show isInt k vs[ns.idxOf k] = true
      rw [int_at hi k _ hj' hj]
      exact decide_eq_true (List.getElem_idxOf hj)
    · intro m hm hlt
      have hm' : m < vs.length := by simpa using hm
      show isInt k vs[m] = false
      rw [int_at hi k m hm' (by omega)]
      exact decide_eq_false (fun e => by
        have := List.not_of_lt_findIdx (p := (· == k)) hlt
        rw [e] at this
        simp at this)
    · obtain ⟨n', e⟩ := upd_list (f := fun xs => xs.eraseIdxIfInBounds (ns.idxOf k)) (ws := vs.eraseIdx (ns.idxOf k)) hl (by
        rw [Array.eraseIdxIfInBounds_eq]
        simp [hj'])
      refine q1 hk _ (vs.eraseIdx (ns.idxOf k)) n' (Heap.SameBut.update ..) e ?_
      · have : ns.erase k = ns.eraseIdx (ns.idxOf k) := List.erase_eq_eraseIdx_of_idxOf rfl
        rw [this]
        exact ints_eraseIdx hi _
  · refine call_meets F.slot_list_remove ⟨_, hl, rfl⟩ F.entry_list_remove (F.args_list_remove_2 _ _)
      (MeetsSeq.list_remove_none l vs.toArray n (.int k t) (isInt k) (fun y hy => kf_eq (kints hi) y (by simpa using hy)) ?_) ⟨hl, hh, fun h' tk' e hN => q2 hk h' tk' e hN⟩
    intro m hm
    have hm' : m < vs.length := by simpa using hm
    show isInt k vs[m] = false
    rw [int_at hi k m hm' (by omega)]
    exact decide_eq_false (fun e => hk (e ▸ List.getElem_mem _))
end
abbrev eUl (L : Addr) : Env := envOf (dN 16) (dS 16) L 50 (Value.ref 49)
def ulTry : Stmt := match dB 16 with
  | [_, .While _ [_, t] _ _, _] => t
  | _ => default
def ulBody : List Stmt := match dB 16 with
  | [_, .While _ b _ _, _] => b
  | _ => []
theorem ff_keep {h h' base : Heap} : ∀ {l : List Env}, h.FunFrames base l → (∀ b ∈ frOf l, ∀ o, h.get? b = some o → ∃ o', h'.get? b = some o' ∧ o'.data = o.data) → h'.FunFrames base l
  | [], _, _ => True.intro
  | env :: rest, ⟨hk, ⟨L, o, hf, hn, ho, hd⟩, hr⟩, k => by
    have e : frOf (env :: rest) = L :: frOf rest := by unfold frOf; rw [List.filterMap_cons, hf]
    obtain ⟨o', ho', hd'⟩ := k L (by rw [e]; exact List.mem_cons_self ..) o ho
    exact ⟨hk, ⟨L, o', hf, hn, ho', fun vs => hd' ▸ hd vs⟩, ff_keep hr fun b hb => k b (by rw [e]; exact List.mem_cons_of_mem _ hb)⟩
theorem sub_VE : isSubtype (.type "ValueError") (.type "BaseException") = pure true := by rw [isSubtype_type]; kernel_rfl
theorem sub_VT : isSubtype (.type ((Manifest.find? "ValueError").elim "type" fun x => x.metatype)) (.type "tuple") = pure false := by
  have e : ((Manifest.find? "ValueError").elim "type" fun x => x.metatype) = "type" := by decide +kernel
  rw [e, isSubtype_type]; kernel_rfl
theorem sub_VV : isSubtype (.type "ValueError") (.type "ValueError") = pure true := by rw [isSubtype_type]; kernel_rfl
theorem ns_slots {h h' : Heap} {a : Addr} {m : Str → Option Value} (hn : h.Ns a m) (k : ∀ o, h.get? a = some o → ∃ sl, h'.get? a = some { o with slots := sl }) : h'.Ns a m := by
  obtain ⟨o, es, ep, ho, r⟩ := hn
  obtain ⟨sl, e⟩ := k o ho
  exact ⟨_, es, ep, e, r⟩
section
variable {w : World} {s : Shared} {base h : Heap} {tk : Nat} {mean : ExcName → Option Value} {mg mb : Str → Option Value} {dp un : Nat} {outer : List Env} {gd : Option (List Code)}
set_option maxHeartbeats 400000 in
theorem uld_try {Q : Flow → Shared → Prop} {A : Around} {L Mi B : Addr} {x : Int} {tx : Tok} {m : Str → Option Value} {ms bs : List Value} {mi bi : List Int} {nm nb : Nat}
    (hh : A.handled = none) (hfr : A.frames = some (eUl L :: outer)) (hl : h.FunFrames base (eUl L :: outer))
    (X : (KK w.params).In base) (T : TopV mean mg mb base) (F : Fr base L h m)
    (hit : m (Str.ofString "item") = some (.int x tx)) (hmi : m (Str.ofString "missing") = some (.ref Mi)) (hac : m (Str.ofString "actual") = some (.ref B))
    (gM : h.get? Mi = some (lobj ms nm)) (gB : h.get? B = some (lobj bs nb)) (iM : IntsAre ms mi) (iB : IntsAre bs bi) (lM : ms.length ≤ 1000) (lB : bs.length ≤ 1000)
    (nM : Mi ∉ frOf (eUl L :: outer)) (nB : B ∉ frOf (eUl L :: outer)) (hMB : Mi ≠ B) (bM : base.get? Mi = none) (bB : base.get? B = none)
    (q1 : x ∈ bi → ∀ h' tk' bs' n', Fr base L h' m → h'.FunFrames base (eUl L :: outer) → h'.get? Mi = some (lobj ms nm) → h'.get? B = some (lobj bs' n') → IntsAre bs' (bi.erase x) →
      (∀ b o, b ≠ B → h.get? b = some o → h'.get? b = some o) → Q .next (st s h' tk'))
    (q2 : x ∉ bi → ∀ h' tk' ms' n', Fr base L h' m → h'.FunFrames base (eUl L :: outer) → h'.get? Mi = some (lobj ms' n') → h'.get? B = some (lobj bs nb) → IntsAre ms' (mi ++ [x]) → ms'.length = ms.length + 1 →
      (∀ b o, b ∉ frOf (eUl L :: outer) → b ≠ Mi → h.get? b = some o → h'.get? b = some o) → (∀ b o, b ≠ Mi → h.get? b = some o → ∃ sl, h'.get? b = some { o with slots := sl }) → Q .next (st s h' tk')) :
    Wp w A (exec ulTry (eUl L)) Q (st s h tk) := by
  refine ⟨wpAny_Try_except ?_⟩
  refine wpAny_execs_cons (wpAny_Expr_any ?_ rfl rfl)
  refine wpAny_Call_method (T := "list") (id := "list.remove") rfl rfl rfl PySem.F.plainAttrs_list PySem.F.slot_list_remove PySem.F.type_list_remove ?_
  refine nmL (s := st s h tk) F.ns hac ?_ rfl rfl rfl
  refine ⟨⟨_, gB, rfl⟩, fun a ha => by cases ha; exact ⟨_, gB, rfl⟩, ?_⟩
  refine callWith_builtin rfl (evalArgs_plain (Calls.spliced_cons (nmL (s := st s h tk) F.ns hit (Calls.spliced_nil ?_) rfl rfl rfl)))
  refine w_remove hh gB iB lB ?_ ?_
  · intro hk h' bs' n' hs g i
    refine wpAny_execs_nil (wpAny_execs_nil ?_)
    refine q1 hk h' _ bs' n' ?_ ?_ (hs.extBut _ _ hMB gM) g i (fun b o hb e => hs.extBut b o hb e)
    · refine ⟨F.ns.at' fun o e => hs.extBut _ o (fun q => ?_) e, fun b o e => hs.extBut b o (ne_of_stays e bB) (F.keep b o e), F.above⟩
      exact nB (by rw [← q]; exact List.mem_cons_self ..)
    · exact ff_keep hl fun b hb o e => ⟨o, hs.extBut b o (fun q => nB (q ▸ hb)) e, rfl⟩
  · intro hk h1 tk1 e hN
    obtain ⟨oe, t0, ge, ce, de⟩ := hN.there
    have fl1 : h1.FunFrames base (eUl L :: outer) := ff_keep hl fun b _ o e => ⟨o, hN.keeps b o e, rfl⟩
    have nef : ∀ b o, h.get? b = some o → b ≠ e := fun b o hb => ne_of_stays hb hN.new
    refine note_new (A := A) (s := st s h1 tk1) hfr fl1 rfl ge de rfl fun h2 Tb oe2 vs2 oT ts k2 u2 ge2 ce2 de2 v2 nT2 hTe gT dT szT => ?_
    have k12 : ∀ b o, b ∉ frOf (eUl L :: outer) → h.get? b = some o → h2.get? b = some o := fun b o hb e' => k2 b o hb (nef b o e') (hN.keeps b o e')
    have u12 : ∀ b o, h.get? b = some o → ∃ sl, h2.get? b = some { o with slots := sl } := fun b o e' => u2 b o (nef b o e') (hN.keeps b o e')
    have nTf : ∀ b o, h.get? b = some o → b ≠ Tb := fun b o e' => ne_of_stays (hN.keeps b o e') nT2
    have base2 : ∀ b o, base.get? b = some o → h2.get? b = some o := fun b o e' => k12 b o (fun hm => by rw [(hl.mem hm).1] at e'; cases e') (F.keep b o e')
    refine wpAny_handleBy_builtin (X := "ValueError") (T := "ValueError") (b := true) sub_VE sub_VT sub_VV ?_
    refine nmB (x := Str.ofString "ValueError") (v := .type "ValueError") (s := st s h2 tk1) (X.keeps base2) (T.keeps base2) (by k_is) (by boot_fast) (by decide) ⟨rfl, ⟨_, ge2, ce2.trans ce⟩, ?_⟩ rfl rfl rfl rfl rfl
    rw [if_pos rfl]
    refine wpAny_setFlight_none (s := st s h2 tk1) ge2 de2 v2 gT dT szT ?_
    have k3 : ∀ b o, b ≠ Tb → h2.get? b = some o → (h2.update Tb (Obj.mapFields (·.setIfInBounds 3 .none))).get? b = some o := fun b o hb e' => (Heap.get?_update_other _ _ (Ne.symm hb)).trans e'
    show wpAny _ _ _ _ _ (st s (h2.update Tb (Obj.mapFields (·.setIfInBounds 3 .none))) tk1)
    generalize h2.update Tb (Obj.mapFields (·.setIfInBounds 3 .none)) = h3 at k3 ⊢
    have k13 : ∀ b o, b ∉ frOf (eUl L :: outer) → h.get? b = some o → h3.get? b = some o := fun b o hb e' => k3 b o (nTf b o e') (k12 b o hb e')
    have u13 : ∀ b o, h.get? b = some o → ∃ sl, h3.get? b = some { o with slots := sl } := fun b o e' => by
      obtain ⟨sl, e2⟩ := u12 b o e'
      exact ⟨sl, k3 b _ (nTf b o e') e2⟩
    have F3 : Fr base L h3 m := ⟨ns_slots F.ns fun o e' => u13 L o e', fun b o e' => k13 b o (fun hm => by rw [(hl.mem hm).1] at e'; cases e') (F.keep b o e'), F.above⟩
    have gM3 := k13 Mi _ nM gM
    refine wpAny_execs_cons (wpAny_Expr_any ?_ rfl rfl)
    refine wpAny_Call_method (T := "list") (id := "list.append") rfl rfl rfl PySem.F.plainAttrs_list slot_list_append type_list_append ?_
    refine nmL (s := st s h3 tk1) F3.ns hmi ?_ rfl rfl rfl
    refine ⟨⟨_, gM3, rfl⟩, fun a ha => by cases ha; exact ⟨_, gM3, rfl⟩, ?_⟩
    refine callWith_builtin rfl (evalArgs_plain (Calls.spliced_cons (nmL (s := st s h3 tk1) F3.ns hit (Calls.spliced_nil ?_) rfl rfl rfl)))
    refine (r_app (s := s) (tk := tk1) (x := .int x tx) gM3 lM fun h4 hs4 gM4 => ?_).use
    refine wpAny_execs_nil ?_
    have LM : L ≠ Mi := fun q => nM (by rw [← q]; exact List.mem_cons_self ..)
    refine q2 hk h4 tk1 _ _ ⟨F3.ns.at' fun o e' => hs4.extBut L o LM e', fun b o e' => hs4.extBut b o (ne_of_stays e' bM) (F3.keep b o e'), F3.above⟩ ?_ gM4 (hs4.extBut B _ (Ne.symm hMB) (k13 B _ nB gB)) (iM.append (.cons _ _ .nil)) (by rw [List.length_append]; rfl) (fun b o hb hb2 e' => hs4.extBut b o hb2 (k13 b o hb e')) (fun b o hb2 e' => ?_)
    · refine ff_keep hl fun b hb o e' => ?_
      obtain ⟨sl, e3⟩ := u13 b o e'
      exact ⟨_, hs4.extBut b _ (fun q => nM (q ▸ hb)) e3, rfl⟩
    · obtain ⟨sl, e3⟩ := u13 b o e'
      exact ⟨sl, hs4.extBut b _ hb2 e3⟩
end
theorem ints_last : ∀ {vs : List Value} {ns : List Int}, IntsAre vs ns → vs ≠ [] → ∃ vs' x t ns', vs = vs' ++ [.int x t] ∧ ns = ns' ++ [x] ∧ IntsAre vs' ns'
  | _, _, .nil, h => absurd rfl h
  | _, _, .cons n t .nil, _ => ⟨[], n, t, [], rfl, rfl, .nil⟩
  | _, _, .cons n t (.cons n' t' r), _ => by
    obtain ⟨vs', x, u, ns', e1, e2, i⟩ := ints_last (.cons n' t' r) (by simp)
    exact ⟨.int n t :: vs', x, u, n :: ns', by rw [e1]; rfl, by rw [e2]; rfl, .cons _ _ i⟩
def uldGo : List Int → List Int → List Int → List Int × List Int
  | [], act, mis => (mis, act)
  | x :: r, act, mis => if x ∈ act then uldGo r (act.erase x) mis else uldGo r act (mis ++ [x])
section
variable {w : World} {A : Around} {s : Shared} {h : Heap} {tk : Nat} {env : Env}
theorem r_while {test : PySem.Expr} {body orelse : List Stmt} {pos : Pos} {Q : Flow → Shared → Prop} (I : Nat → Heap → Prop) (n : Nat) (h0 : I n h)
    (turn : ∀ n h tk, I n h → Wp w A (isTrue test env (eval test env)) (fun b s₂ => (b = true → Wp w A (execs body env) (fun f s₃ => f = .next ∧ ∃ m h' tk', m < n ∧ s₃ = st s h' tk' ∧ I m h') s₂) ∧ (b = false → Wp w A (execs orelse env) Q s₂)) (st s h tk)) :
    Wp w A (exec (.While test body orelse pos) env) Q (st s h tk) := by
  refine ⟨wpAny_While (codeAny_whileLoop (fun n s' => ∃ h' tk', s' = st s h' tk' ∧ I n h') ?_ n ⟨h, tk, rfl, h0⟩)⟩
  rintro n s' ⟨h', tk', rfl, hI⟩
  refine wpAny_mono (turn n h' tk' hI).out (fun b s₂ e => ?_) fun _ _ e => e.elim
  cases b with
  | true =>
    refine wpAny_mono (e.1 rfl).out (fun f s₃ e => ?_) fun _ _ e => e.elim
    obtain ⟨rfl, m, h₃, tk₃, hm, rfl, hI₃⟩ := e
    exact ⟨m, hm, h₃, tk₃, rfl, hI₃⟩
  | false => exact wpAny_mono (e.2 rfl).out (fun f s₃ e => e) fun _ _ e => e.elim
theorem r_tl {l : Addr} {vs : List Value} {n : Nat} {Q : Bool → Shared → Prop} (hl : h.get? l = some (lobj vs n)) (hz : vs.length ≤ 1000) (q : ∀ tk', Q (!vs.isEmpty) (st s h tk')) : Wp w A (truthy (.ref l)) Q (st s h tk) :=
  ⟨wpAny_truthy_list (s := st s h tk) (items := vs.toArray) ⟨_, hl, rfl, _, rfl⟩ (by rw [List.size_toArray]; omega) (by
    have : (!vs.toArray.isEmpty) = !vs.isEmpty := by simp
    rw [this]; exact q _)⟩
end
section
variable {w : World} {s : Shared} {base h : Heap} {tk : Nat} {mean : ExcName → Option Value} {mg mb : Str → Option Value} {dp un : Nat} {outer : List Env} {gd : Option (List Code)}
set_option maxHeartbeats 400000 in
theorem sp_uld {Q : Value → Shared → Prop} {Ex B : Addr} {es bs : List Value} {ei bi : List Int} {nE nB : Nat}
    (X : (KK w.params).In base) (T : TopV mean mg mb base) (hA : dp < recursionLimit) (kb : Stays base h) (hbs : base.objs.size ≤ h.objs.size) (hl : h.FunFrames base outer)
    (gE : h.get? Ex = some (lobj es nE)) (gB : h.get? B = some (lobj bs nB)) (iE : IntsAre es ei) (iB : IntsAre bs bi) (lE : es.length ≤ 500) (lB : bs.length ≤ 1000)
    (fE : Ex ∉ frOf outer) (fB : B ∉ frOf outer) (hEB : Ex ≠ B) (bE : base.get? Ex = none) (bB : base.get? B = none)
    (hret : ∀ R Mi ms' bs' n1 n2 h' tk', h'.get? R = some { cls := .type "tuple", data := .seq #[.ref Mi, .ref B] } → h'.get? Mi = some (lobj ms' n1) → h'.get? B = some (lobj bs' n2) →
      IntsAre ms' (uldGo ei.reverse bi []).1 → IntsAre bs' (uldGo ei.reverse bi []).2 → Stays base h' →
      (∀ b o, b ∉ frOf outer → b ≠ Ex → b ≠ B → h.get? b = some o → h'.get? b = some o) → (∀ b o, b ≠ Ex → b ≠ B → h.get? b = some o → ∃ sl, h'.get? b = some { o with slots := sl }) → Q (.ref R) (st s h' tk')) :
    Wp w (AA dp un (some outer) gd) (call (.ref 50) [.ref Ex, .ref B]) Q (st s h tk) := by
  refine' w_enter (K := KK w.params) (binds := [(Str.ofString "expected", .ref Ex), (Str.ofString "actual", .ref B)]) (X.keeps kb) (T.keeps kb) ?k6 ?k7 hA ?kb ?kl ?_ ?c2 ?c3 ?c4 ?c5
  case k6 => k_is
  case k7 => k_is
  case kb => exact rfl
  case kl => exact locs rfl
  case c2 => exact rfl
  case c3 => exact rfl
  case c4 => exact rfl
  case c5 => decide
  intro h₁ tk₁ L hL F0
  refine r_cons (r_asg (r_list (r_args0 ⟨Nat.zero_le _, ?_⟩)) rfl)
  have k1 : Stays h₁ (h₁.push (lobj [] 0)) := fun b o e => Heap.get?_push_of_some _ e
  have gM : (h₁.push (lobj [] 0)).get? h₁.objs.size = some (lobj [] 0) := Heap.get?_push_size _ rfl
  have hLlt : L < h₁.objs.size := by obtain ⟨o, _, _, e, _⟩ := F0.ns; exact Heap.lt_size e
  have hML : h₁.objs.size ≠ L := Nat.ne_of_gt hLlt
  have fM : h.get? h₁.objs.size = none := Heap.get?_none_of_le (Nat.le_trans F0.above (Nat.le_of_lt hLlt))
  have fL : h.get? L = none := Heap.get?_none_of_le (by rw [hL]; exact Nat.le_refl _)
  show Wp _ _ (storeName _ _ (.ref h₁.objs.size)) _ (st s (h₁.push (lobj [] 0)) tk₁)
  have F1 : Fr base L (h₁.push (lobj [] 0)) _ := ⟨(F0.keeps k1).ns, fun b o e => k1 b o (F0.keep b o (kb b o e)), Nat.le_trans hbs (by rw [hL]; exact Nat.le_refl _)⟩
  have keep1 : Stays h (h₁.push (lobj [] 0)) := fun b o e => k1 b o (F0.keep b o e)
  clear F0
  generalize h₁.push (lobj [] 0) = h2 at *
  generalize h₁.objs.size = Mi at *
  refine r_setL (h₀ := base) F1 (fun h3 tk3 F3 s3 => r_next ?_) rfl rfl
  have hLf : L ∉ frOf outer := fun hm => by obtain ⟨_, o, e, _⟩ := hl.mem hm; rw [fL] at e; cases e
  have hMf : Mi ∉ frOf outer := fun hm => by obtain ⟨_, o, e, _⟩ := hl.mem hm; rw [fM] at e; cases e
  have hEL : Ex ≠ L := ne_of_stays gE fL
  have hBL : B ≠ L := ne_of_stays gB fL
  have hEM : Ex ≠ Mi := ne_of_stays gE fM
  have hBM : B ≠ Mi := ne_of_stays gB fM
  have bM : base.get? Mi = none := by
    cases e : base.get? Mi with
    | none => rfl
    | some o => rw [kb _ _ e] at fM; cases fM
  have bL : base.get? L = none := by
    cases e : base.get? L with
    | none => rfl
    | some o => rw [kb _ _ e] at fL; cases fL
  have h3k : ∀ b o, b ≠ L → h2.get? b = some o → h3.get? b = some o := fun b o hb e => s3.extBut b o hb e
  have fl3 : h3.FunFrames base (eUl L :: outer) := by
    exact Heap.FunFrames.cons (fun q => nomatch q) rfl F3.ns bL (ff_keep hl fun b hb o e => ⟨o, h3k b o (fun q => hLf (q ▸ hb)) (keep1 b o e), rfl⟩)
  have frE : frOf (eUl L :: outer) = L :: frOf outer := rfl
  refine r_cons (r_while (fun n h' => ∃ (es' ms' bs' : List Value) (ei' mi' bi' : List Int) (n1 n2 n3 : Nat) (m' : Str → Option Value), n = es'.length ∧ h'.get? Ex = some (lobj es' n1) ∧ h'.get? Mi = some (lobj ms' n2) ∧ h'.get? B = some (lobj bs' n3) ∧
      IntsAre es' ei' ∧ IntsAre ms' mi' ∧ IntsAre bs' bi' ∧ es'.length + ms'.length ≤ 500 ∧ bs'.length ≤ 1000 ∧ Fr base L h' m' ∧ h'.FunFrames base (eUl L :: outer) ∧
      m' (Str.ofString "expected") = some (.ref Ex) ∧ m' (Str.ofString "missing") = some (.ref Mi) ∧ m' (Str.ofString "actual") = some (.ref B) ∧ uldGo ei'.reverse bi' mi' = uldGo ei.reverse bi [] ∧
      (∀ b o, b ∉ frOf outer → b ≠ Ex → b ≠ B → h.get? b = some o → h'.get? b = some o) ∧ (∀ b o, b ≠ Ex → b ≠ B → h.get? b = some o → ∃ sl, h'.get? b = some { o with slots := sl })) es.length
      ⟨es, [], bs, ei, [], bi, nE, 0, nB, _, rfl, h3k _ _ hEL (keep1 _ _ gE), h3k _ _ hML gM, h3k _ _ hBL (keep1 _ _ gB), iE, .nil, iB, by simpa using lE, lB, F3, fl3, rfl, rfl, rfl, rfl, fun b o _ _ _ e => h3k b o (ne_of_stays e fL) (keep1 b o e), fun b o _ _ e => ⟨o.slots, h3k b o (ne_of_stays e fL) (keep1 b o e)⟩⟩ ?_)
  rintro n h4 tk4 ⟨es', ms', bs', ei', mi', bi', n1, n2, n3, m', rfl, gE4, gM4, gB4, iE4, iM4, iB4, l1, l2, F4, fl4, e1, e2, e3, hu, kk, ku⟩
  refine r_tv (r_loc F4.ns (v := .ref Ex) e1 ?_ rfl rfl rfl) rfl
  refine r_tl gE4 (by omega) fun tk5 => ⟨fun hne => ?_, fun hem => ?_⟩
  · have hne' : es' ≠ [] := by
      intro q; rw [q] at hne; cases hne
    obtain ⟨ev, x, tx, en, rfl, rfl, iE5⟩ := ints_last iE4 hne'
    rw [List.length_append] at l1
    have l1' : ev.length + 1 + ms'.length ≤ 500 := l1
    refine r_cons (r_asg ?_ rfl)
    refine r_meth (T := "list") (id := "list.pop") rfl rfl rfl PySem.F.plainAttrs_list PySem.F.slot_list_pop PySem.F.type_list_pop ?_
    refine r_loc F4.ns (v := .ref Ex) e1 ⟨⟨_, gE4, rfl⟩, fun a ha => by cases ha; exact ⟨_, gE4, rfl⟩, ?_⟩ rfl rfl rfl
    refine r_cwM0 (r_pop gE4 (by omega) fun h5 n5 s5 gE5 => ?_)
    have F5 : Fr base L h5 m' := ⟨F4.ns.at' fun o e => s5.extBut L o (Ne.symm hEL) e, fun b o e => s5.extBut b o (ne_of_stays e bE) (F4.keep b o e), F4.above⟩
    refine r_setL (h₀ := base) F5 (fun h6 tk6 F6 s6 => r_next ?_) rfl rfl
    have k6 : ∀ b o, b ≠ L → b ≠ Ex → h4.get? b = some o → h6.get? b = some o := fun b o hb hb2 e => s6.extBut b o hb (s5.extBut b o hb2 e)
    have gE6 := s6.extBut Ex _ hEL gE5
    have fl6 : h6.FunFrames base (eUl L :: outer) := by
      exact Heap.FunFrames.cons (fun q => nomatch q) rfl F6.ns bL (ff_keep fl4.2.2 fun b hb o e => ⟨o, k6 b o (fun q => hLf (q ▸ hb)) (fun q => fE (q ▸ hb)) e, rfl⟩)
    refine r_cons (uld_try (m := fun y => if y = Str.ofString "item" then some (.int x tx) else m' y) rfl rfl fl6 X T F6 rfl e2 e3 (k6 _ _ hML (Ne.symm hEM) gM4) (k6 _ _ hBL (Ne.symm hEB) gB4) iM4 iB4 (by omega) l2
      (by rw [frE]; exact fun q => (List.mem_cons.mp q).elim hML hMf) (by rw [frE]; exact fun q => (List.mem_cons.mp q).elim hBL fB) (Ne.symm hBM) bM bB ?_ ?_)
    · intro hx h7 tk7 bs7 n7 F7 fl7 gM7 gB7 iB7 k7
      refine r_next (r_nil ⟨rfl, ev.length, h7, tk7, by rw [List.length_append]; exact Nat.lt_succ_self _, rfl, ev, ms', bs7, en, mi', bi'.erase x, _, _, _, _, rfl, k7 _ _ hEB gE6, gM7, gB7, iE5, iM4, iB7, by omega, ?_, F7, fl7, e1, e2, e3, ?_, ?_, ?_⟩)
      · have := iB7.length
        have h2 := iB4.length
        have h3 := List.length_erase_le (a := x) (l := bi')
        omega
      · rw [← hu, List.reverse_append]
        show _ = uldGo (x :: en.reverse) bi' mi'
        rw [uldGo, if_pos hx]
      · exact fun b o hb hb1 hb2 e => k7 b o hb2 (k6 b o (ne_of_stays e fL) hb1 (kk b o hb hb1 hb2 e))
      · intro b o hb1 hb2 e
        obtain ⟨sl, e'⟩ := ku b o hb1 hb2 e
        exact ⟨sl, k7 b _ hb2 (k6 b _ (ne_of_stays e fL) hb1 e')⟩
    · intro hx h7 tk7 ms7 n7 F7 fl7 gM7 gB7 iM7 lM7 k7 u7
      refine r_next (r_nil ⟨rfl, ev.length, h7, tk7, by rw [List.length_append]; exact Nat.lt_succ_self _, rfl, ev, ms7, bs', en, mi' ++ [x], bi', _, _, _, _, rfl, k7 _ _ (by rw [frE]; exact fun q => (List.mem_cons.mp q).elim hEL fE) hEM gE6, gM7, gB7, iE5, iM7, iB4, by omega, l2, F7, fl7, e1, e2, e3, ?_, ?_, ?_⟩)
      · rw [← hu, List.reverse_append]
        show _ = uldGo (x :: en.reverse) bi' mi'
        rw [uldGo, if_neg hx]
      · exact fun b o hb hb1 hb2 e => k7 b o (by rw [frE]; exact fun q => (List.mem_cons.mp q).elim (ne_of_stays e fL) hb) (ne_of_stays e fM) (k6 b o (ne_of_stays e fL) hb1 (kk b o hb hb1 hb2 e))
      · intro b o hb1 hb2 e
        obtain ⟨sl, e'⟩ := ku b o hb1 hb2 e
        obtain ⟨sl2, e''⟩ := u7 b _ (ne_of_stays e fM) (k6 b _ (ne_of_stays e fL) hb1 e')
        exact ⟨sl2, e''⟩
  · have hem' : es' = [] := by
      cases es' with
      | nil => rfl
      | cons a l => cases hem
    subst hem'
    cases iE4
    have hu' : (mi', bi') = uldGo ei.reverse bi [] := hu
    refine r_nil (r_next (r_cons (r_ret (r_tup ?_))))
    refine r_args (r_loc F4.ns (v := .ref Mi) e2 ?_ rfl rfl rfl) rfl
    refine r_args (r_loc F4.ns (v := .ref B) e3 ?_ rfl rfl rfl) rfl
    refine r_args0 ⟨by rw [sizeLine_eq]; show 2 ≤ _; omega, ?_⟩
    have k8 : Stays h4 (h4.push { cls := .type "tuple", data := .seq #[.ref Mi, .ref B] }) := fun b o e => Heap.get?_push_of_some _ e
    refine r_ret' (fun x => nomatch x) ?_
    refine hret h4.objs.size Mi ms' bs' _ _ (h4.push { cls := .type "tuple", data := .seq #[.ref Mi, .ref B] }) _ (Heap.get?_push_size _ rfl) (k8 _ _ gM4) (k8 _ _ gB4) (by rw [← hu']; exact iM4) (by rw [← hu']; exact iB4) (fun b o e => k8 b o (F4.keep b o e)) (fun b o hb hb1 hb2 e => k8 b o (kk b o hb hb1 hb2 e)) ?_
    intro b o hb1 hb2 e
    obtain ⟨sl, e'⟩ := ku b o hb1 hb2 e
    exact ⟨sl, k8 b _ e'⟩
end
end Mine

end
section
open PySem PySem.W PyProof.Rows PySem.Calls
set_option maxRecDepth 100000
namespace Mine
/-- a tree that runs through, from `st s h tk`, and turns nothing that stood -/
def Gives {α : Type} (w : World) (A : Around) (x : Sem α) (s : Shared) (h : Heap) (tk : Nat) (R : α → Heap → Prop) : Prop :=
  Wp w A x (fun a s' => ∃ h' tk', s' = st s h' tk' ∧ Stays h h' ∧ R a h') (st s h tk)
section
variable {w : World} {A : Around} {s : Shared} {h : Heap} {tk : Nat} {env : Env}
theorem Gives.pev {α : Type} {x : Sem α} {R : α → Heap → Prop} (g : Gives w A x s h tk R) : Pev prg w A x (st s h tk) R := Wp.pev g
theorem r_compL {elt iter : PySem.Expr} {x : Str} {px : Pos} {scope : Scope} {cl : List (Str × Addr)} {pos : Pos} {items : List Value} {F : Value → Value → Prop} {Q : Value → Shared → Prop}
    (hh : A.handled = none) (hclos : closureFor scope env = pure cl) (hcell : ∀ y ∈ scope.names, y.2 ≠ .cell) (hkind : scope.kind = .function)
    (hnames : ∀ y ∈ scope.names, y.2 = .local → scope.names.lookup y.1 = some .local) (hx : scope.names.lookup x = some .local) (hsz : items.length ≤ 1000)
    (hit : Gives w A (eval iter env) s h tk fun v h => ∃ l, v = .ref l ∧ h.IsList l items.toArray)
    (helt : ∀ C v (s₃ : Shared) h₃ tk₃ m₃, v ∈ items → Stays h h₃ → h₃.Ns C m₃ → m₃ x = some v → Gives w A (eval elt (compEnvC scope cl C env)) s₃ h₃ tk₃ fun y _ => F v y)
    (hs : ∀ x, foldedSetIterable iter env x = pure x)
    (q : ∀ D ys n h' tk', Stays h h' → h.get? D = none → h'.get? D = some (lobj ys n) → Paired F items ys → Q (.ref D) (st s h' tk')) :
    Wp w A (eval (.ListComp elt [⟨.Name x px, iter, [], 0⟩] scope pos) env) Q (st s h tk) := by
  refine Wp.of_pev (pcompL (s := st s h tk) (items := items) (F := F) (fun _ => true) hh hclos hcell hkind hnames hx (by rw [sizeLine_eq]; omega) hit.pev (fun C v s₃ m₃ _ _ _ _ => ?_) (fun C v s₃ m₃ hv _ k hn hm => (helt C v s₃ s₃.heap s₃.toks m₃ hv k hn hm).pev) hs) ?_
  · exact fun Q' E' q => wpAny_tests_nil (q true s₃.heap s₃.toks (Stays.refl _) rfl)
  · rintro _ h' tk' k ⟨D, ys, n, rfl, h1, h2, h3⟩
    rw [filter_tt] at h3
    exact q D ys n h' tk' k h1 h2 h3
theorem r_asgC {h₀ : Heap} {m : Str → Option Value} {elt iter : PySem.Expr} {x y : Str} {px py : Pos} {scope : Scope} {cl : List (Str × Addr)} {pos spos : Pos} {items : List Value} {F : Value → Value → Prop} {Q : Flow → Shared → Prop}
    (Fm : Fr h₀ env.locals h m)
    (hsw : swapsWith (.ListComp elt [⟨.Name x px, iter, [], 0⟩] scope pos) (some (.Name y py)) spos.line env = pure true)
    (hy : env.kindOf y = some .local) (hp : (env.scope.kind == .class || (env.scope.kind == .module && env.locals != env.globals)) = false)
    (hh : A.handled = none) (hclos : closureFor scope env = pure cl) (hkind : scope.kind = .function)
    (hnames : ∀ y ∈ scope.names, y.2 = .local → scope.names.lookup y.1 = some .local)
    (hcs : ∀ n, cellsFrom n scope.names cl = (x, n) :: cl) (hpc : ∀ h, pushCells h scope.names = h.push { cls := .type "cell", data := .cell none })
    (hx : (relabel scope env).names.lookup x = some .cell) (hsz : items.length ≤ 1000)
    (hit : Gives w A (eval iter env) s h tk fun v h => ∃ l, v = .ref l ∧ h.IsList l items.toArray)
    (helt : ∀ C c v (s₃ : Shared) h₃ tk₃, v ∈ items → Stays h h₃ → h₃.IsCell c (some v) → Gives w A (eval elt (compEnvC scope ((x, c) :: cl) C env)) s₃ h₃ tk₃ fun y _ => F v y)
    (hs : ∀ x, foldedSetIterable iter env x = pure x)
    (k : ∀ (D : Nat) h' tk' ys n, Fr h₀ env.locals h' (fun z => if z = y then some (.ref D) else m z) → h'.get? D = some (lobj ys n) → h.get? D = none → (∀ b o, b ≠ env.locals → h.get? b = some o → h'.get? b = some o) → Paired F items ys → Q .next (st s h' tk')) :
    Wp w A (exec (.Assign [.Name y py] (.ListComp elt [⟨.Name x px, iter, [], 0⟩] scope pos) spos) env) Q (st s h tk) := by
  refine ⟨?_⟩
  rw [exec_Assign_Name_used _ _ _ _ hsw]
  refine wpAny_bind (wpAny_standAt (wpAny_bind ?_))
  show wpAny _ A (do let _ ← comprehension (.ListComp elt [⟨.Name x px, iter, [], 0⟩] scope pos) scope env _ (newList []) false (eval iter env) (some (assign (.Name y py) env))) _ _ (st s h tk)
  refine wpAny_bind (wpAny_mono (compC_core (s := st s h tk) (use := some (assign (.Name y py) env)) (Q := fun _ s' => Q .next s') hh hclos hkind hnames hcs hpc hx (by rw [sizeLine_eq]; omega) hit.pev (fun C c v s₃ hv k hc => (helt C c v s₃ s₃.heap s₃.toks hv k hc).pev) hs ?_) (fun _ s' hq => wpAny_pure (wpAny_pure hq)) fun _ _ e => e)
  intro D C h₂ tk₂ ys n m' hDC hD hC st' gD hF nC
  show wpAny _ A (assign (.Name y py) env (.ref D)) _ _ _
  have F₂ := Fm.keeps st'
  have hLC : C ≠ env.locals := fun q => by
    obtain ⟨o, _, _, e, _⟩ := Fm.ns
    rw [← q] at e
    rw [show h.get? C = none from hC] at e; cases e
  have hLD : D ≠ env.locals := fun q => by
    obtain ⟨o, _, _, e, _⟩ := Fm.ns
    rw [← q] at e
    rw [show h.get? D = none from hD] at e; cases e
  have hC0 : h₀.get? C = none := by
    cases e : h₀.get? C with
    | none => rfl
    | some o => have := Fm.keep _ _ e; rw [show h.get? C = none from hC] at this; cases this
  refine wpAny_assign_Name (wpAny_storeName_local hy F₂.ns (fun h₃ hn₃ hs₃ => ?_) hp)
  have hL₀ : h₀.get? env.locals = none := Heap.get?_none_of_le Fm.above
  have F₃ : Fr h₀ env.locals h₃ (fun z => if z = y then some (.ref D) else m z) := ⟨hn₃, fun b o e => hs₃.extBut b o (fun q => by rw [q, hL₀] at e; cases e) (F₂.keep b o e), F₂.above⟩
  refine ⟨m', nC.sameBut hs₃ hLC, fun h₄ hs₄ => ?_⟩
  exact k D h₄ _ ys n (F₃.change hs₄ hLC hC0) (hs₄.extBut D _ (neq hDC) (hs₃.extBut D _ hLD gD)) hD (fun b o hb e => hs₄.extBut b o (ne_of_stays e hC) (hs₃.extBut b o hb (st' b o e))) hF
theorem r_asgL {h₀ : Heap} {m : Str → Option Value} {elt iter : PySem.Expr} {x y : Str} {px py : Pos} {scope : Scope} {cl : List (Str × Addr)} {pos spos : Pos} {items : List Value} {F : Value → Value → Prop} {Q : Flow → Shared → Prop}
    (Fm : Fr h₀ env.locals h m)
    (hsw : swapsWith (.ListComp elt [⟨.Name x px, iter, [], 0⟩] scope pos) (some (.Name y py)) spos.line env = pure true)
    (hy : env.kindOf y = some .local) (hp : (env.scope.kind == .class || (env.scope.kind == .module && env.locals != env.globals)) = false)
    (hh : A.handled = none) (hclos : closureFor scope env = pure cl) (hcell : ∀ y ∈ scope.names, y.2 ≠ .cell) (hkind : scope.kind = .function)
    (hnames : ∀ y ∈ scope.names, y.2 = .local → scope.names.lookup y.1 = some .local) (hx : scope.names.lookup x = some .local) (hsz : items.length ≤ 1000)
    (hit : Gives w A (eval iter env) s h tk fun v h => ∃ l, v = .ref l ∧ h.IsList l items.toArray)
    (helt : ∀ C v (s₃ : Shared) h₃ tk₃ m₃, v ∈ items → (∀ b o, b ≠ env.locals → h.get? b = some o → h₃.get? b = some o) → Stays h h₃ → h₃.Ns C m₃ → m₃ x = some v → Gives w A (eval elt (compEnvC scope cl C env)) s₃ h₃ tk₃ fun y _ => F v y)
    (hs : ∀ x, foldedSetIterable iter env x = pure x)
    (k : ∀ (D : Nat) h' tk' ys n, Fr h₀ env.locals h' (fun z => if z = y then some (.ref D) else m z) → h'.get? D = some (lobj ys n) → h.get? D = none → (∀ b o, b ≠ env.locals → h.get? b = some o → h'.get? b = some o) → Paired F items ys → Q .next (st s h' tk')) :
    Wp w A (exec (.Assign [.Name y py] (.ListComp elt [⟨.Name x px, iter, [], 0⟩] scope pos) spos) env) Q (st s h tk) := by
  refine ⟨wpAny_Assign_ListComp_free (fun _ => true) F hsw hclos hcell hkind hnames hx hy hp ?_ hs⟩
  refine hit.pev _ NoE ?_
  rintro _ h₁ tk₁ (st₁ : Stays h h₁) ⟨l, rfl, hl⟩
  have hlt : l < h₁.objs.size := by obtain ⟨_, e, _⟩ := hl; exact Heap.lt_size e
  have up : ∀ (H : Heap), (∀ b o, b ∉ [h₁.objs.size] → (h₁.push { cls := .type "list_iterator", data := .fields #[.ref l, .int 0 0] }).get? b = some o → H.get? b = some o) → Stays h H :=
    fun H hk b o e => hk b o (fun hm => by rw [List.mem_singleton.mp hm] at e; exact absurd (Heap.lt_size (st₁ _ _ e)) (Nat.lt_irrefl _)) (Heap.get?_push_of_some _ (st₁ b o e))
  have hLn : env.locals ∉ [h₁.objs.size] := fun hm => by
    obtain ⟨o, _, _, e, _⟩ := Fm.ns
    rw [List.mem_singleton.mp hm] at e
    exact absurd (Heap.lt_size (st₁ _ _ e)) (Nat.lt_irrefl _)
  refine wpAny_pyIter_list hl ⟨h₁.objs.size, [h₁.objs.size, l], [h₁.objs.size], items.toArray.size, _, _, m, rfl, Walks.list hh _ _ (Nat.ne_of_lt hlt) items.toArray, (by rw [List.size_toArray, sizeLine_eq]; omega), ⟨⟨_, Heap.get?_push_size _ rfl, rfl, rfl⟩, hl.push _⟩, ?_, hLn, ?_, ⟨?_, ?_⟩, ?_⟩
  · intro b hb
    show b < (h₁.push _).objs.size
    rw [Heap.size_push]
    have hb' : b = h₁.objs.size ∨ b = l := by simpa using hb
    rcases hb' with q | q <;> rw [q]
    · exact Nat.lt_succ_self _
    · exact Nat.lt_succ_of_lt hlt
  · exact ((Fm.keeps st₁).keeps fun b o e => Heap.get?_push_of_some _ e).ns
  · intro C i v s₃ m₃ E' _ hP hn hm hk _
    exact Pev.keeps (R := fun ok => ok = true) (fun Q' E' q => wpAny_tests_nil (q true s₃.heap s₃.toks (Stays.refl _) rfl))
  · intro C i v s₃ m₃ E' _ hP hp hn hm hk _
    exact (helt C v s₃ s₃.heap s₃.toks m₃ (List.mem_of_getElem? (by simpa using hP)) (fun b o _ e => up _ hk b o e) (up _ hk) hn hm).pev.keeps
  · intro D h' tk ys vs' hnew hlD hpl hlen hP hF hns hk
    have e : vs' = items := by simpa using list_of_places hlen hP
    subst e
    rw [filter_tt] at hF
    obtain ⟨n, hn⟩ := hpl
    have hnew' : h.get? D = none := by
      cases e : h.get? D with
      | none => rfl
      | some o' =>
        have h2 := Heap.get?_push_of_some { cls := .type "list_iterator", data := .fields #[.ref l, .int 0 0] } (st₁ _ _ e)
        have h3 : (h₁.push { cls := .type "list_iterator", data := .fields #[.ref l, .int 0 0] }).get? D = none := hnew
        rw [h2] at h3; cases h3
    have hkk : ∀ b o, b ≠ env.locals → h.get? b = some o → h'.get? b = some o := fun b o hb e => hk b o hb (fun hm => by rw [List.mem_singleton.mp hm] at e; exact absurd (Heap.lt_size (st₁ _ _ e)) (Nat.lt_irrefl _)) (Heap.get?_push_of_some _ (st₁ b o e))
    have hL₀ : h₀.get? env.locals = none := Heap.get?_none_of_le Fm.above
    exact k D h' tk ys.toList n ⟨hns, fun b o e => hkk b o (fun q => by rw [q, hL₀] at e; cases e) (Fm.keep b o e), Fm.above⟩ (by rw [hn, Array.toArray_toList]) hnew' hkk hF
end
end Mine

end
section
open PySem PySem.W PyProof.Rows PySem.Calls
set_option maxRecDepth 100000
namespace Mine
section
variable {w : World} {A : Around} {s : Shared} {h : Heap} {tk : Nat} {env : Env} {Q : Value → Shared → Prop}
theorem r_list' {elts : List PySem.Expr} {pos : Pos} (q : Wp w A (spliced (backTo pos (starEach elts env)))
      (fun vs s₁ => ∃ h₁ tk₁, s₁ = st s h₁ tk₁ ∧ vs.length ≤ 1000 ∧ Q (.ref h₁.objs.size) (st s (h₁.push (lobj vs 0)) tk₁)) (st s h tk)) : Wp w A (eval (.List elts pos) env) Q (st s h tk) :=
  r_list (q.mono fun vs s' e => by obtain ⟨h₁, tk₁, rfl, hz, e⟩ := e; exact ⟨by rw [sizeLine_eq]; omega, e⟩)
theorem r_tup' {elts : List PySem.Expr} {k : Nat} {pos : Pos} (q : Wp w A (spliced (backTo pos (starEach elts env)))
      (fun vs s₁ => ∃ h₁ tk₁, s₁ = st s h₁ tk₁ ∧ vs.length ≤ 1000 ∧ Q (.ref h₁.objs.size) (st s (h₁.push { cls := .type "tuple", data := .seq vs.toArray }) tk₁)) (st s h tk)) : Wp w A (eval (.Tuple elts k pos) env) Q (st s h tk) :=
  r_tup (q.mono fun vs s' e => by obtain ⟨h₁, tk₁, rfl, hz, e⟩ := e; exact ⟨by rw [sizeLine_eq]; omega, e⟩)
theorem r_addL {l b : Addr} {vs ws : List Value} (hl : h.IsList l vs.toArray) (hb : h.IsList b ws.toArray) (hsz : vs.length + ws.length ≤ 1000)
    (q : Q (.ref h.objs.size) (st s (h.push (lobj (vs ++ ws) 0)) tk)) : Wp w A (binaryOp .Add (.ref l) (.ref b)) Q (st s h tk) := by
  obtain ⟨⟨cls, dd, data, sl⟩, ho, hc, n, hd⟩ := id hl
  obtain ⟨⟨cls2, dd2, data2, sl2⟩, ho2, hc2, n2, hd2⟩ := id hb
  simp only at hc hd hc2 hd2
  subst hc hd hc2 hd2
  have e : vs.toArray ++ ws.toArray = (vs ++ ws).toArray := by simp
  refine ⟨concat_meets ⟨_, ho, rfl⟩ ⟨_, ho2, rfl⟩ noFill_list_add seq_list_add PySem.F.slot_list_add PySem.F.entry_list_add (PySem.F.args_list_add_2 _ _) (list_addW l b vs.toArray ws.toArray n n2 dd dd2 sl sl2 (by rw [List.size_toArray, List.size_toArray, sizeLine_eq]; omega)) ⟨ho, ho2, ?_⟩⟩
  rw [e]
  exact q
theorem g_upto {value : PySem.Expr} {k : Nat} {p cp pos : Pos} {ck : Nat} {l : Addr} {vs : List Value}
    (hv : ∀ (Q' : Value → Shared → Prop), Q' (.ref l) (st s h tk) → Wp w A (eval value env) Q' (st s h tk)) (hl : h.IsList l vs.toArray) (hz : vs.length ≤ 1000) (ht : ∀ o r, letTemporaryGo value o r = pure ()) :
    Gives w A (eval (.Subscript value (.Slice none (some (.Constant (.int (k : Int)) ck cp)) none p) pos) env) s h tk fun v h' => ∃ l', v = .ref l' ∧ h'.IsList l' (vs.take k).toArray := by
  refine ⟨wpAny_Subscript_list_slice ?_ ht⟩
  refine (hv _ ?_).out
  rw [evalPart_none]
  refine wpAny_pure ?_
  show wpAny _ _ (eval (.Constant (.int (k : Int)) ck cp) env) _ _ _
  refine wpAny_Constant_int ?_
  refine ⟨l, vs.toArray, none, some (k : Int), rfl, hl, by rw [List.size_toArray, sizeLine_eq]; omega, .none, .int _ _, ?_⟩
  refine ⟨_, _, rfl, fun b o e => Heap.get?_push_of_some _ (Heap.get?_push_of_some _ e), _, rfl, ?_⟩
  rw [slicePick_upto']
  have := Heap.get?_push_size (h.push { cls := .type "slice", data := .fields #[.none, .int (k : Int) tk, .none] }) (o := { cls := .type "list", data := .seq (List.take k vs.toArray.toList).toArray }) rfl
  rw [Heap.size_push] at this
  exact ⟨_, this, rfl, _, rfl⟩
theorem r_copy {l : Addr} {vs : List Value} (hl : h.IsList l vs.toArray) (hz : vs.length ≤ 1000)
    (q : ∀ h' n, Stays h h' → h'.get? h.objs.size = some (lobj vs n) → Q (.ref h.objs.size) (st s h' tk)) : Wp w A (call (.type "list") [.ref l]) Q (st s h tk) := by
  obtain ⟨o, ho, hc, n, hd⟩ := hl
  exact ⟨call_list_seq (s := st s h tk) (hsz := by rw [List.size_toArray, sizeLine_eq]; omega) l (.inl rfl) ho hc hd fun h' c' hk hD => q h' c' hk hD⟩
theorem r_len {l : Addr} {vs : List Value} (hl : h.IsList l vs.toArray) (hz : vs.length ≤ 1000) (q : ∀ t tk', Q (.int vs.length t) (st s h tk')) : Wp w A (call (.builtin "len") [.ref l]) Q (st s h tk) :=
  ⟨call_len_list (s := st s h tk) hl (by rw [List.size_toArray]; omega) (by rw [List.size_toArray]; exact q _ _)⟩
theorem r_sum {l : Addr} {vs : List Value} {ns : List Int} (hh : A.handled = none) (hl : h.IsList l vs.toArray) (hi : IntsAre vs ns)
    (q : ∀ h' tk' t', Stays h h' → Q (.int ns.sum t') (st s h' tk')) : Wp w A (call (.builtin "sum") [.ref l]) Q (st s h tk) := ⟨sum_ints (s := st s h tk) hh hl hi q⟩
theorem r_neL {a b : Addr} {vs us : List Value} {ns ms : List Int} (hl : h.IsList a vs.toArray) (hi : IntsAre vs ns) (hl' : h.IsList b us.toArray) (hi' : IntsAre us ms) (hu : A.units + 64 < cLine)
    (q : Q (.bool (!decide (ns = ms))) (st s h tk)) : Wp w A (compareOp .NotEq (.ref a) (.ref b)) Q (st s h tk) := ⟨ne_intsK (s := st s h tk) hl hi hl' hi' hu q⟩
theorem r_bytes {l : Addr} {vs : List Value} {ns : List Int} (hl : h.IsList l vs.toArray) (hi : IntsAre vs ns) (hr : ∀ n ∈ ns, 0 ≤ n ∧ n < 256) (hz : vs.length ≤ 1000) (hh : A.handled = none)
    (q : ∀ h' t k, Stays h h' → Q (.bytes (ns.map fun n => n.toNat.toUInt8).toArray t) (st s h' k)) : Wp w A (call (.type "bytes") [.ref l]) Q (st s h tk) :=
  ⟨call_bytes_ints (s := st s h tk) hl hi hr (by rw [sizeLine_eq]; omega) hh q⟩
end
end Mine

end
section
open PySem PySem.W PyProof.Rows PySem.Calls
set_option maxRecDepth 100000
namespace Mine
theorem fillK8 : ∀ (w : World) (h : Heap), (KK w.params).In h → PySem.Challenge.rw_oc0066_01.row.prog = PySem.Challenge.rw_oc0066_01.row.prog := by
  w_on
  k_fill
  intros
  rfl
theorem paired_strs {F : Value → Value → Prop} {f : Int → PySem.Str} : ∀ {vs ys : List Value} {ns : List Int}, IntsAre vs ns → Paired F vs ys → (∀ v y, F v y → ∃ n t t', v = .int n t ∧ y = .str (f n) t') → StrsAre ys (ns.map f)
  | _, _, _, .nil, .nil, _ => .nil
  | _, _, _, .cons n t r, .cons h p, k => by
    obtain ⟨n', t', t'', e, rfl⟩ := k _ _ h
    cases e
    exact .cons _ _ (paired_strs r p k)
theorem paired_si {F : Value → Value → Prop} {f : PySem.Str → Int} : ∀ {vs ys : List Value} {ns : List PySem.Str}, StrsAre vs ns → Paired F vs ys → (∀ v y, F v y → ∃ n t t', v = .str n t ∧ y = .int (f n) t') → IntsAre ys (ns.map f)
  | _, _, _, .nil, .nil, _ => .nil
  | _, _, _, .cons n t r, .cons h p, k => by
    obtain ⟨n', t', t'', e, rfl⟩ := k _ _ h
    cases e
    exact .cons _ _ (paired_si r p k)
theorem strs_mem : ∀ {vs : List Value} {ns : List PySem.Str}, StrsAre vs ns → ∀ v ∈ vs, ∃ n t, v = .str n t ∧ n ∈ ns
  | _, _, .nil, _, h => nomatch h
  | _, _, .cons n t r, v, h => by
    rcases List.mem_cons.mp h with rfl | h
    · exact ⟨n, t, rfl, List.mem_cons_self⟩
    · obtain ⟨n', t', e, hm⟩ := strs_mem r v h; exact ⟨n', t', e, List.mem_cons_of_mem _ hm⟩
abbrev eLaw (L fa : Addr) (cd : Value) : Env := envOfC (dN 47) (dS 47) L fa cd
abbrev lawA (dp un : Nat) (gd : Option (List Code)) (L fa : Addr) (cd : Value) : Around := AA dp un (some [eLaw L fa cd]) gd
def drawnOf (ns : List Int) : List Int := 33261 :: (ns.take 5).map fun x => x.fmod 65536
def wdOf (n : Int) : PySem.Str := wordOf (n.fdiv 256).toNat.toUInt8.toNat (n.fmod 256).toNat.toUInt8.toNat
def sumCmp (xs : List PySem.Str) (a : PySem.Str) : Int := (xs.map fun b => cmpS a b).sum
theorem ints_take : ∀ {vs : List Value} {ns : List Int}, IntsAre vs ns → ∀ k, IntsAre (vs.take k) (ns.take k)
  | _, _, .nil, k => by rw [List.take_nil, List.take_nil]; exact .nil
  | _, _, .cons n t r, 0 => .nil
  | _, _, .cons n t r, k + 1 => .cons _ _ (ints_take r k)
section
variable {w : World} {s : Shared} {h h₀ : Heap} {tk : Nat} {mean : ExcName → Option Value} {mg mb : Str → Option Value} {dp un : Nat} {gd : Option (List Code)} {L fa : Addr} {cd : Value}
theorem r_setC {A : Around} {env : Env} {x : Str} {v : Value} {v₀ : Option Value} {c : Addr} {Q : Unit → Shared → Prop} (hk : env.scope.kind = .function) (hl : env.kindOf x = some .cell) (hc : env.cells.lookup x = some c) (hv : h.IsCell c v₀)
    (q : ∀ h' tk', h'.IsCell c (some v) → Heap.SameBut c h h' → Q () (st s h' tk')) : Wp w A (storeName env x v) Q (st s h tk) :=
  ⟨wpAny_storeName_cell (s := st s h tk) hk hl hc hv fun h' c4 hs => q h' _ c4 hs⟩
set_option maxHeartbeats 400000 in
theorem law_1 {Q : Flow → Shared → Prop} {a : Addr} {vs : List Value} {ns : List Int} {m : Str → Option Value}
    (F : Fr h₀ L h m) (hm : m (Str.ofString "script") = some (.ref a)) (hl : h₀.IsList a vs.toArray) (hi : IntsAre vs ns) (hz : ns.length ≤ 63)
    (q : ∀ D dv h' tk', h'.get? D = some (lobj dv 0) → h.get? D = none → IntsAre dv (drawnOf ns) → Fr h₀ L h' (fun y => if y = Str.ofString "drawn" then some (.ref D) else m y) → (∀ b o, b ≠ L → h.get? b = some o → h'.get? b = some o) →
      Wp w (lawA dp un gd L fa cd) (execs ((dB 47).drop 1) (eLaw L fa cd)) Q (st s h' tk')) :
    Wp w (lawA dp un gd L fa cd) (execs (dB 47) (eLaw L fa cd)) Q (st s h tk) := by
  have hlen := hi.length
  refine r_cons (r_asg (r_bin (r_list' (r_args (r_int fun u0 tk1 => r_args0 ⟨h, tk1, rfl, by show 1 ≤ 1000; omega, ?_⟩) rfl))) rfl)
  have k1 : Stays h (h.push (lobj [.int 33261 u0] 0)) := fun b o e => Heap.get?_push_of_some _ e
  have g1 : (h.push (lobj [.int 33261 u0] 0)).get? h.objs.size = some (lobj [.int 33261 u0] 0) := Heap.get?_push_size _ rfl
  have n1 : h.get? h.objs.size = none := Heap.get?_none_of_le (Nat.le_refl _)
  have F1 := F.keeps k1
  generalize h.push (lobj [.int 33261 u0] 0) = h1 at *
  generalize h.objs.size = D0 at *
  refine r_compL (cl := []) (items := vs.take 5) (F := fun v y => ∃ n t t', v = .int n t ∧ y = .int (n.fmod 65536) t') rfl (by with_unfolding_all rfl) (by decide) rfl (by decide) rfl (by rw [List.length_take]; omega) ?hit ?he (fun _ => rfl) ?_
  case hit => exact g_upto (k := 5) (fun Q' q => r_loc F1.ns (v := .ref a) hm q rfl rfl rfl) (lkeep hl F1.keep) (by omega) (fun _ _ => rfl)
  case he =>
    intro C v s₃ h₃ tk₃ m₃ hv k3 hn hmx
    obtain ⟨n, t, rfl, _⟩ := ints_mem (ints_take hi 5) v hv
    refine r_bin (r_loc hn hmx ?_ rfl rfl rfl)
    refine r_int fun _ _ => ?_
    exact r_mod (by decide) fun t' tk' => ⟨h₃, tk', rfl, Stays.refl _, n, t, t', rfl, rfl⟩
  intro D1 ys n2 h2 tk2 k2 nD1 gD1 hF
  have iY := paired_ints (ints_take hi 5) hF (fun v y hvy => hvy)
  have lY := iY.length
  rw [List.length_map, List.length_take] at lY
  refine r_addL (vs := [.int 33261 u0]) (ws := ys) ⟨_, k2 _ _ g1, rfl, _, rfl⟩ ⟨_, gD1, rfl, _, rfl⟩ (by show 1 + ys.length ≤ 1000; omega) ?_
  have k3 : Stays h2 (h2.push (lobj ([.int 33261 u0] ++ ys) 0)) := fun b o e => Heap.get?_push_of_some _ e
  have g3 : (h2.push (lobj ([.int 33261 u0] ++ ys) 0)).get? h2.objs.size = some (lobj ([.int 33261 u0] ++ ys) 0) := Heap.get?_push_size _ rfl
  have F3 := (F1.keeps k2).keeps k3
  have hD3 : h.get? h2.objs.size = none := by
    cases e : h.get? h2.objs.size with
    | none => rfl
    | some o => exact absurd (Heap.lt_size (k2 _ _ (k1 _ _ e))) (Nat.lt_irrefl _)
  have hDL : h2.objs.size ≠ L := by
    obtain ⟨o, _, _, e, _⟩ := F.ns
    exact fun q => by rw [q] at hD3; rw [hD3] at e; cases e
  generalize h2.push (lobj ([.int 33261 u0] ++ ys) 0) = h3 at *
  generalize h2.objs.size = D at *
  refine r_setL (h₀ := h₀) F3 (fun h4 tk4 F4 s4 => r_next ?_) rfl rfl
  exact q D _ h4 tk4 (s4.extBut D _ hDL g3) hD3 (.cons _ _ iY) F4 fun b o hb e => s4.extBut b o hb (k3 b o (k2 b o (k1 b o e)))

theorem fr_cell {h₀ h h' : Heap} {L c : Addr} {m : Str → Option Value} (F : Fr h₀ L h m) (hc : c ≠ L) (h0 : h₀.get? c = none) (k : Heap.SameBut c h h') : Fr h₀ L h' m :=
  ⟨F.ns.at' fun o e => k.extBut _ o (Ne.symm hc) e, fun b o e => k.extBut b o (ne_of_stays e h0) (F.keep b o e), F.above⟩
set_option maxHeartbeats 400000 in
theorem law_2 {Q : Flow → Shared → Prop} {D : Addr} {dv : List Value} {dn : List Int} {nd : Nat} {m : Str → Option Value} {v₀ : Option Value}
    (X : (KK w.params).In h₀) (T : TopV mean mg mb h₀) (hA : dp + 1 < recursionLimit) (hc0 : h₀.get? (L + 1) = none)
    (F : Fr h₀ L h m) (hm : m (Str.ofString "drawn") = some (.ref D)) (gD : h.get? D = some (lobj dv nd)) (iD : IntsAre dv dn) (hz : dn.length ≤ 6) (hc : h.IsCell (L + 1) v₀)
    (q : ∀ S sv n h' tk', h'.get? S = some (lobj sv n) → h.get? S = none → StrsAre sv (dn.map fmText) → Fr h₀ L h' m → h'.IsCell (L + 1) (some (.ref S)) → (∀ b o, b ≠ L + 1 → h.get? b = some o → h'.get? b = some o) →
      Wp w (lawA dp un gd L fa cd) (execs ((dB 47).drop 2) (eLaw L fa cd)) Q (st s h' tk')) :
    Wp w (lawA dp un gd L fa cd) (execs ((dB 47).drop 1) (eLaw L fa cd)) Q (st s h tk) := by
  have hlen := iD.length
  refine r_cons (r_asg ?_ rfl)
  refine r_compL (cl := []) (items := dv) (F := fun v y => ∃ n t t', v = .int n t ∧ y = .str (fmText n) t') rfl (by with_unfolding_all rfl) (by decide) rfl (by decide) rfl (by omega) ?hit ?he (fun _ => rfl) ?_
  case hit => exact r_loc F.ns (v := .ref D) hm ⟨h, _, rfl, Stays.refl _, D, rfl, _, gD, rfl, _, rfl⟩ rfl rfl rfl
  case he =>
    intro C v s₃ h₃ tk₃ m₃ hv k3 hn hmx
    obtain ⟨n, t, rfl, _⟩ := ints_mem iD v hv
    have X3 := X.keeps (F.keeps k3).keep
    have T3 := T.keeps (F.keeps k3).keep
    refine r_call (r_glo (x := Str.ofString "filemode") (v := .ref 104) X3 T3 (by k_is) ?_ rfl rfl rfl rfl) rfl
    refine r_cwF (o := o104F w.params) (r_args (r_loc hn hmx ?_ rfl rfl rfl) rfl) rfl rfl
    refine r_args0 ⟨X3 104 _ (by k_is), ?_⟩
    exact sp_filemode X3 T3 hA fun t' h' tk' k => ⟨h', tk', rfl, k, n, t, t', rfl, rfl⟩
  intro S sv n h2 tk2 k2 nS gS hF
  have hcL : L + 1 ≠ L := Nat.succ_ne_self _
  have hcell2 := hc.keeps k2
  have hSc : S ≠ L + 1 := fun q => by obtain ⟨o, e, _⟩ := hc; rw [← q, nS] at e; cases e
  refine r_setC rfl rfl (c := L + 1) rfl hcell2 fun h3 tk3 hc3 s3 => r_next ?_
  exact q S sv n h3 tk3 (s3.extBut S _ hSc gS) nS (paired_strs iD hF fun v y e => e) (fr_cell (F.keeps k2) hcL hc0 s3) hc3 fun b o hb e => s3.extBut b o hb (k2 b o e)
set_option maxHeartbeats 400000 in
theorem law_3 {Q : Flow → Shared → Prop} {D : Addr} {dv : List Value} {dn : List Int} {nd : Nat} {m : Str → Option Value} {v₀ : Option Value}
    (X : (KK w.params).In h₀) (T : TopV mean mg mb h₀) (hA : dp < recursionLimit) (hc0 : h₀.get? (L + 1 + 1) = none)
    (F : Fr h₀ L h m) (hm : m (Str.ofString "drawn") = some (.ref D)) (gD : h.get? D = some (lobj dv nd)) (iD : IntsAre dv dn) (hz : dn.length ≤ 6) (hb : ∀ n ∈ dn, 0 ≤ n ∧ n < 65536) (hc : h.IsCell (L + 1 + 1) v₀)
    (q : ∀ S sv n h' tk', h'.get? S = some (lobj sv n) → h.get? S = none → StrsAre sv (dn.map wdOf) → Fr h₀ L h' m → h'.IsCell (L + 1 + 1) (some (.ref S)) → (∀ b o, b ≠ L + 1 + 1 → h.get? b = some o → h'.get? b = some o) →
      Wp w (lawA dp un gd L fa cd) (execs ((dB 47).drop 3) (eLaw L fa cd)) Q (st s h' tk')) :
    Wp w (lawA dp un gd L fa cd) (execs ((dB 47).drop 2) (eLaw L fa cd)) Q (st s h tk) := by
  have hlen := iD.length
  refine r_cons (r_asg ?_ rfl)
  refine r_compL (cl := []) (items := dv) (F := fun v y => ∃ n t t', v = .int n t ∧ y = .str (wdOf n) t') rfl (by with_unfolding_all rfl) (by decide) rfl (by decide) rfl (by omega) ?hit ?he (fun _ => rfl) ?_
  case hit => exact r_loc F.ns (v := .ref D) hm ⟨h, _, rfl, Stays.refl _, D, rfl, _, gD, rfl, _, rfl⟩ rfl rfl rfl
  case he =>
    intro C v s₃ h₃ tk₃ m₃ hv k3 hn hmx
    obtain ⟨n, t, rfl, hnm⟩ := ints_mem iD v hv
    obtain ⟨hn0, hn1⟩ := hb n hnm
    have X3 := X.keeps (F.keeps k3).keep
    have T3 := T.keeps (F.keeps k3).keep
    refine r_call (r_glo (x := Str.ofString "header_encode") (v := .ref 38) X3 T3 (by k_is) ?_ rfl rfl rfl rfl) rfl
    refine r_cwF (o := o38F w.params) (r_args (r_call (r_blt (x := Str.ofString "bytes") (v := .type "bytes") X3 T3 (by k_is) (by boot_fast) (by decide) ?_ rfl rfl rfl rfl rfl) rfl) rfl) rfl rfl
    refine r_cwT (r_args (r_list' (r_args (r_bin (r_loc hn hmx ?_ rfl rfl rfl)) rfl)) rfl) rfl rfl
    refine r_int fun _ _ => r_fdiv (by decide) (by decide) fun u1 _ => ?_
    refine r_args (r_bin (r_loc hn hmx ?_ rfl rfl rfl)) rfl
    refine r_int fun _ _ => r_mod (by decide) fun u2 tk4 => ?_
    refine r_args0 ⟨h₃, tk4, rfl, by show 2 ≤ 1000; omega, ?_⟩
    have k4 : Stays h₃ (h₃.push (lobj [.int (n.fdiv 256) u1, .int (n.fmod 256) u2] 0)) := fun b o e => Heap.get?_push_of_some _ e
    have g4 : (h₃.push (lobj [.int (n.fdiv 256) u1, .int (n.fmod 256) u2] 0)).get? h₃.objs.size = some (lobj [.int (n.fdiv 256) u1, .int (n.fmod 256) u2] 0) := Heap.get?_push_size _ rfl
    generalize h₃.push (lobj [.int (n.fdiv 256) u1, .int (n.fmod 256) u2] 0) = h4 at *
    refine r_args0 (r_bytes (vs := [.int (n.fdiv 256) u1, .int (n.fmod 256) u2]) (ns := [n.fdiv 256, n.fmod 256]) ⟨_, g4, rfl, _, rfl⟩ (.cons _ _ (.cons _ _ .nil)) ?_ (by show 2 ≤ 1000; omega) rfl fun h5 t5 tk5 k5 => ?_)
    · intro x hx
      rcases List.mem_cons.mp hx with rfl | hx
      · rw [Int.fdiv_eq_ediv_of_nonneg _ (by decide)]
        omega
      · rw [List.mem_singleton.mp hx]
        exact ⟨Int.fmod_nonneg_of_pos _ (by decide), Int.fmod_lt_of_pos _ (by decide)⟩
    have k35 : Stays h₃ h5 := fun b o e => k5 b o (k4 b o e)
    refine r_args0 ⟨X3.keeps k35 38 _ (by k_is), ?_⟩
    exact sp_head (X3.keeps k35) (T3.keeps k35) hA fun t' h' tk' k => ⟨h', tk', rfl, fun b o e => k b o (k35 b o e), n, t, t', rfl, rfl⟩
  intro S sv n h2 tk2 k2 nS gS hF
  have hcL : L + 1 + 1 ≠ L := Nat.ne_of_gt (Nat.lt_succ_of_lt (Nat.lt_succ_self _))
  have hcell2 := hc.keeps k2
  have hSc : S ≠ L + 1 + 1 := fun q => by obtain ⟨o, e, _⟩ := hc; rw [← q, nS] at e; cases e
  refine r_setC rfl rfl (c := L + 1 + 1) rfl hcell2 fun h3 tk3 hc3 s3 => r_next ?_
  exact q S sv n h3 tk3 (s3.extBut S _ hSc gS) nS (paired_strs iD hF fun v y e => e) (fr_cell (F.keeps k2) hcL hc0 s3) hc3 fun b o hb e => s3.extBut b o hb (k2 b o e)

set_option maxHeartbeats 400000 in
theorem law_4 {Q : Flow → Shared → Prop} {S : Addr} {sv : List Value} {xs : List PySem.Str} {nd : Nat} {m : Str → Option Value}
    (X : (KK w.params).In h₀) (T : TopV mean mg mb h₀) (hA : dp < recursionLimit)
    (F : Fr h₀ L h m) (hc : h.IsCell (L + 1) (some (.ref S))) (gS : h.get? S = some (lobj sv nd)) (iS : StrsAre sv xs) (hz : xs.length ≤ 6)
    (q : ∀ B bv n h' tk', h'.get? B = some (lobj bv n) → h.get? B = none → IntsAre bv (xs.map (sumCmp xs)) → Fr h₀ L h' (fun y => if y = Str.ofString "by_signs" then some (.ref B) else m y) → (∀ b o, b ≠ L → h.get? b = some o → h'.get? b = some o) →
      Wp w (lawA dp un gd L fa cd) (execs ((dB 47).drop 4) (eLaw L fa cd)) Q (st s h' tk')) :
    Wp w (lawA dp un gd L fa cd) (execs ((dB 47).drop 3) (eLaw L fa cd)) Q (st s h tk) := by
  have hlen := iS.length
  refine r_cons ?_
  refine r_asgC (h₀ := h₀) (cl := [(Str.ofString "shown", L + 1)]) (items := sv) (F := fun v y => ∃ n t t', v = .str n t ∧ y = .int (sumCmp xs n) t') F (by with_unfolding_all rfl) rfl rfl rfl (by with_unfolding_all rfl) rfl (by decide) (fun _ => rfl) (fun _ => rfl) rfl (by omega) ?hit ?he (fun _ => rfl) ?_
  case hit => exact r_cel (c := L + 1) rfl hc ⟨h, _, rfl, Stays.refl _, S, rfl, _, gS, rfl, _, rfl⟩ rfl rfl rfl
  case he =>
    intro C c v s₃ h₃ tk₃ hv k3 hcv
    obtain ⟨x, t, rfl, _⟩ := strs_mem iS v hv
    have X3 := X.keeps (F.keeps k3).keep
    have T3 := T.keeps (F.keeps k3).keep
    refine r_call (r_blt (x := Str.ofString "sum") (v := .builtin "sum") X3 T3 (by k_is) (by boot_fast) (by decide) ?_ rfl rfl rfl rfl rfl) rfl
    refine r_cwB (r_args ?_ rfl) rfl rfl
    refine r_compL (cl := [(Str.ofString "a", c)]) (items := sv) (F := fun v y => ∃ n t t', v = .str n t ∧ y = .int (cmpS x n) t') rfl (by with_unfolding_all rfl) (by decide) rfl (by decide) rfl (by omega) ?hit2 ?he2 (fun _ => rfl) ?_
    case hit2 => exact r_cel (c := L + 1) rfl (hc.keeps k3) ⟨h₃, _, rfl, Stays.refl _, S, rfl, _, k3 _ _ gS, rfl, _, rfl⟩ rfl rfl rfl
    case he2 =>
      intro C2 v2 s₄ h₄ tk₄ m₄ hv2 k4 hn hmx
      obtain ⟨y, u, rfl, _⟩ := strs_mem iS v2 hv2
      have X4 := X3.keeps k4
      have T4 := T3.keeps k4
      refine r_call (r_glo (x := Str.ofString "three_way_cmp") (v := .ref 57) X4 T4 (by k_is) ?_ rfl rfl rfl rfl) rfl
      refine r_cwF (o := o57F w.params) (r_args (r_cel (c := c) rfl (hcv.keeps k4) ?_ rfl rfl rfl) rfl) rfl rfl
      refine r_args (r_loc hn hmx ?_ rfl rfl rfl) rfl
      refine r_args0 ⟨X4 57 _ (by k_is), ?_⟩
      exact ⟨sp_cmp (s := st s₄ h₄ tk₄) X4 T4 hA fun v' t' h' tk' e k => ⟨h', tk', rfl, k, y, u, t', rfl, by rw [e]⟩⟩
    intro E1 ev n5 h5 tk5 k5 nE gE hF
    refine r_args0 (r_sum (ns := xs.map fun b => cmpS x b) rfl ⟨_, gE, rfl, _, rfl⟩ (paired_si iS hF fun v y e => e) fun h6 tk6 t6 k6 => ?_)
    exact ⟨h6, tk6, rfl, fun b o e => k6 b o (k5 b o e), x, t, t6, rfl, rfl⟩
  intro B h' tk' ys n F' gB nB k hF
  exact r_next (q B ys n h' tk' gB nB (paired_si iS hF fun v y e => e) F' k)

set_option maxHeartbeats 400000 in
theorem law_5 {Q : Flow → Shared → Prop} {S : Addr} {sv : List Value} {xs : List PySem.Str} {nd : Nat} {m : Str → Option Value}
    (X : (KK w.params).In h₀) (T : TopV mean mg mb h₀) (hA : dp < recursionLimit)
    (F : Fr h₀ L h m) (hc : h.IsCell (L + 1 + 1) (some (.ref S))) (gS : h.get? S = some (lobj sv nd)) (iS : StrsAre sv xs) (hz : xs.length ≤ 6)
    (q : ∀ B bv n h' tk', h'.get? B = some (lobj bv n) → h.get? B = none → IntsAre bv (xs.map (sumCmp xs)) → Fr h₀ L h' (fun y => if y = Str.ofString "by_words" then some (.ref B) else m y) → (∀ b o, b ≠ L → h.get? b = some o → h'.get? b = some o) →
      Wp w (lawA dp un gd L fa cd) (execs ((dB 47).drop 5) (eLaw L fa cd)) Q (st s h' tk')) :
    Wp w (lawA dp un gd L fa cd) (execs ((dB 47).drop 4) (eLaw L fa cd)) Q (st s h tk) := by
  have hlen := iS.length
  refine r_cons ?_
  refine r_asgC (h₀ := h₀) (cl := [(Str.ofString "words", L + 1 + 1)]) (items := sv) (F := fun v y => ∃ n t t', v = .str n t ∧ y = .int (sumCmp xs n) t') F (by with_unfolding_all rfl) rfl rfl rfl (by with_unfolding_all rfl) rfl (by decide) (fun _ => rfl) (fun _ => rfl) rfl (by omega) ?hit ?he (fun _ => rfl) ?_
  case hit => exact r_cel (c := L + 1 + 1) rfl hc ⟨h, _, rfl, Stays.refl _, S, rfl, _, gS, rfl, _, rfl⟩ rfl rfl rfl
  case he =>
    intro C c v s₃ h₃ tk₃ hv k3 hcv
    obtain ⟨x, t, rfl, _⟩ := strs_mem iS v hv
    have X3 := X.keeps (F.keeps k3).keep
    have T3 := T.keeps (F.keeps k3).keep
    refine r_call (r_blt (x := Str.ofString "sum") (v := .builtin "sum") X3 T3 (by k_is) (by boot_fast) (by decide) ?_ rfl rfl rfl rfl rfl) rfl
    refine r_cwB (r_args ?_ rfl) rfl rfl
    refine r_compL (cl := [(Str.ofString "d", c)]) (items := sv) (F := fun v y => ∃ n t t', v = .str n t ∧ y = .int (cmpS x n) t') rfl (by with_unfolding_all rfl) (by decide) rfl (by decide) rfl (by omega) ?hit2 ?he2 (fun _ => rfl) ?_
    case hit2 => exact r_cel (c := L + 1 + 1) rfl (hc.keeps k3) ⟨h₃, _, rfl, Stays.refl _, S, rfl, _, k3 _ _ gS, rfl, _, rfl⟩ rfl rfl rfl
    case he2 =>
      intro C2 v2 s₄ h₄ tk₄ m₄ hv2 k4 hn hmx
      obtain ⟨y, u, rfl, _⟩ := strs_mem iS v2 hv2
      have X4 := X3.keeps k4
      have T4 := T3.keeps k4
      refine r_call (r_glo (x := Str.ofString "three_way_cmp") (v := .ref 57) X4 T4 (by k_is) ?_ rfl rfl rfl rfl) rfl
      refine r_cwF (o := o57F w.params) (r_args (r_cel (c := c) rfl (hcv.keeps k4) ?_ rfl rfl rfl) rfl) rfl rfl
      refine r_args (r_loc hn hmx ?_ rfl rfl rfl) rfl
      refine r_args0 ⟨X4 57 _ (by k_is), ?_⟩
      exact ⟨sp_cmp (s := st s₄ h₄ tk₄) X4 T4 hA fun v' t' h' tk' e k => ⟨h', tk', rfl, k, y, u, t', rfl, by rw [e]⟩⟩
    intro E1 ev n5 h5 tk5 k5 nE gE hF
    refine r_args0 (r_sum (ns := xs.map fun b => cmpS x b) rfl ⟨_, gE, rfl, _, rfl⟩ (paired_si iS hF fun v y e => e) fun h6 tk6 t6 k6 => ?_)
    exact ⟨h6, tk6, rfl, fun b o e => k6 b o (k5 b o e), x, t, t6, rfl, rfl⟩
  intro B h' tk' ys n F' gB nB k hF
  exact r_next (q B ys n h' tk' gB nB (paired_si iS hF fun v y e => e) F' k)

set_option maxHeartbeats 400000 in
theorem law_6 {Q : Flow → Shared → Prop} {D : Addr} {dv : List Value} {dn : List Int} {nd : Nat} {m : Str → Option Value}
    (X : (KK w.params).In h₀) (T : TopV mean mg mb h₀) (hA : dp < recursionLimit)
    (F : Fr h₀ L h m) (hm : m (Str.ofString "drawn") = some (.ref D)) (gD : h.get? D = some (lobj dv nd)) (iD : IntsAre dv dn) (hz : dn.length ≤ 6)
    (q : ∀ B bv n h' tk', h'.get? B = some (lobj bv n) → h.get? B = none → IntsAre bv (dn.map fun f => plAt f 3) → Fr h₀ L h' (fun y => if y = Str.ofString "places" then some (.ref B) else m y) → (∀ b o, b ≠ L → h.get? b = some o → h'.get? b = some o) →
      Wp w (lawA dp un gd L fa cd) (execs ((dB 47).drop 6) (eLaw L fa cd)) Q (st s h' tk')) :
    Wp w (lawA dp un gd L fa cd) (execs ((dB 47).drop 5) (eLaw L fa cd)) Q (st s h tk) := by
  have hlen := iD.length
  refine r_cons ?_
  refine r_asgL (h₀ := h₀) (cl := []) (items := dv) (F := fun v y => ∃ n t t', v = .int n t ∧ y = .int (plAt n 3) t') F (by with_unfolding_all rfl) rfl rfl rfl (by with_unfolding_all rfl) (by decide) rfl (by decide) rfl (by omega) ?hit ?he (fun _ => rfl) ?_
  case hit => exact r_loc F.ns (v := .ref D) hm ⟨h, _, rfl, Stays.refl _, D, rfl, _, gD, rfl, _, rfl⟩ rfl rfl rfl
  case he =>
    intro C v s₃ h₃ tk₃ m₃ hv _ k3 hn hmx
    obtain ⟨n, t, rfl, _⟩ := ints_mem iD v hv
    have X3 := X.keeps (F.keeps k3).keep
    have T3 := T.keeps (F.keeps k3).keep
    refine r_call (r_glo (x := Str.ofString "_law_by_signs") (v := .ref 111) X3 T3 (by k_is) ?_ rfl rfl rfl rfl) rfl
    refine r_cwF (o := o111F w.params) (r_args (r_loc hn hmx ?_ rfl rfl rfl) rfl) rfl rfl
    refine r_args0 ⟨X3 111 _ (by k_is), ?_⟩
    exact sp_signs X3 T3 hA fun t' h' tk' k => ⟨h', tk', rfl, k, n, t, t', rfl, rfl⟩
  intro B h' tk' ys n F' gB nB k hF
  exact r_next (q B ys n h' tk' gB nB (paired_ints iD hF fun v y e => e) F' k)
set_option maxHeartbeats 400000 in
theorem law_7 {Q : Flow → Shared → Prop} {D : Addr} {dv : List Value} {dn : List Int} {nd : Nat} {m : Str → Option Value}
    (X : (KK w.params).In h₀) (T : TopV mean mg mb h₀)
    (F : Fr h₀ L h m) (hm : m (Str.ofString "drawn") = some (.ref D)) (gD : h.get? D = some (lobj dv nd)) (iD : IntsAre dv dn) (hz : dn.length ≤ 6)
    (q : ∀ t h' tk', Fr h₀ L h' (fun y => if y = Str.ofString "cube" then some (.int ((dn.length : Int) ^ 3) t) else m y) → (∀ b o, b ≠ L → h.get? b = some o → h'.get? b = some o) →
      Wp w (lawA dp un gd L fa cd) (execs ((dB 47).drop 7) (eLaw L fa cd)) Q (st s h' tk')) :
    Wp w (lawA dp un gd L fa cd) (execs ((dB 47).drop 6) (eLaw L fa cd)) Q (st s h tk) := by
  have hlen := iD.length
  have X1 := X.keeps F.keep
  have T1 := T.keeps F.keep
  refine r_cons (r_asg (r_bin (r_call (r_blt (x := Str.ofString "len") (v := .builtin "len") X1 T1 (by k_is) (by boot_fast) (by decide) ?_ rfl rfl rfl rfl rfl) rfl)) rfl)
  refine r_cwB (r_args (r_loc F.ns (v := .ref D) hm (r_args0 ?_) rfl rfl rfl) rfl) rfl rfl
  refine r_len (vs := dv) ⟨_, gD, rfl, _, rfl⟩ (by omega) fun t1 tk1 => ?_
  refine r_int fun _ _ => ?_
  refine r_pow (by decide) (by decide) (by rw [hlen]; omega) fun t2 tk2 => ?_
  rw [hlen]
  refine r_setL (h₀ := h₀) F (fun h2 tk3 F2 s2 => r_next ?_) rfl rfl
  exact q t2 h2 tk3 F2 fun b o hb e => s2.extBut b o hb e
end
end Mine

end
section
open PySem PySem.W PyProof.Rows PySem.Calls
set_option maxRecDepth 100000
namespace Mine
theorem fillK9 : ∀ (w : World) (h : Heap), (KK w.params).In h → PySem.Challenge.rw_oc0066_01.row.prog = PySem.Challenge.rw_oc0066_01.row.prog := by
  w_on
  k_fill
  intros
  rfl
def sqs (ns : List Int) : Int := (ns.map fun x => x * x).sum
def alk (ns : List Int) : Int := (ns.map fun p => ((cntI ns p : Nat) : Int) ^ 2).sum
def scs (ns : List Int) : List Int := ns.map fun p => ((ns.filter fun q => decide (q < p)).length : Int) - ((ns.filter fun q => decide (p < q)).length : Int)
section
variable {w : World} {s : Shared} {h h₀ : Heap} {tk : Nat} {mean : ExcName → Option Value} {mg mb : Str → Option Value} {dp un : Nat} {gd : Option (List Code)} {L fa : Addr} {cd : Value}
theorem r_sqs {fr : Option (List Env)} {Q : Value → Shared → Prop} {l : Addr} {vs : List Value} {ns : List Int} (X : (KK w.params).In h) (T : TopV mean mg mb h) (hA : dp < recursionLimit) (hl : h.IsList l vs.toArray) (hi : IntsAre vs ns) (hb : ∀ n ∈ ns, -1000 ≤ n ∧ n ≤ 1000) (hz : ns.length ≤ 1000)
    (q : ∀ t' h' tk', Stays h h' → Q (.int (sqs ns) t') (st s h' tk')) : Wp w (AA dp un fr gd) (call (.ref 133) [.ref l]) Q (st s h tk) := ⟨sp_squares (s := st s h tk) X T hA hl hi hb hz q⟩
theorem r_alk {fr : Option (List Env)} {Q : Value → Shared → Prop} {l : Addr} {vs : List Value} {ns : List Int} (X : (KK w.params).In h) (T : TopV mean mg mb h) (hA : dp < recursionLimit) (hl : h.IsList l vs.toArray) (hi : IntsAre vs ns) (hz : ns.length ≤ 1000)
    (q : ∀ t' h' tk', Stays h h' → Q (.int (alk ns) t') (st s h' tk')) : Wp w (AA dp un fr gd) (call (.ref 128) [.ref l]) Q (st s h tk) := ⟨sp_alike (s := st s h tk) X T hA hl hi hz q⟩
theorem r_scs {fr : Option (List Env)} {Q : Value → Shared → Prop} {l : Addr} {vs : List Value} {ns : List Int} (X : (KK w.params).In h) (T : TopV mean mg mb h) (hA : dp < recursionLimit) (hl : h.IsList l vs.toArray) (hi : IntsAre vs ns) (hz : ns.length ≤ 1000)
    (q : ∀ D ys n h' tk', Stays h h' → h.get? D = none → h'.get? D = some (lobj ys n) → IntsAre ys (scs ns) → Q (.ref D) (st s h' tk')) : Wp w (AA dp un fr gd) (call (.ref 123) [.ref l]) Q (st s h tk) := ⟨sp_scores (s := st s h tk) X T hA hl hi hz q⟩
theorem islist {h : Heap} {l : Addr} {vs : List Value} {n : Nat} (g : h.get? l = some (lobj vs n)) : h.IsList l vs.toArray := ⟨_, g, rfl, _, rfl⟩

set_option maxHeartbeats 400000 in
theorem law_8 {Q : Flow → Shared → Prop} {B P : Addr} {bv pv : List Value} {bn pn : List Int} {nb np : Nat} {m : Str → Option Value} {cu : Int} {tc : Tok}
    (X : (KK w.params).In h₀) (T : TopV mean mg mb h₀) (hA : dp < recursionLimit)
    (F : Fr h₀ L h m) (hB : m (Str.ofString "by_signs") = some (.ref B)) (hP : m (Str.ofString "places") = some (.ref P)) (hC : m (Str.ofString "cube") = some (.int cu tc))
    (gB : h.get? B = some (lobj bv nb)) (iB : IntsAre bv bn) (gP : h.get? P = some (lobj pv np)) (iP : IntsAre pv pn) (bB : ∀ n ∈ bn, -1000 ≤ n ∧ n ≤ 1000) (zB : bn.length ≤ 6) (zP : pn.length ≤ 6)
    (hM : 3 * sqs bn + alk pn = cu)
    (q : ∀ h' tk', Stays h h' → Wp w (lawA dp un gd L fa cd) (execs ((dB 47).drop 8) (eLaw L fa cd)) Q (st s h' tk')) :
    Wp w (lawA dp un gd L fa cd) (execs ((dB 47).drop 7) (eLaw L fa cd)) Q (st s h tk) := by
  have X1 := X.keeps F.keep
  have T1 := T.keeps F.keep
  refine r_cons (r_if (r_ifc (r_bin (r_bin (r_int fun _ tk1 => ?_))) (by with_unfolding_all rfl)))
  refine r_call (r_glo (x := Str.ofString "_law_squares") (v := .ref 133) X1 T1 (by k_is) ?_ rfl rfl rfl rfl) rfl
  refine r_cwF (o := o133F w.params) (r_args (r_loc F.ns hB (r_args0 ⟨X1 133 _ (by k_is), ?_⟩) rfl rfl rfl) rfl) rfl rfl
  refine r_sqs X1 T1 hA (islist gB) iB bB (by omega) fun t2 h2 tk2 k2 => ?_
  refine r_mul (IntMulOk.of_left (intBits_le_64 (by decide) (by decide))) fun _ tk3 => ?_
  refine r_call (r_glo (x := Str.ofString "_law_alike") (v := .ref 128) (X1.keeps k2) (T1.keeps k2) (by k_is) ?_ rfl rfl rfl rfl) rfl
  refine r_cwF (o := o128F w.params) (r_args (r_loc (F.keeps k2).ns hP (r_args0 ⟨X1.keeps k2 128 _ (by k_is), ?_⟩) rfl rfl rfl) rfl) rfl rfl
  refine r_alk (X1.keeps k2) (T1.keeps k2) hA (islist (k2 _ _ gP)) iP (by omega) fun t4 h4 tk4 k4 => ?_
  have k24 : Stays h h4 := fun b o e => k4 b o (k2 b o e)
  refine r_add fun _ tk5 => ?_
  refine r_loc (F.keeps k24).ns hC ?_ rfl rfl rfl
  refine r_ne (r_tb ⟨fun hb => ?_, fun _ => ?_⟩)
  · rw [hM] at hb
    exact absurd rfl (bne_iff_ne.mp hb)
  · exact r_nil (r_next (q h4 tk5 k24))

set_option maxHeartbeats 400000 in
theorem law_9 {Q : Flow → Shared → Prop} {B P : Addr} {bv pv : List Value} {bn pn : List Int} {nb np : Nat} {m : Str → Option Value} {cu : Int} {tc : Tok}
    (X : (KK w.params).In h₀) (T : TopV mean mg mb h₀) (hA : dp < recursionLimit)
    (F : Fr h₀ L h m) (hB : m (Str.ofString "by_words") = some (.ref B)) (hP : m (Str.ofString "drawn") = some (.ref P)) (hC : m (Str.ofString "cube") = some (.int cu tc))
    (gB : h.get? B = some (lobj bv nb)) (iB : IntsAre bv bn) (gP : h.get? P = some (lobj pv np)) (iP : IntsAre pv pn) (bB : ∀ n ∈ bn, -1000 ≤ n ∧ n ≤ 1000) (zB : bn.length ≤ 6) (zP : pn.length ≤ 6)
    (hM : 3 * sqs bn + alk pn = cu)
    (q : ∀ h' tk', Stays h h' → Wp w (lawA dp un gd L fa cd) (execs ((dB 47).drop 9) (eLaw L fa cd)) Q (st s h' tk')) :
    Wp w (lawA dp un gd L fa cd) (execs ((dB 47).drop 8) (eLaw L fa cd)) Q (st s h tk) := by
  have X1 := X.keeps F.keep
  have T1 := T.keeps F.keep
  refine r_cons (r_if (r_ifc (r_bin (r_bin (r_int fun _ tk1 => ?_))) (by with_unfolding_all rfl)))
  refine r_call (r_glo (x := Str.ofString "_law_squares") (v := .ref 133) X1 T1 (by k_is) ?_ rfl rfl rfl rfl) rfl
  refine r_cwF (o := o133F w.params) (r_args (r_loc F.ns hB (r_args0 ⟨X1 133 _ (by k_is), ?_⟩) rfl rfl rfl) rfl) rfl rfl
  refine r_sqs X1 T1 hA (islist gB) iB bB (by omega) fun t2 h2 tk2 k2 => ?_
  refine r_mul (IntMulOk.of_left (intBits_le_64 (by decide) (by decide))) fun _ tk3 => ?_
  refine r_call (r_glo (x := Str.ofString "_law_alike") (v := .ref 128) (X1.keeps k2) (T1.keeps k2) (by k_is) ?_ rfl rfl rfl rfl) rfl
  refine r_cwF (o := o128F w.params) (r_args (r_loc (F.keeps k2).ns hP (r_args0 ⟨X1.keeps k2 128 _ (by k_is), ?_⟩) rfl rfl rfl) rfl) rfl rfl
  refine r_alk (X1.keeps k2) (T1.keeps k2) hA (islist (k2 _ _ gP)) iP (by omega) fun t4 h4 tk4 k4 => ?_
  have k24 : Stays h h4 := fun b o e => k4 b o (k2 b o e)
  refine r_add fun _ tk5 => ?_
  refine r_loc (F.keeps k24).ns hC ?_ rfl rfl rfl
  refine r_ne (r_tb ⟨fun hb => ?_, fun _ => ?_⟩)
  · rw [hM] at hb
    exact absurd rfl (bne_iff_ne.mp hb)
  · exact r_nil (r_next (q h4 tk5 k24))

set_option maxHeartbeats 400000 in
theorem law_10 {Q : Flow → Shared → Prop} {B P : Addr} {bv pv : List Value} {bn pn : List Int} {nb np : Nat} {m : Str → Option Value}
    (X : (KK w.params).In h₀) (T : TopV mean mg mb h₀) (hA : dp < recursionLimit) (hu : un + 64 < cLine)
    (F : Fr h₀ L h m) (hB : m (Str.ofString "by_signs") = some (.ref B)) (hP : m (Str.ofString "places") = some (.ref P))
    (gB : h.get? B = some (lobj bv nb)) (iB : IntsAre bv bn) (gP : h.get? P = some (lobj pv np)) (iP : IntsAre pv pn) (zP : pn.length ≤ 6)
    (hM : bn = scs pn)
    (q : ∀ h' tk', Stays h h' → Wp w (lawA dp un gd L fa cd) (execs ((dB 47).drop 10) (eLaw L fa cd)) Q (st s h' tk')) :
    Wp w (lawA dp un gd L fa cd) (execs ((dB 47).drop 9) (eLaw L fa cd)) Q (st s h tk) := by
  have X1 := X.keeps F.keep
  have T1 := T.keeps F.keep
  refine r_cons (r_if (r_ifc (r_loc F.ns hB ?_ rfl rfl rfl) (by with_unfolding_all rfl)))
  refine r_call (r_glo (x := Str.ofString "_law_scores") (v := .ref 123) X1 T1 (by k_is) ?_ rfl rfl rfl rfl) rfl
  refine r_cwF (o := o123F w.params) (r_args (r_loc F.ns hP (r_args0 ⟨X1 123 _ (by k_is), ?_⟩) rfl rfl rfl) rfl) rfl rfl
  refine r_scs X1 T1 hA (islist gP) iP (by omega) fun D ys n h2 tk2 k2 _ gD iD => ?_
  refine r_neL (islist (k2 _ _ gB)) iB (islist gD) iD hu (r_tb ⟨fun hb => ?_, fun _ => ?_⟩)
  · rw [hM, decide_eq_true rfl] at hb
    cases hb
  · exact r_nil (r_next (q h2 tk2 k2))
set_option maxHeartbeats 400000 in
theorem law_11 {Q : Flow → Shared → Prop} {B D : Addr} {bv dv : List Value} {bn dn : List Int} {nb nd : Nat} {m : Str → Option Value}
    (X : (KK w.params).In h₀) (T : TopV mean mg mb h₀) (hA : dp < recursionLimit) (hu : un + 64 < cLine)
    (F : Fr h₀ L h m) (hB : m (Str.ofString "by_words") = some (.ref B)) (hD : m (Str.ofString "drawn") = some (.ref D))
    (gB : h.get? B = some (lobj bv nb)) (iB : IntsAre bv bn) (gD : h.get? D = some (lobj dv nd)) (iD : IntsAre dv dn) (zD : dn.length ≤ 6) (hd : ∀ n ∈ dn, 0 ≤ n ∧ n < 65536)
    (hM : bn = scs (dn.map fun g => octF (g.fdiv 256) * 65536 + octF (g.fmod 256)))
    (q : ∀ h' tk', Stays h h' → Wp w (lawA dp un gd L fa cd) (execs ((dB 47).drop 11) (eLaw L fa cd)) Q (st s h' tk')) :
    Wp w (lawA dp un gd L fa cd) (execs ((dB 47).drop 10) (eLaw L fa cd)) Q (st s h tk) := by
  have X1 := X.keeps F.keep
  have T1 := T.keeps F.keep
  have hlen := iD.length
  refine r_cons (r_if (r_ifc (r_loc F.ns hB ?_ rfl rfl rfl) (by with_unfolding_all rfl)))
  refine r_call (r_glo (x := Str.ofString "_law_scores") (v := .ref 123) X1 T1 (by k_is) ?_ rfl rfl rfl rfl) rfl
  refine r_cwF (o := o123F w.params) (r_args ?_ rfl) rfl rfl
  refine r_compL (cl := []) (items := dv) (F := fun v y => ∃ n t t', v = .int n t ∧ y = .int (octF (n.fdiv 256) * 65536 + octF (n.fmod 256)) t') rfl (by with_unfolding_all rfl) (by decide) rfl (by decide) rfl (by omega) ?hit ?he (fun _ => rfl) ?_
  case hit => exact r_loc F.ns (v := .ref D) hD ⟨h, _, rfl, Stays.refl _, D, rfl, islist gD⟩ rfl rfl rfl
  case he =>
    intro C v s₃ h₃ tk₃ m₃ hv k3 hn hmx
    obtain ⟨n, t, rfl, hnm⟩ := ints_mem iD v hv
    obtain ⟨hn0, hn1⟩ := hd n hnm
    have X3 := X1.keeps k3
    have T3 := T1.keeps k3
    have e1 : 0 ≤ n.fdiv 256 ∧ n.fdiv 256 < 256 := by rw [Int.fdiv_eq_ediv_of_nonneg _ (by decide)]; omega
    have e2 : 0 ≤ n.fmod 256 ∧ n.fmod 256 < 256 := ⟨Int.fmod_nonneg_of_pos _ (by decide), Int.fmod_lt_of_pos _ (by decide)⟩
    refine r_bin (r_bin (r_call (r_glo (x := Str.ofString "_law_octet") (v := .ref 118) X3 T3 (by k_is) ?_ rfl rfl rfl rfl) rfl))
    refine r_cwF (o := o118F w.params) (r_args (r_bin (r_loc hn hmx ?_ rfl rfl rfl)) rfl) rfl rfl
    refine r_int fun _ _ => r_fdiv (by decide) (by decide) fun _ tk4 => ?_
    refine r_args0 ⟨X3 118 _ (by k_is), ?_⟩
    refine ⟨sp_octet (s := st s₃ h₃ tk4) X3 T3 hA e1.1 e1.2 ?_⟩
    rintro _ t5 h5 tk5 rfl k5
    show Wp _ _ (eval _ _) _ (st s₃ h5 tk5)
    have o1 : 0 ≤ octF (n.fdiv 256) ∧ octF (n.fdiv 256) < 100000 := by unfold octF; (repeat' split) <;> omega
    refine r_int fun _ _ => r_mul (IntMulOk.of_left (intBits_le_64 (by omega) (by omega))) fun _ tk6 => ?_
    refine r_call (r_glo (x := Str.ofString "_law_octet") (v := .ref 118) (X3.keeps k5) (T3.keeps k5) (by k_is) ?_ rfl rfl rfl rfl) rfl
    refine r_cwF (o := o118F w.params) (r_args (r_bin (r_loc (hn.keeps k5) hmx ?_ rfl rfl rfl)) rfl) rfl rfl
    refine r_int fun _ _ => r_mod (by decide) fun _ tk7 => ?_
    refine r_args0 ⟨X3.keeps k5 118 _ (by k_is), ?_⟩
    refine ⟨sp_octet (s := st s₃ h5 tk7) (X3.keeps k5) (T3.keeps k5) hA e2.1 e2.2 ?_⟩
    rintro _ t8 h8 tk8 rfl k8
    exact r_add (s := s₃) (h := h8) (tk := tk8) fun t9 tk9 => ⟨h8, tk9, rfl, fun b o e => k8 b o (k5 b o e), n, t, t9, rfl, rfl⟩
  intro G gv n2 h2 tk2 k2 nG gG hF
  refine r_args0 ⟨X1.keeps k2 123 _ (by k_is), ?_⟩
  refine r_scs (X1.keeps k2) (T1.keeps k2) hA (islist gG) (paired_ints iD hF fun v y e => e) (by rw [List.length_map]; omega) fun E1 ys n h3 tk3 k3 _ gE iE => ?_
  have k23 : Stays h h3 := fun b o e => k3 b o (k2 b o e)
  refine r_neL (islist (k23 _ _ gB)) iB (islist gE) iE hu (r_tb ⟨fun hb => ?_, fun _ => ?_⟩)
  · rw [hM, decide_eq_true rfl] at hb
    cases hb
  · exact r_nil (r_next (q h3 tk3 k23))
end
end Mine

end
section
open PySem PySem.W PyProof.Rows PySem.Calls
set_option maxRecDepth 100000
namespace Mine
theorem fillK10 : ∀ (w : World) (h : Heap), (KK w.params).In h → PySem.Challenge.rw_oc0066_01.row.prog = PySem.Challenge.rw_oc0066_01.row.prog := by
  w_on
  k_fill
  intros
  rfl
section
variable {w : World} {s : Shared} {h h₀ : Heap} {tk : Nat} {mean : ExcName → Option Value} {mg mb : Str → Option Value} {dp un : Nat} {gd : Option (List Code)} {L fa : Addr} {cd : Value}
set_option maxHeartbeats 400000 in
theorem law_12 {Q : Flow → Shared → Prop} {B W : Addr} {bv wv : List Value} {bn wn : List Int} {nb nw : Nat} {m : Str → Option Value}
    (X : (KK w.params).In h₀) (T : TopV mean mg mb h₀) (hA : dp < recursionLimit)
    (F : Fr h₀ L h m) (hB : m (Str.ofString "by_signs") = some (.ref B)) (hW : m (Str.ofString "by_words") = some (.ref W))
    (gB : h.get? B = some (lobj bv nb)) (iB : IntsAre bv bn) (gW : h.get? W = some (lobj wv nw)) (iW : IntsAre wv wn) (zB : bn.length ≤ 6) (zW : wn.length ≤ 6)
    (q : ∀ R Mi Ac ms as n1 n2 h' tk', R ≠ L → h'.get? R = some { cls := .type "tuple", data := .seq #[.ref Mi, .ref Ac] } → h'.get? Mi = some (lobj ms n1) → h'.get? Ac = some (lobj as n2) →
      IntsAre ms (uldGo bn.reverse wn []).1 → IntsAre as (uldGo bn.reverse wn []).2 → Fr h₀ L h' (fun y => if y = Str.ofString "told" then some (.ref R) else m y) → (∀ b o, b ≠ L → h.get? b = some o → h'.get? b = some o) →
      Wp w (lawA dp un gd L fa cd) (execs ((dB 47).drop 12) (eLaw L fa cd)) Q (st s h' tk')) :
    Wp w (lawA dp un gd L fa cd) (execs ((dB 47).drop 11) (eLaw L fa cd)) Q (st s h tk) := by
  have X1 := X.keeps F.keep
  have T1 := T.keeps F.keep
  have lB := iB.length
  have lW := iW.length
  have L0 : h₀.get? L = none := Heap.get?_none_of_le F.above
  refine r_cons (r_asg (r_call (r_glo (x := Str.ofString "unorderable_list_difference") (v := .ref 50) X1 T1 (by k_is) ?_ rfl rfl rfl rfl) rfl) rfl)
  refine r_cwF (o := o50F w.params) (r_args (r_call (r_blt (x := Str.ofString "list") (v := .type "list") X1 T1 (by k_is) (by boot_fast) (by decide) ?_ rfl rfl rfl rfl rfl) rfl) rfl) rfl rfl
  refine r_cwT (r_args (r_loc F.ns hB (r_args0 ?_) rfl rfl rfl) rfl) rfl rfl
  refine r_copy (islist gB) (by omega) fun h2 n2 k2 gE => ?_
  have nE : h.get? h.objs.size = none := Heap.get?_none_of_le (Nat.le_refl _)
  generalize h.objs.size = Ex at *
  refine r_args (r_call (r_blt (x := Str.ofString "list") (v := .type "list") (X1.keeps k2) (T1.keeps k2) (by k_is) (by boot_fast) (by decide) ?_ rfl rfl rfl rfl rfl) rfl) rfl
  refine r_cwT (r_args (r_loc (F.keeps k2).ns hW (r_args0 ?_) rfl rfl rfl) rfl) rfl rfl
  refine r_copy (islist (k2 _ _ gW)) (by omega) fun h3 n3 k3 gA => ?_
  have nA : h2.get? h2.objs.size = none := Heap.get?_none_of_le (Nat.le_refl _)
  generalize h2.objs.size = Ac at *
  have k23 : Stays h h3 := fun b o e => k3 b o (k2 b o e)
  have F3 := F.keeps k23
  have nA' : h.get? Ac = none := by
    cases e : h.get? Ac with
    | none => rfl
    | some o => rw [k2 _ _ e] at nA; cases nA
  have old : ∀ {b : Addr}, h.get? b = none → h₀.get? b = none := fun {b} e => by
    cases e' : h₀.get? b with
    | none => rfl
    | some o => rw [F.keep _ _ e'] at e; cases e
  have hEL : Ex ≠ L := fun q => by obtain ⟨o, _, _, e, _⟩ := F.ns; rw [← q, nE] at e; cases e
  have hAL : Ac ≠ L := fun q => by obtain ⟨o, _, _, e, _⟩ := F.ns; rw [← q, nA'] at e; cases e
  have hEA : Ex ≠ Ac := ne_of_stays gE nA
  refine r_args0 ⟨X.keeps F3.keep 50 _ (by k_is), ?_⟩
  have hff : h3.FunFrames h₀ [eLaw L fa cd] := Heap.FunFrames.cons (fun q => nomatch q) rfl F3.ns L0 True.intro
  have hsz : h₀.objs.size ≤ h3.objs.size := by
    obtain ⟨o, _, _, e, _⟩ := F3.ns
    exact Nat.le_trans F3.above (Nat.le_of_lt (Heap.lt_size e))
  refine sp_uld (base := h₀) (ei := bn) (bi := wn) X T hA F3.keep hsz hff (k3 _ _ gE) gA iB iW (by omega) (by omega) (fun q => hEL (List.mem_singleton.mp (show Ex ∈ [L] from q))) (fun q => hAL (List.mem_singleton.mp (show Ac ∈ [L] from q))) hEA (old nE) (old nA') ?_
  intro R Mi ms as m1 m2 h4 tk4 gR gM gAc iM iA sb kx ku
  have F4 : Fr h₀ L h4 m := ⟨ns_slots F3.ns fun o e => ku L o (Ne.symm hEL) (Ne.symm hAL) e, sb, F3.above⟩
  have hRL : R ≠ L := fun q => by
    obtain ⟨o, _, _, e, hd, _⟩ := F4.ns
    rw [← q, gR] at e
    cases e
    cases hd
  have hML : Mi ≠ L := fun q => by
    obtain ⟨o, _, _, e, hd, _⟩ := F4.ns
    rw [← q, gM] at e
    cases e
    cases hd
  refine r_setL (h₀ := h₀) F4 (fun h5 tk5 F5 s5 => r_next ?_) rfl rfl
  refine q R Mi Ac ms as m1 m2 h5 tk5 hRL (s5.extBut R _ hRL gR) (s5.extBut Mi _ hML gM) (s5.extBut Ac _ hAL gAc) iM iA F5 fun b o hb e => s5.extBut b o hb (kx b o (fun q => hb (List.mem_singleton.mp (show b ∈ [L] from q))) (ne_of_stays e nE) (ne_of_stays e nA') (k23 b o e))

theorem r_bo {A : Around} {env : Env} {x y : PySem.Expr} {pos : Pos} {whole : Sem Value} {Q : Bool → Shared → Prop}
    (q : Wp w A (isTrue x env (eval x env)) (fun b s₁ => (b = true → Wp w A (isTrue y env (eval y env)) Q s₁) ∧ (b = false → Q false s₁)) s) : Wp w A (isTrue (.BoolOp .And [x, y] pos) env whole) Q s := by
  refine ⟨wpAny_isTrue_BoolOp (wpAny_allTrue_And_cons (wpAny_mono q.out (fun b s₁ e => ?_) fun _ _ e => e))⟩
  cases b with
  | false => exact e.2 rfl
  | true =>
    refine wpAny_allTrue_And_cons (wpAny_mono (e.1 rfl).out (fun b s₂ e => ?_) fun _ _ e => e)
    cases b with
    | false => exact e
    | true => exact wpAny_allTrue_And_nil e
theorem reads_two {h : Heap} {R a b : Addr} (gR : h.get? R = some { cls := .type "tuple", data := .seq #[.ref a, .ref b] }) (ha : h.IsList a ([] : List Value).toArray) (hb : h.IsList b ([] : List Value).toArray) :
    ∃ as, Reads h (.ref R) (.tuple [.list [], .list []]) as := by
  have r1 := reads_of_ints ha .nil
  have r2 := reads_of_ints hb .nil
  exact ⟨_, Reads.tuple gR rfl rfl (.cons r1 (.cons r2 .nil))⟩
set_option maxHeartbeats 400000 in
theorem law_13 {Q : Flow → Shared → Prop} {P D R Mi Ac : Addr} {pv dv ms as : List Value} {pn dn mn an : List Int} {np nd n1 n2 : Nat} {m : Str → Option Value}
    (X : (KK w.params).In h₀) (T : TopV mean mg mb h₀) (hA : dp < recursionLimit) (hu : un + 64 < cLine)
    (F : Fr h₀ L h m) (hP : m (Str.ofString "places") = some (.ref P)) (hD : m (Str.ofString "drawn") = some (.ref D)) (hR : m (Str.ofString "told") = some (.ref R))
    (gP : h.get? P = some (lobj pv np)) (iP : IntsAre pv pn) (gD : h.get? D = some (lobj dv nd)) (iD : IntsAre dv dn) (zP : pn.length ≤ 6) (zD : dn.length ≤ 6)
    (gR : h.get? R = some { cls := .type "tuple", data := .seq #[.ref Mi, .ref Ac] }) (gM : h.get? Mi = some (lobj ms n1)) (gA : h.get? Ac = some (lobj as n2)) (iM : IntsAre ms mn) (iA : IntsAre as an)
    (hM : alk pn = dn.length → mn = [] ∧ an = [])
    (q : ∀ h' tk', Stays h h' → Wp w (lawA dp un gd L fa cd) (execs ((dB 47).drop 13) (eLaw L fa cd)) Q (st s h' tk')) :
    Wp w (lawA dp un gd L fa cd) (execs ((dB 47).drop 12) (eLaw L fa cd)) Q (st s h tk) := by
  have X1 := X.keeps F.keep
  have T1 := T.keeps F.keep
  have lD := iD.length
  refine r_cons (r_if (r_bo (r_ifc (r_call (r_glo (x := Str.ofString "_law_alike") (v := .ref 128) X1 T1 (by k_is) ?_ rfl rfl rfl rfl) rfl) (by with_unfolding_all rfl))))
  refine r_cwF (o := o128F w.params) (r_args (r_loc F.ns hP (r_args0 ⟨X1 128 _ (by k_is), ?_⟩) rfl rfl rfl) rfl) rfl rfl
  refine r_alk X1 T1 hA (islist gP) iP (by omega) fun t2 h2 tk2 k2 => ?_
  refine r_call (r_blt (x := Str.ofString "len") (v := .builtin "len") (X1.keeps k2) (T1.keeps k2) (by k_is) (by boot_fast) (by decide) ?_ rfl rfl rfl rfl rfl) rfl
  refine r_cwB (r_args (r_loc (F.keeps k2).ns hD (r_args0 ?_) rfl rfl rfl) rfl) rfl rfl
  refine r_len (vs := dv) (islist (k2 _ _ gD)) (by omega) fun t3 tk3 => ?_
  refine r_eq (r_tb ⟨fun hb => ?_, fun _ => ?_⟩)
  · have e : alk pn = (dn.length : Int) := by rw [← lD]; exact beq_iff_eq.mp hb
    obtain ⟨rfl, rfl⟩ := hM e
    cases iM
    cases iA
    refine r_ifc (r_loc (F.keeps k2).ns hR ?_ rfl rfl rfl) (by with_unfolding_all rfl)
    refine r_tup' (r_args (r_list' (r_args0 ⟨h2, _, rfl, Nat.zero_le _, ?_⟩)) rfl)
    have k3 : Stays h2 (h2.push (lobj [] 0)) := fun b o e => Heap.get?_push_of_some _ e
    have g3 : (h2.push (lobj [] 0)).get? h2.objs.size = some (lobj [] 0) := Heap.get?_push_size _ rfl
    generalize h2.push (lobj [] 0) = h3 at *
    generalize h2.objs.size = U at *
    refine r_args (r_list' (r_args0 ⟨h3, _, rfl, Nat.zero_le _, ?_⟩)) rfl
    have k4 : Stays h3 (h3.push (lobj [] 0)) := fun b o e => Heap.get?_push_of_some _ e
    have g4 : (h3.push (lobj [] 0)).get? h3.objs.size = some (lobj [] 0) := Heap.get?_push_size _ rfl
    generalize h3.push (lobj [] 0) = h4 at *
    generalize h3.objs.size = V at *
    refine r_args0 ⟨h4, _, rfl, by show 2 ≤ 1000; omega, ?_⟩
    have k5 : Stays h4 (h4.push { cls := .type "tuple", data := .seq [Value.ref U, Value.ref V].toArray }) := fun b o e => Heap.get?_push_of_some _ e
    have g5 : (h4.push { cls := .type "tuple", data := .seq [Value.ref U, Value.ref V].toArray }).get? h4.objs.size = some { cls := .type "tuple", data := .seq #[Value.ref U, Value.ref V] } := Heap.get?_push_size _ rfl
    generalize h4.push { cls := .type "tuple", data := .seq [Value.ref U, Value.ref V].toArray } = h5 at *
    generalize h4.objs.size = Z at *
    have k25 : Stays h2 h5 := fun b o e => k5 b o (k4 b o (k3 b o e))
    obtain ⟨a1, r1⟩ := reads_two (k25 _ _ (k2 _ _ gR)) (islist (k25 _ _ (k2 _ _ gM))) (islist (k25 _ _ (k2 _ _ gA)))
    obtain ⟨a2, r2⟩ := reads_two g5 (islist (k5 _ _ (k4 _ _ g3))) (islist (k5 _ _ g4))
    refine ⟨ne_dataH_same (s := st s h5 _) r1 r2 (by decide +kernel) (by decide +kernel) hu (by decide +kernel) ?_⟩
    refine r_tb ⟨fun hb => ?_, fun _ => r_nil (r_next (q h5 _ fun b o e => k25 b o (k2 b o e)))⟩
    exact absurd hb (by decide +kernel)
  · exact ⟨(fun x => nomatch x), fun _ => r_nil (r_next (q h2 tk3 k2))⟩

theorem r_itemT {A : Around} {value slice : PySem.Expr} {R : Addr} {l : List Value} {k : Int} {u : Tok} {j : Nat} {x : Value} {Q : Value → Shared → Prop} (gR : h.get? R = some { cls := .type "tuple", data := .seq l.toArray })
    (hlo : -(2 ^ 63) ≤ k) (hhi : k < 2 ^ 63) (hj : seqIndex? k l.length = some j) (hx : l[j]? = some x) (q : Q x (st s h tk))
    (hs : subscripted slice false (.ref R) (.int k u) = operate [.ref R, .int k u] (getItem (.ref R) (.int k u))) : Wp w A (subscriptTail value slice (.ref R) (.int k u)) Q (st s h tk) :=
  ⟨item_tupleT (s := st s h tk) ⟨_, gR, rfl, _, rfl⟩ hlo hhi hj hx q hs⟩
set_option maxHeartbeats 400000 in
theorem law_14 {Q : Flow → Shared → Prop} {P D R Mi Ac : Addr} {pv dv ms as : List Value} {pn dn mn an : List Int} {np nd n1 n2 : Nat} {m : Str → Option Value}
    (X : (KK w.params).In h₀) (T : TopV mean mg mb h₀) (hA : dp < recursionLimit)
    (F : Fr h₀ L h m) (hP : m (Str.ofString "places") = some (.ref P)) (hD : m (Str.ofString "drawn") = some (.ref D)) (hR : m (Str.ofString "told") = some (.ref R))
    (gP : h.get? P = some (lobj pv np)) (iP : IntsAre pv pn) (gD : h.get? D = some (lobj dv nd)) (iD : IntsAre dv dn) (zP : pn.length ≤ 6) (zD : dn.length ≤ 6)
    (gR : h.get? R = some { cls := .type "tuple", data := .seq #[.ref Mi, .ref Ac] }) (gM : h.get? Mi = some (lobj ms n1)) (gA : h.get? Ac = some (lobj as n2)) (iM : IntsAre ms mn) (iA : IntsAre as an)
    (bM : ∀ n ∈ mn, -1000 ≤ n ∧ n ≤ 1000) (bA : ∀ n ∈ an, -1000 ≤ n ∧ n ≤ 1000) (zM : mn.length ≤ 1000) (zA : an.length ≤ 1000)
    (hM : 3 * (sqs an - sqs mn) = alk pn - alk dn)
    (q : ∀ h' tk', Stays h h' → Q (.ret (.bool true)) (st s h' tk')) :
    Wp w (lawA dp un gd L fa cd) (execs ((dB 47).drop 13) (eLaw L fa cd)) Q (st s h tk) := by
  have X1 := X.keeps F.keep
  have T1 := T.keeps F.keep
  refine r_cons (r_ret (r_cmp (r_bin (r_int fun _ tk1 => r_bin ?_)) (by with_unfolding_all rfl)))
  refine r_call (r_glo (x := Str.ofString "_law_squares") (v := .ref 133) X1 T1 (by k_is) ?_ rfl rfl rfl rfl) rfl
  refine r_cwF (o := o133F w.params) (r_args (r_sub_ (r_loc F.ns hR (r_int fun _ _ => ?_) rfl rfl rfl)) rfl) rfl rfl
  refine r_itemT (l := [.ref Mi, .ref Ac]) (j := 1) gR (by decide) (by decide) rfl rfl ?_ (by with_unfolding_all rfl)
  refine r_args0 ⟨X1 133 _ (by k_is), ?_⟩
  refine r_sqs X1 T1 hA (islist gA) iA bA zA fun t2 h2 tk2 k2 => ?_
  refine r_call (r_glo (x := Str.ofString "_law_squares") (v := .ref 133) (X1.keeps k2) (T1.keeps k2) (by k_is) ?_ rfl rfl rfl rfl) rfl
  refine r_cwF (o := o133F w.params) (r_args (r_sub_ (r_loc (F.keeps k2).ns hR (r_int fun _ _ => ?_) rfl rfl rfl)) rfl) rfl rfl
  refine r_itemT (l := [.ref Mi, .ref Ac]) (j := 0) (k2 _ _ gR) (by decide) (by decide) rfl rfl ?_ (by with_unfolding_all rfl)
  refine r_args0 ⟨X1.keeps k2 133 _ (by k_is), ?_⟩
  refine r_sqs (X1.keeps k2) (T1.keeps k2) hA (islist (k2 _ _ gM)) iM bM zM fun t3 h3 tk3 k3 => ?_
  have k23 : Stays h h3 := fun b o e => k3 b o (k2 b o e)
  refine r_sub fun _ tk4 => r_mul (IntMulOk.of_left (intBits_le_64 (by decide) (by decide))) fun _ tk5 => ?_
  refine r_bin (r_call (r_glo (x := Str.ofString "_law_alike") (v := .ref 128) (X1.keeps k23) (T1.keeps k23) (by k_is) ?_ rfl rfl rfl rfl) rfl)
  refine r_cwF (o := o128F w.params) (r_args (r_loc (F.keeps k23).ns hP (r_args0 ⟨X1.keeps k23 128 _ (by k_is), ?_⟩) rfl rfl rfl) rfl) rfl rfl
  refine r_alk (X1.keeps k23) (T1.keeps k23) hA (islist (k23 _ _ gP)) iP (by omega) fun t6 h6 tk6 k6 => ?_
  have k26 : Stays h h6 := fun b o e => k6 b o (k23 b o e)
  refine r_call (r_glo (x := Str.ofString "_law_alike") (v := .ref 128) (X1.keeps k26) (T1.keeps k26) (by k_is) ?_ rfl rfl rfl rfl) rfl
  refine r_cwF (o := o128F w.params) (r_args (r_loc (F.keeps k26).ns hD (r_args0 ⟨X1.keeps k26 128 _ (by k_is), ?_⟩) rfl rfl rfl) rfl) rfl rfl
  refine r_alk (X1.keeps k26) (T1.keeps k26) hA (islist (k26 _ _ gD)) iD (by omega) fun t7 h7 tk7 k7 => ?_
  refine r_sub fun _ tk8 => r_eq ?_
  rw [hM, beq_self_eq_true]
  exact r_ret' (fun x => nomatch x) (q h7 tk8 fun b o e => k7 b o (k26 b o e))
end
end Mine

end
section
open PySem PySem.W PyProof.Rows PySem.Calls
set_option maxRecDepth 100000
namespace Mine
abbrev rowOf (f : Int → PySem.Str) (dn : List Int) : List Int := (dn.map f).map (sumCmp (dn.map f))
/-- what is left to show, with no program in sight -/
structure Math (dn : List Int) : Prop where
  m1 : 3 * sqs (rowOf fmText dn) + alk (dn.map fun f => plAt f 3) = (dn.length : Int) ^ 3
  m2 : 3 * sqs (rowOf wdOf dn) + alk dn = (dn.length : Int) ^ 3
  m3 : rowOf fmText dn = scs (dn.map fun f => plAt f 3)
  m4 : rowOf wdOf dn = scs (dn.map fun g => octF (g.fdiv 256) * 65536 + octF (g.fmod 256))
  m5 : alk (dn.map fun f => plAt f 3) = dn.length → (uldGo (rowOf fmText dn).reverse (rowOf wdOf dn) []).1 = [] ∧ (uldGo (rowOf fmText dn).reverse (rowOf wdOf dn) []).2 = []
  m6 : 3 * (sqs (uldGo (rowOf fmText dn).reverse (rowOf wdOf dn) []).2 - sqs (uldGo (rowOf fmText dn).reverse (rowOf wdOf dn) []).1) = alk (dn.map fun f => plAt f 3) - alk dn
  b1 : ∀ n ∈ rowOf fmText dn, -1000 ≤ n ∧ n ≤ 1000
  b2 : ∀ n ∈ rowOf wdOf dn, -1000 ≤ n ∧ n ≤ 1000
  b3 : ∀ n ∈ (uldGo (rowOf fmText dn).reverse (rowOf wdOf dn) []).1, -1000 ≤ n ∧ n ≤ 1000
  b4 : ∀ n ∈ (uldGo (rowOf fmText dn).reverse (rowOf wdOf dn) []).2, -1000 ≤ n ∧ n ≤ 1000
  b5 : (uldGo (rowOf fmText dn).reverse (rowOf wdOf dn) []).1.length ≤ 1000
  b6 : (uldGo (rowOf fmText dn).reverse (rowOf wdOf dn) []).2.length ≤ 1000
section
variable {w : World} {s : Shared} {h h₀ : Heap} {tk : Nat} {mean : ExcName → Option Value} {mg mb : Str → Option Value} {dp un : Nat} {gd : Option (List Code)} {L fa : Addr} {cd : Value}
theorem drawn_len (ns : List Int) : (drawnOf ns).length ≤ 6 := by
  unfold drawnOf
  rw [List.length_cons, List.length_map, List.length_take]
  omega
theorem drawn_b (ns : List Int) : ∀ n ∈ drawnOf ns, 0 ≤ n ∧ n < 65536 := by
  intro n hn
  rcases List.mem_cons.mp hn with rfl | hn
  · decide
  · obtain ⟨x, _, rfl⟩ := List.mem_map.mp hn
    exact ⟨Int.fmod_nonneg_of_pos _ (by decide), Int.fmod_lt_of_pos _ (by decide)⟩
set_option maxHeartbeats 400000 in
theorem law_all {Q : Flow → Shared → Prop} {a : Addr} {vs : List Value} {ns : List Int} {m : Str → Option Value} {v1 v2 : Option Value}
    (X : (KK w.params).In h₀) (T : TopV mean mg mb h₀) (hA : dp + 1 < recursionLimit) (hu : un + 64 < cLine) (hL : h₀.objs.size = L)
    (F : Fr h₀ L h m) (hm : m (Str.ofString "script") = some (.ref a)) (hl : h₀.IsList a vs.toArray) (hi : IntsAre vs ns) (hz : ns.length ≤ 63)
    (c1 : h.IsCell (L + 1) v1) (c2 : h.IsCell (L + 1 + 1) v2) (M : Math (drawnOf ns))
    (q : ∀ h' tk', Stays h₀ h' → Q (.ret (.bool true)) (st s h' tk')) :
    Wp w (lawA dp un gd L fa cd) (execs (dB 47) (eLaw L fa cd)) Q (st s h tk) := by
  have hA' := Nat.lt_of_succ_lt hA
  have n1 : h₀.get? (L + 1) = none := Heap.get?_none_of_le (by rw [hL]; exact Nat.le_succ _)
  have n2 : h₀.get? (L + 1 + 1) = none := Heap.get?_none_of_le (by rw [hL]; exact Nat.le_trans (Nat.le_succ _) (Nat.le_succ _))
  have e1 : L + 1 ≠ L := Nat.succ_ne_self _
  have e2 : L + 1 + 1 ≠ L := Nat.ne_of_gt (Nat.lt_succ_of_lt (Nat.lt_succ_self _))
  have e3 : L + 1 ≠ L + 1 + 1 := Nat.ne_of_lt (Nat.lt_succ_self _)
  have zd := drawn_len ns
  have bd := drawn_b ns
  have fL : ∀ {h : Heap} {m : Str → Option Value} {D : Addr}, Fr h₀ L h m → h.get? D = none → D ≠ L := fun F e q => by obtain ⟨o, _, _, e', _⟩ := F.ns; rw [← q, e] at e'; cases e'
  have ck : ∀ {h h' : Heap} {c : Addr} {v : Option Value} (_ : h.IsCell c v) (_ : ∀ o, h.get? c = some o → h'.get? c = some o), h'.IsCell c v := fun x k => by obtain ⟨o, e, r⟩ := x; exact ⟨o, k o e, r⟩
  have cn : ∀ {h : Heap} {c D : Addr} {v : Option Value}, h.IsCell c v → h.get? D = none → D ≠ c := fun x e q => by obtain ⟨o, e', _⟩ := x; rw [← q, e] at e'; cases e'
  refine law_1 F hm hl hi hz fun D dv h2 tk2 gD2 nD iD F2 k2 => ?_
  have DL := fL F nD
  have c12 := ck c1 fun o e => k2 _ o e1 e
  have c22 := ck c2 fun o e => k2 _ o e2 e
  have D1 : D ≠ L + 1 := cn c1 nD
  have D2 : D ≠ L + 1 + 1 := cn c2 nD
  refine law_2 X T hA n1 F2 rfl gD2 iD zd c12 fun S sv n3 h3 tk3 gS3 nS iS F3 c13 k3 => ?_
  have SL := fL F2 nS
  have gD3 := k3 _ _ D1 gD2
  have c23 := ck c22 fun o e => k3 _ o (Ne.symm e3) e
  have S2 : S ≠ L + 1 + 1 := cn c22 nS
  refine law_3 X T hA' n2 F3 rfl gD3 iD zd bd c23 fun W wv n4 h4 tk4 gW4 nW iW F4 c24 k4 => ?_
  have WL := fL F3 nW
  have gD4 := k4 _ _ D2 gD3
  have gS4 := k4 _ _ S2 gS3
  have c14 := ck c13 fun o e => k4 _ o e3 e
  have zs : ((drawnOf ns).map fmText).length ≤ 6 := by rw [List.length_map]; exact zd
  have zw : ((drawnOf ns).map wdOf).length ≤ 6 := by rw [List.length_map]; exact zd
  have zp : ((drawnOf ns).map fun f => plAt f 3).length ≤ 6 := by rw [List.length_map]; exact zd
  refine law_4 X T hA' F4 c14 gS4 iS zs fun B bv n5 h5 tk5 gB5 nB iB F5 k5 => ?_
  have BL := fL F4 nB
  have gD5 := k5 _ _ DL gD4
  have gW5 := k5 _ _ WL gW4
  have c25 := ck c24 fun o e => k5 _ o e2 e
  refine law_5 X T hA' F5 c25 gW5 iW zw fun V vv n6 h6 tk6 gV6 nV iV F6 k6 => ?_
  have VL := fL F5 nV
  have gD6 := k6 _ _ DL gD5
  have gB6 := k6 _ _ BL gB5
  refine law_6 X T hA' F6 rfl gD6 iD zd fun P pv n7 h7 tk7 gP7 nP iP F7 k7 => ?_
  have PL := fL F6 nP
  have gD7 := k7 _ _ DL gD6
  have gB7 := k7 _ _ BL gB6
  have gV7 := k7 _ _ VL gV6
  refine law_7 X T F7 rfl gD7 iD zd fun tc h8 tk8 F8 k8 => ?_
  have gD8 := k8 _ _ DL gD7
  have gB8 := k8 _ _ BL gB7
  have gV8 := k8 _ _ VL gV7
  have gP8 := k8 _ _ PL gP7
  have zB : (rowOf fmText (drawnOf ns)).length ≤ 6 := by rw [List.length_map]; exact zs
  have zV : (rowOf wdOf (drawnOf ns)).length ≤ 6 := by rw [List.length_map]; exact zw
  refine law_8 X T hA' F8 rfl rfl rfl gB8 iB gP8 iP M.b1 zB zp M.m1 fun h9 tk9 k9 => ?_
  refine law_9 X T hA' (F8.keeps k9) rfl rfl rfl (k9 _ _ gV8) iV (k9 _ _ gD8) iD M.b2 zV zd M.m2 fun h10 tk10 k10 => ?_
  have k810 : Stays h8 h10 := fun b o e => k10 b o (k9 b o e)
  refine law_10 X T hA' hu (F8.keeps k810) rfl rfl (k810 _ _ gB8) iB (k810 _ _ gP8) iP zp M.m3 fun h11 tk11 k11 => ?_
  have k811 : Stays h8 h11 := fun b o e => k11 b o (k810 b o e)
  refine law_11 X T hA' hu (F8.keeps k811) rfl rfl (k811 _ _ gV8) iV (k811 _ _ gD8) iD zd bd M.m4 fun h12 tk12 k12 => ?_
  have k812 : Stays h8 h12 := fun b o e => k12 b o (k811 b o e)
  refine law_12 X T hA' (F8.keeps k812) rfl rfl (k812 _ _ gB8) iB (k812 _ _ gV8) iV zB zV fun R Mi Ac ms as n1' n2' h13 tk13 hRL gR gM gA iM iA F13 k13 => ?_
  have gP13 := k13 _ _ PL (k812 _ _ gP8)
  have gD13 := k13 _ _ DL (k812 _ _ gD8)
  refine law_13 X T hA' hu F13 rfl rfl rfl gP13 iP gD13 iD zp zd gR gM gA iM iA M.m5 fun h14 tk14 k14 => ?_
  refine law_14 X T hA' (F13.keeps k14) rfl rfl rfl (k14 _ _ gP13) iP (k14 _ _ gD13) iD zp zd (k14 _ _ gR) (k14 _ _ gM) (k14 _ _ gA) iM iA M.b3 M.b4 M.b5 M.b6 M.m6 fun h15 tk15 k15 => ?_
  exact q h15 tk15 fun b o e => k15 b o (k14 b o (F13.keep b o e))
end
end Mine

end
section
open PySem PySem.W PyProof.Rows PySem.Calls
set_option maxRecDepth 100000
namespace Mine
set_option maxHeartbeats 4000000 in
theorem holds_of (M : ∀ ns, Math (drawnOf ns)) : PySem.Challenge.rw_oc0066_01.Holds := top_walk (by
  k_go0
  rename_i F0 ow os lw rs N0 C0
  rename Frag.In _ _ => X0
  rename Top _ _ _ _ _ _ => T0
  rename IntsAre _ _ => hI
  rename Heap.IsList _ _ _ => hLst
  rename ¬ _ => hz
  rename _ = #[] => hg
  refine Wp.use ?_
  refine law_all X0 T0 ?_ ?_ rfl F0 rfl hLst hI ?_ ⟨_, (N0 _ (.tail _ (.head _))).1, rs⟩ ⟨_, (N0 _ (.head _)).1, lw⟩ (M _) ?_
  · decide +kernel
  · decide +kernel
  · omega
  · intro h' tk' k
    exact ⟨.inl ⟨.bool true, .bool true, [], rfl, fun _ => rfl, .bool true, by first | rfl | decide | simp [WShape.has] | (with_unfolding_all rfl), fun _ => ⟨List.nodup_nil, fun a ha => nomatch ha⟩⟩, k, rfl, hg⟩)
end Mine

end
section
namespace Mine
def Sm (l : List Int) (f : Int → Int) : Int := (l.map f).sum
theorem Sm_nil (f : Int → Int) : Sm [] f = 0 := rfl
theorem Sm_cons (a : Int) (l : List Int) (f : Int → Int) : Sm (a :: l) f = f a + Sm l f := by unfold Sm; rw [List.map_cons, List.sum_cons]
theorem Sm_congr {l : List Int} {f g : Int → Int} (h : ∀ a ∈ l, f a = g a) : Sm l f = Sm l g := by
  unfold Sm; rw [List.map_congr_left h]
theorem Sm_add (f g : Int → Int) : ∀ l, Sm l (fun a => f a + g a) = Sm l f + Sm l g
  | [] => rfl
  | a :: l => by rw [Sm_cons, Sm_cons, Sm_cons, Sm_add f g l]; omega
theorem Sm_mul (c : Int) (f : Int → Int) : ∀ l, Sm l (fun a => c * f a) = c * Sm l f
  | [] => by rw [Sm_nil, Sm_nil, Int.mul_zero]
  | a :: l => by rw [Sm_cons, Sm_cons, Sm_mul c f l, Int.mul_add]
theorem Sm_mulr (c : Int) (f : Int → Int) (l : List Int) : Sm l (fun a => f a * c) = Sm l f * c := by
  rw [Sm_congr (g := fun a => c * f a) fun a _ => Int.mul_comm _ _, Sm_mul, Int.mul_comm]
theorem Sm_zero : ∀ l, Sm l (fun _ => 0) = 0
  | [] => rfl
  | a :: l => by rw [Sm_cons, Sm_zero l]; rfl
theorem Sm_one : ∀ l : List Int, Sm l (fun _ => 1) = (l.length : Int)
  | [] => rfl
  | a :: l => by rw [Sm_cons, Sm_one l, List.length_cons]; omega
theorem Sm_const (c : Int) (l : List Int) : Sm l (fun _ => c) = c * (l.length : Int) := by
  rw [← Sm_one, ← Sm_mul, Sm_congr fun _ _ => (Int.mul_one c).symm]
theorem Sm_swap (F : Int → Int → Int) : ∀ l l', Sm l (fun p => Sm l' (F p)) = Sm l' (fun q => Sm l fun p => F p q)
  | [], l' => by rw [Sm_nil]; exact (Sm_zero l').symm
  | a :: l, l' => by
    rw [Sm_cons, Sm_swap F l l', ← Sm_add]
    exact Sm_congr fun q _ => (Sm_cons a l (fun p => F p q)).symm
def sg (a b : Int) : Int := if b < a then 1 else if a < b then -1 else 0
def eqi (a b : Int) : Int := if a = b then 1 else 0
theorem sg_cases (a b : Int) : (a < b ∧ sg a b = -1 ∧ sg b a = 1 ∧ eqi a b = 0) ∨ (a = b ∧ sg a b = 0 ∧ sg b a = 0 ∧ eqi a b = 1) ∨ (b < a ∧ sg a b = 1 ∧ sg b a = -1 ∧ eqi a b = 0) := by
  rcases Int.lt_trichotomy a b with h | h | h
  · refine .inl ⟨h, ?_, ?_, ?_⟩ <;> (first | unfold sg | unfold eqi) <;> (repeat' split) <;> omega
  · refine .inr (.inl ⟨h, ?_, ?_, ?_⟩) <;> (first | unfold sg | unfold eqi) <;> (repeat' split) <;> omega
  · refine .inr (.inr ⟨h, ?_, ?_, ?_⟩) <;> (first | unfold sg | unfold eqi) <;> (repeat' split) <;> omega
theorem tri (p q r : Int) : sg p q * sg p r + sg q p * sg q r + sg r p * sg r q + eqi p q * eqi p r = 1 := by
  rcases sg_cases p q with ⟨h1, a1, b1, c1⟩ | ⟨h1, a1, b1, c1⟩ | ⟨h1, a1, b1, c1⟩ <;>
  rcases sg_cases p r with ⟨h2, a2, b2, c2⟩ | ⟨h2, a2, b2, c2⟩ | ⟨h2, a2, b2, c2⟩ <;>
  rcases sg_cases q r with ⟨h3, a3, b3, c3⟩ | ⟨h3, a3, b3, c3⟩ | ⟨h3, a3, b3, c3⟩ <;>
  rw [a1, b1, a2, b2, a3, b3, c1, c2] <;> omega
def scr (l : List Int) (p : Int) : Int := Sm l (sg p)
theorem sq_sum (l : List Int) (f : Int → Int) : Sm l f * Sm l f = Sm l fun q => Sm l fun r => f q * f r := by
  rw [← Sm_mulr]
  exact Sm_congr fun q _ => (Sm_mul _ _ _).symm
theorem triple (l : List Int) : 3 * Sm l (fun p => scr l p * scr l p) + Sm l (fun p => Sm l (eqi p) * Sm l (eqi p)) = (l.length : Int) ^ 3 := by
  have h1 : Sm l (fun p => scr l p * scr l p) = Sm l fun p => Sm l fun q => Sm l fun r => sg p q * sg p r := Sm_congr fun p _ => sq_sum l (sg p)
  have h2 : Sm l (fun p => scr l p * scr l p) = Sm l fun p => Sm l fun q => Sm l fun r => sg q p * sg q r := by
    rw [h1, Sm_swap]
  have h3 : Sm l (fun p => scr l p * scr l p) = Sm l fun p => Sm l fun q => Sm l fun r => sg r p * sg r q := by
    rw [h1, Sm_swap]
    refine Sm_congr fun p _ => ?_
    rw [Sm_swap]
  have h4 : Sm l (fun p => Sm l (eqi p) * Sm l (eqi p)) = Sm l fun p => Sm l fun q => Sm l fun r => eqi p q * eqi p r := Sm_congr fun p _ => sq_sum l (eqi p)
  have h5 : Sm l (fun p => Sm l fun q => Sm l fun r => sg p q * sg p r + sg q p * sg q r + sg r p * sg r q + eqi p q * eqi p r) = (l.length : Int) ^ 3 := by
    have : ∀ p q, Sm l (fun r => sg p q * sg p r + sg q p * sg q r + sg r p * sg r q + eqi p q * eqi p r) = (l.length : Int) := fun p q => by
      rw [Sm_congr (g := fun _ => 1) fun r _ => tri p q r, Sm_one]
    rw [Sm_congr (g := fun _ => (l.length : Int) * (l.length : Int)) fun p _ => by rw [Sm_congr (g := fun _ => (l.length : Int)) fun q _ => this p q, Sm_const], Sm_const]
    rw [Int.pow_succ, Int.pow_succ, Int.pow_succ, Int.pow_zero, Int.one_mul]
  have h6 : Sm l (fun p => Sm l fun q => Sm l fun r => sg p q * sg p r + sg q p * sg q r + sg r p * sg r q + eqi p q * eqi p r) =
      Sm l (fun p => Sm l fun q => Sm l fun r => sg p q * sg p r) + Sm l (fun p => Sm l fun q => Sm l fun r => sg q p * sg q r) + Sm l (fun p => Sm l fun q => Sm l fun r => sg r p * sg r q) + Sm l (fun p => Sm l fun q => Sm l fun r => eqi p q * eqi p r) := by
    rw [← Sm_add, ← Sm_add, ← Sm_add]
    refine Sm_congr fun p _ => ?_
    rw [← Sm_add, ← Sm_add, ← Sm_add]
    refine Sm_congr fun q _ => ?_
    rw [← Sm_add, ← Sm_add, ← Sm_add]
  rw [← h5, h6, ← h1, ← h2, ← h3, ← h4]
  omega
end Mine

end
section
namespace Mine
theorem len_filter (f : Int → Bool) : ∀ l : List Int, ((l.filter f).length : Int) = Sm l fun q => if f q = true then 1 else 0
  | [] => rfl
  | a :: l => by
    rw [Sm_cons, ← len_filter f l, List.filter_cons]
    split
    · rw [List.length_cons]; omega
    · omega
theorem scs_eq (l : List Int) : scs l = l.map (scr l) := by
  unfold scs
  refine List.map_congr_left fun p _ => ?_
  rw [len_filter, len_filter]
  unfold scr
  have : ∀ q, sg p q = (if decide (q < p) = true then 1 else 0) + -1 * (if decide (p < q) = true then 1 else 0) := fun q => by
    unfold sg
    simp only [decide_eq_true_eq]
    repeat' split
    all_goals omega
  rw [Sm_congr fun q _ => this q, Sm_add, Sm_mul]
  omega
theorem cnt_eq (l : List Int) (p : Int) : ((cntI l p : Nat) : Int) = Sm l (eqi p) := by
  unfold cntI
  rw [len_filter]
  refine Sm_congr fun q _ => ?_
  unfold eqi
  simp only [decide_eq_true_eq]
  repeat' split
  all_goals omega
theorem alk_eq (l : List Int) : alk l = Sm l fun p => Sm l (eqi p) * Sm l (eqi p) := by
  unfold alk
  show Sm l _ = _
  refine Sm_congr fun p _ => ?_
  rw [cnt_eq, Int.pow_succ, Int.pow_succ, Int.pow_zero, Int.one_mul]
theorem sqs_map (f : Int → Int) (l : List Int) : sqs (l.map f) = Sm l fun p => f p * f p := by
  unfold sqs Sm
  rw [List.map_map]
  rfl
theorem main_law (l : List Int) : 3 * sqs (scs l) + alk l = (l.length : Int) ^ 3 := by
  rw [scs_eq, sqs_map, alk_eq]
  exact triple l
/-- what is left by the difference -/
theorem sqs_nil : sqs [] = 0 := rfl
theorem sqs_cons (a : Int) (l : List Int) : sqs (a :: l) = a * a + sqs l := by unfold sqs; rw [List.map_cons, List.sum_cons]
theorem sqs_append (l : List Int) (a : Int) : sqs (l ++ [a]) = sqs l + a * a := by
  induction l with
  | nil => rw [List.nil_append, sqs_cons, sqs_nil]; omega
  | cons b l ih => rw [List.cons_append, sqs_cons, ih, sqs_cons]; omega
theorem sqs_perm {l l' : List Int} (p : l.Perm l') : sqs l = sqs l' := by
  induction p with
  | nil => rfl
  | cons a _ ih => rw [sqs_cons, sqs_cons, ih]
  | swap a b l => rw [sqs_cons, sqs_cons, sqs_cons, sqs_cons]; omega
  | trans _ _ i1 i2 => rw [i1, i2]
theorem uld_sq : ∀ (xs act mis : List Int), sqs (uldGo xs act mis).2 - sqs (uldGo xs act mis).1 = sqs act - sqs mis - sqs xs
  | [], act, mis => by
    show sqs act - sqs mis = _
    rw [sqs_nil]; omega
  | x :: xs, act, mis => by
    rw [uldGo]
    split
    · rename_i h
      rw [uld_sq xs, sqs_cons, sqs_perm (List.perm_cons_erase h), sqs_cons]
      omega
    · rw [uld_sq xs, sqs_append, sqs_cons]
      omega
theorem uld_mem : ∀ (xs act mis : List Int), (∀ n ∈ (uldGo xs act mis).1, n ∈ xs ∨ n ∈ mis) ∧ (∀ n ∈ (uldGo xs act mis).2, n ∈ act) ∧ (uldGo xs act mis).1.length ≤ xs.length + mis.length ∧ (uldGo xs act mis).2.length ≤ act.length
  | [], act, mis => ⟨fun _ h => .inr h, fun _ h => h, by show mis.length ≤ _; omega, Nat.le_refl _⟩
  | x :: xs, act, mis => by
    rw [uldGo]
    split
    · obtain ⟨a, b, c, d⟩ := uld_mem xs (act.erase x) mis
      refine ⟨fun n h => (a n h).imp (fun k => List.mem_cons_of_mem _ k) id, fun n h => List.mem_of_mem_erase (b n h), by rw [List.length_cons]; omega, Nat.le_trans d (List.length_erase_le ..)⟩
    · obtain ⟨a, b, c, d⟩ := uld_mem xs act (mis ++ [x])
      refine ⟨fun n h => ?_, b, by rw [List.length_append] at c; rw [List.length_cons]; show _ ≤ xs.length + 1 + mis.length; have : [x].length = 1 := rfl; omega, d⟩
      rcases a n h with k | k
      · exact .inl (List.mem_cons_of_mem _ k)
      · rcases List.mem_append.mp k with k | k
        · exact .inr k
        · rw [List.mem_singleton.mp k]; exact .inl (List.mem_cons_self ..)
theorem uld_perm : ∀ (xs act : List Int), xs.Perm act → uldGo xs act [] = ([], [])
  | [], act, p => by have e : act = [] := p.symm.eq_nil; subst e; rfl
  | x :: xs, act, p => by
    have hx : x ∈ act := p.subset (List.mem_cons_self ..)
    rw [uldGo, if_pos hx]
    exact uld_perm xs (act.erase x) (List.Perm.cons_inv (p.trans (List.perm_cons_erase hx)))

theorem Sm_perm {l l' : List Int} (p : l.Perm l') (f : Int → Int) : Sm l f = Sm l' f := by
  induction p with
  | nil => rfl
  | cons a _ ih => rw [Sm_cons, Sm_cons, ih]
  | swap a b l => rw [Sm_cons, Sm_cons, Sm_cons, Sm_cons]; omega
  | trans _ _ i1 i2 => rw [i1, i2]
theorem has_max : ∀ l : List Int, l ≠ [] → ∃ M ∈ l, ∀ x ∈ l, x ≤ M
  | [], h => absurd rfl h
  | [a], _ => ⟨a, List.mem_singleton.mpr rfl, fun x hx => by rw [List.mem_singleton.mp hx]; exact Int.le_refl _⟩
  | a :: b :: l, _ => by
    obtain ⟨M, hM, h⟩ := has_max (b :: l) (by simp)
    by_cases k : M ≤ a
    · refine ⟨a, List.mem_cons_self .., fun x hx => ?_⟩
      rcases List.mem_cons.mp hx with rfl | hx
      · exact Int.le_refl _
      · exact Int.le_trans (h x hx) k
    · refine ⟨M, List.mem_cons_of_mem _ hM, fun x hx => ?_⟩
      rcases List.mem_cons.mp hx with rfl | hx
      · omega
      · exact h x hx
/-- the scores of n different numbers -/
def canon : Nat → List Int
  | 0 => []
  | n + 1 => (n : Int) :: (canon n).map (· + -1)
theorem canon_of : ∀ (n : Nat) (l : List Int), l.length = n → l.Nodup → (scs l).Perm (canon n)
  | 0, l, hl, _ => by
    have : l = [] := List.length_eq_zero_iff.mp hl
    subst this
    exact .nil
  | n + 1, l, hl, hn => by
    obtain ⟨M, hM, hx⟩ := has_max l (by intro q; rw [q] at hl; cases hl)
    have p := List.perm_cons_erase hM
    have hl' : (l.erase M).length = n := by rw [List.length_erase_of_mem hM, hl]; rfl
    have hn' : (M :: l.erase M).Nodup := p.nodup_iff.mp hn
    have hlt : ∀ x ∈ l.erase M, x < M := fun x k => by
      have h1 := hx x (List.mem_of_mem_erase k)
      have h2 : x ≠ M := fun q => by
        rw [q] at k
        exact (List.nodup_cons.mp hn').1 k
      omega
    have ih := canon_of n (l.erase M) hl' (List.nodup_cons.mp hn').2
    rw [scs_eq] at ih ⊢
    have e1 : ∀ x, scr l x = sg x M + scr (l.erase M) x := fun x => by
      unfold scr
      rw [Sm_perm p, Sm_cons]
    have e2 : scr l M = (n : Int) := by
      rw [e1]
      unfold scr
      rw [Sm_congr (g := fun _ => 1) fun x k => by
        have := hlt x k
        unfold sg
        rw [if_pos this], Sm_one, hl']
      have : sg M M = 0 := by unfold sg; rw [if_neg (Int.lt_irrefl _), if_neg (Int.lt_irrefl _)]
      rw [this]; omega
    have e3 : (l.erase M).map (scr l) = ((l.erase M).map (scr (l.erase M))).map (· + -1) := by
      rw [List.map_map]
      refine List.map_congr_left fun x k => ?_
      show scr l x = scr (l.erase M) x + -1
      rw [e1]
      have := hlt x k
      have h2 : sg x M = -1 := by unfold sg; rw [if_neg (by omega), if_pos this]
      rw [h2]; omega
    refine (p.map (scr l)).trans ?_
    rw [List.map_cons, e2, e3]
    exact (ih.map _).cons _
end Mine

end
section
namespace Mine
theorem Sm_map (v : Int → Int) (l : List Int) (f : Int → Int) : Sm (l.map v) f = Sm l fun a => f (v a) := by
  unfold Sm; rw [List.map_map]; rfl
theorem row_eq (f : Int → PySem.Str) (v : Int → Int) (dn : List Int) (hO : ∀ a ∈ dn, ∀ b ∈ dn, cmpS (f a) (f b) = sg (v a) (v b)) : rowOf f dn = scs (dn.map v) := by
  rw [scs_eq]
  unfold rowOf
  rw [List.map_map, List.map_map]
  refine List.map_congr_left fun a ha => ?_
  show sumCmp (dn.map f) (f a) = scr (dn.map v) (v a)
  unfold sumCmp scr
  rw [List.map_map, Sm_map]
  show Sm dn (fun b => cmpS (f a) (f b)) = _
  exact Sm_congr fun b hb => hO a ha b hb
theorem eqi_nonneg (p q : Int) : 0 ≤ eqi p q := by unfold eqi; split <;> omega
theorem Sm_nonneg {f : Int → Int} (h : ∀ q, 0 ≤ f q) : ∀ l, 0 ≤ Sm l f
  | [] => Int.le_refl _
  | a :: l => by rw [Sm_cons]; have := h a; have := Sm_nonneg h l; omega
theorem cnt_pos {p : Int} : ∀ {l : List Int}, p ∈ l → 1 ≤ Sm l (eqi p)
  | a :: l, h => by
    rw [Sm_cons]
    have h0 := Sm_nonneg (eqi_nonneg p) l
    have h1 := eqi_nonneg p a
    rcases List.mem_cons.mp h with rfl | h
    · have : eqi p p = 1 := by unfold eqi; rw [if_pos rfl]
      omega
    · have := cnt_pos h; omega
theorem nodup_of : ∀ {l : List Int}, (∀ p ∈ l, Sm l (eqi p) ≤ 1) → l.Nodup
  | [], _ => List.nodup_nil
  | a :: l, h => by
    refine List.nodup_cons.mpr ⟨fun k => ?_, nodup_of fun p hp => ?_⟩
    · have h1 := h a (List.mem_cons_self ..)
      rw [Sm_cons] at h1
      have h2 := cnt_pos k
      have : eqi a a = 1 := by unfold eqi; rw [if_pos rfl]
      omega
    · have h1 := h p (List.mem_cons_of_mem _ hp)
      rw [Sm_cons] at h1
      have := eqi_nonneg p a
      omega
theorem sum_ge_len {f : Int → Int} : ∀ {l : List Int}, (∀ p ∈ l, 1 ≤ f p) → (l.length : Int) ≤ Sm l f ∧ (Sm l f = (l.length : Int) → ∀ p ∈ l, f p = 1)
  | [], _ => ⟨Int.le_refl _, fun _ p h => nomatch h⟩
  | a :: l, h => by
    obtain ⟨h1, h2⟩ := sum_ge_len fun p hp => h p (List.mem_cons_of_mem _ hp)
    have h3 := h a (List.mem_cons_self ..)
    rw [Sm_cons, List.length_cons]
    refine ⟨by omega, fun e p hp => ?_⟩
    rcases List.mem_cons.mp hp with rfl | hp
    · omega
    · exact h2 (by omega) p hp
theorem nodup_alk {l : List Int} (h : alk l = (l.length : Int)) : l.Nodup := by
  rw [alk_eq] at h
  have hsq : ∀ {x : Int}, 1 ≤ x → 1 ≤ x * x ∧ (x * x = 1 → x = 1) := fun {x} hx => by
    have h1 : x * 1 ≤ x * x := Int.mul_le_mul_of_nonneg_left hx (by omega)
    rw [Int.mul_one] at h1
    exact ⟨by omega, fun e => by omega⟩
  have := (sum_ge_len (f := fun p => Sm l (eqi p) * Sm l (eqi p)) fun p hp => (hsq (cnt_pos hp)).1).2 h
  exact nodup_of fun p hp => by rw [(hsq (cnt_pos hp)).2 (this p hp)]; exact Int.le_refl _
theorem alk_map {v : Int → Int} {l : List Int} (hv : ∀ a ∈ l, ∀ b ∈ l, v a = v b → a = b) : alk (l.map v) = alk l := by
  rw [alk_eq, alk_eq, Sm_map]
  refine Sm_congr fun p hp => ?_
  have : Sm (l.map v) (eqi (v p)) = Sm l (eqi p) := by
    rw [Sm_map]
    refine Sm_congr fun q hq => ?_
    unfold eqi
    by_cases e : p = q
    · rw [if_pos e, if_pos (by rw [e])]
    · rw [if_neg e, if_neg fun k => e (hv p hp q hq k)]
  rw [this]
theorem nodup_map {v : Int → Int} : ∀ {l : List Int}, (l.map v).Nodup → l.Nodup
  | [], _ => List.nodup_nil
  | a :: l, h => by
    rw [List.map_cons] at h
    obtain ⟨h1, h2⟩ := List.nodup_cons.mp h
    exact List.nodup_cons.mpr ⟨fun k => h1 (List.mem_map_of_mem k), nodup_map h2⟩
theorem nodup_inj {v : Int → Int} : ∀ {l : List Int}, (∀ a ∈ l, ∀ b ∈ l, v a = v b → a = b) → l.Nodup → (l.map v).Nodup
  | [], _, _ => List.nodup_nil
  | a :: l, hv, h => by
    obtain ⟨h1, h2⟩ := List.nodup_cons.mp h
    rw [List.map_cons]
    refine List.nodup_cons.mpr ⟨fun k => ?_, nodup_inj (fun x hx y hy => hv x (List.mem_cons_of_mem _ hx) y (List.mem_cons_of_mem _ hy)) h2⟩
    obtain ⟨b, hb, e⟩ := List.mem_map.mp k
    have := hv b (List.mem_cons_of_mem _ hb) a (List.mem_cons_self ..) e
    rw [← this] at h1
    exact h1 hb
theorem sg_bound (a b : Int) : -1 ≤ sg a b ∧ sg a b ≤ 1 := by unfold sg; repeat' split
                                                              all_goals omega
theorem Sm_bound {f : Int → Int} (h : ∀ q, -1 ≤ f q ∧ f q ≤ 1) : ∀ l, -(l.length : Int) ≤ Sm l f ∧ Sm l f ≤ (l.length : Int)
  | [] => ⟨Int.le_refl _, Int.le_refl _⟩
  | a :: l => by
    rw [Sm_cons, List.length_cons]
    have h1 := h a
    have h2 := Sm_bound h l
    omega
theorem scs_bound {l : List Int} (hl : l.length ≤ 6) : ∀ n ∈ scs l, -1000 ≤ n ∧ n ≤ 1000 := by
  rw [scs_eq]
  intro n hn
  obtain ⟨p, _, rfl⟩ := List.mem_map.mp hn
  have := Sm_bound (fun q => sg_bound p q) l
  unfold scr
  omega
theorem math_of {dn : List Int} (hl : dn.length ≤ 6) (c : Int → Int) (hc : c = fun g => octF (g.fdiv 256) * 65536 + octF (g.fmod 256))
    (O1 : ∀ a ∈ dn, ∀ b ∈ dn, cmpS (fmText a) (fmText b) = sg (plAt a 3) (plAt b 3)) (O2 : ∀ a ∈ dn, ∀ b ∈ dn, cmpS (wdOf a) (wdOf b) = sg (c a) (c b)) (inj : ∀ a ∈ dn, ∀ b ∈ dn, c a = c b → a = b) : Math dn := by
  have r1 := row_eq fmText (fun f => plAt f 3) dn O1
  have r2 := row_eq wdOf c dn O2
  have l1 : (dn.map fun f => plAt f 3).length = dn.length := List.length_map ..
  have l2 : (dn.map c).length = dn.length := List.length_map ..
  have a2 := alk_map inj
  have e1 := main_law (dn.map fun f => plAt f 3)
  have e2 := main_law (dn.map c)
  rw [← r1, l1] at e1
  rw [← r2, l2, a2] at e2
  have b1 : ∀ n ∈ rowOf fmText dn, -1000 ≤ n ∧ n ≤ 1000 := by rw [r1]; exact scs_bound (by omega)
  have b2 : ∀ n ∈ rowOf wdOf dn, -1000 ≤ n ∧ n ≤ 1000 := by rw [r2]; exact scs_bound (by omega)
  obtain ⟨u1, u2, u3, u4⟩ := uld_mem (rowOf fmText dn).reverse (rowOf wdOf dn) []
  have z1 : (rowOf fmText dn).length = dn.length := by rw [List.length_map, List.length_map]
  have z2 : (rowOf wdOf dn).length = dn.length := by rw [List.length_map, List.length_map]
  refine ⟨e1, e2, r1, hc ▸ r2, fun h => ?_, ?_, b1, b2, fun n hn => ?_, fun n hn => b2 n (u2 n hn), ?_, by omega⟩
  · have n1 : (dn.map fun f => plAt f 3).Nodup := nodup_alk (by rw [h, l1])
    have n2 : (dn.map c).Nodup := nodup_inj inj (nodup_map n1)
    have p1 := canon_of dn.length _ l1 n1
    have p2 := canon_of dn.length _ l2 n2
    have : uldGo (rowOf fmText dn).reverse (rowOf wdOf dn) [] = ([], []) := uld_perm _ _ (by
      rw [r1, r2]
      exact (List.reverse_perm _).trans (p1.trans p2.symm))
    rw [this]
    exact ⟨rfl, rfl⟩
  · rw [uld_sq, sqs_perm (List.reverse_perm _), sqs_nil]
    omega
  · rcases u1 n hn with k | k
    · exact b1 n (List.mem_reverse.mp k)
    · cases k
  · rw [List.length_reverse, z1] at u3
    have : ([] : List Int).length = 0 := rfl
    omega
end Mine

end
section
set_option maxRecDepth 100000
namespace Mine
open PySem PyProof.Rows
/-- the first sign of an octet's writing, and whether more follow -/
def fst8 (c : Nat) : Nat := (octF (c : Int)).toNat / 256
def low8 (c : Nat) : Nat := (octF (c : Int)).toNat % 256
theorem enc_is : ((List.range 256).all fun c => decide ((encS c).cps.toList = fst8 c :: (if fst8 c = 61 then [hexd (c / 16), hexd (c % 16)] else [])) && (decide (low8 c = (if fst8 c = 61 then c else 0)) && decide (octF (c : Int) = ((fst8 c * 256 + low8 c : Nat) : Int)))) = true := by decide +kernel

def inv8 (n : Nat) : Nat := if n / 256 = 61 then n % 256 else if n / 256 = 95 then 32 else n / 256
theorem inv_is : ((List.range 256).all fun c => decide (inv8 (fst8 c * 256 + low8 c) = c) && decide (fst8 c < 256)) = true := by decide +kernel
def E8 (c : Nat) : List Nat := (encS c).cps.toList
def oct8 (c : Nat) : Nat := fst8 c * 256 + low8 c
theorem at8 {c : Nat} (h : c < 256) : E8 c = fst8 c :: (if fst8 c = 61 then [hexd (c / 16), hexd (c % 16)] else []) ∧ low8 c = (if fst8 c = 61 then c else 0) ∧ octF (c : Int) = (oct8 c : Nat) ∧ inv8 (oct8 c) = c ∧ fst8 c < 256 := by
  have h1 := List.all_eq_true.mp enc_is c (List.mem_range.mpr h)
  have h2 := List.all_eq_true.mp inv_is c (List.mem_range.mpr h)
  rw [Bool.and_eq_true, Bool.and_eq_true, decide_eq_true_eq, decide_eq_true_eq, decide_eq_true_eq] at h1
  rw [Bool.and_eq_true, decide_eq_true_eq, decide_eq_true_eq] at h2
  exact ⟨h1.1, h1.2.1, h1.2.2, h2.1, h2.2⟩
theorem hexd_val {n : Nat} : hexd n = if n < 10 then 48 + n else 55 + n := by
  unfold hexd
  by_cases h : n < 10
  · rw [if_pos h, show Nat.blt n 10 = true from by simpa using h]
  · rw [if_neg h, show Nat.blt n 10 = false from Bool.eq_false_iff.mpr fun k => h (by simpa using k)]
theorem hexd_lt {x y : Nat} : (hexd x < hexd y ↔ x < y) ∧ (hexd x = hexd y ↔ x = y) := by
  rw [hexd_val, hexd_val]
  constructor <;> (repeat' split) <;> omega
theorem step8 {a b : Nat} (ha : a < 256) (hb : b < 256) (r r' : List Nat) : E8 a ++ r < E8 b ++ r' ↔ oct8 a < oct8 b ∨ (a = b ∧ r < r') := by
  obtain ⟨a1, a2, _, a4, a5⟩ := at8 ha
  obtain ⟨b1, b2, _, b4, b5⟩ := at8 hb
  have inj : oct8 a = oct8 b → a = b := fun e => by rw [← a4, ← b4, e]
  rw [a1, b1, List.cons_append, List.cons_append, List.cons_lt_cons_iff]
  unfold oct8 at inj ⊢
  by_cases hf : fst8 a = fst8 b
  · by_cases h61 : fst8 a = 61
    · rw [if_pos h61] at a2 ⊢
      rw [if_pos (hf ▸ h61)] at b2 ⊢
      show _ ∨ _ ∧ hexd (a / 16) :: hexd (a % 16) :: ([] ++ r) < hexd (b / 16) :: hexd (b % 16) :: ([] ++ r') ↔ _
      rw [List.nil_append, List.nil_append, List.cons_lt_cons_iff, List.cons_lt_cons_iff, hexd_lt.1, hexd_lt.1, hexd_lt.2, hexd_lt.2, a2, b2, hf]
      constructor
      · rintro (h | ⟨_, h | ⟨h1, h | ⟨h2, h⟩⟩⟩)
        · exact absurd h (Nat.lt_irrefl _)
        · exact .inl (by omega)
        · exact .inl (by omega)
        · exact .inr ⟨by omega, h⟩
      · rintro (h | ⟨rfl, h⟩)
        · refine .inr ⟨rfl, ?_⟩
          by_cases k : a / 16 < b / 16
          · exact .inl k
          · exact .inr ⟨by omega, .inl (by omega)⟩
        · exact .inr ⟨rfl, .inr ⟨rfl, .inr ⟨rfl, h⟩⟩⟩
    · rw [if_neg h61] at a2 ⊢
      rw [if_neg (hf ▸ h61)] at b2 ⊢
      rw [List.nil_append, List.nil_append]
      have e : a = b := inj (by rw [a2, b2, hf])
      constructor
      · rintro (h | ⟨_, h⟩)
        · omega
        · exact .inr ⟨e, h⟩
      · rintro (h | ⟨_, h⟩)
        · omega
        · exact .inr ⟨hf, h⟩
  · have la : low8 a < 256 := by rw [a2]; split <;> omega
    have lb : low8 b < 256 := by rw [b2]; split <;> omega
    constructor
    · rintro (h | ⟨h, _⟩)
      · exact .inl (by omega)
      · exact absurd h hf
    · rintro (h | ⟨h, _⟩)
      · exact .inl (by omega)
      · exact absurd (by rw [h]) hf
theorem pre_lt : ∀ (p l m : List Nat), p ++ l < p ++ m ↔ l < m
  | [], _, _ => Iff.rfl
  | a :: p, l, m => by
    rw [List.cons_append, List.cons_append, List.cons_lt_cons_iff, pre_lt p l m]
    exact ⟨fun h => h.elim (fun k => absurd k (Nat.lt_irrefl _)) fun k => k.2, fun h => .inr ⟨rfl, h⟩⟩
theorem word_list (a b : Nat) : (wordOf a b).cps.toList = [61, 63, 105, 115, 111, 45, 56, 56, 53, 57, 45, 49, 63, 113, 63] ++ (E8 a ++ (E8 b ++ [63, 61])) := by
  show (((((PySem.Str.empty.cps ++ (Str.ofString "=?").cps) ++ (Str.ofString "iso-8859-1").cps) ++ (Str.ofString "?q?").cps) ++ ((encS a).cps ++ (encS b).cps)) ++ (Str.ofString "?=").cps).toList = _
  have e1 : (((PySem.Str.empty.cps ++ (Str.ofString "=?").cps) ++ (Str.ofString "iso-8859-1").cps) ++ (Str.ofString "?q?").cps).toList = [61, 63, 105, 115, 111, 45, 56, 56, 53, 57, 45, 49, 63, 113, 63] := by decide +kernel
  have e2 : (Str.ofString "?=").cps.toList = [63, 61] := by decide +kernel
  rw [Array.toList_append, Array.toList_append, e1, e2, Array.toList_append]
  unfold E8
  rw [List.append_assoc, List.append_assoc]
theorem cmp_sg {x y : PySem.Str} {p q : Int} (h1 : x.cps.toList < y.cps.toList ↔ p < q) (h2 : y.cps.toList < x.cps.toList ↔ q < p) : cmpS x y = sg p q := by
  unfold cmpS sg
  rw [b2i_decide, b2i_decide]
  by_cases k1 : q < p
  · rw [if_pos (h2.mpr k1), if_pos k1, if_neg fun k => absurd (h1.mp k) (by omega)]; rfl
  · by_cases k2 : p < q
    · rw [if_neg fun k => k1 (h2.mp k), if_pos (h1.mpr k2), if_neg k1, if_pos k2]; rfl
    · rw [if_neg fun k => k1 (h2.mp k), if_neg fun k => k2 (h1.mp k), if_neg k1, if_neg k2]; rfl
def cInt (g : Int) : Int := octF (g.fdiv 256) * 65536 + octF (g.fmod 256)
theorem parts {n : Int} (h0 : 0 ≤ n) (h1 : n < 65536) : ∃ a b : Nat, a < 256 ∧ b < 256 ∧ n = 256 * (a : Int) + b ∧ wdOf n = wordOf a b ∧ cInt n = (oct8 a : Int) * 65536 + (oct8 b : Nat) := by
  have e1 : n.fdiv 256 = n / 256 := Int.fdiv_eq_ediv_of_nonneg _ (by decide)
  have e2 : n.fmod 256 = n % 256 := Int.fmod_eq_emod_of_nonneg _ (by decide)
  refine ⟨(n / 256).toNat, (n % 256).toNat, by omega, by omega, by omega, ?_, ?_⟩
  · unfold wdOf
    rw [e1, e2]
    have t : ∀ k : Nat, k < 256 → k.toUInt8.toNat = k := fun k hk => by
      show k % 256 = k
      omega
    rw [t _ (by omega), t _ (by omega)]
  · unfold cInt
    rw [e1, e2]
    have x1 := (at8 (c := (n / 256).toNat) (by omega)).2.2.1
    have x2 := (at8 (c := (n % 256).toNat) (by omega)).2.2.1
    rw [Int.toNat_of_nonneg (by omega)] at x1 x2
    rw [x1, x2]
theorem oct8_lt {c : Nat} (h : c < 256) : oct8 c < 65536 := by
  obtain ⟨_, a2, _, _, a5⟩ := at8 h
  have : low8 c < 256 := by rw [a2]; split <;> omega
  unfold oct8
  omega
theorem word_lt {n k : Int} (h0 : 0 ≤ n) (h1 : n < 65536) (k0 : 0 ≤ k) (k1 : k < 65536) : (wdOf n).cps.toList < (wdOf k).cps.toList ↔ cInt n < cInt k := by
  obtain ⟨a, b, ha, hb, e1, e2, e3⟩ := parts h0 h1
  obtain ⟨c, d, hc, hd, f1, f2, f3⟩ := parts k0 k1
  have o1 := oct8_lt ha
  have o2 := oct8_lt hb
  have o3 := oct8_lt hc
  have o4 := oct8_lt hd
  rw [e2, f2, word_list, word_list, pre_lt, step8 ha hc, step8 hb hd, e3, f3]
  have irr : ¬ ([63, 61] : List Nat) < [63, 61] := by decide
  constructor
  · rintro (h | ⟨rfl, h | ⟨rfl, h⟩⟩)
    · omega
    · omega
    · exact absurd h irr
  · intro h
    by_cases q : oct8 a < oct8 c
    · exact .inl q
    · have e : oct8 a = oct8 c := by omega
      have : a = c := by rw [← (at8 ha).2.2.2.1, ← (at8 hc).2.2.2.1, e]
      exact .inr ⟨this, .inl (by omega)⟩
theorem c_inj {n k : Int} (h0 : 0 ≤ n) (h1 : n < 65536) (k0 : 0 ≤ k) (k1 : k < 65536) (h : cInt n = cInt k) : n = k := by
  obtain ⟨a, b, ha, hb, e1, e2, e3⟩ := parts h0 h1
  obtain ⟨c, d, hc, hd, f1, f2, f3⟩ := parts k0 k1
  have o1 := oct8_lt ha
  have o2 := oct8_lt hb
  have o3 := oct8_lt hc
  have o4 := oct8_lt hd
  have q1 : oct8 a = oct8 c := by omega
  have q2 : oct8 b = oct8 d := by omega
  have p1 : a = c := by rw [← (at8 ha).2.2.2.1, ← (at8 hc).2.2.2.1, q1]
  have p2 : b = d := by rw [← (at8 hb).2.2.2.1, ← (at8 hd).2.2.2.1, q2]
  rw [e1, f1, p1, p2]
end Mine

end
section
set_option maxRecDepth 100000
namespace Mine
open PySem PyProof.Rows
theorem join_flat0 : ∀ l : List PySem.Str, (Str.join (Str.ofString "") l).cps.toList = (l.map fun x => x.cps.toList).flatten
  | [] => rfl
  | [x] => by
    show x.cps.toList = _
    simp
  | x :: y :: l => by
    have ih := join_flat0 (y :: l)
    show ((x.cps ++ (Str.ofString "").cps) ++ (Str.join (Str.ofString "") (y :: l)).cps).toList = _
    have e : (Str.ofString "").cps = #[] := by decide +kernel
    rw [e, Array.append_empty, Array.toList_append, ih]
    rfl
theorem join_flat (l : List PySem.Str) : (Txt.join (Str.ofString "") l).cps.toList = (l.map fun x => x.cps.toList).flatten := by
  unfold Txt.join
  rw [StrLaws.glued_eq_join, join_flat0]
def bt (m k : Nat) : Nat := m / 2 ^ k % 2
theorem bt2 (m k : Nat) : bt m k = 0 ∨ bt m k = 1 := by unfold bt; omega
theorem and_bt (m k : Nat) : m &&& 2 ^ k = bt m k * 2 ^ k := PySem.W.kbt_nat k m
theorem bitAnd_nat (m c : Nat) : Builtin.bitAnd (m : Int) (c : Int) = ((m &&& c : Nat) : Int) := by
  unfold Builtin.bitAnd
  rw [show decide (0 ≤ (m : Int)) = true from by simp, show decide (0 ≤ (c : Int)) = true from by simp]
  simp
def gB (c : Nat) (b : Nat) : Nat := if b = 0 then 45 else c
def gX (hi lo : Nat) (r : Nat) : Nat := if r = 0 then 45 else if r = 1 then hi else if r = 2 then lo else 120
def rX (hi lo : Nat) : Nat := [0, 3, 1, 2].getD (lo + 2 * hi) 0
theorem pick1 {i m k : Nat} {c : PySem.Str} {n : Nat} (hi : i ≠ 0) (hc : c.cps.toList = [n]) {b : Int} (hb : b = ((2 ^ k : Nat) : Int)) : (pick i (m : Int) [(b, c)]).cps.toList = [gB n (bt m k)] := by
  subst hb
  unfold pick
  have e : hits i (m : Int) ((2 ^ k : Nat) : Int) = decide (bt m k = 1) := by
    unfold hits
    rw [if_neg hi, bitAnd_nat, and_bt]
    have h2 : 0 < 2 ^ k := Nat.two_pow_pos k
    rcases bt2 m k with h | h <;> rw [h]
    · rw [Nat.zero_mul]
      have : ¬ ((0 : Nat) : Int) = ((2 ^ k : Nat) : Int) := by omega
      simpa using this
    · rw [Nat.one_mul]; simp
  rw [List.find?_cons]
  show (match (match hits i (m : Int) ((2 ^ k : Nat) : Int) with | true => some (((2 ^ k : Nat) : Int), c) | false => [].find? _) with | some p => p.2 | none => _).cps.toList = _
  rw [e]
  rcases bt2 m k with h | h <;> rw [h]
  · show (if i = 0 then Str.ofString "?" else Str.ofString "-").cps.toList = _
    rw [if_neg hi]
    show (Str.ofString "-").cps.toList = [45]
    decide +kernel
  · exact hc

theorem hit_eq {i m : Nat} (hi : i ≠ 0) (c : Nat) : hits i (m : Int) (c : Int) = decide (m &&& c = c) := by
  unfold hits
  rw [if_neg hi, bitAnd_nat]
  by_cases h : m &&& c = c
  · rw [decide_eq_true h, h]; simp
  · rw [decide_eq_false h]
    have : ¬ ((m &&& c : Nat) : Int) = (c : Int) := by omega
    simpa using this
theorem pick3 {i m a b : Nat} {s S x : PySem.Str} {lo hi' : Nat} (hi : i ≠ 0) (hab : 2 ^ a ||| 2 ^ b = 2 ^ a + 2 ^ b) (hne : a ≠ b)
    (hs : s.cps.toList = [lo]) (hS : S.cps.toList = [hi']) (hx : x.cps.toList = [120]) {b1 b2 b3 : Int} (h1 : b1 = ((2 ^ a + 2 ^ b : Nat) : Int)) (h2 : b2 = ((2 ^ a : Nat) : Int)) (h3 : b3 = ((2 ^ b : Nat) : Int)) :
    (pick i (m : Int) [(b1, s), (b2, S), (b3, x)]).cps.toList = [gX hi' lo (rX (bt m a) (bt m b))] := by
  subst h1 h2 h3
  have pa : 0 < 2 ^ a := Nat.two_pow_pos a
  have pb : 0 < 2 ^ b := Nat.two_pow_pos b
  have e2 : (m &&& 2 ^ a = 2 ^ a) = (bt m a = 1) := propext (by
    rw [and_bt]
    rcases bt2 m a with h | h <;> rw [h]
    · rw [Nat.zero_mul]; constructor <;> intro k <;> omega
    · rw [Nat.one_mul]; simp)
  have e3 : (m &&& 2 ^ b = 2 ^ b) = (bt m b = 1) := propext (by
    rw [and_bt]
    rcases bt2 m b with h | h <;> rw [h]
    · rw [Nat.zero_mul]; constructor <;> intro k <;> omega
    · rw [Nat.one_mul]; simp)
  have e1 : (m &&& (2 ^ a + 2 ^ b) = 2 ^ a + 2 ^ b) = (bt m a = 1 ∧ bt m b = 1) := propext (by
    rw [← hab, Nat.and_or_distrib_left, and_bt, and_bt]
    rcases bt2 m a with h | h <;> rcases bt2 m b with k | k <;> rw [h, k]
    · rw [Nat.zero_mul, Nat.zero_mul, hab]; constructor
      · intro q; simp at q; omega
      · intro q; omega
    · rw [Nat.zero_mul, Nat.one_mul, hab]; constructor
      · intro q
        simp only [Nat.zero_or, Nat.or_zero] at q
        omega
      · intro q; omega
    · rw [Nat.zero_mul, Nat.one_mul, hab]; constructor
      · intro q
        simp only [Nat.zero_or, Nat.or_zero] at q
        omega
      · intro q; omega
    · rw [Nat.one_mul, Nat.one_mul]; simp)
  unfold pick
  rw [List.find?_cons, List.find?_cons, List.find?_cons, List.find?_nil]
  dsimp only
  rw [hit_eq hi, hit_eq hi, hit_eq hi]
  simp only [e1, e2, e3]
  rcases bt2 m a with h | h <;> rcases bt2 m b with k | k <;> rw [h, k]
  · show (if i = 0 then Str.ofString "?" else Str.ofString "-").cps.toList = [45]
    rw [if_neg hi]
    decide +kernel
  · exact hx
  · exact hS
  · exact hs
end Mine

end
section
set_option maxRecDepth 100000
namespace Mine
open PySem PyProof.Rows
def kdT : List Nat := [1, 6, 3, 1, 4, 1, 2, 1, 0, 1, 5, 1, 7, 1, 1, 1]
def kd (m : Nat) : Nat := kdT.getD (m / 4096 % 16) 0
def gK (d : Nat) : Nat := [45, 63, 98, 99, 100, 108, 112, 115].getD d 0
theorem and_hi (m : Nat) : m &&& 61440 = 4096 * (m / 4096 % 16) := by
  have e : (61440 : Nat) = 2 ^ 12 ||| 2 ^ 13 ||| 2 ^ 14 ||| 2 ^ 15 := by decide
  have q : m / 4096 % 16 = bt m 12 + 2 * bt m 13 + 4 * bt m 14 + 8 * bt m 15 := by
    unfold bt
    have h1 : (2 : Nat) ^ 12 = 4096 := rfl
    have h2 : (2 : Nat) ^ 13 = 8192 := rfl
    have h3 : (2 : Nat) ^ 14 = 16384 := rfl
    have h4 : (2 : Nat) ^ 15 = 32768 := rfl
    rw [h1, h2, h3, h4]
    omega
  rw [e, Nat.and_or_distrib_left, Nat.and_or_distrib_left, Nat.and_or_distrib_left, and_bt, and_bt, and_bt, and_bt, q]
  rcases bt2 m 12 with h1 | h1 <;> rcases bt2 m 13 with h2 | h2 <;> rcases bt2 m 14 with h3 | h3 <;> rcases bt2 m 15 with h4 | h4 <;> rw [h1, h2, h3, h4] <;> rfl
def pickV (v : Int) (ps : List (Int × Str)) : Str := match ps.find? (fun p => v == p.1) with
  | some p => p.2
  | none => Str.ofString "?"
theorem pick0_all : ((List.range 16).all fun q => decide ((pickV ((4096 * q : Nat) : Int) (fmT.getD 0 [])).cps.toList = [gK (kdT.getD q 0)])) = true := by decide +kernel
theorem pick0 (m : Nat) : (pick 0 (m : Int) (fmT.getD 0 [])).cps.toList = [gK (kd m)] := by
  have e : pick 0 (m : Int) (fmT.getD 0 []) = pickV (Builtin.bitAnd (m : Int) ((61440 : Nat) : Int)) (fmT.getD 0 []) := rfl
  rw [e, bitAnd_nat, and_hi]
  exact decide_eq_true_eq.mp (List.all_eq_true.mp pick0_all (m / 4096 % 16) (List.mem_range.mpr (Nat.mod_lt _ (by decide))))
theorem text_list (m : Nat) : (fmText (m : Int)).cps.toList = [gK (kd m), gB 114 (bt m 8), gB 119 (bt m 7), gX 83 115 (rX (bt m 11) (bt m 6)), gB 114 (bt m 5), gB 119 (bt m 4), gX 83 115 (rX (bt m 10) (bt m 3)), gB 114 (bt m 2), gB 119 (bt m 1), gX 84 116 (rX (bt m 9) (bt m 0))] := by
  unfold fmText
  rw [join_flat]
  show [(pick 0 (m : Int) (fmT.getD 0 [])).cps.toList, (pick 1 (m : Int) [(256, Str.ofString "r")]).cps.toList, (pick 2 (m : Int) [(128, Str.ofString "w")]).cps.toList, (pick 3 (m : Int) [(2112, Str.ofString "s"), (2048, Str.ofString "S"), (64, Str.ofString "x")]).cps.toList,
    (pick 4 (m : Int) [(32, Str.ofString "r")]).cps.toList, (pick 5 (m : Int) [(16, Str.ofString "w")]).cps.toList, (pick 6 (m : Int) [(1032, Str.ofString "s"), (1024, Str.ofString "S"), (8, Str.ofString "x")]).cps.toList,
    (pick 7 (m : Int) [(4, Str.ofString "r")]).cps.toList, (pick 8 (m : Int) [(2, Str.ofString "w")]).cps.toList, (pick 9 (m : Int) [(513, Str.ofString "t"), (512, Str.ofString "T"), (1, Str.ofString "x")]).cps.toList].flatten = _
  have q1 : (pick 1 (m : Int) [(256, Str.ofString "r")]).cps.toList = [gB 114 (bt m 8)] := pick1 (by decide) (by decide +kernel) rfl
  have q2 : (pick 2 (m : Int) [(128, Str.ofString "w")]).cps.toList = [gB 119 (bt m 7)] := pick1 (by decide) (by decide +kernel) rfl
  have q4 : (pick 4 (m : Int) [(32, Str.ofString "r")]).cps.toList = [gB 114 (bt m 5)] := pick1 (by decide) (by decide +kernel) rfl
  have q5 : (pick 5 (m : Int) [(16, Str.ofString "w")]).cps.toList = [gB 119 (bt m 4)] := pick1 (by decide) (by decide +kernel) rfl
  have q7 : (pick 7 (m : Int) [(4, Str.ofString "r")]).cps.toList = [gB 114 (bt m 2)] := pick1 (by decide) (by decide +kernel) rfl
  have q8 : (pick 8 (m : Int) [(2, Str.ofString "w")]).cps.toList = [gB 119 (bt m 1)] := pick1 (by decide) (by decide +kernel) rfl
  have q3 : (pick 3 (m : Int) [(2112, Str.ofString "s"), (2048, Str.ofString "S"), (64, Str.ofString "x")]).cps.toList = [gX 83 115 (rX (bt m 11) (bt m 6))] := pick3 (by decide) (by decide) (by decide) (by decide +kernel) (by decide +kernel) (by decide +kernel) rfl rfl rfl
  have q6 : (pick 6 (m : Int) [(1032, Str.ofString "s"), (1024, Str.ofString "S"), (8, Str.ofString "x")]).cps.toList = [gX 83 115 (rX (bt m 10) (bt m 3))] := pick3 (by decide) (by decide) (by decide) (by decide +kernel) (by decide +kernel) (by decide +kernel) rfl rfl rfl
  have q9 : (pick 9 (m : Int) [(513, Str.ofString "t"), (512, Str.ofString "T"), (1, Str.ofString "x")]).cps.toList = [gX 84 116 (rX (bt m 9) (bt m 0))] := pick3 (by decide) (by decide) (by decide) (by decide +kernel) (by decide +kernel) (by decide +kernel) rfl rfl rfl
  rw [pick0, q1, q2, q3, q4, q5, q6, q7, q8, q9]
  rfl
theorem kd_le (m : Nat) : kd m ≤ 7 := by
  have : ∀ n : Fin 16, kdT.getD n.val 0 ≤ 7 := by decide
  exact this ⟨m / 4096 % 16, Nat.mod_lt _ (by decide)⟩
theorem rX_le {a b : Nat} (ha : a = 0 ∨ a = 1) (hb : b = 0 ∨ b = 1) : rX a b ≤ 3 := by
  rcases ha with rfl | rfl <;> rcases hb with rfl | rfl <;> decide
theorem gK_lt {x y : Nat} (hx : x ≤ 7) (hy : y ≤ 7) : (gK x < gK y ↔ x < y) ∧ (gK x = gK y ↔ x = y) := by
  have : ∀ x y : Fin 8, (gK x.val < gK y.val ↔ x.val < y.val) ∧ (gK x.val = gK y.val ↔ x.val = y.val) := by decide +kernel
  exact this ⟨x, by omega⟩ ⟨y, by omega⟩
theorem gB_lt {c x y : Nat} (hc : 45 < c) (hx : x = 0 ∨ x = 1) (hy : y = 0 ∨ y = 1) : (gB c x < gB c y ↔ x < y) ∧ (gB c x = gB c y ↔ x = y) := by
  unfold gB
  rcases hx with rfl | rfl <;> rcases hy with rfl | rfl <;> simp <;> omega
theorem gX_lt {hi lo x y : Nat} (h1 : 45 < hi) (h2 : hi < lo) (h3 : lo < 120) (hx : x ≤ 3) (hy : y ≤ 3) : (gX hi lo x < gX hi lo y ↔ x < y) ∧ (gX hi lo x = gX hi lo y ↔ x = y) := by
  unfold gX
  rcases (show x = 0 ∨ x = 1 ∨ x = 2 ∨ x = 3 by omega) with rfl | rfl | rfl | rfl <;> rcases (show y = 0 ∨ y = 1 ∨ y = 2 ∨ y = 3 by omega) with rfl | rfl | rfl | rfl <;> simp <;> omega
def nib (b c h l : Nat) : Nat := b * 8 + c * 4 + rX h l
theorem nib_lt {b c h l : Nat} (hb : b = 0 ∨ b = 1) (hc : c = 0 ∨ c = 1) (hh : h = 0 ∨ h = 1) (hl : l = 0 ∨ l = 1) : nib b c h l < 16 := by
  have := rX_le hh hl
  unfold nib
  omega
theorem grp {r w hi lo b c h l b' c' h' l' : Nat} {t t' : List Nat} (hr : 45 < r) (hw : 45 < w) (h1 : 45 < hi) (h2 : hi < lo) (h3 : lo < 120)
    (hb : b = 0 ∨ b = 1) (hc : c = 0 ∨ c = 1) (hh : h = 0 ∨ h = 1) (hl : l = 0 ∨ l = 1) (kb : b' = 0 ∨ b' = 1) (kc : c' = 0 ∨ c' = 1) (kh : h' = 0 ∨ h' = 1) (kl : l' = 0 ∨ l' = 1) :
    (gB r b :: gB w c :: gX hi lo (rX h l) :: t < gB r b' :: gB w c' :: gX hi lo (rX h' l') :: t') ↔ nib b c h l < nib b' c' h' l' ∨ (nib b c h l = nib b' c' h' l' ∧ t < t') := by
  have x1 := rX_le hh hl
  have x2 := rX_le kh kl
  obtain ⟨a1, a2⟩ := gB_lt hr hb kb
  obtain ⟨b1, b2⟩ := gB_lt hw hc kc
  obtain ⟨c1, c2⟩ := gX_lt h1 h2 h3 x1 x2
  rw [List.cons_lt_cons_iff, List.cons_lt_cons_iff, List.cons_lt_cons_iff, a1, a2, b1, b2, c1, c2]
  unfold nib
  generalize rX h l = x at *
  generalize rX h' l' = y at *
  constructor
  · rintro (k | ⟨k1, k | ⟨k2, k | ⟨k3, k⟩⟩⟩)
    · exact .inl (by omega)
    · exact .inl (by omega)
    · exact .inl (by omega)
    · exact .inr ⟨by omega, k⟩
  · rintro (k | ⟨k, kt⟩)
    · by_cases q1 : b < b'
      · exact .inl q1
      · refine .inr ⟨by omega, ?_⟩
        by_cases q2 : c < c'
        · exact .inl q2
        · exact .inr ⟨by omega, .inl (by omega)⟩
    · exact .inr ⟨by omega, .inr ⟨by omega, .inr ⟨by omega, kt⟩⟩⟩
def pl4 (m : Nat) : Nat := ((kd m * 16 + nib (bt m 8) (bt m 7) (bt m 11) (bt m 6)) * 16 + nib (bt m 5) (bt m 4) (bt m 10) (bt m 3)) * 16 + nib (bt m 2) (bt m 1) (bt m 9) (bt m 0)
theorem text_lt (m n : Nat) : (fmText (m : Int)).cps.toList < (fmText (n : Int)).cps.toList ↔ pl4 m < pl4 n := by
  obtain ⟨k1, k2⟩ := gK_lt (kd_le m) (kd_le n)
  rw [text_list, text_list, List.cons_lt_cons_iff, k1, k2,
    grp (by decide) (by decide) (by decide) (by decide) (by decide) (bt2 ..) (bt2 ..) (bt2 ..) (bt2 ..) (bt2 ..) (bt2 ..) (bt2 ..) (bt2 ..),
    grp (by decide) (by decide) (by decide) (by decide) (by decide) (bt2 ..) (bt2 ..) (bt2 ..) (bt2 ..) (bt2 ..) (bt2 ..) (bt2 ..) (bt2 ..),
    grp (by decide) (by decide) (by decide) (by decide) (by decide) (bt2 ..) (bt2 ..) (bt2 ..) (bt2 ..) (bt2 ..) (bt2 ..) (bt2 ..) (bt2 ..)]
  have irr : ¬ ([] : List Nat) < [] := by decide
  unfold pl4
  have m1 := nib_lt (bt2 m 8) (bt2 m 7) (bt2 m 11) (bt2 m 6)
  have m2 := nib_lt (bt2 m 5) (bt2 m 4) (bt2 m 10) (bt2 m 3)
  have m3 := nib_lt (bt2 m 2) (bt2 m 1) (bt2 m 9) (bt2 m 0)
  have n1 := nib_lt (bt2 n 8) (bt2 n 7) (bt2 n 11) (bt2 n 6)
  have n2 := nib_lt (bt2 n 5) (bt2 n 4) (bt2 n 10) (bt2 n 3)
  have n3 := nib_lt (bt2 n 2) (bt2 n 1) (bt2 n 9) (bt2 n 0)
  generalize nib (bt m 8) (bt m 7) (bt m 11) (bt m 6) = u1 at *
  generalize nib (bt m 5) (bt m 4) (bt m 10) (bt m 3) = u2 at *
  generalize nib (bt m 2) (bt m 1) (bt m 9) (bt m 0) = u3 at *
  generalize nib (bt n 8) (bt n 7) (bt n 11) (bt n 6) = v1 at *
  generalize nib (bt n 5) (bt n 4) (bt n 10) (bt n 3) = v2 at *
  generalize nib (bt n 2) (bt n 1) (bt n 9) (bt n 0) = v3 at *
  generalize kd m = u0 at *
  generalize kd n = v0 at *
  constructor
  · rintro (h | ⟨h0, h | ⟨h1, h | ⟨h2, h | ⟨h3, h⟩⟩⟩⟩)
    · omega
    · omega
    · omega
    · omega
    · exact absurd h irr
  · intro h
    by_cases q0 : u0 < v0
    · exact .inl q0
    · refine .inr ⟨by omega, ?_⟩
      by_cases q1 : u1 < v1
      · exact .inl q1
      · refine .inr ⟨by omega, ?_⟩
        by_cases q2 : u2 < v2
        · exact .inl q2
        · exact .inr ⟨by omega, .inl (by omega)⟩
theorem kd_int (m : Nat) : plAt (m : Int) 0 = ((kd m : Nat) : Int) := by
  show [1, 6, 3, 1, 4, 1, 2, 1, 0, 1, 5, 1, 7, 1, 1, 1].getD (((m : Int).fdiv 4096).fmod 16).toNat (0 : Int) = _
  have e : (((m : Int).fdiv 4096).fmod 16).toNat = m / 4096 % 16 := by
    rw [Int.fmod_eq_emod_of_nonneg _ (by decide), Int.fdiv_eq_ediv_of_nonneg _ (by decide)]
    omega
  rw [e]
  have : ∀ n : Fin 16, [1, 6, 3, 1, 4, 1, 2, 1, 0, 1, 5, 1, 7, 1, 1, 1].getD n.val (0 : Int) = ((kdT.getD n.val 0 : Nat) : Int) := by decide
  exact this ⟨m / 4096 % 16, Nat.mod_lt _ (by decide)⟩
theorem step_int {f g : Int} {b c h l : Nat} (hf : f = ((b * 4 + c * 2 + l : Nat) : Int)) (hg : g = (h : Int)) (hl : l = 0 ∨ l = 1) : f.fdiv 2 * 4 + [0, 3, 1, 2].getD (f.fmod 2 + 2 * g).toNat 0 = ((nib b c h l : Nat) : Int) := by
  subst hf hg
  rw [Int.fmod_eq_emod_of_nonneg _ (by decide), Int.fdiv_eq_ediv_of_nonneg _ (by decide)]
  have e1 : ((b * 4 + c * 2 + l : Nat) : Int) / 2 = ((b * 2 + c : Nat) : Int) := by omega
  have e2 : (((b * 4 + c * 2 + l : Nat) : Int) % 2 + 2 * (h : Int)).toNat = l + 2 * h := by omega
  rw [e1, e2]
  unfold nib rX
  have e3 : ∀ n : Nat, [0, 3, 1, 2].getD n (0 : Int) = (([0, 3, 1, 2].getD n 0 : Nat) : Int)
    | 0 => rfl
    | 1 => rfl
    | 2 => rfl
    | 3 => rfl
    | _ + 4 => rfl
  rw [e3]
  generalize [0, 3, 1, 2].getD (l + 2 * h) 0 = z
  omega
theorem fig_int (m : Nat) : (figAt (m : Int) 0 = ((bt m 8 * 4 + bt m 7 * 2 + bt m 6 : Nat) : Int) ∧ figAt (m : Int) 1 = ((bt m 5 * 4 + bt m 4 * 2 + bt m 3 : Nat) : Int) ∧ figAt (m : Int) 2 = ((bt m 2 * 4 + bt m 1 * 2 + bt m 0 : Nat) : Int)) ∧
    (abvAt (m : Int) 0 = (bt m 11 : Int) ∧ abvAt (m : Int) 1 = (bt m 10 : Int) ∧ abvAt (m : Int) 2 = (bt m 9 : Int)) := by
  unfold figAt abvAt bt
  have p1 : (8 : Int) ^ (2 - 0) = 64 := rfl
  have p2 : (8 : Int) ^ (2 - 1) = 8 := rfl
  have p3 : (8 : Int) ^ (2 - 2) = 1 := rfl
  have p4 : (2 : Int) ^ (11 - 0) = 2048 := rfl
  have p5 : (2 : Int) ^ (11 - 1) = 1024 := rfl
  have p6 : (2 : Int) ^ (11 - 2) = 512 := rfl
  rw [p1, p2, p3, p4, p5, p6]
  have fd : ∀ a b : Int, 0 ≤ b → a.fdiv b = a / b := fun a b h => Int.fdiv_eq_ediv_of_nonneg a h
  have fm : ∀ a b : Int, 0 ≤ b → a.fmod b = a % b := fun a b h => Int.fmod_eq_emod_of_nonneg a h
  rw [fm _ 8 (by decide), fm _ 8 (by decide), fm _ 8 (by decide), fm _ 2 (by decide), fm _ 2 (by decide), fm _ 2 (by decide)]
  rw [fd _ 64 (by decide), fd _ 8 (by decide), fd _ 1 (by decide), fd _ 2048 (by decide), fd _ 1024 (by decide), fd _ 512 (by decide)]
  have t0 : (2 : Nat) ^ 0 = 1 := rfl
  have t1 : (2 : Nat) ^ 1 = 2 := rfl
  have t2 : (2 : Nat) ^ 2 = 4 := rfl
  have t3 : (2 : Nat) ^ 3 = 8 := rfl
  have t4 : (2 : Nat) ^ 4 = 16 := rfl
  have t5 : (2 : Nat) ^ 5 = 32 := rfl
  have t6 : (2 : Nat) ^ 6 = 64 := rfl
  have t7 : (2 : Nat) ^ 7 = 128 := rfl
  have t8 : (2 : Nat) ^ 8 = 256 := rfl
  have t9 : (2 : Nat) ^ 9 = 512 := rfl
  have t10 : (2 : Nat) ^ 10 = 1024 := rfl
  have t11 : (2 : Nat) ^ 11 = 2048 := rfl
  rw [t0, t1, t2, t3, t4, t5, t6, t7, t8, t9, t10, t11]
  refine ⟨⟨?_, ?_, ?_⟩, ?_, ?_, ?_⟩ <;> omega
theorem pl_int (m : Nat) : plAt (m : Int) 3 = ((pl4 m : Nat) : Int) := by
  obtain ⟨⟨f0, f1, f2⟩, g0, g1, g2⟩ := fig_int m
  have s0 := step_int f0 g0 (bt2 m 6)
  have s1 := step_int f1 g1 (bt2 m 3)
  have s2 := step_int f2 g2 (bt2 m 0)
  have k := kd_int m
  show ((plAt (m : Int) 0 * 16 + (figAt (m : Int) 0).fdiv 2 * 4 + [0, 3, 1, 2].getD ((figAt (m : Int) 0).fmod 2 + 2 * abvAt (m : Int) 0).toNat 0) * 16 + (figAt (m : Int) 1).fdiv 2 * 4 + [0, 3, 1, 2].getD ((figAt (m : Int) 1).fmod 2 + 2 * abvAt (m : Int) 1).toNat 0) * 16 + (figAt (m : Int) 2).fdiv 2 * 4 + [0, 3, 1, 2].getD ((figAt (m : Int) 2).fmod 2 + 2 * abvAt (m : Int) 2).toNat 0 = _
  unfold pl4
  omega
theorem O1 {a b : Int} (ha : 0 ≤ a) (hb : 0 ≤ b) : cmpS (fmText a) (fmText b) = sg (plAt a 3) (plAt b 3) := by
  obtain ⟨m, rfl⟩ := Int.eq_ofNat_of_zero_le ha
  obtain ⟨n, rfl⟩ := Int.eq_ofNat_of_zero_le hb
  refine cmp_sg ?_ ?_
  · rw [text_lt, pl_int, pl_int]; omega
  · rw [text_lt, pl_int, pl_int]; omega
theorem math_all (ns : List Int) : Math (drawnOf ns) :=
  math_of (drawn_len ns) cInt rfl (fun a ha b hb => O1 (drawn_b ns a ha).1 (drawn_b ns b hb).1)
    (fun a ha b hb => cmp_sg (word_lt (drawn_b ns a ha).1 (drawn_b ns a ha).2 (drawn_b ns b hb).1 (drawn_b ns b hb).2) (word_lt (drawn_b ns b hb).1 (drawn_b ns b hb).2 (drawn_b ns a ha).1 (drawn_b ns a ha).2))
    (fun a ha b hb => c_inj (drawn_b ns a ha).1 (drawn_b ns a ha).2 (drawn_b ns b hb).1 (drawn_b ns b hb).2)
end Mine

end
theorem PySem.Challenge.cw_oc0066_01_holds : PySem.Challenge.rw_oc0066_01.Holds :=
  Mine.holds_of Mine.math_all
