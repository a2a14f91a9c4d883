import PyProof.Rows.All
import Wide.All
import OpenK.AllK
import Wide.FinOn
import Lean
import PySem.Challenge.RW_re0179_01
open PySem PySem.W PySem.Calls PyProof.Rows
set_option Elab.async false
set_option maxRecDepth 100000
set_option maxHeartbeats 0
namespace Mine
abbrev PW : Program := PySem.Challenge.pw_re0179_01
noncomputable def fp (i : Nat) : Arguments × List Stmt × Scope := match PW.main.body.drop i with
  | .FunctionDef _ a b _ _ _ s _ _ _ :: _ => (a, b, s)
  | _ => (default, [], default)
noncomputable def topEnv : Env := { scope := PW.main.scope, locals := mainNs, globals := mainNs, cells := [], code := .ref 13, frame := some 14 }
noncomputable def topC : Code := .body (behindTheImports PW) topEnv
noncomputable def topQ : Pos := ⟨0, 0, 0, 0⟩
noncomputable def annV : Option Value := some (.ref 6)
noncomputable abbrev gens0 : Array GenState := Array.mk []
noncomputable def stT (T : Params → BT) (n toks : Nat) (w : World) (os : OsState) : SharedT := ⟨T w.params, n, {}, gens0, boot_drawn, toks, os⟩
noncomputable def stS (T : Params → BT) (n toks : Nat) (w : World) (os : OsState) : Shared := (stT T n toks w os).abs
noncomputable def sts (a n : Nat) : List Stmt := (PW.main.body.drop a).take n
noncomputable def x0 : PySem.Str := ⟨⟨[60, 109, 111, 100, 117, 108, 101, 62]⟩⟩
noncomputable def x1 : PySem.Str := ⟨⟨[47, 99, 108, 97, 105, 109, 47, 99, 117, 116, 46, 112, 121]⟩⟩
noncomputable def x2 : PySem.Str := ⟨⟨[95, 95, 109, 97, 105, 110, 95, 95]⟩⟩
noncomputable def x3 : PySem.Str := ⟨⟨[95, 95, 110, 97, 109, 101, 95, 95]⟩⟩
noncomputable def x4 : PySem.Str := ⟨⟨[99, 112, 121, 51, 49, 51, 46, 115, 116, 114, 105, 110, 103, 112, 114, 101, 112]⟩⟩
noncomputable def x5 : PySem.Str := ⟨⟨[95, 95, 100, 111, 99, 95, 95]⟩⟩
noncomputable def x6 : PySem.Str := ⟨⟨[95, 95, 112, 97, 99, 107, 97, 103, 101, 95, 95]⟩⟩
noncomputable def x7 : PySem.Str := ⟨⟨[95, 95, 108, 111, 97, 100, 101, 114, 95, 95]⟩⟩
noncomputable def x8 : PySem.Str := ⟨⟨[95, 95, 115, 112, 101, 99, 95, 95]⟩⟩
noncomputable def x9 : PySem.Str := ⟨⟨[95, 95, 97, 110, 110, 111, 116, 97, 116, 105, 111, 110, 115, 95, 95]⟩⟩
noncomputable def x10 : PySem.Str := ⟨⟨[95, 95, 98, 117, 105, 108, 116, 105, 110, 115, 95, 95]⟩⟩
noncomputable def x11 : PySem.Str := ⟨⟨[95, 95, 102, 105, 108, 101, 95, 95]⟩⟩
noncomputable def x12 : PySem.Str := ⟨⟨[95, 95, 99, 97, 99, 104, 101, 100, 95, 95]⟩⟩
noncomputable def x13 : PySem.Str := ⟨⟨[95, 68, 73, 86, 95, 76, 73, 77, 73, 84]⟩⟩
noncomputable def x14 : PySem.Str := ⟨⟨[95, 100, 105, 118, 50, 110, 49, 110]⟩⟩
noncomputable def x15 : PySem.Str := ⟨⟨[95, 100, 105, 118, 51, 110, 50, 110]⟩⟩
noncomputable def x16 : PySem.Str := ⟨⟨[95, 105, 110, 116, 50, 100, 105, 103, 105, 116, 115]⟩⟩
noncomputable def x17 : PySem.Str := ⟨⟨[95, 100, 105, 103, 105, 116, 115, 50, 105, 110, 116]⟩⟩
noncomputable def x18 : PySem.Str := ⟨⟨[95, 100, 105, 118, 109, 111, 100, 95, 112, 111, 115]⟩⟩
noncomputable def x19 : PySem.Str := ⟨⟨[105, 110, 116, 95, 100, 105, 118, 109, 111, 100]⟩⟩
noncomputable def x20 : PySem.Str := ⟨⟨[97]⟩⟩
noncomputable def x21 : PySem.Str := ⟨⟨[98]⟩⟩
noncomputable def x22 : PySem.Str := ⟨⟨[110]⟩⟩
noncomputable def x23 : PySem.Str := ⟨⟨[112, 97, 100]⟩⟩
noncomputable def x24 : PySem.Str := ⟨⟨[104, 97, 108, 102, 95, 110]⟩⟩
noncomputable def x25 : PySem.Str := ⟨⟨[109, 97, 115, 107]⟩⟩
noncomputable def x26 : PySem.Str := ⟨⟨[98, 49]⟩⟩
noncomputable def x27 : PySem.Str := ⟨⟨[98, 50]⟩⟩
noncomputable def x28 : PySem.Str := ⟨⟨[113, 49]⟩⟩
noncomputable def x29 : PySem.Str := ⟨⟨[114]⟩⟩
noncomputable def x30 : PySem.Str := ⟨⟨[113, 50]⟩⟩
noncomputable def x31 : PySem.Str := ⟨⟨[99, 112, 121, 51, 49, 51, 46, 95, 112, 121, 108, 111, 110, 103]⟩⟩
noncomputable def x32 : PySem.Str := ⟨⟨[97, 49, 50]⟩⟩
noncomputable def x33 : PySem.Str := ⟨⟨[97, 51]⟩⟩
noncomputable def x34 : PySem.Str := ⟨⟨[113]⟩⟩
noncomputable def x35 : PySem.Str := ⟨⟨[97, 95, 100, 105, 103, 105, 116, 115]⟩⟩
noncomputable def x36 : PySem.Str := ⟨⟨[105, 110, 110, 101, 114]⟩⟩
noncomputable def x37 : PySem.Str := ⟨⟨[100, 105, 103, 105, 116, 115]⟩⟩
noncomputable def x38 : PySem.Str := ⟨⟨[113, 95, 100, 105, 103, 105, 116, 115]⟩⟩
noncomputable def x39 : PySem.Str := ⟨⟨[97, 95, 100, 105, 103, 105, 116]⟩⟩
noncomputable def x40 : PySem.Str := ⟨⟨[113, 95, 100, 105, 103, 105, 116]⟩⟩
noncomputable def x41 : PySem.Str := ⟨⟨[98, 49, 95, 115, 101, 116]⟩⟩
noncomputable def x42 : PySem.Str := ⟨⟨[105, 110, 95, 116, 97, 98, 108, 101, 95, 98, 49]⟩⟩
noncomputable def x43 : PySem.Str := ⟨⟨[99, 111, 100, 101]⟩⟩
noncomputable def x44 : PySem.Str := ⟨⟨[98, 51, 95, 101, 120, 99, 101, 112, 116, 105, 111, 110, 115]⟩⟩
noncomputable def x45 : PySem.Str := ⟨⟨[99, 112, 121, 51, 49, 51, 46, 116, 111, 107, 101, 110]⟩⟩
noncomputable def x46 : PySem.Str := ⟨⟨[109, 97, 112, 95, 116, 97, 98, 108, 101, 95, 98, 51]⟩⟩
noncomputable def x47 : PySem.Str := ⟨⟨[69, 78, 68, 77, 65, 82, 75, 69, 82]⟩⟩
noncomputable def x48 : PySem.Str := ⟨⟨[76, 80, 65, 82]⟩⟩
noncomputable def x49 : PySem.Str := ⟨⟨[82, 80, 65, 82]⟩⟩
noncomputable def x50 : PySem.Str := ⟨⟨[76, 83, 81, 66]⟩⟩
noncomputable def x51 : PySem.Str := ⟨⟨[82, 83, 81, 66]⟩⟩
noncomputable def x52 : PySem.Str := ⟨⟨[67, 79, 76, 79, 78]⟩⟩
noncomputable def x53 : PySem.Str := ⟨⟨[67, 79, 77, 77, 65]⟩⟩
noncomputable def x54 : PySem.Str := ⟨⟨[83, 69, 77, 73]⟩⟩
noncomputable def x55 : PySem.Str := ⟨⟨[80, 76, 85, 83]⟩⟩
noncomputable def x56 : PySem.Str := ⟨⟨[77, 73, 78, 85, 83]⟩⟩
noncomputable def x57 : PySem.Str := ⟨⟨[83, 84, 65, 82]⟩⟩
noncomputable def x58 : PySem.Str := ⟨⟨[83, 76, 65, 83, 72]⟩⟩
noncomputable def x59 : PySem.Str := ⟨⟨[86, 66, 65, 82]⟩⟩
noncomputable def x60 : PySem.Str := ⟨⟨[65, 77, 80, 69, 82]⟩⟩
noncomputable def x61 : PySem.Str := ⟨⟨[76, 69, 83, 83]⟩⟩
noncomputable def x62 : PySem.Str := ⟨⟨[71, 82, 69, 65, 84, 69, 82]⟩⟩
noncomputable def x63 : PySem.Str := ⟨⟨[69, 81, 85, 65, 76]⟩⟩
noncomputable def x64 : PySem.Str := ⟨⟨[68, 79, 84]⟩⟩
noncomputable def x65 : PySem.Str := ⟨⟨[80, 69, 82, 67, 69, 78, 84]⟩⟩
noncomputable def x66 : PySem.Str := ⟨⟨[76, 66, 82, 65, 67, 69]⟩⟩
noncomputable def x67 : PySem.Str := ⟨⟨[82, 66, 82, 65, 67, 69]⟩⟩
noncomputable def x68 : PySem.Str := ⟨⟨[69, 81, 69, 81, 85, 65, 76]⟩⟩
noncomputable def x69 : PySem.Str := ⟨⟨[78, 79, 84, 69, 81, 85, 65, 76]⟩⟩
noncomputable def x70 : PySem.Str := ⟨⟨[76, 69, 83, 83, 69, 81, 85, 65, 76]⟩⟩
noncomputable def x71 : PySem.Str := ⟨⟨[71, 82, 69, 65, 84, 69, 82, 69, 81, 85, 65, 76]⟩⟩
noncomputable def x72 : PySem.Str := ⟨⟨[84, 73, 76, 68, 69]⟩⟩
noncomputable def x73 : PySem.Str := ⟨⟨[67, 73, 82, 67, 85, 77, 70, 76, 69, 88]⟩⟩
noncomputable def x74 : PySem.Str := ⟨⟨[76, 69, 70, 84, 83, 72, 73, 70, 84]⟩⟩
noncomputable def x75 : PySem.Str := ⟨⟨[82, 73, 71, 72, 84, 83, 72, 73, 70, 84]⟩⟩
noncomputable def x76 : PySem.Str := ⟨⟨[68, 79, 85, 66, 76, 69, 83, 84, 65, 82]⟩⟩
noncomputable def x77 : PySem.Str := ⟨⟨[80, 76, 85, 83, 69, 81, 85, 65, 76]⟩⟩
noncomputable def x78 : PySem.Str := ⟨⟨[77, 73, 78, 69, 81, 85, 65, 76]⟩⟩
noncomputable def x79 : PySem.Str := ⟨⟨[83, 84, 65, 82, 69, 81, 85, 65, 76]⟩⟩
noncomputable def x80 : PySem.Str := ⟨⟨[83, 76, 65, 83, 72, 69, 81, 85, 65, 76]⟩⟩
noncomputable def x81 : PySem.Str := ⟨⟨[80, 69, 82, 67, 69, 78, 84, 69, 81, 85, 65, 76]⟩⟩
noncomputable def x82 : PySem.Str := ⟨⟨[65, 77, 80, 69, 82, 69, 81, 85, 65, 76]⟩⟩
noncomputable def x83 : PySem.Str := ⟨⟨[86, 66, 65, 82, 69, 81, 85, 65, 76]⟩⟩
noncomputable def x84 : PySem.Str := ⟨⟨[67, 73, 82, 67, 85, 77, 70, 76, 69, 88, 69, 81, 85, 65, 76]⟩⟩
noncomputable def x85 : PySem.Str := ⟨⟨[76, 69, 70, 84, 83, 72, 73, 70, 84, 69, 81, 85, 65, 76]⟩⟩
noncomputable def x86 : PySem.Str := ⟨⟨[82, 73, 71, 72, 84, 83, 72, 73, 70, 84, 69, 81, 85, 65, 76]⟩⟩
noncomputable def x87 : PySem.Str := ⟨⟨[68, 79, 85, 66, 76, 69, 83, 84, 65, 82, 69, 81, 85, 65, 76]⟩⟩
noncomputable def x88 : PySem.Str := ⟨⟨[68, 79, 85, 66, 76, 69, 83, 76, 65, 83, 72]⟩⟩
noncomputable def x89 : PySem.Str := ⟨⟨[68, 79, 85, 66, 76, 69, 83, 76, 65, 83, 72, 69, 81, 85, 65, 76]⟩⟩
noncomputable def x90 : PySem.Str := ⟨⟨[65, 84]⟩⟩
noncomputable def x91 : PySem.Str := ⟨⟨[65, 84, 69, 81, 85, 65, 76]⟩⟩
noncomputable def x92 : PySem.Str := ⟨⟨[82, 65, 82, 82, 79, 87]⟩⟩
noncomputable def x93 : PySem.Str := ⟨⟨[69, 76, 76, 73, 80, 83, 73, 83]⟩⟩
noncomputable def x94 : PySem.Str := ⟨⟨[67, 79, 76, 79, 78, 69, 81, 85, 65, 76]⟩⟩
noncomputable def x95 : PySem.Str := ⟨⟨[69, 88, 67, 76, 65, 77, 65, 84, 73, 79, 78]⟩⟩
noncomputable def x96 : PySem.Str := ⟨⟨[69, 88, 65, 67, 84, 95, 84, 79, 75, 69, 78, 95, 84, 89, 80, 69, 83]⟩⟩
noncomputable def x97 : PySem.Str := ⟨⟨[33]⟩⟩
noncomputable def x98 : PySem.Str := ⟨⟨[33, 61]⟩⟩
noncomputable def x99 : PySem.Str := ⟨⟨[37]⟩⟩
noncomputable def x100 : PySem.Str := ⟨⟨[37, 61]⟩⟩
noncomputable def x101 : PySem.Str := ⟨⟨[38]⟩⟩
noncomputable def x102 : PySem.Str := ⟨⟨[38, 61]⟩⟩
noncomputable def x103 : PySem.Str := ⟨⟨[40]⟩⟩
noncomputable def x104 : PySem.Str := ⟨⟨[41]⟩⟩
noncomputable def x105 : PySem.Str := ⟨⟨[42]⟩⟩
noncomputable def x106 : PySem.Str := ⟨⟨[42, 42]⟩⟩
noncomputable def x107 : PySem.Str := ⟨⟨[42, 42, 61]⟩⟩
noncomputable def x108 : PySem.Str := ⟨⟨[42, 61]⟩⟩
noncomputable def x109 : PySem.Str := ⟨⟨[43]⟩⟩
noncomputable def x110 : PySem.Str := ⟨⟨[43, 61]⟩⟩
noncomputable def x111 : PySem.Str := ⟨⟨[44]⟩⟩
noncomputable def x112 : PySem.Str := ⟨⟨[45]⟩⟩
noncomputable def x113 : PySem.Str := ⟨⟨[45, 61]⟩⟩
noncomputable def x114 : PySem.Str := ⟨⟨[45, 62]⟩⟩
noncomputable def x115 : PySem.Str := ⟨⟨[46]⟩⟩
noncomputable def x116 : PySem.Str := ⟨⟨[46, 46, 46]⟩⟩
noncomputable def x117 : PySem.Str := ⟨⟨[47]⟩⟩
noncomputable def x118 : PySem.Str := ⟨⟨[47, 47]⟩⟩
noncomputable def x119 : PySem.Str := ⟨⟨[47, 47, 61]⟩⟩
noncomputable def x120 : PySem.Str := ⟨⟨[47, 61]⟩⟩
noncomputable def x121 : PySem.Str := ⟨⟨[58]⟩⟩
noncomputable def x122 : PySem.Str := ⟨⟨[58, 61]⟩⟩
noncomputable def x123 : PySem.Str := ⟨⟨[59]⟩⟩
noncomputable def x124 : PySem.Str := ⟨⟨[60]⟩⟩
noncomputable def x125 : PySem.Str := ⟨⟨[60, 60]⟩⟩
noncomputable def x126 : PySem.Str := ⟨⟨[60, 60, 61]⟩⟩
noncomputable def x127 : PySem.Str := ⟨⟨[60, 61]⟩⟩
noncomputable def x128 : PySem.Str := ⟨⟨[61]⟩⟩
noncomputable def x129 : PySem.Str := ⟨⟨[61, 61]⟩⟩
noncomputable def x130 : PySem.Str := ⟨⟨[62]⟩⟩
noncomputable def x131 : PySem.Str := ⟨⟨[62, 61]⟩⟩
noncomputable def x132 : PySem.Str := ⟨⟨[62, 62]⟩⟩
noncomputable def x133 : PySem.Str := ⟨⟨[62, 62, 61]⟩⟩
noncomputable def x134 : PySem.Str := ⟨⟨[64]⟩⟩
noncomputable def x135 : PySem.Str := ⟨⟨[64, 61]⟩⟩
noncomputable def x136 : PySem.Str := ⟨⟨[91]⟩⟩
noncomputable def x137 : PySem.Str := ⟨⟨[93]⟩⟩
noncomputable def x138 : PySem.Str := ⟨⟨[94]⟩⟩
noncomputable def x139 : PySem.Str := ⟨⟨[94, 61]⟩⟩
noncomputable def x140 : PySem.Str := ⟨⟨[123]⟩⟩
noncomputable def x141 : PySem.Str := ⟨⟨[124]⟩⟩
noncomputable def x142 : PySem.Str := ⟨⟨[124, 61]⟩⟩
noncomputable def x143 : PySem.Str := ⟨⟨[125]⟩⟩
noncomputable def x144 : PySem.Str := ⟨⟨[126]⟩⟩
noncomputable def x145 : PySem.Str := ⟨⟨[108, 97, 119, 95, 114, 101, 48, 49, 55, 57, 95, 48, 49]⟩⟩
noncomputable def x146 : PySem.Str := ⟨⟨[73, 83, 69, 79, 70]⟩⟩
noncomputable def x147 : PySem.Str := ⟨⟨[95, 108, 97, 119, 95, 99, 101, 108, 108, 115]⟩⟩
noncomputable def x148 : PySem.Str := ⟨⟨[95, 108, 97, 119, 95, 98, 108, 111, 99, 107, 115]⟩⟩
noncomputable def x149 : PySem.Str := ⟨⟨[95, 108, 97, 119, 95, 115, 117, 109, 115]⟩⟩
noncomputable def x150 : PySem.Str := ⟨⟨[95, 108, 97, 119, 95, 112, 114, 111, 100, 117, 99, 116]⟩⟩
noncomputable def x151 : PySem.Str := ⟨⟨[95, 108, 97, 119, 95, 100, 101, 97, 108, 116]⟩⟩
noncomputable def x152 : PySem.Str := ⟨⟨[108, 97, 119]⟩⟩
noncomputable def x153 : PySem.Str := ⟨⟨[120]⟩⟩
noncomputable def x154 : PySem.Str := ⟨⟨[115, 99, 114, 105, 112, 116]⟩⟩
noncomputable def x155 : PySem.Str := ⟨⟨[99, 101, 108, 108, 115]⟩⟩
noncomputable def x156 : PySem.Str := ⟨⟨[112, 108, 97, 99, 101]⟩⟩
noncomputable def x157 : PySem.Str := ⟨⟨[116, 101, 120, 116]⟩⟩
noncomputable def x158 : PySem.Str := ⟨⟨[98, 108, 111, 99, 107, 115]⟩⟩
noncomputable def x159 : PySem.Str := ⟨⟨[115, 105, 103, 110]⟩⟩
noncomputable def x160 : PySem.Str := ⟨⟨[109, 111, 114, 101]⟩⟩
noncomputable def x161 : PySem.Str := ⟨⟨[115, 117, 109, 115]⟩⟩
noncomputable def x162 : PySem.Str := ⟨⟨[101, 110, 100]⟩⟩
noncomputable def x163 : PySem.Str := ⟨⟨[116, 111, 116, 97, 108]⟩⟩
noncomputable def x164 : PySem.Str := ⟨⟨[115, 105, 122, 101]⟩⟩
noncomputable def x165 : PySem.Str := ⟨⟨[112, 105, 101, 99, 101]⟩⟩
noncomputable def x166 : PySem.Str := ⟨⟨[110, 117, 109, 98, 101, 114, 115]⟩⟩
noncomputable def x167 : PySem.Str := ⟨⟨[110, 117, 109, 98, 101, 114]⟩⟩
noncomputable def x168 : PySem.Str := ⟨⟨[112, 97, 105, 114]⟩⟩
noncomputable def x169 : PySem.Str := ⟨⟨[107]⟩⟩
noncomputable def x170 : PySem.Str := ⟨⟨[108]⟩⟩
noncomputable def o11_p (P : Params) : Obj := ⟨(.type "tuple"), none, (.seq ⟨[]⟩ 0), ⟨[]⟩⟩
noncomputable def o12_p (P : Params) : Obj := ⟨.none, none, (.fields ⟨[]⟩), ⟨[]⟩⟩
noncomputable def o13_p (P : Params) : Obj := ⟨(.type "code"), none, (.fields ⟨[(.str x0 182), (.str x0 183), (.str x1 184), (.int 1 0), (.int 0 0), (.int 0 0), (.int 0 0), (.int 0 0), (.ref 11), (.bool false), (.int 181 0), (.ref 12), .none, .none, .none, .none, (.int 185 0), (.int 1 0), (.str x1 186)]⟩), ⟨[]⟩⟩
noncomputable def o14_p (P : Params) : Obj := ⟨(.type "frame"), none, .plain, ⟨[some (.ref 13), some (.ref 3), some (.ref 3), none, some (.str x2 164), none, some (.ref 0)]⟩⟩
noncomputable def T_p (P : Params) : BT := (.node (boot_o_0 P) (.node (boot_o_1 P) (.node (boot_o_3 P) (.node (boot_o_7 P) .nil .nil) (.node (o11_p P) .nil .nil)) (.node (boot_o_5 P) (.node (boot_o_9 P) .nil .nil) (.node (o13_p P) .nil .nil))) (.node (boot_o_2 P) (.node (boot_o_4 P) (.node (boot_o_8 P) .nil .nil) (.node (o12_p P) .nil .nil)) (.node (boot_o_6 P) (.node (boot_o_10 P) .nil .nil) (.node (o14_p P) .nil .nil))))
-- state p: n 15 toks 187 pos ⟨0, 0, 0, 0⟩ steps 12
noncomputable def o3_8 (P : Params) : Obj := ⟨(.type "dict"), none, (.dict ⟨[⟨(PyData.keyHash P x3), (.str x3 165), (.str x4 269)⟩, ⟨(PyData.keyHash P x5), (.str x5 166), .none⟩, ⟨(PyData.keyHash P x6), (.str x6 167), .none⟩, ⟨(PyData.keyHash P x7), (.str x7 168), (.builtin "__main__.__loader__#opaque")⟩, ⟨(PyData.keyHash P x8), (.str x8 169), .none⟩, ⟨(PyData.keyHash P x9), (.str x9 170), (.ref 6)⟩, ⟨(PyData.keyHash P x10), (.str x10 171), (.ref 4)⟩, ⟨(PyData.keyHash P x11), (.str x11 173), (.str x1 172)⟩, ⟨(PyData.keyHash P x12), (.str x12 174), .none⟩, ⟨(PyData.keyHash P x13), (.str x13 190), (.int 4000 189)⟩, ⟨(PyData.keyHash P x14), (.str x14 207), (.ref 21)⟩, ⟨(PyData.keyHash P x15), (.str x15 221), (.ref 28)⟩, ⟨(PyData.keyHash P x16), (.str x16 232), (.ref 35)⟩, ⟨(PyData.keyHash P x17), (.str x17 243), (.ref 42)⟩, ⟨(PyData.keyHash P x18), (.str x18 258), (.ref 49)⟩, ⟨(PyData.keyHash P x19), (.str x19 268), (.ref 56)⟩]⟩ 16), ⟨[]⟩⟩
noncomputable def o12_8 (P : Params) : Obj := ⟨.none, none, (.fields ⟨[(.int 3 0), (.int 0 0), (.ref 20), (.int 19 0), (.int 0 0), (.ref 27), (.int 29 0), (.int 0 0), (.ref 34), (.int 45 0), (.int 0 0), (.ref 41), (.int 54 0), (.int 0 0), (.ref 48), (.int 65 0), (.int 0 0), (.ref 55)]⟩), ⟨[]⟩⟩
noncomputable def o15_8 (P : Params) : Obj := ⟨(.type "tuple"), none, (.seq ⟨[]⟩ 0), ⟨[]⟩⟩
noncomputable def o16_8 (P : Params) : Obj := ⟨.none, none, (.fields ⟨[]⟩), ⟨[]⟩⟩
noncomputable def o17_8 (P : Params) : Obj := ⟨(.type "tuple"), none, (.seq ⟨[(.str x20 194), (.str x21 195), (.str x22 196), (.str x23 197), (.str x24 198), (.str x25 199), (.str x26 200), (.str x27 201), (.str x28 202), (.str x29 203), (.str x30 204)]⟩ 0), ⟨[]⟩⟩
noncomputable def o18_8 (P : Params) : Obj := ⟨(.type "tuple"), none, (.seq ⟨[]⟩ 0), ⟨[]⟩⟩
noncomputable def o19_8 (P : Params) : Obj := ⟨.none, none, (.func ⟨x14, x14, (fp 2).1, .stmts (fp 2).2.1, (fp 2).2.2, 0, [], .none, .none, .none, .none, none, .none, .none, 0⟩), ⟨[]⟩⟩
noncomputable def o20_8 (P : Params) : Obj := ⟨(.type "code"), none, (.fields ⟨[(.str x14 191), (.str x14 192), (.str x1 193), (.int 3 0), (.int 3 0), (.int 0 0), (.int 0 0), (.int 3 0), (.ref 15), (.bool true), (.int 181 0), (.ref 16), .none, (.ref 17), (.ref 18), (.ref 19), (.int 205 0), (.int 3 0), (.str x1 206)]⟩), ⟨[]⟩⟩
noncomputable def o21_8 (P : Params) : Obj := ⟨(.type "function"), none, (.func ⟨x14, x14, (fp 2).1, .stmts (fp 2).2.1, (fp 2).2.2, 3, [], .none, .none, .none, (.str x31 187), none, (.ref 20), .none, 0⟩), ⟨[]⟩⟩
noncomputable def o22_8 (P : Params) : Obj := ⟨(.type "tuple"), none, (.seq ⟨[]⟩ 0), ⟨[]⟩⟩
noncomputable def o23_8 (P : Params) : Obj := ⟨.none, none, (.fields ⟨[]⟩), ⟨[]⟩⟩
noncomputable def o24_8 (P : Params) : Obj := ⟨(.type "tuple"), none, (.seq ⟨[(.str x32 211), (.str x33 212), (.str x21 213), (.str x26 214), (.str x27 215), (.str x22 216), (.str x34 217), (.str x29 218)]⟩ 0), ⟨[]⟩⟩
noncomputable def o25_8 (P : Params) : Obj := ⟨(.type "tuple"), none, (.seq ⟨[]⟩ 0), ⟨[]⟩⟩
noncomputable def o26_8 (P : Params) : Obj := ⟨.none, none, (.func ⟨x15, x15, (fp 3).1, .stmts (fp 3).2.1, (fp 3).2.2, 0, [], .none, .none, .none, .none, none, .none, .none, 0⟩), ⟨[]⟩⟩
noncomputable def o27_8 (P : Params) : Obj := ⟨(.type "code"), none, (.fields ⟨[(.str x15 208), (.str x15 209), (.str x1 210), (.int 19 0), (.int 6 0), (.int 0 0), (.int 0 0), (.int 3 0), (.ref 22), (.bool true), (.int 181 0), (.ref 23), .none, (.ref 24), (.ref 25), (.ref 26), (.int 219 0), (.int 19 0), (.str x1 220)]⟩), ⟨[]⟩⟩
noncomputable def o28_8 (P : Params) : Obj := ⟨(.type "function"), none, (.func ⟨x15, x15, (fp 3).1, .stmts (fp 3).2.1, (fp 3).2.2, 3, [], .none, .none, .none, (.str x31 187), none, (.ref 27), .none, 0⟩), ⟨[]⟩⟩
noncomputable def o29_8 (P : Params) : Obj := ⟨(.type "tuple"), none, (.seq ⟨[]⟩ 0), ⟨[]⟩⟩
noncomputable def o30_8 (P : Params) : Obj := ⟨.none, none, (.fields ⟨[]⟩), ⟨[]⟩⟩
noncomputable def o31_8 (P : Params) : Obj := ⟨(.type "tuple"), none, (.seq ⟨[(.str x20 225), (.str x22 226)]⟩ 0), ⟨[]⟩⟩
noncomputable def o32_8 (P : Params) : Obj := ⟨(.type "tuple"), none, (.seq ⟨[(.str x22 227), (.str x35 228), (.str x36 229)]⟩ 0), ⟨[]⟩⟩
noncomputable def o33_8 (P : Params) : Obj := ⟨.none, none, (.func ⟨x16, x16, (fp 4).1, .stmts (fp 4).2.1, (fp 4).2.2, 0, [], .none, .none, .none, .none, none, .none, .none, 0⟩), ⟨[]⟩⟩
noncomputable def o34_8 (P : Params) : Obj := ⟨(.type "code"), none, (.fields ⟨[(.str x16 222), (.str x16 223), (.str x1 224), (.int 29 0), (.int 2 0), (.int 0 0), (.int 0 0), (.int 3 0), (.ref 29), (.bool true), (.int 181 0), (.ref 30), .none, (.ref 31), (.ref 32), (.ref 33), (.int 230 0), (.int 29 0), (.str x1 231)]⟩), ⟨[]⟩⟩
noncomputable def o35_8 (P : Params) : Obj := ⟨(.type "function"), none, (.func ⟨x16, x16, (fp 4).1, .stmts (fp 4).2.1, (fp 4).2.2, 3, [], .none, .none, .none, (.str x31 187), none, (.ref 34), .none, 0⟩), ⟨[]⟩⟩
noncomputable def o36_8 (P : Params) : Obj := ⟨(.type "tuple"), none, (.seq ⟨[]⟩ 0), ⟨[]⟩⟩
noncomputable def o37_8 (P : Params) : Obj := ⟨.none, none, (.fields ⟨[]⟩), ⟨[]⟩⟩
noncomputable def o38_8 (P : Params) : Obj := ⟨(.type "tuple"), none, (.seq ⟨[(.str x37 236), (.str x22 237)]⟩ 0), ⟨[]⟩⟩
noncomputable def o39_8 (P : Params) : Obj := ⟨(.type "tuple"), none, (.seq ⟨[(.str x37 238), (.str x22 239), (.str x36 240)]⟩ 0), ⟨[]⟩⟩
noncomputable def o40_8 (P : Params) : Obj := ⟨.none, none, (.func ⟨x17, x17, (fp 5).1, .stmts (fp 5).2.1, (fp 5).2.2, 0, [], .none, .none, .none, .none, none, .none, .none, 0⟩), ⟨[]⟩⟩
noncomputable def o41_8 (P : Params) : Obj := ⟨(.type "code"), none, (.fields ⟨[(.str x17 233), (.str x17 234), (.str x1 235), (.int 45 0), (.int 2 0), (.int 0 0), (.int 0 0), (.int 3 0), (.ref 36), (.bool true), (.int 181 0), (.ref 37), .none, (.ref 38), (.ref 39), (.ref 40), (.int 241 0), (.int 45 0), (.str x1 242)]⟩), ⟨[]⟩⟩
noncomputable def o42_8 (P : Params) : Obj := ⟨(.type "function"), none, (.func ⟨x17, x17, (fp 5).1, .stmts (fp 5).2.1, (fp 5).2.2, 3, [], .none, .none, .none, (.str x31 187), none, (.ref 41), .none, 0⟩), ⟨[]⟩⟩
noncomputable def o43_8 (P : Params) : Obj := ⟨(.type "tuple"), none, (.seq ⟨[]⟩ 0), ⟨[]⟩⟩
noncomputable def o44_8 (P : Params) : Obj := ⟨.none, none, (.fields ⟨[]⟩), ⟨[]⟩⟩
noncomputable def o45_8 (P : Params) : Obj := ⟨(.type "tuple"), none, (.seq ⟨[(.str x20 247), (.str x21 248), (.str x22 249), (.str x35 250), (.str x29 251), (.str x38 252), (.str x39 253), (.str x40 254), (.str x34 255)]⟩ 0), ⟨[]⟩⟩
noncomputable def o46_8 (P : Params) : Obj := ⟨(.type "tuple"), none, (.seq ⟨[]⟩ 0), ⟨[]⟩⟩
noncomputable def o47_8 (P : Params) : Obj := ⟨.none, none, (.func ⟨x18, x18, (fp 6).1, .stmts (fp 6).2.1, (fp 6).2.2, 0, [], .none, .none, .none, .none, none, .none, .none, 0⟩), ⟨[]⟩⟩
noncomputable def o48_8 (P : Params) : Obj := ⟨(.type "code"), none, (.fields ⟨[(.str x18 244), (.str x18 245), (.str x1 246), (.int 54 0), (.int 2 0), (.int 0 0), (.int 0 0), (.int 3 0), (.ref 43), (.bool true), (.int 181 0), (.ref 44), .none, (.ref 45), (.ref 46), (.ref 47), (.int 256 0), (.int 54 0), (.str x1 257)]⟩), ⟨[]⟩⟩
noncomputable def o49_8 (P : Params) : Obj := ⟨(.type "function"), none, (.func ⟨x18, x18, (fp 6).1, .stmts (fp 6).2.1, (fp 6).2.2, 3, [], .none, .none, .none, (.str x31 187), none, (.ref 48), .none, 0⟩), ⟨[]⟩⟩
noncomputable def o50_8 (P : Params) : Obj := ⟨(.type "tuple"), none, (.seq ⟨[]⟩ 0), ⟨[]⟩⟩
noncomputable def o51_8 (P : Params) : Obj := ⟨.none, none, (.fields ⟨[]⟩), ⟨[]⟩⟩
noncomputable def o52_8 (P : Params) : Obj := ⟨(.type "tuple"), none, (.seq ⟨[(.str x20 262), (.str x21 263), (.str x34 264), (.str x29 265)]⟩ 0), ⟨[]⟩⟩
noncomputable def o53_8 (P : Params) : Obj := ⟨(.type "tuple"), none, (.seq ⟨[]⟩ 0), ⟨[]⟩⟩
noncomputable def o54_8 (P : Params) : Obj := ⟨.none, none, (.func ⟨x19, x19, (fp 7).1, .stmts (fp 7).2.1, (fp 7).2.2, 0, [], .none, .none, .none, .none, none, .none, .none, 0⟩), ⟨[]⟩⟩
noncomputable def o55_8 (P : Params) : Obj := ⟨(.type "code"), none, (.fields ⟨[(.str x19 259), (.str x19 260), (.str x1 261), (.int 65 0), (.int 2 0), (.int 0 0), (.int 0 0), (.int 3 0), (.ref 50), (.bool true), (.int 181 0), (.ref 51), .none, (.ref 52), (.ref 53), (.ref 54), (.int 266 0), (.int 65 0), (.str x1 267)]⟩), ⟨[]⟩⟩
noncomputable def o56_8 (P : Params) : Obj := ⟨(.type "function"), none, (.func ⟨x19, x19, (fp 7).1, .stmts (fp 7).2.1, (fp 7).2.2, 3, [], .none, .none, .none, (.str x31 187), none, (.ref 55), .none, 0⟩), ⟨[]⟩⟩
noncomputable def T_8 (P : Params) : BT := (.node (boot_o_0 P) (.node (boot_o_1 P) (.node (o3_8 P) (.node (boot_o_7 P) (.node (o15_8 P) (.node (o31_8 P) .nil .nil) (.node (o47_8 P) .nil .nil)) (.node (o23_8 P) (.node (o39_8 P) .nil .nil) (.node (o55_8 P) .nil .nil))) (.node (o11_p P) (.node (o19_8 P) (.node (o35_8 P) .nil .nil) (.node (o51_8 P) .nil .nil)) (.node (o27_8 P) (.node (o43_8 P) .nil .nil) .nil))) (.node (boot_o_5 P) (.node (boot_o_9 P) (.node (o17_8 P) (.node (o33_8 P) .nil .nil) (.node (o49_8 P) .nil .nil)) (.node (o25_8 P) (.node (o41_8 P) .nil .nil) .nil)) (.node (o13_p P) (.node (o21_8 P) (.node (o37_8 P) .nil .nil) (.node (o53_8 P) .nil .nil)) (.node (o29_8 P) (.node (o45_8 P) .nil .nil) .nil)))) (.node (boot_o_2 P) (.node (boot_o_4 P) (.node (boot_o_8 P) (.node (o16_8 P) (.node (o32_8 P) .nil .nil) (.node (o48_8 P) .nil .nil)) (.node (o24_8 P) (.node (o40_8 P) .nil .nil) (.node (o56_8 P) .nil .nil))) (.node (o12_8 P) (.node (o20_8 P) (.node (o36_8 P) .nil .nil) (.node (o52_8 P) .nil .nil)) (.node (o28_8 P) (.node (o44_8 P) .nil .nil) .nil))) (.node (boot_o_6 P) (.node (boot_o_10 P) (.node (o18_8 P) (.node (o34_8 P) .nil .nil) (.node (o50_8 P) .nil .nil)) (.node (o26_8 P) (.node (o42_8 P) .nil .nil) .nil)) (.node (o14_p P) (.node (o22_8 P) (.node (o38_8 P) .nil .nil) (.node (o54_8 P) .nil .nil)) (.node (o30_8 P) (.node (o46_8 P) .nil .nil) .nil)))))
-- state 8: n 57 toks 271 pos ⟨76, 0, 76, 8⟩ steps 9
noncomputable def o3_9 (P : Params) : Obj := ⟨(.type "dict"), none, (.dict ⟨[⟨(PyData.keyHash P x3), (.str x3 165), (.str x4 269)⟩, ⟨(PyData.keyHash P x5), (.str x5 166), .none⟩, ⟨(PyData.keyHash P x6), (.str x6 167), .none⟩, ⟨(PyData.keyHash P x7), (.str x7 168), (.builtin "__main__.__loader__#opaque")⟩, ⟨(PyData.keyHash P x8), (.str x8 169), .none⟩, ⟨(PyData.keyHash P x9), (.str x9 170), (.ref 6)⟩, ⟨(PyData.keyHash P x10), (.str x10 171), (.ref 4)⟩, ⟨(PyData.keyHash P x11), (.str x11 173), (.str x1 172)⟩, ⟨(PyData.keyHash P x12), (.str x12 174), .none⟩, ⟨(PyData.keyHash P x13), (.str x13 190), (.int 4000 189)⟩, ⟨(PyData.keyHash P x14), (.str x14 207), (.ref 21)⟩, ⟨(PyData.keyHash P x15), (.str x15 221), (.ref 28)⟩, ⟨(PyData.keyHash P x16), (.str x16 232), (.ref 35)⟩, ⟨(PyData.keyHash P x17), (.str x17 243), (.ref 42)⟩, ⟨(PyData.keyHash P x18), (.str x18 258), (.ref 49)⟩, ⟨(PyData.keyHash P x19), (.str x19 268), (.ref 56)⟩, ⟨(PyData.keyHash P x41), (.str x41 330), (.ref 64)⟩]⟩ 17), ⟨[]⟩⟩
noncomputable def o57_9 (P : Params) : Obj := ⟨(.type "list"), none, (.seq ⟨[(.int 173 271), (.int 847 272), (.int 6150 273), (.int 6155 274), (.int 6156 275), (.int 6157 276), (.int 8203 277), (.int 8204 278), (.int 8205 279), (.int 8288 280), (.int 65279 281)]⟩ 0), ⟨[]⟩⟩
noncomputable def o58_9 (P : Params) : Obj := ⟨(.type "range"), none, (.fields ⟨[(.int 65024 282), (.int 65040 283), (.int 1 284)]⟩), ⟨[]⟩⟩
noncomputable def o59_9 (P : Params) : Obj := ⟨(.type "list"), none, (.seq ⟨[(.int 65024 287), (.int 65025 288), (.int 65026 289), (.int 65027 290), (.int 65028 291), (.int 65029 292), (.int 65030 293), (.int 65031 294), (.int 65032 295), (.int 65033 296), (.int 65034 297), (.int 65035 298), (.int 65036 299), (.int 65037 300), (.int 65038 301), (.int 65039 302)]⟩ 18), ⟨[]⟩⟩
noncomputable def o60_9 (P : Params) : Obj := ⟨(.type "range_iterator"), none, (.fields ⟨[(.int 65040 0), (.int 0 0), (.int 1 0)]⟩), ⟨[]⟩⟩
noncomputable def o61_9 (P : Params) : Obj := ⟨(.type "tuple"), none, (.seq ⟨[]⟩ 0), ⟨[]⟩⟩
noncomputable def o62_9 (P : Params) : Obj := ⟨(.type "StopIteration"), none, (.fields ⟨[(.ref 61), .none, .none, .none, (.bool false), .none]⟩), ⟨[]⟩⟩
noncomputable def o63_9 (P : Params) : Obj := ⟨(.type "list"), none, (.seq ⟨[(.int 173 271), (.int 847 272), (.int 6150 273), (.int 6155 274), (.int 6156 275), (.int 6157 276), (.int 8203 277), (.int 8204 278), (.int 8205 279), (.int 8288 280), (.int 65279 281), (.int 65024 287), (.int 65025 288), (.int 65026 289), (.int 65027 290), (.int 65028 291), (.int 65029 292), (.int 65030 293), (.int 65031 294), (.int 65032 295), (.int 65033 296), (.int 65034 297), (.int 65035 298), (.int 65036 299), (.int 65037 300), (.int 65038 301), (.int 65039 302)]⟩ 0), ⟨[]⟩⟩
noncomputable def o64_9 (P : Params) : Obj := ⟨(.type "set"), none, (.set ⟨[(65024, (.int 65024 287)), (65025, (.int 65025 288)), (65026, (.int 65026 289)), (65027, (.int 65027 290)), (65028, (.int 65028 291)), (65029, (.int 65029 292)), (6150, (.int 6150 273)), (65030, (.int 65030 293)), (65031, (.int 65031 294)), (65032, (.int 65032 295)), (65033, (.int 65033 296)), (6155, (.int 6155 274)), (6156, (.int 6156 275)), (6157, (.int 6157 276)), (8203, (.int 8203 277)), (8204, (.int 8204 278)), (8205, (.int 8205 279)), (65034, (.int 65034 297)), (65035, (.int 65035 298)), (65036, (.int 65036 299)), (65037, (.int 65037 300)), (65038, (.int 65038 301)), (65039, (.int 65039 302)), (173, (.int 173 271)), (847, (.int 847 272)), (8288, (.int 8288 280)), (65279, (.int 65279 281))]⟩ 29 ⟨127, ⟨[0, 1, 2, 3, 4, 5, 6, 7, 8, 9, 10, 11, 12, 13, 14, 15, 16, 17, 18, 19, 20, 21, 22, 45, 79, 96, 127]⟩, ⟨[]⟩, 0, !(P.followText "set-order"), 2, true⟩), ⟨[]⟩⟩
noncomputable def o65_9 (P : Params) : Obj := ⟨(.type "list_iterator"), none, (.fields ⟨[.none, (.int 27 0)]⟩), ⟨[]⟩⟩
noncomputable def o66_9 (P : Params) : Obj := ⟨(.type "tuple"), none, (.seq ⟨[]⟩ 0), ⟨[]⟩⟩
noncomputable def o67_9 (P : Params) : Obj := ⟨(.type "StopIteration"), none, (.fields ⟨[(.ref 66), .none, .none, .none, (.bool false), .none]⟩), ⟨[]⟩⟩
noncomputable def T_9 (P : Params) : BT := (.node (boot_o_0 P) (.node (boot_o_1 P) (.node (o3_9 P) (.node (boot_o_7 P) (.node (o15_8 P) (.node (o31_8 P) (.node (o63_9 P) .nil .nil) .nil) (.node (o47_8 P) .nil .nil)) (.node (o23_8 P) (.node (o39_8 P) .nil .nil) (.node (o55_8 P) .nil .nil))) (.node (o11_p P) (.node (o19_8 P) (.node (o35_8 P) (.node (o67_9 P) .nil .nil) .nil) (.node (o51_8 P) .nil .nil)) (.node (o27_8 P) (.node (o43_8 P) .nil .nil) (.node (o59_9 P) .nil .nil)))) (.node (boot_o_5 P) (.node (boot_o_9 P) (.node (o17_8 P) (.node (o33_8 P) (.node (o65_9 P) .nil .nil) .nil) (.node (o49_8 P) .nil .nil)) (.node (o25_8 P) (.node (o41_8 P) .nil .nil) (.node (o57_9 P) .nil .nil))) (.node (o13_p P) (.node (o21_8 P) (.node (o37_8 P) .nil .nil) (.node (o53_8 P) .nil .nil)) (.node (o29_8 P) (.node (o45_8 P) .nil .nil) (.node (o61_9 P) .nil .nil))))) (.node (boot_o_2 P) (.node (boot_o_4 P) (.node (boot_o_8 P) (.node (o16_8 P) (.node (o32_8 P) (.node (o64_9 P) .nil .nil) .nil) (.node (o48_8 P) .nil .nil)) (.node (o24_8 P) (.node (o40_8 P) .nil .nil) (.node (o56_8 P) .nil .nil))) (.node (o12_8 P) (.node (o20_8 P) (.node (o36_8 P) .nil .nil) (.node (o52_8 P) .nil .nil)) (.node (o28_8 P) (.node (o44_8 P) .nil .nil) (.node (o60_9 P) .nil .nil)))) (.node (boot_o_6 P) (.node (boot_o_10 P) (.node (o18_8 P) (.node (o34_8 P) (.node (o66_9 P) .nil .nil) .nil) (.node (o50_8 P) .nil .nil)) (.node (o26_8 P) (.node (o42_8 P) .nil .nil) (.node (o58_9 P) .nil .nil))) (.node (o14_p P) (.node (o22_8 P) (.node (o38_8 P) .nil .nil) (.node (o54_8 P) .nil .nil)) (.node (o30_8 P) (.node (o46_8 P) .nil .nil) (.node (o62_9 P) .nil .nil))))))
-- state 9: n 68 toks 331 pos ⟨77, 0, 77, 6⟩ steps 998
noncomputable def o3_10 (P : Params) : Obj := ⟨(.type "dict"), none, (.dict ⟨[⟨(PyData.keyHash P x3), (.str x3 165), (.str x4 269)⟩, ⟨(PyData.keyHash P x5), (.str x5 166), .none⟩, ⟨(PyData.keyHash P x6), (.str x6 167), .none⟩, ⟨(PyData.keyHash P x7), (.str x7 168), (.builtin "__main__.__loader__#opaque")⟩, ⟨(PyData.keyHash P x8), (.str x8 169), .none⟩, ⟨(PyData.keyHash P x9), (.str x9 170), (.ref 6)⟩, ⟨(PyData.keyHash P x10), (.str x10 171), (.ref 4)⟩, ⟨(PyData.keyHash P x11), (.str x11 173), (.str x1 172)⟩, ⟨(PyData.keyHash P x12), (.str x12 174), .none⟩, ⟨(PyData.keyHash P x13), (.str x13 190), (.int 4000 189)⟩, ⟨(PyData.keyHash P x14), (.str x14 207), (.ref 21)⟩, ⟨(PyData.keyHash P x15), (.str x15 221), (.ref 28)⟩, ⟨(PyData.keyHash P x16), (.str x16 232), (.ref 35)⟩, ⟨(PyData.keyHash P x17), (.str x17 243), (.ref 42)⟩, ⟨(PyData.keyHash P x18), (.str x18 258), (.ref 49)⟩, ⟨(PyData.keyHash P x19), (.str x19 268), (.ref 56)⟩, ⟨(PyData.keyHash P x41), (.str x41 330), (.ref 64)⟩, ⟨(PyData.keyHash P x42), (.str x42 337), (.ref 74)⟩]⟩ 18), ⟨[]⟩⟩
noncomputable def o12_10 (P : Params) : Obj := ⟨.none, none, (.fields ⟨[(.int 3 0), (.int 0 0), (.ref 20), (.int 19 0), (.int 0 0), (.ref 27), (.int 29 0), (.int 0 0), (.ref 34), (.int 45 0), (.int 0 0), (.ref 41), (.int 54 0), (.int 0 0), (.ref 48), (.int 65 0), (.int 0 0), (.ref 55), (.int 78 0), (.int 0 0), (.ref 73)]⟩), ⟨[]⟩⟩
noncomputable def o68_10 (P : Params) : Obj := ⟨(.type "tuple"), none, (.seq ⟨[]⟩ 0), ⟨[]⟩⟩
noncomputable def o69_10 (P : Params) : Obj := ⟨.none, none, (.fields ⟨[]⟩), ⟨[]⟩⟩
noncomputable def o70_10 (P : Params) : Obj := ⟨(.type "tuple"), none, (.seq ⟨[(.str x43 334)]⟩ 0), ⟨[]⟩⟩
noncomputable def o71_10 (P : Params) : Obj := ⟨(.type "tuple"), none, (.seq ⟨[]⟩ 0), ⟨[]⟩⟩
noncomputable def o72_10 (P : Params) : Obj := ⟨.none, none, (.func ⟨x42, x42, (fp 10).1, .stmts (fp 10).2.1, (fp 10).2.2, 0, [], .none, .none, .none, .none, none, .none, .none, 0⟩), ⟨[]⟩⟩
noncomputable def o73_10 (P : Params) : Obj := ⟨(.type "code"), none, (.fields ⟨[(.str x42 331), (.str x42 332), (.str x1 333), (.int 78 0), (.int 1 0), (.int 0 0), (.int 0 0), (.int 3 0), (.ref 68), (.bool true), (.int 181 0), (.ref 69), .none, (.ref 70), (.ref 71), (.ref 72), (.int 335 0), (.int 78 0), (.str x1 336)]⟩), ⟨[]⟩⟩
noncomputable def o74_10 (P : Params) : Obj := ⟨(.type "function"), none, (.func ⟨x42, x42, (fp 10).1, .stmts (fp 10).2.1, (fp 10).2.2, 3, [], .none, .none, .none, (.str x4 269), none, (.ref 73), .none, 0⟩), ⟨[]⟩⟩
noncomputable def T_10 (P : Params) : BT := (.node (boot_o_0 P) (.node (boot_o_1 P) (.node (o3_10 P) (.node (boot_o_7 P) (.node (o15_8 P) (.node (o31_8 P) (.node (o63_9 P) .nil .nil) .nil) (.node (o47_8 P) .nil .nil)) (.node (o23_8 P) (.node (o39_8 P) (.node (o71_10 P) .nil .nil) .nil) (.node (o55_8 P) .nil .nil))) (.node (o11_p P) (.node (o19_8 P) (.node (o35_8 P) (.node (o67_9 P) .nil .nil) .nil) (.node (o51_8 P) .nil .nil)) (.node (o27_8 P) (.node (o43_8 P) .nil .nil) (.node (o59_9 P) .nil .nil)))) (.node (boot_o_5 P) (.node (boot_o_9 P) (.node (o17_8 P) (.node (o33_8 P) (.node (o65_9 P) .nil .nil) .nil) (.node (o49_8 P) .nil .nil)) (.node (o25_8 P) (.node (o41_8 P) (.node (o73_10 P) .nil .nil) .nil) (.node (o57_9 P) .nil .nil))) (.node (o13_p P) (.node (o21_8 P) (.node (o37_8 P) (.node (o69_10 P) .nil .nil) .nil) (.node (o53_8 P) .nil .nil)) (.node (o29_8 P) (.node (o45_8 P) .nil .nil) (.node (o61_9 P) .nil .nil))))) (.node (boot_o_2 P) (.node (boot_o_4 P) (.node (boot_o_8 P) (.node (o16_8 P) (.node (o32_8 P) (.node (o64_9 P) .nil .nil) .nil) (.node (o48_8 P) .nil .nil)) (.node (o24_8 P) (.node (o40_8 P) (.node (o72_10 P) .nil .nil) .nil) (.node (o56_8 P) .nil .nil))) (.node (o12_10 P) (.node (o20_8 P) (.node (o36_8 P) (.node (o68_10 P) .nil .nil) .nil) (.node (o52_8 P) .nil .nil)) (.node (o28_8 P) (.node (o44_8 P) .nil .nil) (.node (o60_9 P) .nil .nil)))) (.node (boot_o_6 P) (.node (boot_o_10 P) (.node (o18_8 P) (.node (o34_8 P) (.node (o66_9 P) .nil .nil) .nil) (.node (o50_8 P) .nil .nil)) (.node (o26_8 P) (.node (o42_8 P) (.node (o74_10 P) .nil .nil) .nil) (.node (o58_9 P) .nil .nil))) (.node (o14_p P) (.node (o22_8 P) (.node (o38_8 P) (.node (o70_10 P) .nil .nil) .nil) (.node (o54_8 P) .nil .nil)) (.node (o30_8 P) (.node (o46_8 P) .nil .nil) (.node (o62_9 P) .nil .nil))))))
-- state 10: n 75 toks 338 pos ⟨78, 0, 79, 30⟩ steps 29
noncomputable def o3_11 (P : Params) : Obj := ⟨(.type "dict"), none, (.dict ⟨[⟨(PyData.keyHash P x3), (.str x3 165), (.str x4 269)⟩, ⟨(PyData.keyHash P x5), (.str x5 166), .none⟩, ⟨(PyData.keyHash P x6), (.str x6 167), .none⟩, ⟨(PyData.keyHash P x7), (.str x7 168), (.builtin "__main__.__loader__#opaque")⟩, ⟨(PyData.keyHash P x8), (.str x8 169), .none⟩, ⟨(PyData.keyHash P x9), (.str x9 170), (.ref 6)⟩, ⟨(PyData.keyHash P x10), (.str x10 171), (.ref 4)⟩, ⟨(PyData.keyHash P x11), (.str x11 173), (.str x1 172)⟩, ⟨(PyData.keyHash P x12), (.str x12 174), .none⟩, ⟨(PyData.keyHash P x13), (.str x13 190), (.int 4000 189)⟩, ⟨(PyData.keyHash P x14), (.str x14 207), (.ref 21)⟩, ⟨(PyData.keyHash P x15), (.str x15 221), (.ref 28)⟩, ⟨(PyData.keyHash P x16), (.str x16 232), (.ref 35)⟩, ⟨(PyData.keyHash P x17), (.str x17 243), (.ref 42)⟩, ⟨(PyData.keyHash P x18), (.str x18 258), (.ref 49)⟩, ⟨(PyData.keyHash P x19), (.str x19 268), (.ref 56)⟩, ⟨(PyData.keyHash P x41), (.str x41 330), (.ref 64)⟩, ⟨(PyData.keyHash P x42), (.str x42 337), (.ref 74)⟩, ⟨(PyData.keyHash P x44), (.str x44 2288), (.ref 75)⟩]⟩ 19), ⟨[]⟩⟩
noncomputable def pairsOf : List (Option PySem.Expr) → List PySem.Expr → List (Int × PySem.Str)
  | some (.Constant (.int k) _ _) :: ks, .Constant (.str v) _ _ :: vs => (k, v) :: pairsOf ks vs
  | _, _ => []
noncomputable def b3pairs : List (Int × PySem.Str) := match PW.main.body.drop 11 with
  | .Assign _ (.Dict ks vs _) _ :: _ => pairsOf ks vs
  | _ => []
/-- entries made one by one: key, value, hash take a token each -/
noncomputable def entL (t : Nat) : List (Int × PySem.Str) → List DictEntry
  | [] => []
  | (k, v) :: r => ⟨k, .int k t, .str v (t + 1)⟩ :: entL (t + 3) r
/-- entries of a short display: keys and values first -/
noncomputable def entS (t : Nat) : List (Int × PySem.Str) → List DictEntry
  | [] => []
  | (k, v) :: r => ⟨k, .int k t, .str v (t + 1)⟩ :: entS (t + 2) r
noncomputable def dictO (es : List DictEntry) : Obj := ⟨.type "dict", none, .dict ⟨es⟩ es.length, ⟨[]⟩⟩
noncomputable def b3all : List DictEntry := entL 338 (b3pairs.take 646) ++ entS 2276 (b3pairs.drop 646)
noncomputable def o75_11 (P : Params) : Obj := dictO b3all
noncomputable def o76_11 (P : Params) : Obj := dictO (entL 389 ((b3pairs.drop 17).take 17))
noncomputable def o77_11 (P : Params) : Obj := dictO (entL 440 ((b3pairs.drop 34).take 17))
noncomputable def o78_11 (P : Params) : Obj := dictO (entL 491 ((b3pairs.drop 51).take 17))
noncomputable def o79_11 (P : Params) : Obj := dictO (entL 542 ((b3pairs.drop 68).take 17))
noncomputable def o80_11 (P : Params) : Obj := dictO (entL 593 ((b3pairs.drop 85).take 17))
noncomputable def o81_11 (P : Params) : Obj := dictO (entL 644 ((b3pairs.drop 102).take 17))
noncomputable def o82_11 (P : Params) : Obj := dictO (entL 695 ((b3pairs.drop 119).take 17))
noncomputable def o83_11 (P : Params) : Obj := dictO (entL 746 ((b3pairs.drop 136).take 17))
noncomputable def o84_11 (P : Params) : Obj := dictO (entL 797 ((b3pairs.drop 153).take 17))
noncomputable def o85_11 (P : Params) : Obj := dictO (entL 848 ((b3pairs.drop 170).take 17))
noncomputable def o86_11 (P : Params) : Obj := dictO (entL 899 ((b3pairs.drop 187).take 17))
noncomputable def o87_11 (P : Params) : Obj := dictO (entL 950 ((b3pairs.drop 204).take 17))
noncomputable def o88_11 (P : Params) : Obj := dictO (entL 1001 ((b3pairs.drop 221).take 17))
noncomputable def o89_11 (P : Params) : Obj := dictO (entL 1052 ((b3pairs.drop 238).take 17))
noncomputable def o90_11 (P : Params) : Obj := dictO (entL 1103 ((b3pairs.drop 255).take 17))
noncomputable def o91_11 (P : Params) : Obj := dictO (entL 1154 ((b3pairs.drop 272).take 17))
noncomputable def o92_11 (P : Params) : Obj := dictO (entL 1205 ((b3pairs.drop 289).take 17))
noncomputable def o93_11 (P : Params) : Obj := dictO (entL 1256 ((b3pairs.drop 306).take 17))
noncomputable def o94_11 (P : Params) : Obj := dictO (entL 1307 ((b3pairs.drop 323).take 17))
noncomputable def o95_11 (P : Params) : Obj := dictO (entL 1358 ((b3pairs.drop 340).take 17))
noncomputable def o96_11 (P : Params) : Obj := dictO (entL 1409 ((b3pairs.drop 357).take 17))
noncomputable def o97_11 (P : Params) : Obj := dictO (entL 1460 ((b3pairs.drop 374).take 17))
noncomputable def o98_11 (P : Params) : Obj := dictO (entL 1511 ((b3pairs.drop 391).take 17))
noncomputable def o99_11 (P : Params) : Obj := dictO (entL 1562 ((b3pairs.drop 408).take 17))
noncomputable def o100_11 (P : Params) : Obj := dictO (entL 1613 ((b3pairs.drop 425).take 17))
noncomputable def o101_11 (P : Params) : Obj := dictO (entL 1664 ((b3pairs.drop 442).take 17))
noncomputable def o102_11 (P : Params) : Obj := dictO (entL 1715 ((b3pairs.drop 459).take 17))
noncomputable def o103_11 (P : Params) : Obj := dictO (entL 1766 ((b3pairs.drop 476).take 17))
noncomputable def o104_11 (P : Params) : Obj := dictO (entL 1817 ((b3pairs.drop 493).take 17))
noncomputable def o105_11 (P : Params) : Obj := dictO (entL 1868 ((b3pairs.drop 510).take 17))
noncomputable def o106_11 (P : Params) : Obj := dictO (entL 1919 ((b3pairs.drop 527).take 17))
noncomputable def o107_11 (P : Params) : Obj := dictO (entL 1970 ((b3pairs.drop 544).take 17))
noncomputable def o108_11 (P : Params) : Obj := dictO (entL 2021 ((b3pairs.drop 561).take 17))
noncomputable def o109_11 (P : Params) : Obj := dictO (entL 2072 ((b3pairs.drop 578).take 17))
noncomputable def o110_11 (P : Params) : Obj := dictO (entL 2123 ((b3pairs.drop 595).take 17))
noncomputable def o111_11 (P : Params) : Obj := dictO (entL 2174 ((b3pairs.drop 612).take 17))
noncomputable def o112_11 (P : Params) : Obj := dictO (entL 2225 ((b3pairs.drop 629).take 17))
noncomputable def o113_11 (P : Params) : Obj := dictO (entS 2276 (b3pairs.drop 646))
noncomputable def T_11 (P : Params) : BT := (.node (boot_o_0 P) (.node (boot_o_1 P) (.node (o3_11 P) (.node (boot_o_7 P) (.node (o15_8 P) (.node (o31_8 P) (.node (o63_9 P) .nil .nil) (.node (o95_11 P) .nil .nil)) (.node (o47_8 P) (.node (o79_11 P) .nil .nil) (.node (o111_11 P) .nil .nil))) (.node (o23_8 P) (.node (o39_8 P) (.node (o71_10 P) .nil .nil) (.node (o103_11 P) .nil .nil)) (.node (o55_8 P) (.node (o87_11 P) .nil .nil) .nil))) (.node (o11_p P) (.node (o19_8 P) (.node (o35_8 P) (.node (o67_9 P) .nil .nil) (.node (o99_11 P) .nil .nil)) (.node (o51_8 P) (.node (o83_11 P) .nil .nil) .nil)) (.node (o27_8 P) (.node (o43_8 P) (.node (o75_11 P) .nil .nil) (.node (o107_11 P) .nil .nil)) (.node (o59_9 P) (.node (o91_11 P) .nil .nil) .nil)))) (.node (boot_o_5 P) (.node (boot_o_9 P) (.node (o17_8 P) (.node (o33_8 P) (.node (o65_9 P) .nil .nil) (.node (o97_11 P) .nil .nil)) (.node (o49_8 P) (.node (o81_11 P) .nil .nil) (.node (o113_11 P) .nil .nil))) (.node (o25_8 P) (.node (o41_8 P) (.node (o73_10 P) .nil .nil) (.node (o105_11 P) .nil .nil)) (.node (o57_9 P) (.node (o89_11 P) .nil .nil) .nil))) (.node (o13_p P) (.node (o21_8 P) (.node (o37_8 P) (.node (o69_10 P) .nil .nil) (.node (o101_11 P) .nil .nil)) (.node (o53_8 P) (.node (o85_11 P) .nil .nil) .nil)) (.node (o29_8 P) (.node (o45_8 P) (.node (o77_11 P) .nil .nil) (.node (o109_11 P) .nil .nil)) (.node (o61_9 P) (.node (o93_11 P) .nil .nil) .nil))))) (.node (boot_o_2 P) (.node (boot_o_4 P) (.node (boot_o_8 P) (.node (o16_8 P) (.node (o32_8 P) (.node (o64_9 P) .nil .nil) (.node (o96_11 P) .nil .nil)) (.node (o48_8 P) (.node (o80_11 P) .nil .nil) (.node (o112_11 P) .nil .nil))) (.node (o24_8 P) (.node (o40_8 P) (.node (o72_10 P) .nil .nil) (.node (o104_11 P) .nil .nil)) (.node (o56_8 P) (.node (o88_11 P) .nil .nil) .nil))) (.node (o12_10 P) (.node (o20_8 P) (.node (o36_8 P) (.node (o68_10 P) .nil .nil) (.node (o100_11 P) .nil .nil)) (.node (o52_8 P) (.node (o84_11 P) .nil .nil) .nil)) (.node (o28_8 P) (.node (o44_8 P) (.node (o76_11 P) .nil .nil) (.node (o108_11 P) .nil .nil)) (.node (o60_9 P) (.node (o92_11 P) .nil .nil) .nil)))) (.node (boot_o_6 P) (.node (boot_o_10 P) (.node (o18_8 P) (.node (o34_8 P) (.node (o66_9 P) .nil .nil) (.node (o98_11 P) .nil .nil)) (.node (o50_8 P) (.node (o82_11 P) .nil .nil) .nil)) (.node (o26_8 P) (.node (o42_8 P) (.node (o74_10 P) .nil .nil) (.node (o106_11 P) .nil .nil)) (.node (o58_9 P) (.node (o90_11 P) .nil .nil) .nil))) (.node (o14_p P) (.node (o22_8 P) (.node (o38_8 P) (.node (o70_10 P) .nil .nil) (.node (o102_11 P) .nil .nil)) (.node (o54_8 P) (.node (o86_11 P) .nil .nil) .nil)) (.node (o30_8 P) (.node (o46_8 P) (.node (o78_11 P) .nil .nil) (.node (o110_11 P) .nil .nil)) (.node (o62_9 P) (.node (o94_11 P) .nil .nil) .nil))))))
-- state 11: n 114 toks 2289 pos ⟨80, 0, 80, 13⟩ steps 12524
noncomputable def o3_36 (P : Params) : Obj := ⟨(.type "dict"), none, (.dict ⟨[⟨(PyData.keyHash P x3), (.str x3 165), (.str x45 2297)⟩, ⟨(PyData.keyHash P x5), (.str x5 166), .none⟩, ⟨(PyData.keyHash P x6), (.str x6 167), .none⟩, ⟨(PyData.keyHash P x7), (.str x7 168), (.builtin "__main__.__loader__#opaque")⟩, ⟨(PyData.keyHash P x8), (.str x8 169), .none⟩, ⟨(PyData.keyHash P x9), (.str x9 170), (.ref 6)⟩, ⟨(PyData.keyHash P x10), (.str x10 171), (.ref 4)⟩, ⟨(PyData.keyHash P x11), (.str x11 173), (.str x1 172)⟩, ⟨(PyData.keyHash P x12), (.str x12 174), .none⟩, ⟨(PyData.keyHash P x13), (.str x13 190), (.int 4000 189)⟩, ⟨(PyData.keyHash P x14), (.str x14 207), (.ref 21)⟩, ⟨(PyData.keyHash P x15), (.str x15 221), (.ref 28)⟩, ⟨(PyData.keyHash P x16), (.str x16 232), (.ref 35)⟩, ⟨(PyData.keyHash P x17), (.str x17 243), (.ref 42)⟩, ⟨(PyData.keyHash P x18), (.str x18 258), (.ref 49)⟩, ⟨(PyData.keyHash P x19), (.str x19 268), (.ref 56)⟩, ⟨(PyData.keyHash P x41), (.str x41 330), (.ref 64)⟩, ⟨(PyData.keyHash P x42), (.str x42 337), (.ref 74)⟩, ⟨(PyData.keyHash P x44), (.str x44 2288), (.ref 75)⟩, ⟨(PyData.keyHash P x46), (.str x46 2296), (.ref 120)⟩, ⟨(PyData.keyHash P x47), (.str x47 2300), (.int 0 2299)⟩, ⟨(PyData.keyHash P x48), (.str x48 2302), (.int 7 2301)⟩, ⟨(PyData.keyHash P x49), (.str x49 2304), (.int 8 2303)⟩, ⟨(PyData.keyHash P x50), (.str x50 2306), (.int 9 2305)⟩, ⟨(PyData.keyHash P x51), (.str x51 2308), (.int 10 2307)⟩, ⟨(PyData.keyHash P x52), (.str x52 2310), (.int 11 2309)⟩, ⟨(PyData.keyHash P x53), (.str x53 2312), (.int 12 2311)⟩, ⟨(PyData.keyHash P x54), (.str x54 2314), (.int 13 2313)⟩, ⟨(PyData.keyHash P x55), (.str x55 2316), (.int 14 2315)⟩, ⟨(PyData.keyHash P x56), (.str x56 2318), (.int 15 2317)⟩, ⟨(PyData.keyHash P x57), (.str x57 2320), (.int 16 2319)⟩, ⟨(PyData.keyHash P x58), (.str x58 2322), (.int 17 2321)⟩, ⟨(PyData.keyHash P x59), (.str x59 2324), (.int 18 2323)⟩, ⟨(PyData.keyHash P x60), (.str x60 2326), (.int 19 2325)⟩, ⟨(PyData.keyHash P x61), (.str x61 2328), (.int 20 2327)⟩, ⟨(PyData.keyHash P x62), (.str x62 2330), (.int 21 2329)⟩, ⟨(PyData.keyHash P x63), (.str x63 2332), (.int 22 2331)⟩, ⟨(PyData.keyHash P x64), (.str x64 2334), (.int 23 2333)⟩, ⟨(PyData.keyHash P x65), (.str x65 2336), (.int 24 2335)⟩, ⟨(PyData.keyHash P x66), (.str x66 2338), (.int 25 2337)⟩, ⟨(PyData.keyHash P x67), (.str x67 2340), (.int 26 2339)⟩, ⟨(PyData.keyHash P x68), (.str x68 2342), (.int 27 2341)⟩, ⟨(PyData.keyHash P x69), (.str x69 2344), (.int 28 2343)⟩]⟩ 43), ⟨[]⟩⟩
noncomputable def o12_36 (P : Params) : Obj := ⟨.none, none, (.fields ⟨[(.int 3 0), (.int 0 0), (.ref 20), (.int 19 0), (.int 0 0), (.ref 27), (.int 29 0), (.int 0 0), (.ref 34), (.int 45 0), (.int 0 0), (.ref 41), (.int 54 0), (.int 0 0), (.ref 48), (.int 65 0), (.int 0 0), (.ref 55), (.int 78 0), (.int 0 0), (.ref 73), (.int 81 0), (.int 0 0), (.ref 119)]⟩), ⟨[]⟩⟩
noncomputable def o114_36 (P : Params) : Obj := ⟨(.type "tuple"), none, (.seq ⟨[]⟩ 0), ⟨[]⟩⟩
noncomputable def o115_36 (P : Params) : Obj := ⟨.none, none, (.fields ⟨[]⟩), ⟨[]⟩⟩
noncomputable def o116_36 (P : Params) : Obj := ⟨(.type "tuple"), none, (.seq ⟨[(.str x43 2292), (.str x29 2293)]⟩ 0), ⟨[]⟩⟩
noncomputable def o117_36 (P : Params) : Obj := ⟨(.type "tuple"), none, (.seq ⟨[]⟩ 0), ⟨[]⟩⟩
noncomputable def o118_36 (P : Params) : Obj := ⟨.none, none, (.func ⟨x46, x46, (fp 12).1, .stmts (fp 12).2.1, (fp 12).2.2, 0, [], .none, .none, .none, .none, none, .none, .none, 0⟩), ⟨[]⟩⟩
noncomputable def o119_36 (P : Params) : Obj := ⟨(.type "code"), none, (.fields ⟨[(.str x46 2289), (.str x46 2290), (.str x1 2291), (.int 81 0), (.int 1 0), (.int 0 0), (.int 0 0), (.int 3 0), (.ref 114), (.bool true), (.int 181 0), (.ref 115), .none, (.ref 116), (.ref 117), (.ref 118), (.int 2294 0), (.int 81 0), (.str x1 2295)]⟩), ⟨[]⟩⟩
noncomputable def o120_36 (P : Params) : Obj := ⟨(.type "function"), none, (.func ⟨x46, x46, (fp 12).1, .stmts (fp 12).2.1, (fp 12).2.2, 3, [], .none, .none, .none, (.str x4 269), none, (.ref 119), .none, 0⟩), ⟨[]⟩⟩
noncomputable def T_36 (P : Params) : BT := (.node (boot_o_0 P) (.node (boot_o_1 P) (.node (o3_36 P) (.node (boot_o_7 P) (.node (o15_8 P) (.node (o31_8 P) (.node (o63_9 P) .nil .nil) (.node (o95_11 P) .nil .nil)) (.node (o47_8 P) (.node (o79_11 P) .nil .nil) (.node (o111_11 P) .nil .nil))) (.node (o23_8 P) (.node (o39_8 P) (.node (o71_10 P) .nil .nil) (.node (o103_11 P) .nil .nil)) (.node (o55_8 P) (.node (o87_11 P) .nil .nil) (.node (o119_36 P) .nil .nil)))) (.node (o11_p P) (.node (o19_8 P) (.node (o35_8 P) (.node (o67_9 P) .nil .nil) (.node (o99_11 P) .nil .nil)) (.node (o51_8 P) (.node (o83_11 P) .nil .nil) (.node (o115_36 P) .nil .nil))) (.node (o27_8 P) (.node (o43_8 P) (.node (o75_11 P) .nil .nil) (.node (o107_11 P) .nil .nil)) (.node (o59_9 P) (.node (o91_11 P) .nil .nil) .nil)))) (.node (boot_o_5 P) (.node (boot_o_9 P) (.node (o17_8 P) (.node (o33_8 P) (.node (o65_9 P) .nil .nil) (.node (o97_11 P) .nil .nil)) (.node (o49_8 P) (.node (o81_11 P) .nil .nil) (.node (o113_11 P) .nil .nil))) (.node (o25_8 P) (.node (o41_8 P) (.node (o73_10 P) .nil .nil) (.node (o105_11 P) .nil .nil)) (.node (o57_9 P) (.node (o89_11 P) .nil .nil) .nil))) (.node (o13_p P) (.node (o21_8 P) (.node (o37_8 P) (.node (o69_10 P) .nil .nil) (.node (o101_11 P) .nil .nil)) (.node (o53_8 P) (.node (o85_11 P) .nil .nil) (.node (o117_36 P) .nil .nil))) (.node (o29_8 P) (.node (o45_8 P) (.node (o77_11 P) .nil .nil) (.node (o109_11 P) .nil .nil)) (.node (o61_9 P) (.node (o93_11 P) .nil .nil) .nil))))) (.node (boot_o_2 P) (.node (boot_o_4 P) (.node (boot_o_8 P) (.node (o16_8 P) (.node (o32_8 P) (.node (o64_9 P) .nil .nil) (.node (o96_11 P) .nil .nil)) (.node (o48_8 P) (.node (o80_11 P) .nil .nil) (.node (o112_11 P) .nil .nil))) (.node (o24_8 P) (.node (o40_8 P) (.node (o72_10 P) .nil .nil) (.node (o104_11 P) .nil .nil)) (.node (o56_8 P) (.node (o88_11 P) .nil .nil) (.node (o120_36 P) .nil .nil)))) (.node (o12_36 P) (.node (o20_8 P) (.node (o36_8 P) (.node (o68_10 P) .nil .nil) (.node (o100_11 P) .nil .nil)) (.node (o52_8 P) (.node (o84_11 P) .nil .nil) (.node (o116_36 P) .nil .nil))) (.node (o28_8 P) (.node (o44_8 P) (.node (o76_11 P) .nil .nil) (.node (o108_11 P) .nil .nil)) (.node (o60_9 P) (.node (o92_11 P) .nil .nil) .nil)))) (.node (boot_o_6 P) (.node (boot_o_10 P) (.node (o18_8 P) (.node (o34_8 P) (.node (o66_9 P) .nil .nil) (.node (o98_11 P) .nil .nil)) (.node (o50_8 P) (.node (o82_11 P) .nil .nil) (.node (o114_36 P) .nil .nil))) (.node (o26_8 P) (.node (o42_8 P) (.node (o74_10 P) .nil .nil) (.node (o106_11 P) .nil .nil)) (.node (o58_9 P) (.node (o90_11 P) .nil .nil) .nil))) (.node (o14_p P) (.node (o22_8 P) (.node (o38_8 P) (.node (o70_10 P) .nil .nil) (.node (o102_11 P) .nil .nil)) (.node (o54_8 P) (.node (o86_11 P) .nil .nil) (.node (o118_36 P) .nil .nil))) (.node (o30_8 P) (.node (o46_8 P) (.node (o78_11 P) .nil .nil) (.node (o110_11 P) .nil .nil)) (.node (o62_9 P) (.node (o94_11 P) .nil .nil) .nil))))))
-- state 36: n 121 toks 2345 pos ⟨109, 0, 109, 8⟩ steps 9
noncomputable def o3_62 (P : Params) : Obj := ⟨(.type "dict"), none, (.dict ⟨[⟨(PyData.keyHash P x3), (.str x3 165), (.str x45 2297)⟩, ⟨(PyData.keyHash P x5), (.str x5 166), .none⟩, ⟨(PyData.keyHash P x6), (.str x6 167), .none⟩, ⟨(PyData.keyHash P x7), (.str x7 168), (.builtin "__main__.__loader__#opaque")⟩, ⟨(PyData.keyHash P x8), (.str x8 169), .none⟩, ⟨(PyData.keyHash P x9), (.str x9 170), (.ref 6)⟩, ⟨(PyData.keyHash P x10), (.str x10 171), (.ref 4)⟩, ⟨(PyData.keyHash P x11), (.str x11 173), (.str x1 172)⟩, ⟨(PyData.keyHash P x12), (.str x12 174), .none⟩, ⟨(PyData.keyHash P x13), (.str x13 190), (.int 4000 189)⟩, ⟨(PyData.keyHash P x14), (.str x14 207), (.ref 21)⟩, ⟨(PyData.keyHash P x15), (.str x15 221), (.ref 28)⟩, ⟨(PyData.keyHash P x16), (.str x16 232), (.ref 35)⟩, ⟨(PyData.keyHash P x17), (.str x17 243), (.ref 42)⟩, ⟨(PyData.keyHash P x18), (.str x18 258), (.ref 49)⟩, ⟨(PyData.keyHash P x19), (.str x19 268), (.ref 56)⟩, ⟨(PyData.keyHash P x41), (.str x41 330), (.ref 64)⟩, ⟨(PyData.keyHash P x42), (.str x42 337), (.ref 74)⟩, ⟨(PyData.keyHash P x44), (.str x44 2288), (.ref 75)⟩, ⟨(PyData.keyHash P x46), (.str x46 2296), (.ref 120)⟩, ⟨(PyData.keyHash P x47), (.str x47 2300), (.int 0 2299)⟩, ⟨(PyData.keyHash P x48), (.str x48 2302), (.int 7 2301)⟩, ⟨(PyData.keyHash P x49), (.str x49 2304), (.int 8 2303)⟩, ⟨(PyData.keyHash P x50), (.str x50 2306), (.int 9 2305)⟩, ⟨(PyData.keyHash P x51), (.str x51 2308), (.int 10 2307)⟩, ⟨(PyData.keyHash P x52), (.str x52 2310), (.int 11 2309)⟩, ⟨(PyData.keyHash P x53), (.str x53 2312), (.int 12 2311)⟩, ⟨(PyData.keyHash P x54), (.str x54 2314), (.int 13 2313)⟩, ⟨(PyData.keyHash P x55), (.str x55 2316), (.int 14 2315)⟩, ⟨(PyData.keyHash P x56), (.str x56 2318), (.int 15 2317)⟩, ⟨(PyData.keyHash P x57), (.str x57 2320), (.int 16 2319)⟩, ⟨(PyData.keyHash P x58), (.str x58 2322), (.int 17 2321)⟩, ⟨(PyData.keyHash P x59), (.str x59 2324), (.int 18 2323)⟩, ⟨(PyData.keyHash P x60), (.str x60 2326), (.int 19 2325)⟩, ⟨(PyData.keyHash P x61), (.str x61 2328), (.int 20 2327)⟩, ⟨(PyData.keyHash P x62), (.str x62 2330), (.int 21 2329)⟩, ⟨(PyData.keyHash P x63), (.str x63 2332), (.int 22 2331)⟩, ⟨(PyData.keyHash P x64), (.str x64 2334), (.int 23 2333)⟩, ⟨(PyData.keyHash P x65), (.str x65 2336), (.int 24 2335)⟩, ⟨(PyData.keyHash P x66), (.str x66 2338), (.int 25 2337)⟩, ⟨(PyData.keyHash P x67), (.str x67 2340), (.int 26 2339)⟩, ⟨(PyData.keyHash P x68), (.str x68 2342), (.int 27 2341)⟩, ⟨(PyData.keyHash P x69), (.str x69 2344), (.int 28 2343)⟩, ⟨(PyData.keyHash P x70), (.str x70 2346), (.int 29 2345)⟩, ⟨(PyData.keyHash P x71), (.str x71 2348), (.int 30 2347)⟩, ⟨(PyData.keyHash P x72), (.str x72 2350), (.int 31 2349)⟩, ⟨(PyData.keyHash P x73), (.str x73 2352), (.int 32 2351)⟩, ⟨(PyData.keyHash P x74), (.str x74 2354), (.int 33 2353)⟩, ⟨(PyData.keyHash P x75), (.str x75 2356), (.int 34 2355)⟩, ⟨(PyData.keyHash P x76), (.str x76 2358), (.int 35 2357)⟩, ⟨(PyData.keyHash P x77), (.str x77 2360), (.int 36 2359)⟩, ⟨(PyData.keyHash P x78), (.str x78 2362), (.int 37 2361)⟩, ⟨(PyData.keyHash P x79), (.str x79 2364), (.int 38 2363)⟩, ⟨(PyData.keyHash P x80), (.str x80 2366), (.int 39 2365)⟩, ⟨(PyData.keyHash P x81), (.str x81 2368), (.int 40 2367)⟩, ⟨(PyData.keyHash P x82), (.str x82 2370), (.int 41 2369)⟩, ⟨(PyData.keyHash P x83), (.str x83 2372), (.int 42 2371)⟩, ⟨(PyData.keyHash P x84), (.str x84 2374), (.int 43 2373)⟩, ⟨(PyData.keyHash P x85), (.str x85 2376), (.int 44 2375)⟩, ⟨(PyData.keyHash P x86), (.str x86 2378), (.int 45 2377)⟩, ⟨(PyData.keyHash P x87), (.str x87 2380), (.int 46 2379)⟩, ⟨(PyData.keyHash P x88), (.str x88 2382), (.int 47 2381)⟩, ⟨(PyData.keyHash P x89), (.str x89 2384), (.int 48 2383)⟩, ⟨(PyData.keyHash P x90), (.str x90 2386), (.int 49 2385)⟩, ⟨(PyData.keyHash P x91), (.str x91 2388), (.int 50 2387)⟩, ⟨(PyData.keyHash P x92), (.str x92 2390), (.int 51 2389)⟩, ⟨(PyData.keyHash P x93), (.str x93 2392), (.int 52 2391)⟩, ⟨(PyData.keyHash P x94), (.str x94 2394), (.int 53 2393)⟩, ⟨(PyData.keyHash P x95), (.str x95 2396), (.int 54 2395)⟩]⟩ 69), ⟨[]⟩⟩
noncomputable def T_62 (P : Params) : BT := (.node (boot_o_0 P) (.node (boot_o_1 P) (.node (o3_62 P) (.node (boot_o_7 P) (.node (o15_8 P) (.node (o31_8 P) (.node (o63_9 P) .nil .nil) (.node (o95_11 P) .nil .nil)) (.node (o47_8 P) (.node (o79_11 P) .nil .nil) (.node (o111_11 P) .nil .nil))) (.node (o23_8 P) (.node (o39_8 P) (.node (o71_10 P) .nil .nil) (.node (o103_11 P) .nil .nil)) (.node (o55_8 P) (.node (o87_11 P) .nil .nil) (.node (o119_36 P) .nil .nil)))) (.node (o11_p P) (.node (o19_8 P) (.node (o35_8 P) (.node (o67_9 P) .nil .nil) (.node (o99_11 P) .nil .nil)) (.node (o51_8 P) (.node (o83_11 P) .nil .nil) (.node (o115_36 P) .nil .nil))) (.node (o27_8 P) (.node (o43_8 P) (.node (o75_11 P) .nil .nil) (.node (o107_11 P) .nil .nil)) (.node (o59_9 P) (.node (o91_11 P) .nil .nil) .nil)))) (.node (boot_o_5 P) (.node (boot_o_9 P) (.node (o17_8 P) (.node (o33_8 P) (.node (o65_9 P) .nil .nil) (.node (o97_11 P) .nil .nil)) (.node (o49_8 P) (.node (o81_11 P) .nil .nil) (.node (o113_11 P) .nil .nil))) (.node (o25_8 P) (.node (o41_8 P) (.node (o73_10 P) .nil .nil) (.node (o105_11 P) .nil .nil)) (.node (o57_9 P) (.node (o89_11 P) .nil .nil) .nil))) (.node (o13_p P) (.node (o21_8 P) (.node (o37_8 P) (.node (o69_10 P) .nil .nil) (.node (o101_11 P) .nil .nil)) (.node (o53_8 P) (.node (o85_11 P) .nil .nil) (.node (o117_36 P) .nil .nil))) (.node (o29_8 P) (.node (o45_8 P) (.node (o77_11 P) .nil .nil) (.node (o109_11 P) .nil .nil)) (.node (o61_9 P) (.node (o93_11 P) .nil .nil) .nil))))) (.node (boot_o_2 P) (.node (boot_o_4 P) (.node (boot_o_8 P) (.node (o16_8 P) (.node (o32_8 P) (.node (o64_9 P) .nil .nil) (.node (o96_11 P) .nil .nil)) (.node (o48_8 P) (.node (o80_11 P) .nil .nil) (.node (o112_11 P) .nil .nil))) (.node (o24_8 P) (.node (o40_8 P) (.node (o72_10 P) .nil .nil) (.node (o104_11 P) .nil .nil)) (.node (o56_8 P) (.node (o88_11 P) .nil .nil) (.node (o120_36 P) .nil .nil)))) (.node (o12_36 P) (.node (o20_8 P) (.node (o36_8 P) (.node (o68_10 P) .nil .nil) (.node (o100_11 P) .nil .nil)) (.node (o52_8 P) (.node (o84_11 P) .nil .nil) (.node (o116_36 P) .nil .nil))) (.node (o28_8 P) (.node (o44_8 P) (.node (o76_11 P) .nil .nil) (.node (o108_11 P) .nil .nil)) (.node (o60_9 P) (.node (o92_11 P) .nil .nil) .nil)))) (.node (boot_o_6 P) (.node (boot_o_10 P) (.node (o18_8 P) (.node (o34_8 P) (.node (o66_9 P) .nil .nil) (.node (o98_11 P) .nil .nil)) (.node (o50_8 P) (.node (o82_11 P) .nil .nil) (.node (o114_36 P) .nil .nil))) (.node (o26_8 P) (.node (o42_8 P) (.node (o74_10 P) .nil .nil) (.node (o106_11 P) .nil .nil)) (.node (o58_9 P) (.node (o90_11 P) .nil .nil) .nil))) (.node (o14_p P) (.node (o22_8 P) (.node (o38_8 P) (.node (o70_10 P) .nil .nil) (.node (o102_11 P) .nil .nil)) (.node (o54_8 P) (.node (o86_11 P) .nil .nil) (.node (o118_36 P) .nil .nil))) (.node (o30_8 P) (.node (o46_8 P) (.node (o78_11 P) .nil .nil) (.node (o110_11 P) .nil .nil)) (.node (o62_9 P) (.node (o94_11 P) .nil .nil) .nil))))))
-- state 62: n 121 toks 2397 pos ⟨135, 0, 135, 11⟩ steps 9
noncomputable def o3_63 (P : Params) : Obj := ⟨(.type "dict"), none, (.dict ⟨[⟨(PyData.keyHash P x3), (.str x3 165), (.str x45 2297)⟩, ⟨(PyData.keyHash P x5), (.str x5 166), .none⟩, ⟨(PyData.keyHash P x6), (.str x6 167), .none⟩, ⟨(PyData.keyHash P x7), (.str x7 168), (.builtin "__main__.__loader__#opaque")⟩, ⟨(PyData.keyHash P x8), (.str x8 169), .none⟩, ⟨(PyData.keyHash P x9), (.str x9 170), (.ref 6)⟩, ⟨(PyData.keyHash P x10), (.str x10 171), (.ref 4)⟩, ⟨(PyData.keyHash P x11), (.str x11 173), (.str x1 172)⟩, ⟨(PyData.keyHash P x12), (.str x12 174), .none⟩, ⟨(PyData.keyHash P x13), (.str x13 190), (.int 4000 189)⟩, ⟨(PyData.keyHash P x14), (.str x14 207), (.ref 21)⟩, ⟨(PyData.keyHash P x15), (.str x15 221), (.ref 28)⟩, ⟨(PyData.keyHash P x16), (.str x16 232), (.ref 35)⟩, ⟨(PyData.keyHash P x17), (.str x17 243), (.ref 42)⟩, ⟨(PyData.keyHash P x18), (.str x18 258), (.ref 49)⟩, ⟨(PyData.keyHash P x19), (.str x19 268), (.ref 56)⟩, ⟨(PyData.keyHash P x41), (.str x41 330), (.ref 64)⟩, ⟨(PyData.keyHash P x42), (.str x42 337), (.ref 74)⟩, ⟨(PyData.keyHash P x44), (.str x44 2288), (.ref 75)⟩, ⟨(PyData.keyHash P x46), (.str x46 2296), (.ref 120)⟩, ⟨(PyData.keyHash P x47), (.str x47 2300), (.int 0 2299)⟩, ⟨(PyData.keyHash P x48), (.str x48 2302), (.int 7 2301)⟩, ⟨(PyData.keyHash P x49), (.str x49 2304), (.int 8 2303)⟩, ⟨(PyData.keyHash P x50), (.str x50 2306), (.int 9 2305)⟩, ⟨(PyData.keyHash P x51), (.str x51 2308), (.int 10 2307)⟩, ⟨(PyData.keyHash P x52), (.str x52 2310), (.int 11 2309)⟩, ⟨(PyData.keyHash P x53), (.str x53 2312), (.int 12 2311)⟩, ⟨(PyData.keyHash P x54), (.str x54 2314), (.int 13 2313)⟩, ⟨(PyData.keyHash P x55), (.str x55 2316), (.int 14 2315)⟩, ⟨(PyData.keyHash P x56), (.str x56 2318), (.int 15 2317)⟩, ⟨(PyData.keyHash P x57), (.str x57 2320), (.int 16 2319)⟩, ⟨(PyData.keyHash P x58), (.str x58 2322), (.int 17 2321)⟩, ⟨(PyData.keyHash P x59), (.str x59 2324), (.int 18 2323)⟩, ⟨(PyData.keyHash P x60), (.str x60 2326), (.int 19 2325)⟩, ⟨(PyData.keyHash P x61), (.str x61 2328), (.int 20 2327)⟩, ⟨(PyData.keyHash P x62), (.str x62 2330), (.int 21 2329)⟩, ⟨(PyData.keyHash P x63), (.str x63 2332), (.int 22 2331)⟩, ⟨(PyData.keyHash P x64), (.str x64 2334), (.int 23 2333)⟩, ⟨(PyData.keyHash P x65), (.str x65 2336), (.int 24 2335)⟩, ⟨(PyData.keyHash P x66), (.str x66 2338), (.int 25 2337)⟩, ⟨(PyData.keyHash P x67), (.str x67 2340), (.int 26 2339)⟩, ⟨(PyData.keyHash P x68), (.str x68 2342), (.int 27 2341)⟩, ⟨(PyData.keyHash P x69), (.str x69 2344), (.int 28 2343)⟩, ⟨(PyData.keyHash P x70), (.str x70 2346), (.int 29 2345)⟩, ⟨(PyData.keyHash P x71), (.str x71 2348), (.int 30 2347)⟩, ⟨(PyData.keyHash P x72), (.str x72 2350), (.int 31 2349)⟩, ⟨(PyData.keyHash P x73), (.str x73 2352), (.int 32 2351)⟩, ⟨(PyData.keyHash P x74), (.str x74 2354), (.int 33 2353)⟩, ⟨(PyData.keyHash P x75), (.str x75 2356), (.int 34 2355)⟩, ⟨(PyData.keyHash P x76), (.str x76 2358), (.int 35 2357)⟩, ⟨(PyData.keyHash P x77), (.str x77 2360), (.int 36 2359)⟩, ⟨(PyData.keyHash P x78), (.str x78 2362), (.int 37 2361)⟩, ⟨(PyData.keyHash P x79), (.str x79 2364), (.int 38 2363)⟩, ⟨(PyData.keyHash P x80), (.str x80 2366), (.int 39 2365)⟩, ⟨(PyData.keyHash P x81), (.str x81 2368), (.int 40 2367)⟩, ⟨(PyData.keyHash P x82), (.str x82 2370), (.int 41 2369)⟩, ⟨(PyData.keyHash P x83), (.str x83 2372), (.int 42 2371)⟩, ⟨(PyData.keyHash P x84), (.str x84 2374), (.int 43 2373)⟩, ⟨(PyData.keyHash P x85), (.str x85 2376), (.int 44 2375)⟩, ⟨(PyData.keyHash P x86), (.str x86 2378), (.int 45 2377)⟩, ⟨(PyData.keyHash P x87), (.str x87 2380), (.int 46 2379)⟩, ⟨(PyData.keyHash P x88), (.str x88 2382), (.int 47 2381)⟩, ⟨(PyData.keyHash P x89), (.str x89 2384), (.int 48 2383)⟩, ⟨(PyData.keyHash P x90), (.str x90 2386), (.int 49 2385)⟩, ⟨(PyData.keyHash P x91), (.str x91 2388), (.int 50 2387)⟩, ⟨(PyData.keyHash P x92), (.str x92 2390), (.int 51 2389)⟩, ⟨(PyData.keyHash P x93), (.str x93 2392), (.int 52 2391)⟩, ⟨(PyData.keyHash P x94), (.str x94 2394), (.int 53 2393)⟩, ⟨(PyData.keyHash P x95), (.str x95 2396), (.int 54 2395)⟩, ⟨(PyData.keyHash P x96), (.str x96 2493), (.ref 121)⟩]⟩ 70), ⟨[]⟩⟩
noncomputable def o121_63 (P : Params) : Obj := ⟨(.type "dict"), none, (.dict ⟨[⟨(PyData.keyHash P x97), (.str x97 2397), (.int 54 2395)⟩, ⟨(PyData.keyHash P x98), (.str x98 2399), (.int 28 2343)⟩, ⟨(PyData.keyHash P x99), (.str x99 2401), (.int 24 2335)⟩, ⟨(PyData.keyHash P x100), (.str x100 2403), (.int 40 2367)⟩, ⟨(PyData.keyHash P x101), (.str x101 2405), (.int 19 2325)⟩, ⟨(PyData.keyHash P x102), (.str x102 2407), (.int 41 2369)⟩, ⟨(PyData.keyHash P x103), (.str x103 2409), (.int 7 2301)⟩, ⟨(PyData.keyHash P x104), (.str x104 2411), (.int 8 2303)⟩, ⟨(PyData.keyHash P x105), (.str x105 2413), (.int 16 2319)⟩, ⟨(PyData.keyHash P x106), (.str x106 2415), (.int 35 2357)⟩, ⟨(PyData.keyHash P x107), (.str x107 2417), (.int 46 2379)⟩, ⟨(PyData.keyHash P x108), (.str x108 2419), (.int 38 2363)⟩, ⟨(PyData.keyHash P x109), (.str x109 2421), (.int 14 2315)⟩, ⟨(PyData.keyHash P x110), (.str x110 2423), (.int 36 2359)⟩, ⟨(PyData.keyHash P x111), (.str x111 2425), (.int 12 2311)⟩, ⟨(PyData.keyHash P x112), (.str x112 2427), (.int 15 2317)⟩, ⟨(PyData.keyHash P x113), (.str x113 2429), (.int 37 2361)⟩, ⟨(PyData.keyHash P x114), (.str x114 2431), (.int 51 2389)⟩, ⟨(PyData.keyHash P x115), (.str x115 2433), (.int 23 2333)⟩, ⟨(PyData.keyHash P x116), (.str x116 2435), (.int 52 2391)⟩, ⟨(PyData.keyHash P x117), (.str x117 2437), (.int 17 2321)⟩, ⟨(PyData.keyHash P x118), (.str x118 2439), (.int 47 2381)⟩, ⟨(PyData.keyHash P x119), (.str x119 2441), (.int 48 2383)⟩, ⟨(PyData.keyHash P x120), (.str x120 2443), (.int 39 2365)⟩, ⟨(PyData.keyHash P x121), (.str x121 2445), (.int 11 2309)⟩, ⟨(PyData.keyHash P x122), (.str x122 2447), (.int 53 2393)⟩, ⟨(PyData.keyHash P x123), (.str x123 2449), (.int 13 2313)⟩, ⟨(PyData.keyHash P x124), (.str x124 2451), (.int 20 2327)⟩, ⟨(PyData.keyHash P x125), (.str x125 2453), (.int 33 2353)⟩, ⟨(PyData.keyHash P x126), (.str x126 2455), (.int 44 2375)⟩, ⟨(PyData.keyHash P x127), (.str x127 2457), (.int 29 2345)⟩, ⟨(PyData.keyHash P x128), (.str x128 2459), (.int 22 2331)⟩, ⟨(PyData.keyHash P x129), (.str x129 2461), (.int 27 2341)⟩, ⟨(PyData.keyHash P x130), (.str x130 2463), (.int 21 2329)⟩, ⟨(PyData.keyHash P x131), (.str x131 2465), (.int 30 2347)⟩, ⟨(PyData.keyHash P x132), (.str x132 2466), (.int 34 2355)⟩, ⟨(PyData.keyHash P x133), (.str x133 2467), (.int 45 2377)⟩, ⟨(PyData.keyHash P x134), (.str x134 2468), (.int 49 2385)⟩, ⟨(PyData.keyHash P x135), (.str x135 2469), (.int 50 2387)⟩, ⟨(PyData.keyHash P x136), (.str x136 2470), (.int 9 2305)⟩, ⟨(PyData.keyHash P x137), (.str x137 2471), (.int 10 2307)⟩, ⟨(PyData.keyHash P x138), (.str x138 2472), (.int 32 2351)⟩, ⟨(PyData.keyHash P x139), (.str x139 2473), (.int 43 2373)⟩, ⟨(PyData.keyHash P x140), (.str x140 2474), (.int 25 2337)⟩, ⟨(PyData.keyHash P x141), (.str x141 2475), (.int 18 2323)⟩, ⟨(PyData.keyHash P x142), (.str x142 2476), (.int 42 2371)⟩, ⟨(PyData.keyHash P x143), (.str x143 2477), (.int 26 2339)⟩, ⟨(PyData.keyHash P x144), (.str x144 2478), (.int 31 2349)⟩]⟩ 48), ⟨[]⟩⟩
noncomputable def o122_63 (P : Params) : Obj := ⟨(.type "dict"), none, (.dict ⟨[⟨(PyData.keyHash P x114), (.str x114 2431), (.int 51 2389)⟩, ⟨(PyData.keyHash P x115), (.str x115 2433), (.int 23 2333)⟩, ⟨(PyData.keyHash P x116), (.str x116 2435), (.int 52 2391)⟩, ⟨(PyData.keyHash P x117), (.str x117 2437), (.int 17 2321)⟩, ⟨(PyData.keyHash P x118), (.str x118 2439), (.int 47 2381)⟩, ⟨(PyData.keyHash P x119), (.str x119 2441), (.int 48 2383)⟩, ⟨(PyData.keyHash P x120), (.str x120 2443), (.int 39 2365)⟩, ⟨(PyData.keyHash P x121), (.str x121 2445), (.int 11 2309)⟩, ⟨(PyData.keyHash P x122), (.str x122 2447), (.int 53 2393)⟩, ⟨(PyData.keyHash P x123), (.str x123 2449), (.int 13 2313)⟩, ⟨(PyData.keyHash P x124), (.str x124 2451), (.int 20 2327)⟩, ⟨(PyData.keyHash P x125), (.str x125 2453), (.int 33 2353)⟩, ⟨(PyData.keyHash P x126), (.str x126 2455), (.int 44 2375)⟩, ⟨(PyData.keyHash P x127), (.str x127 2457), (.int 29 2345)⟩, ⟨(PyData.keyHash P x128), (.str x128 2459), (.int 22 2331)⟩, ⟨(PyData.keyHash P x129), (.str x129 2461), (.int 27 2341)⟩, ⟨(PyData.keyHash P x130), (.str x130 2463), (.int 21 2329)⟩]⟩ 17), ⟨[]⟩⟩
noncomputable def o123_63 (P : Params) : Obj := ⟨(.type "dict"), none, (.dict ⟨[⟨(PyData.keyHash P x131), (.str x131 2465), (.int 30 2347)⟩, ⟨(PyData.keyHash P x132), (.str x132 2466), (.int 34 2355)⟩, ⟨(PyData.keyHash P x133), (.str x133 2467), (.int 45 2377)⟩, ⟨(PyData.keyHash P x134), (.str x134 2468), (.int 49 2385)⟩, ⟨(PyData.keyHash P x135), (.str x135 2469), (.int 50 2387)⟩, ⟨(PyData.keyHash P x136), (.str x136 2470), (.int 9 2305)⟩, ⟨(PyData.keyHash P x137), (.str x137 2471), (.int 10 2307)⟩, ⟨(PyData.keyHash P x138), (.str x138 2472), (.int 32 2351)⟩, ⟨(PyData.keyHash P x139), (.str x139 2473), (.int 43 2373)⟩, ⟨(PyData.keyHash P x140), (.str x140 2474), (.int 25 2337)⟩, ⟨(PyData.keyHash P x141), (.str x141 2475), (.int 18 2323)⟩, ⟨(PyData.keyHash P x142), (.str x142 2476), (.int 42 2371)⟩, ⟨(PyData.keyHash P x143), (.str x143 2477), (.int 26 2339)⟩, ⟨(PyData.keyHash P x144), (.str x144 2478), (.int 31 2349)⟩]⟩ 14), ⟨[]⟩⟩
noncomputable def T_63 (P : Params) : BT := (.node (boot_o_0 P) (.node (boot_o_1 P) (.node (o3_63 P) (.node (boot_o_7 P) (.node (o15_8 P) (.node (o31_8 P) (.node (o63_9 P) .nil .nil) (.node (o95_11 P) .nil .nil)) (.node (o47_8 P) (.node (o79_11 P) .nil .nil) (.node (o111_11 P) .nil .nil))) (.node (o23_8 P) (.node (o39_8 P) (.node (o71_10 P) .nil .nil) (.node (o103_11 P) .nil .nil)) (.node (o55_8 P) (.node (o87_11 P) .nil .nil) (.node (o119_36 P) .nil .nil)))) (.node (o11_p P) (.node (o19_8 P) (.node (o35_8 P) (.node (o67_9 P) .nil .nil) (.node (o99_11 P) .nil .nil)) (.node (o51_8 P) (.node (o83_11 P) .nil .nil) (.node (o115_36 P) .nil .nil))) (.node (o27_8 P) (.node (o43_8 P) (.node (o75_11 P) .nil .nil) (.node (o107_11 P) .nil .nil)) (.node (o59_9 P) (.node (o91_11 P) .nil .nil) (.node (o123_63 P) .nil .nil))))) (.node (boot_o_5 P) (.node (boot_o_9 P) (.node (o17_8 P) (.node (o33_8 P) (.node (o65_9 P) .nil .nil) (.node (o97_11 P) .nil .nil)) (.node (o49_8 P) (.node (o81_11 P) .nil .nil) (.node (o113_11 P) .nil .nil))) (.node (o25_8 P) (.node (o41_8 P) (.node (o73_10 P) .nil .nil) (.node (o105_11 P) .nil .nil)) (.node (o57_9 P) (.node (o89_11 P) .nil .nil) (.node (o121_63 P) .nil .nil)))) (.node (o13_p P) (.node (o21_8 P) (.node (o37_8 P) (.node (o69_10 P) .nil .nil) (.node (o101_11 P) .nil .nil)) (.node (o53_8 P) (.node (o85_11 P) .nil .nil) (.node (o117_36 P) .nil .nil))) (.node (o29_8 P) (.node (o45_8 P) (.node (o77_11 P) .nil .nil) (.node (o109_11 P) .nil .nil)) (.node (o61_9 P) (.node (o93_11 P) .nil .nil) .nil))))) (.node (boot_o_2 P) (.node (boot_o_4 P) (.node (boot_o_8 P) (.node (o16_8 P) (.node (o32_8 P) (.node (o64_9 P) .nil .nil) (.node (o96_11 P) .nil .nil)) (.node (o48_8 P) (.node (o80_11 P) .nil .nil) (.node (o112_11 P) .nil .nil))) (.node (o24_8 P) (.node (o40_8 P) (.node (o72_10 P) .nil .nil) (.node (o104_11 P) .nil .nil)) (.node (o56_8 P) (.node (o88_11 P) .nil .nil) (.node (o120_36 P) .nil .nil)))) (.node (o12_36 P) (.node (o20_8 P) (.node (o36_8 P) (.node (o68_10 P) .nil .nil) (.node (o100_11 P) .nil .nil)) (.node (o52_8 P) (.node (o84_11 P) .nil .nil) (.node (o116_36 P) .nil .nil))) (.node (o28_8 P) (.node (o44_8 P) (.node (o76_11 P) .nil .nil) (.node (o108_11 P) .nil .nil)) (.node (o60_9 P) (.node (o92_11 P) .nil .nil) .nil)))) (.node (boot_o_6 P) (.node (boot_o_10 P) (.node (o18_8 P) (.node (o34_8 P) (.node (o66_9 P) .nil .nil) (.node (o98_11 P) .nil .nil)) (.node (o50_8 P) (.node (o82_11 P) .nil .nil) (.node (o114_36 P) .nil .nil))) (.node (o26_8 P) (.node (o42_8 P) (.node (o74_10 P) .nil .nil) (.node (o106_11 P) .nil .nil)) (.node (o58_9 P) (.node (o90_11 P) .nil .nil) (.node (o122_63 P) .nil .nil)))) (.node (o14_p P) (.node (o22_8 P) (.node (o38_8 P) (.node (o70_10 P) .nil .nil) (.node (o102_11 P) .nil .nil)) (.node (o54_8 P) (.node (o86_11 P) .nil .nil) (.node (o118_36 P) .nil .nil))) (.node (o30_8 P) (.node (o46_8 P) (.node (o78_11 P) .nil .nil) (.node (o110_11 P) .nil .nil)) (.node (o62_9 P) (.node (o94_11 P) .nil .nil) .nil))))))
-- state 63: n 124 toks 2494 pos ⟨136, 0, 136, 17⟩ steps 978
noncomputable def o3_71 (P : Params) : Obj := ⟨(.type "dict"), none, (.dict ⟨[⟨(PyData.keyHash P x3), (.str x3 165), (.str x145 2501)⟩, ⟨(PyData.keyHash P x5), (.str x5 166), .none⟩, ⟨(PyData.keyHash P x6), (.str x6 167), .none⟩, ⟨(PyData.keyHash P x7), (.str x7 168), (.builtin "__main__.__loader__#opaque")⟩, ⟨(PyData.keyHash P x8), (.str x8 169), .none⟩, ⟨(PyData.keyHash P x9), (.str x9 170), (.ref 6)⟩, ⟨(PyData.keyHash P x10), (.str x10 171), (.ref 4)⟩, ⟨(PyData.keyHash P x11), (.str x11 173), (.str x1 172)⟩, ⟨(PyData.keyHash P x12), (.str x12 174), .none⟩, ⟨(PyData.keyHash P x13), (.str x13 190), (.int 4000 189)⟩, ⟨(PyData.keyHash P x14), (.str x14 207), (.ref 21)⟩, ⟨(PyData.keyHash P x15), (.str x15 221), (.ref 28)⟩, ⟨(PyData.keyHash P x16), (.str x16 232), (.ref 35)⟩, ⟨(PyData.keyHash P x17), (.str x17 243), (.ref 42)⟩, ⟨(PyData.keyHash P x18), (.str x18 258), (.ref 49)⟩, ⟨(PyData.keyHash P x19), (.str x19 268), (.ref 56)⟩, ⟨(PyData.keyHash P x41), (.str x41 330), (.ref 64)⟩, ⟨(PyData.keyHash P x42), (.str x42 337), (.ref 74)⟩, ⟨(PyData.keyHash P x44), (.str x44 2288), (.ref 75)⟩, ⟨(PyData.keyHash P x46), (.str x46 2296), (.ref 120)⟩, ⟨(PyData.keyHash P x47), (.str x47 2300), (.int 0 2299)⟩, ⟨(PyData.keyHash P x48), (.str x48 2302), (.int 7 2301)⟩, ⟨(PyData.keyHash P x49), (.str x49 2304), (.int 8 2303)⟩, ⟨(PyData.keyHash P x50), (.str x50 2306), (.int 9 2305)⟩, ⟨(PyData.keyHash P x51), (.str x51 2308), (.int 10 2307)⟩, ⟨(PyData.keyHash P x52), (.str x52 2310), (.int 11 2309)⟩, ⟨(PyData.keyHash P x53), (.str x53 2312), (.int 12 2311)⟩, ⟨(PyData.keyHash P x54), (.str x54 2314), (.int 13 2313)⟩, ⟨(PyData.keyHash P x55), (.str x55 2316), (.int 14 2315)⟩, ⟨(PyData.keyHash P x56), (.str x56 2318), (.int 15 2317)⟩, ⟨(PyData.keyHash P x57), (.str x57 2320), (.int 16 2319)⟩, ⟨(PyData.keyHash P x58), (.str x58 2322), (.int 17 2321)⟩, ⟨(PyData.keyHash P x59), (.str x59 2324), (.int 18 2323)⟩, ⟨(PyData.keyHash P x60), (.str x60 2326), (.int 19 2325)⟩, ⟨(PyData.keyHash P x61), (.str x61 2328), (.int 20 2327)⟩, ⟨(PyData.keyHash P x62), (.str x62 2330), (.int 21 2329)⟩, ⟨(PyData.keyHash P x63), (.str x63 2332), (.int 22 2331)⟩, ⟨(PyData.keyHash P x64), (.str x64 2334), (.int 23 2333)⟩, ⟨(PyData.keyHash P x65), (.str x65 2336), (.int 24 2335)⟩, ⟨(PyData.keyHash P x66), (.str x66 2338), (.int 25 2337)⟩, ⟨(PyData.keyHash P x67), (.str x67 2340), (.int 26 2339)⟩, ⟨(PyData.keyHash P x68), (.str x68 2342), (.int 27 2341)⟩, ⟨(PyData.keyHash P x69), (.str x69 2344), (.int 28 2343)⟩, ⟨(PyData.keyHash P x70), (.str x70 2346), (.int 29 2345)⟩, ⟨(PyData.keyHash P x71), (.str x71 2348), (.int 30 2347)⟩, ⟨(PyData.keyHash P x72), (.str x72 2350), (.int 31 2349)⟩, ⟨(PyData.keyHash P x73), (.str x73 2352), (.int 32 2351)⟩, ⟨(PyData.keyHash P x74), (.str x74 2354), (.int 33 2353)⟩, ⟨(PyData.keyHash P x75), (.str x75 2356), (.int 34 2355)⟩, ⟨(PyData.keyHash P x76), (.str x76 2358), (.int 35 2357)⟩, ⟨(PyData.keyHash P x77), (.str x77 2360), (.int 36 2359)⟩, ⟨(PyData.keyHash P x78), (.str x78 2362), (.int 37 2361)⟩, ⟨(PyData.keyHash P x79), (.str x79 2364), (.int 38 2363)⟩, ⟨(PyData.keyHash P x80), (.str x80 2366), (.int 39 2365)⟩, ⟨(PyData.keyHash P x81), (.str x81 2368), (.int 40 2367)⟩, ⟨(PyData.keyHash P x82), (.str x82 2370), (.int 41 2369)⟩, ⟨(PyData.keyHash P x83), (.str x83 2372), (.int 42 2371)⟩, ⟨(PyData.keyHash P x84), (.str x84 2374), (.int 43 2373)⟩, ⟨(PyData.keyHash P x85), (.str x85 2376), (.int 44 2375)⟩, ⟨(PyData.keyHash P x86), (.str x86 2378), (.int 45 2377)⟩, ⟨(PyData.keyHash P x87), (.str x87 2380), (.int 46 2379)⟩, ⟨(PyData.keyHash P x88), (.str x88 2382), (.int 47 2381)⟩, ⟨(PyData.keyHash P x89), (.str x89 2384), (.int 48 2383)⟩, ⟨(PyData.keyHash P x90), (.str x90 2386), (.int 49 2385)⟩, ⟨(PyData.keyHash P x91), (.str x91 2388), (.int 50 2387)⟩, ⟨(PyData.keyHash P x92), (.str x92 2390), (.int 51 2389)⟩, ⟨(PyData.keyHash P x93), (.str x93 2392), (.int 52 2391)⟩, ⟨(PyData.keyHash P x94), (.str x94 2394), (.int 53 2393)⟩, ⟨(PyData.keyHash P x95), (.str x95 2396), (.int 54 2395)⟩, ⟨(PyData.keyHash P x96), (.str x96 2493), (.ref 121)⟩, ⟨(PyData.keyHash P x146), (.str x146 2500), (.ref 130)⟩, ⟨(PyData.keyHash P x147), (.str x147 2511), (.ref 137)⟩, ⟨(PyData.keyHash P x148), (.str x148 2520), (.ref 144)⟩, ⟨(PyData.keyHash P x149), (.str x149 2533), (.ref 151)⟩, ⟨(PyData.keyHash P x150), (.str x150 2542), (.ref 158)⟩, ⟨(PyData.keyHash P x151), (.str x151 2552), (.ref 165)⟩, ⟨(PyData.keyHash P x152), (.str x152 2558), (.ref 170)⟩]⟩ 77), ⟨[]⟩⟩
noncomputable def o12_71 (P : Params) : Obj := ⟨.none, none, (.fields ⟨[(.int 3 0), (.int 0 0), (.ref 20), (.int 19 0), (.int 0 0), (.ref 27), (.int 29 0), (.int 0 0), (.ref 34), (.int 45 0), (.int 0 0), (.ref 41), (.int 54 0), (.int 0 0), (.ref 48), (.int 65 0), (.int 0 0), (.ref 55), (.int 78 0), (.int 0 0), (.ref 73), (.int 81 0), (.int 0 0), (.ref 119), (.int 137 0), (.int 0 0), (.ref 129), (.int 140 0), (.int 0 0), (.ref 136), (.int 145 0), (.int 0 0), (.ref 143), (.int 153 0), (.int 0 0), (.ref 150), (.int 163 0), (.int 0 0), (.ref 157), (.int 168 0), (.int 0 0), (.ref 164), (.int 174 0), (.int 0 0), (.ref 169)]⟩), ⟨[]⟩⟩
noncomputable def o124_71 (P : Params) : Obj := ⟨(.type "tuple"), none, (.seq ⟨[]⟩ 0), ⟨[]⟩⟩
noncomputable def o125_71 (P : Params) : Obj := ⟨.none, none, (.fields ⟨[]⟩), ⟨[]⟩⟩
noncomputable def o126_71 (P : Params) : Obj := ⟨(.type "tuple"), none, (.seq ⟨[(.str x153 2497)]⟩ 0), ⟨[]⟩⟩
noncomputable def o127_71 (P : Params) : Obj := ⟨(.type "tuple"), none, (.seq ⟨[]⟩ 0), ⟨[]⟩⟩
noncomputable def o128_71 (P : Params) : Obj := ⟨.none, none, (.func ⟨x146, x146, (fp 64).1, .stmts (fp 64).2.1, (fp 64).2.2, 0, [], .none, .none, .none, .none, none, .none, .none, 0⟩), ⟨[]⟩⟩
noncomputable def o129_71 (P : Params) : Obj := ⟨(.type "code"), none, (.fields ⟨[(.str x146 2494), (.str x146 2495), (.str x1 2496), (.int 137 0), (.int 1 0), (.int 0 0), (.int 0 0), (.int 3 0), (.ref 124), (.bool true), (.int 181 0), (.ref 125), .none, (.ref 126), (.ref 127), (.ref 128), (.int 2498 0), (.int 137 0), (.str x1 2499)]⟩), ⟨[]⟩⟩
noncomputable def o130_71 (P : Params) : Obj := ⟨(.type "function"), none, (.func ⟨x146, x146, (fp 64).1, .stmts (fp 64).2.1, (fp 64).2.2, 3, [], .none, .none, .none, (.str x45 2297), none, (.ref 129), .none, 0⟩), ⟨[]⟩⟩
noncomputable def o131_71 (P : Params) : Obj := ⟨(.type "tuple"), none, (.seq ⟨[]⟩ 0), ⟨[]⟩⟩
noncomputable def o132_71 (P : Params) : Obj := ⟨.none, none, (.fields ⟨[]⟩), ⟨[]⟩⟩
noncomputable def o133_71 (P : Params) : Obj := ⟨(.type "tuple"), none, (.seq ⟨[(.str x154 2506), (.str x155 2507), (.str x156 2508)]⟩ 0), ⟨[]⟩⟩
noncomputable def o134_71 (P : Params) : Obj := ⟨(.type "tuple"), none, (.seq ⟨[]⟩ 0), ⟨[]⟩⟩
noncomputable def o135_71 (P : Params) : Obj := ⟨.none, none, (.func ⟨x147, x147, (fp 66).1, .stmts (fp 66).2.1, (fp 66).2.2, 0, [], .none, .none, .none, .none, none, .none, .none, 0⟩), ⟨[]⟩⟩
noncomputable def o136_71 (P : Params) : Obj := ⟨(.type "code"), none, (.fields ⟨[(.str x147 2503), (.str x147 2504), (.str x1 2505), (.int 140 0), (.int 1 0), (.int 0 0), (.int 0 0), (.int 3 0), (.ref 131), (.bool true), (.int 181 0), (.ref 132), .none, (.ref 133), (.ref 134), (.ref 135), (.int 2509 0), (.int 140 0), (.str x1 2510)]⟩), ⟨[]⟩⟩
noncomputable def o137_71 (P : Params) : Obj := ⟨(.type "function"), none, (.func ⟨x147, x147, (fp 66).1, .stmts (fp 66).2.1, (fp 66).2.2, 3, [], .none, .none, .none, (.str x145 2501), none, (.ref 136), .none, 0⟩), ⟨[]⟩⟩
noncomputable def o138_71 (P : Params) : Obj := ⟨(.type "tuple"), none, (.seq ⟨[]⟩ 0), ⟨[]⟩⟩
noncomputable def o139_71 (P : Params) : Obj := ⟨.none, none, (.fields ⟨[]⟩), ⟨[]⟩⟩
noncomputable def o140_71 (P : Params) : Obj := ⟨(.type "tuple"), none, (.seq ⟨[(.str x157 2515), (.str x158 2516), (.str x159 2517)]⟩ 0), ⟨[]⟩⟩
noncomputable def o141_71 (P : Params) : Obj := ⟨(.type "tuple"), none, (.seq ⟨[]⟩ 0), ⟨[]⟩⟩
noncomputable def o142_71 (P : Params) : Obj := ⟨.none, none, (.func ⟨x148, x148, (fp 67).1, .stmts (fp 67).2.1, (fp 67).2.2, 0, [], .none, .none, .none, .none, none, .none, .none, 0⟩), ⟨[]⟩⟩
noncomputable def o143_71 (P : Params) : Obj := ⟨(.type "code"), none, (.fields ⟨[(.str x148 2512), (.str x148 2513), (.str x1 2514), (.int 145 0), (.int 1 0), (.int 0 0), (.int 0 0), (.int 3 0), (.ref 138), (.bool true), (.int 181 0), (.ref 139), .none, (.ref 140), (.ref 141), (.ref 142), (.int 2518 0), (.int 145 0), (.str x1 2519)]⟩), ⟨[]⟩⟩
noncomputable def o144_71 (P : Params) : Obj := ⟨(.type "function"), none, (.func ⟨x148, x148, (fp 67).1, .stmts (fp 67).2.1, (fp 67).2.2, 3, [], .none, .none, .none, (.str x145 2501), none, (.ref 143), .none, 0⟩), ⟨[]⟩⟩
noncomputable def o145_71 (P : Params) : Obj := ⟨(.type "tuple"), none, (.seq ⟨[]⟩ 0), ⟨[]⟩⟩
noncomputable def o146_71 (P : Params) : Obj := ⟨.none, none, (.fields ⟨[]⟩), ⟨[]⟩⟩
noncomputable def o147_71 (P : Params) : Obj := ⟨(.type "tuple"), none, (.seq ⟨[(.str x157 2524), (.str x160 2525), (.str x161 2526), (.str x162 2527), (.str x163 2528), (.str x164 2529), (.str x165 2530)]⟩ 0), ⟨[]⟩⟩
noncomputable def o148_71 (P : Params) : Obj := ⟨(.type "tuple"), none, (.seq ⟨[]⟩ 0), ⟨[]⟩⟩
noncomputable def o149_71 (P : Params) : Obj := ⟨.none, none, (.func ⟨x149, x149, (fp 68).1, .stmts (fp 68).2.1, (fp 68).2.2, 0, [], .none, .none, .none, .none, none, .none, .none, 0⟩), ⟨[]⟩⟩
noncomputable def o150_71 (P : Params) : Obj := ⟨(.type "code"), none, (.fields ⟨[(.str x149 2521), (.str x149 2522), (.str x1 2523), (.int 153 0), (.int 2 0), (.int 0 0), (.int 0 0), (.int 3 0), (.ref 145), (.bool true), (.int 181 0), (.ref 146), .none, (.ref 147), (.ref 148), (.ref 149), (.int 2531 0), (.int 153 0), (.str x1 2532)]⟩), ⟨[]⟩⟩
noncomputable def o151_71 (P : Params) : Obj := ⟨(.type "function"), none, (.func ⟨x149, x149, (fp 68).1, .stmts (fp 68).2.1, (fp 68).2.2, 3, [], .none, .none, .none, (.str x145 2501), none, (.ref 150), .none, 0⟩), ⟨[]⟩⟩
noncomputable def o152_71 (P : Params) : Obj := ⟨(.type "tuple"), none, (.seq ⟨[]⟩ 0), ⟨[]⟩⟩
noncomputable def o153_71 (P : Params) : Obj := ⟨.none, none, (.fields ⟨[]⟩), ⟨[]⟩⟩
noncomputable def o154_71 (P : Params) : Obj := ⟨(.type "tuple"), none, (.seq ⟨[(.str x166 2537), (.str x163 2538), (.str x167 2539)]⟩ 0), ⟨[]⟩⟩
noncomputable def o155_71 (P : Params) : Obj := ⟨(.type "tuple"), none, (.seq ⟨[]⟩ 0), ⟨[]⟩⟩
noncomputable def o156_71 (P : Params) : Obj := ⟨.none, none, (.func ⟨x150, x150, (fp 69).1, .stmts (fp 69).2.1, (fp 69).2.2, 0, [], .none, .none, .none, .none, none, .none, .none, 0⟩), ⟨[]⟩⟩
noncomputable def o157_71 (P : Params) : Obj := ⟨(.type "code"), none, (.fields ⟨[(.str x150 2534), (.str x150 2535), (.str x1 2536), (.int 163 0), (.int 1 0), (.int 0 0), (.int 0 0), (.int 3 0), (.ref 152), (.bool true), (.int 181 0), (.ref 153), .none, (.ref 154), (.ref 155), (.ref 156), (.int 2540 0), (.int 163 0), (.str x1 2541)]⟩), ⟨[]⟩⟩
noncomputable def o158_71 (P : Params) : Obj := ⟨(.type "function"), none, (.func ⟨x150, x150, (fp 69).1, .stmts (fp 69).2.1, (fp 69).2.2, 3, [], .none, .none, .none, (.str x145 2501), none, (.ref 157), .none, 0⟩), ⟨[]⟩⟩
noncomputable def o159_71 (P : Params) : Obj := ⟨(.type "tuple"), none, (.seq ⟨[]⟩ 0), ⟨[]⟩⟩
noncomputable def o160_71 (P : Params) : Obj := ⟨.none, none, (.fields ⟨[]⟩), ⟨[]⟩⟩
noncomputable def o161_71 (P : Params) : Obj := ⟨(.type "tuple"), none, (.seq ⟨[(.str x161 2546), (.str x168 2547), (.str x169 2548), (.str x170 2549)]⟩ 0), ⟨[]⟩⟩
noncomputable def o162_71 (P : Params) : Obj := ⟨(.type "tuple"), none, (.seq ⟨[]⟩ 0), ⟨[]⟩⟩
noncomputable def o163_71 (P : Params) : Obj := ⟨.none, none, (.func ⟨x151, x151, (fp 70).1, .stmts (fp 70).2.1, (fp 70).2.2, 0, [], .none, .none, .none, .none, none, .none, .none, 0⟩), ⟨[]⟩⟩
noncomputable def o164_71 (P : Params) : Obj := ⟨(.type "code"), none, (.fields ⟨[(.str x151 2543), (.str x151 2544), (.str x1 2545), (.int 168 0), (.int 4 0), (.int 0 0), (.int 0 0), (.int 3 0), (.ref 159), (.bool true), (.int 181 0), (.ref 160), .none, (.ref 161), (.ref 162), (.ref 163), (.int 2550 0), (.int 168 0), (.str x1 2551)]⟩), ⟨[]⟩⟩
noncomputable def o165_71 (P : Params) : Obj := ⟨(.type "function"), none, (.func ⟨x151, x151, (fp 70).1, .stmts (fp 70).2.1, (fp 70).2.2, 3, [], .none, .none, .none, (.str x145 2501), none, (.ref 164), .none, 0⟩), ⟨[]⟩⟩
noncomputable def o166_71 (P : Params) : Obj := ⟨(.type "tuple"), none, (.seq ⟨[]⟩ 0), ⟨[]⟩⟩
noncomputable def o167_71 (P : Params) : Obj := ⟨.none, none, (.fields ⟨[]⟩), ⟨[]⟩⟩
noncomputable def o168_71 (P : Params) : Obj := ⟨.none, none, (.func ⟨x152, x152, (fp 71).1, .stmts (fp 71).2.1, (fp 71).2.2, 0, [], .none, .none, .none, .none, none, .none, .none, 0⟩), ⟨[]⟩⟩
noncomputable def o169_71 (P : Params) : Obj := ⟨(.type "code"), none, (.fields ⟨[(.str x152 2553), (.str x152 2554), (.str x1 2555), (.int 174 0), (.int 1 0), (.int 0 0), (.int 0 0), (.int 3 0), (.ref 166), (.bool true), (.int 181 0), (.ref 167), .none, .none, .none, (.ref 168), (.int 2556 0), (.int 174 0), (.str x1 2557)]⟩), ⟨[]⟩⟩
noncomputable def o170_71 (P : Params) : Obj := ⟨(.type "function"), none, (.func ⟨x152, x152, (fp 71).1, .stmts (fp 71).2.1, (fp 71).2.2, 3, [], .none, .none, .none, (.str x145 2501), none, (.ref 169), .none, 0⟩), ⟨[]⟩⟩
noncomputable def T_71 (P : Params) : BT := (.node (boot_o_0 P) (.node (boot_o_1 P) (.node (o3_71 P) (.node (boot_o_7 P) (.node (o15_8 P) (.node (o31_8 P) (.node (o63_9 P) (.node (o127_71 P) .nil .nil) .nil) (.node (o95_11 P) (.node (o159_71 P) .nil .nil) .nil)) (.node (o47_8 P) (.node (o79_11 P) (.node (o143_71 P) .nil .nil) .nil) (.node (o111_11 P) .nil .nil))) (.node (o23_8 P) (.node (o39_8 P) (.node (o71_10 P) (.node (o135_71 P) .nil .nil) .nil) (.node (o103_11 P) (.node (o167_71 P) .nil .nil) .nil)) (.node (o55_8 P) (.node (o87_11 P) (.node (o151_71 P) .nil .nil) .nil) (.node (o119_36 P) .nil .nil)))) (.node (o11_p P) (.node (o19_8 P) (.node (o35_8 P) (.node (o67_9 P) (.node (o131_71 P) .nil .nil) .nil) (.node (o99_11 P) (.node (o163_71 P) .nil .nil) .nil)) (.node (o51_8 P) (.node (o83_11 P) (.node (o147_71 P) .nil .nil) .nil) (.node (o115_36 P) .nil .nil))) (.node (o27_8 P) (.node (o43_8 P) (.node (o75_11 P) (.node (o139_71 P) .nil .nil) .nil) (.node (o107_11 P) .nil .nil)) (.node (o59_9 P) (.node (o91_11 P) (.node (o155_71 P) .nil .nil) .nil) (.node (o123_63 P) .nil .nil))))) (.node (boot_o_5 P) (.node (boot_o_9 P) (.node (o17_8 P) (.node (o33_8 P) (.node (o65_9 P) (.node (o129_71 P) .nil .nil) .nil) (.node (o97_11 P) (.node (o161_71 P) .nil .nil) .nil)) (.node (o49_8 P) (.node (o81_11 P) (.node (o145_71 P) .nil .nil) .nil) (.node (o113_11 P) .nil .nil))) (.node (o25_8 P) (.node (o41_8 P) (.node (o73_10 P) (.node (o137_71 P) .nil .nil) .nil) (.node (o105_11 P) (.node (o169_71 P) .nil .nil) .nil)) (.node (o57_9 P) (.node (o89_11 P) (.node (o153_71 P) .nil .nil) .nil) (.node (o121_63 P) .nil .nil)))) (.node (o13_p P) (.node (o21_8 P) (.node (o37_8 P) (.node (o69_10 P) (.node (o133_71 P) .nil .nil) .nil) (.node (o101_11 P) (.node (o165_71 P) .nil .nil) .nil)) (.node (o53_8 P) (.node (o85_11 P) (.node (o149_71 P) .nil .nil) .nil) (.node (o117_36 P) .nil .nil))) (.node (o29_8 P) (.node (o45_8 P) (.node (o77_11 P) (.node (o141_71 P) .nil .nil) .nil) (.node (o109_11 P) .nil .nil)) (.node (o61_9 P) (.node (o93_11 P) (.node (o157_71 P) .nil .nil) .nil) (.node (o125_71 P) .nil .nil)))))) (.node (boot_o_2 P) (.node (boot_o_4 P) (.node (boot_o_8 P) (.node (o16_8 P) (.node (o32_8 P) (.node (o64_9 P) (.node (o128_71 P) .nil .nil) .nil) (.node (o96_11 P) (.node (o160_71 P) .nil .nil) .nil)) (.node (o48_8 P) (.node (o80_11 P) (.node (o144_71 P) .nil .nil) .nil) (.node (o112_11 P) .nil .nil))) (.node (o24_8 P) (.node (o40_8 P) (.node (o72_10 P) (.node (o136_71 P) .nil .nil) .nil) (.node (o104_11 P) (.node (o168_71 P) .nil .nil) .nil)) (.node (o56_8 P) (.node (o88_11 P) (.node (o152_71 P) .nil .nil) .nil) (.node (o120_36 P) .nil .nil)))) (.node (o12_71 P) (.node (o20_8 P) (.node (o36_8 P) (.node (o68_10 P) (.node (o132_71 P) .nil .nil) .nil) (.node (o100_11 P) (.node (o164_71 P) .nil .nil) .nil)) (.node (o52_8 P) (.node (o84_11 P) (.node (o148_71 P) .nil .nil) .nil) (.node (o116_36 P) .nil .nil))) (.node (o28_8 P) (.node (o44_8 P) (.node (o76_11 P) (.node (o140_71 P) .nil .nil) .nil) (.node (o108_11 P) .nil .nil)) (.node (o60_9 P) (.node (o92_11 P) (.node (o156_71 P) .nil .nil) .nil) (.node (o124_71 P) .nil .nil))))) (.node (boot_o_6 P) (.node (boot_o_10 P) (.node (o18_8 P) (.node (o34_8 P) (.node (o66_9 P) (.node (o130_71 P) .nil .nil) .nil) (.node (o98_11 P) (.node (o162_71 P) .nil .nil) .nil)) (.node (o50_8 P) (.node (o82_11 P) (.node (o146_71 P) .nil .nil) .nil) (.node (o114_36 P) .nil .nil))) (.node (o26_8 P) (.node (o42_8 P) (.node (o74_10 P) (.node (o138_71 P) .nil .nil) .nil) (.node (o106_11 P) (.node (o170_71 P) .nil .nil) .nil)) (.node (o58_9 P) (.node (o90_11 P) (.node (o154_71 P) .nil .nil) .nil) (.node (o122_63 P) .nil .nil)))) (.node (o14_p P) (.node (o22_8 P) (.node (o38_8 P) (.node (o70_10 P) (.node (o134_71 P) .nil .nil) .nil) (.node (o102_11 P) (.node (o166_71 P) .nil .nil) .nil)) (.node (o54_8 P) (.node (o86_11 P) (.node (o150_71 P) .nil .nil) .nil) (.node (o118_36 P) .nil .nil))) (.node (o30_8 P) (.node (o46_8 P) (.node (o78_11 P) (.node (o142_71 P) .nil .nil) .nil) (.node (o110_11 P) .nil .nil)) (.node (o62_9 P) (.node (o94_11 P) (.node (o158_71 P) .nil .nil) .nil) (.node (o126_71 P) .nil .nil)))))))
-- state 71: n 171 toks 2559 pos ⟨174, 0, 199, 15⟩ steps 26

noncomputable def L_10 (P : Params) : List Obj := [boot_o_0 P, boot_o_1 P, boot_o_2 P, o3_10 P, boot_o_4 P, boot_o_5 P, boot_o_6 P, boot_o_7 P, boot_o_8 P, boot_o_9 P, boot_o_10 P, o11_p P, o12_10 P, o13_p P, o14_p P, o15_8 P, o16_8 P, o17_8 P, o18_8 P, o19_8 P, o20_8 P, o21_8 P, o22_8 P, o23_8 P, o24_8 P, o25_8 P, o26_8 P, o27_8 P, o28_8 P, o29_8 P, o30_8 P, o31_8 P, o32_8 P, o33_8 P, o34_8 P, o35_8 P, o36_8 P, o37_8 P, o38_8 P, o39_8 P, o40_8 P, o41_8 P, o42_8 P, o43_8 P, o44_8 P, o45_8 P, o46_8 P, o47_8 P, o48_8 P, o49_8 P, o50_8 P, o51_8 P, o52_8 P, o53_8 P, o54_8 P, o55_8 P, o56_8 P, o57_9 P, o58_9 P, o59_9 P, o60_9 P, o61_9 P, o62_9 P, o63_9 P, o64_9 P, o65_9 P, o66_9 P, o67_9 P, o68_10 P, o69_10 P, o70_10 P, o71_10 P, o72_10 P, o73_10 P, o74_10 P]
noncomputable def T_11m (P : Params) : BT := (.node (boot_o_0 P) (.node (boot_o_1 P) (.node (o3_10 P) (.node (boot_o_7 P) (.node (o15_8 P) (.node (o31_8 P) (.node (o63_9 P) .nil .nil) (.node (o95_11 P) .nil .nil)) (.node (o47_8 P) (.node (o79_11 P) .nil .nil) (.node (o111_11 P) .nil .nil))) (.node (o23_8 P) (.node (o39_8 P) (.node (o71_10 P) .nil .nil) (.node (o103_11 P) .nil .nil)) (.node (o55_8 P) (.node (o87_11 P) .nil .nil) .nil))) (.node (o11_p P) (.node (o19_8 P) (.node (o35_8 P) (.node (o67_9 P) .nil .nil) (.node (o99_11 P) .nil .nil)) (.node (o51_8 P) (.node (o83_11 P) .nil .nil) .nil)) (.node (o27_8 P) (.node (o43_8 P) (.node (o75_11 P) .nil .nil) (.node (o107_11 P) .nil .nil)) (.node (o59_9 P) (.node (o91_11 P) .nil .nil) .nil)))) (.node (boot_o_5 P) (.node (boot_o_9 P) (.node (o17_8 P) (.node (o33_8 P) (.node (o65_9 P) .nil .nil) (.node (o97_11 P) .nil .nil)) (.node (o49_8 P) (.node (o81_11 P) .nil .nil) (.node (o113_11 P) .nil .nil))) (.node (o25_8 P) (.node (o41_8 P) (.node (o73_10 P) .nil .nil) (.node (o105_11 P) .nil .nil)) (.node (o57_9 P) (.node (o89_11 P) .nil .nil) .nil))) (.node (o13_p P) (.node (o21_8 P) (.node (o37_8 P) (.node (o69_10 P) .nil .nil) (.node (o101_11 P) .nil .nil)) (.node (o53_8 P) (.node (o85_11 P) .nil .nil) .nil)) (.node (o29_8 P) (.node (o45_8 P) (.node (o77_11 P) .nil .nil) (.node (o109_11 P) .nil .nil)) (.node (o61_9 P) (.node (o93_11 P) .nil .nil) .nil))))) (.node (boot_o_2 P) (.node (boot_o_4 P) (.node (boot_o_8 P) (.node (o16_8 P) (.node (o32_8 P) (.node (o64_9 P) .nil .nil) (.node (o96_11 P) .nil .nil)) (.node (o48_8 P) (.node (o80_11 P) .nil .nil) (.node (o112_11 P) .nil .nil))) (.node (o24_8 P) (.node (o40_8 P) (.node (o72_10 P) .nil .nil) (.node (o104_11 P) .nil .nil)) (.node (o56_8 P) (.node (o88_11 P) .nil .nil) .nil))) (.node (o12_10 P) (.node (o20_8 P) (.node (o36_8 P) (.node (o68_10 P) .nil .nil) (.node (o100_11 P) .nil .nil)) (.node (o52_8 P) (.node (o84_11 P) .nil .nil) .nil)) (.node (o28_8 P) (.node (o44_8 P) (.node (o76_11 P) .nil .nil) (.node (o108_11 P) .nil .nil)) (.node (o60_9 P) (.node (o92_11 P) .nil .nil) .nil)))) (.node (boot_o_6 P) (.node (boot_o_10 P) (.node (o18_8 P) (.node (o34_8 P) (.node (o66_9 P) .nil .nil) (.node (o98_11 P) .nil .nil)) (.node (o50_8 P) (.node (o82_11 P) .nil .nil) .nil)) (.node (o26_8 P) (.node (o42_8 P) (.node (o74_10 P) .nil .nil) (.node (o106_11 P) .nil .nil)) (.node (o58_9 P) (.node (o90_11 P) .nil .nil) .nil))) (.node (o14_p P) (.node (o22_8 P) (.node (o38_8 P) (.node (o70_10 P) .nil .nil) (.node (o102_11 P) .nil .nil)) (.node (o54_8 P) (.node (o86_11 P) .nil .nil) .nil)) (.node (o30_8 P) (.node (o46_8 P) (.node (o78_11 P) .nil .nil) (.node (o110_11 P) .nil .nil)) (.node (o62_9 P) (.node (o94_11 P) .nil .nil) .nil))))))
end Mine
namespace Mine
noncomputable abbrev qGo := @PySem.W.Fast.tw3277212676724774461
noncomputable abbrev qTab := @PySem.W.Fast.tw14364793385576792824
theorem qGo_eq : @segGo = @qGo := PySem.W.Fast.te3277212676724774461
theorem qTab_eq : @treeTable = @qTab := PySem.W.Fast.te14364793385576792824
noncomputable def W1 (w : World) (a : Bool) : World := w.withFollow "special-get-raises" a
noncomputable abbrev thr (x : Sem Fin) (pos : Pos) : Thread := ⟨x, topC, pos, [topFrame topQ]⟩
def Goes (w : World) (n : Nat) (s : Shared) (x : Sem Fin) (pos : Pos) (s' : Shared) (x' : Sem Fin) (pos' : Pos) : Prop :=
  segGo treeTable PW w 11 annV 1 n s (thr x pos) = some (s', thr x' pos')
theorem segGo_add {w : World} : ∀ {n m : Nat} {s s' s'' : Shared} {t t' t'' : Thread}, segGo treeTable PW w 11 annV 1 n s t = some (s', t') →
    segGo treeTable PW w 11 annV 1 m s' t' = some (s'', t'') → segGo treeTable PW w 11 annV 1 (n + m) s t = some (s'', t'')
  | 0, m, s, s', s'', t, t', t'', h, k => by
    obtain ⟨rfl, rfl⟩ : s = s' ∧ t = t' := by simpa [segGo] using h
    rw [Nat.zero_add]; exact k
  | n + 1, m, s, s', s'', t, t', t'', h, k => by
    rw [show n + 1 + m = n + m + 1 by omega]
    unfold segGo at h ⊢
    cases he : endAt 1 t with
    | some f => rw [he] at h; cases h
    | none =>
      rw [he] at h
      cases hk : stepOk 11 annV t with
      | false => rw [hk] at h; cases h
      | true =>
        rw [hk] at h
        cases hs : step (denote treeTable) PW w s t with
        | halt o s₂ => rw [hs] at h; cases h
        | go s₂ t₂ => rw [hs] at h; exact segGo_add h k
theorem Goes.trans {w : World} {n m : Nat} {s s' s'' : Shared} {x x' x'' : Sem Fin} {p p' p'' : Pos} (h : Goes w n s x p s' x' p') (k : Goes w m s' x' p' s'' x'' p'') : Goes w (n + m) s x p s'' x'' p'' := segGo_add h k
theorem Goes.zero {w : World} {s : Shared} {x : Sem Fin} {p : Pos} : Goes w 0 s x p s x p := rfl
/-- a tree goes to a value, whatever is wrapped around it -/
def RT {α : Type} (w : World) (n : Nat) (s : Shared) (pos : Pos) (t : Sem α) (s' : Shared) (pos' : Pos) (a : α) : Prop :=
  ∀ (K : α → Sem Fin) (H : Value → Sem Fin) (gd : Bool → Bool) (lv : List Value → List Value), Goes w n s (t.wrap K H gd lv) pos s' (K a) pos'
section
variable {α β : Type} {w : World} {n m : Nat} {s s' s'' : Shared} {p p' p'' : Pos}
theorem RT.pure {a : α} : RT w 0 s p (Pure.pure a : Sem α) s p a := fun _ _ _ _ => rfl
theorem RT.bind {t : Sem α} {f : α → Sem β} {a : α} {b : β} (h : RT w n s p t s' p' a) (k : RT w m s' p' (f a) s'' p'' b) : RT w (n + m) s p (t >>= f) s'' p'' b := fun K H gd lv => by
  rw [Sem.bind_eq_wrap', Sem.wrap_wrap]
  exact (h _ _ _ _).trans (k K H gd lv)
theorem RT.keep {t : Sem α} {a : α} (vs : List Value) (h : RT w n s p t s' p' a) : RT w n s p (t.keep vs) s' p' a := fun K H gd lv => by
  rw [Sem.keep_eq_wrap, Sem.wrap_wrap]
  exact h _ _ _ _
theorem RT.holding {t : Sem α} {a : α} (vs : List Value) (h : RT w n s p t s' p' a) : RT w n s p (PySem.holding vs t) s' p' a := by
  unfold PySem.holding
  split
  · exact h
  · exact h.keep _
theorem RT.onRaise {t : Sem α} {a : α} (k : Value → Sem Unit) (h : RT w n s p t s' p' a) : RT w n s p (t.onRaise k) s' p' a := fun K H gd lv => by
  rw [Sem.onRaise_eq_wrap, Sem.wrap_wrap]
  exact h _ _ _ _
theorem RT.rule {g : String} : RT w 1 s p (PySem.rule g) s p () := fun _ _ _ _ => rfl
theorem RT.standAt {q : Pos} : RT w 1 s p (PySem.standAt q) s q () := fun _ _ _ _ => rfl
theorem RT.point : RT w 1 s p PySem.point s p () := fun _ _ _ _ => rfl
theorem RT.ask : RT w 1 s p PySem.ask s p ⟨PW, w.params⟩ := fun _ _ _ _ => rfl
theorem RT.fresh : RT w 1 s p PySem.fresh { s with toks := s.toks + 1 } p s.toks := fun _ _ _ _ => rfl
theorem RT.loadPart {a : Addr} {part : Option Value} {o : Obj} (h : s.heap.get? a = some o) : RT w 1 s p (PySem.loadPart a part) s p o := fun K H gd lv => by
  obtain ⟨heap, gens, drawn, toks, os⟩ := s
  show (match (match heap.get? a with | some o => Step.go _ _ | none => _) with | .go s' t' => segGo treeTable PW w 11 annV 1 0 s' t' | .halt _ _ => none) = _
  rw [show heap.get? a = some o from h]
  rfl
theorem RT.load {a : Addr} {o : Obj} (h : s.heap.get? a = some o) : RT w 1 s p (PySem.load a) s p o := RT.loadPart (part := none) h
theorem RT.updatePart {a : Addr} {part : Option Value} {f : Obj → Obj} {o : Obj} (h : s.heap.get? a = some o) (ha : Nat.ble 11 a = true) :
    RT w 1 s p (PySem.updatePart a part f) { s with heap := s.heap.update a f } p () := fun K H gd lv => by
  obtain ⟨heap, gens, drawn, toks, os⟩ := s
  have hk : stepOk 11 annV (thr ((PySem.updatePart a part f).wrap K H gd lv) p) = true := by
    show (true && (Nat.ble 11 a || a == mainNs || a == cStatics || annV == some (.ref a))) = true
    rw [ha]; rfl
  show segGo treeTable PW w 11 annV 1 1 ⟨heap, gens, drawn, toks, os⟩ (thr ((PySem.updatePart a part f).wrap K H gd lv) p) = _
  unfold segGo
  rw [show endAt 1 (thr ((PySem.updatePart a part f).wrap K H gd lv) p) = none from rfl, hk]
  show (match (if (heap.get? a).isSome then Step.go _ _ else _) with | .go s' t' => segGo treeTable PW w 11 annV 1 0 s' t' | .halt _ _ => none) = _
  rw [show heap.get? a = some o from h]
  rfl
theorem RT.alloc {o : Obj} : RT w 1 s p (PySem.alloc o) { s with heap := s.heap.push o } p s.heap.objs.size := fun _ _ _ _ => rfl
end
theorem hash_go (w : World) (b : Bool) (heap : Heap) (gens : Array GenState) (drawn : Drawn) (toks : Nat) (os : OsState) (i : Int) (t : Tok) (pos : Pos) (K : Int → Sem Fin) (H : Value → Sem Fin) (gd : Bool → Bool) (lv : List Value → List Value) :
    qGo qTab PW (W1 w b) 11 annV 1 5 ⟨heap, gens, drawn, toks, os⟩ (thr ((pyHash (.int i t)).wrap K H gd lv) pos) = some (⟨heap, gens, drawn, toks + 1, os⟩, thr ((pyHashByItsType.reduced (rawHash i)).wrap K H gd lv) pos) := by
  cases b <;> kernel_rfl
end Mine
namespace Mine
theorem rawHash_small {i : Int} (h0 : 0 ≤ i) (h1 : i < 2 ^ 40) : rawHash i = i := by
  have e : ((i.natAbs % (2 ^ 61 - 1 : Nat) : Nat) : Int) = i := by
    rw [Nat.mod_eq_of_lt (by omega)]
    omega
  unfold rawHash
  show (if (if i < 0 then -((i.natAbs % (2 ^ 61 - 1 : Nat) : Nat) : Int) else ((i.natAbs % (2 ^ 61 - 1 : Nat) : Nat) : Int)) == -1 then (-2 : Int) else (if i < 0 then -((i.natAbs % (2 ^ 61 - 1 : Nat) : Nat) : Int) else ((i.natAbs % (2 ^ 61 - 1 : Nat) : Nat) : Int))) = i
  rw [e, if_neg (show ¬ i < 0 by omega)]
  exact if_neg (by simp; omega)
section
variable {w : World} {b : Bool} {s : Shared} {p : Pos}
theorem RT.pyHash {i : Int} {t : Tok} (h0 : 0 ≤ i) (h1 : i < 2 ^ 40) : RT (W1 w b) 5 s p (PySem.pyHash (.int i t)) { s with toks := s.toks + 1 } p i := fun K H gd lv => by
  obtain ⟨heap, gens, drawn, toks, os⟩ := s
  have e := hash_go w b heap gens drawn toks os i t p K H gd lv
  rw [← qGo_eq, ← qTab_eq] at e
  have r : pyHashByItsType.reduced (rawHash i) = Pure.pure i := by
    unfold pyHashByItsType.reduced
    rw [rawHash_small h0 h1]
    rw [if_pos (by simp; omega), if_neg (by simp; omega)]
  rw [r] at e
  exact e
theorem RT.dictEntries {a : Addr} {part : Option Value} {o : Obj} {es : Array DictEntry} {ep : Nat} (h : s.heap.get? a = some o) (hd : o.data = .dict es ep) : RT w 1 s p (PySem.dictEntries a part) s p es := by
  unfold PySem.dictEntries
  refine RT.bind (n := 1) (m := 0) (RT.loadPart h) ?_
  rw [hd]; exact RT.pure
theorem RT.dictEpoch {a : Addr} {part : Option Value} {o : Obj} {es : Array DictEntry} {ep : Nat} (h : s.heap.get? a = some o) (hd : o.data = .dict es ep) : RT w 1 s p (PySem.dictEpoch a part) s p ep := by
  unfold PySem.dictEpoch
  refine RT.bind (n := 1) (m := 0) (RT.loadPart h) ?_
  rw [hd]; exact RT.pure
theorem RT.updateDictKeys {a : Addr} {part : Option Value} {f : Array DictEntry → Array DictEntry} {o o' : Obj} {es es' : Array DictEntry} {ep ep' : Nat} (ha : Nat.ble 11 a = true) (h : s.heap.get? a = some o) (hd : o.data = .dict es ep)
    (h' : (s.heap.update a (Obj.mapDictKeys f)).get? a = some o') (hd' : o'.data = .dict es' ep') (hz : es'.size ≤ sizeLine) :
    RT w 3 s p (PySem.updateDictKeys a f part) { s with heap := s.heap.update a (Obj.mapDictKeys f) } p () := by
  unfold PySem.updateDictKeys
  refine RT.bind (n := 1) (m := 2) (RT.loadPart h) ?_
  rw [hd]
  refine RT.bind (n := 1) (m := 1) (RT.updatePart h ha) ?_
  unfold PySem.lookBehind
  refine RT.bind (n := 1) (m := 0) (RT.loadPart h') ?_
  rw [hd', show (Data.dict es' ep').pastItsLine = none from by unfold Data.pastItsLine; dsimp only; rw [if_neg (by simpa using Nat.le_succ_of_le hz)]]
  exact RT.pure
end
/-- a heap by its objects -/
def LH (l : List Obj) : Heap := ⟨⟨l⟩, {}⟩
def alive' (o : Obj) : Prop := match o with | ⟨_, _, .freed, _⟩ => False | _ => True
theorem LH_get (pre post : List Obj) (es : List DictEntry) : (LH (pre ++ dictO es :: post)).get? pre.length = some (dictO es) := by
  unfold Heap.get? LH
  simp [dictO]
theorem modify_at (o : Obj) (f : Obj → Obj) (post : List Obj) : ∀ pre : List Obj, (pre ++ o :: post).modify pre.length f = pre ++ f o :: post
  | [] => rfl
  | a :: r => congrArg (a :: ·) (modify_at o f post r)
theorem LH_update (pre post : List Obj) (o : Obj) (f : Obj → Obj) : (LH (pre ++ o :: post)).update pre.length f = LH (pre ++ f o :: post) := by
  unfold Heap.update LH
  simp [modify_at]
theorem LH_push (l : List Obj) (o : Obj) : (LH l).push o = LH (l ++ [o]) := by
  unfold Heap.push LH
  simp
theorem LH_size (l : List Obj) : (LH l).objs.size = l.length := by simp [LH]
theorem push_dictO (es : List DictEntry) (e : DictEntry) : Obj.mapDictKeys (fun x => x.push e) (dictO es) = dictO (es ++ [e]) := by
  unfold dictO Obj.mapDictKeys
  simp
/-- no entry has that hash -/
def Apart (es : List DictEntry) (k : Int) : Prop := ∀ e ∈ es, e.hash ≠ k
theorem places_nil {es : List DictEntry} {k : Int} (h : Apart es k) : placesWithHash (es.toArray).size (fun i => (es.toArray)[i]?.map (·.hash)) k = [] := by
  unfold placesWithHash
  rw [List.filter_eq_nil_iff]
  intro i hi
  simp only [List.mem_range, List.size_toArray] at hi
  simp [hi]
  exact h _ (List.getElem_mem hi)
section
variable {w : World} {b : Bool} {s : Shared} {p : Pos}
theorem RT.dictFind {d : Addr} {k : Int} {t : Tok} {es : List DictEntry} (h : s.heap.get? d = some (dictO es)) (ha : Apart es k) : RT w 1 s p (PySem.dictFind d (.int k t) k) s p none := by
  unfold PySem.dictFind
  refine RT.holding _ ?_
  refine RT.bind (n := 1) (m := 0) (RT.dictEntries (es := ⟨es⟩) (ep := es.length) h rfl) ?_
  dsimp only
  rw [show placesWithHash (Array.mk es).size (fun i => (Array.mk es)[i]?.map (·.hash)) k = [] from places_nil ha]
  exact RT.pure
theorem RT.dictPut {d : Addr} {k : Int} {t : Tok} {v : Value} {pre post : List Obj} {es : List DictEntry} (hs : s.heap = LH (pre ++ dictO es :: post)) (hd : d = pre.length) (h11 : 11 ≤ pre.length) (ha : Apart es k) (hz : es.length < 2 ^ 20) :
    RT w 4 s p (PySem.dictPut d k (.int k t) v) { s with heap := LH (pre ++ dictO (es ++ [⟨k, .int k t, v⟩]) :: post) } p () := by
  subst hd
  unfold PySem.dictPut
  have g : s.heap.get? pre.length = some (dictO es) := by rw [hs]; exact LH_get _ _ _
  refine RT.bind (n := 1) (m := 3) (RT.dictFind g ha) ?_
  have e : LH (pre ++ dictO (es ++ [⟨k, .int k t, v⟩]) :: post) = s.heap.update pre.length (Obj.mapDictKeys fun x => x.push ⟨k, .int k t, v⟩) := by
    rw [hs, LH_update, push_dictO]
  rw [e]
  refine RT.updateDictKeys (o := dictO es) (o' := dictO (es ++ [⟨k, .int k t, v⟩])) (Nat.ble_eq_true_of_le h11) g rfl ?_ rfl ?_
  · rw [← e]; exact LH_get _ _ _
  · show (Array.mk (es ++ _)).size ≤ sizeLine
    rw [sizeLine]
    simp only [List.size_toArray, List.length_append, List.length_cons, List.length_nil]
    omega
theorem RT.dictSet {d : Addr} {k : Int} {t : Tok} {v : Value} {pre post : List Obj} {es : List DictEntry} (hs : s.heap = LH (pre ++ dictO es :: post)) (hd : d = pre.length) (h11 : 11 ≤ pre.length) (ha : Apart es k) (hz : es.length < 2 ^ 20) (h0 : 0 ≤ k) (h1 : k < 2 ^ 40) :
    RT (W1 w b) 10 s p (PySem.dictSet d (.int k t) v) { s with heap := LH (pre ++ dictO (es ++ [⟨k, .int k t, v⟩]) :: post), toks := s.toks + 1 } p () := by
  subst hd
  unfold PySem.dictSet
  refine RT.holding _ ?_
  refine RT.bind (n := 5) (m := 5) (RT.pyHash h0 h1) ?_
  unfold PySem.dictSetHashed
  refine RT.holding _ ?_
  have g : s.heap.get? pre.length = some (dictO es) := by rw [hs]; exact LH_get _ _ _
  refine RT.bind (n := 1) (m := 4) (RT.dictFind g ha) ?_
  refine RT.bind (n := 1) (m := 3) RT.rule ?_
  have e : LH (pre ++ dictO (es ++ [⟨k, .int k t, v⟩]) :: post) = s.heap.update pre.length (Obj.mapDictKeys fun x => x.push ⟨k, .int k t, v⟩) := by
    rw [hs, LH_update, push_dictO]
  rw [e]
  refine RT.updateDictKeys (s := { s with toks := s.toks + 1 }) (o := dictO es) (o' := dictO (es ++ [⟨k, .int k t, v⟩])) (Nat.ble_eq_true_of_le h11) g rfl ?_ rfl ?_
  · rw [← e]; exact LH_get _ _ _
  · show (Array.mk (es ++ _)).size ≤ sizeLine
    rw [sizeLine]
    simp only [List.size_toArray, List.length_append, List.length_cons, List.length_nil]
    omega
end
/-- a cell of the display: its key, its value -/
def cell (q : Pos) (x : Int × PySem.Str) : Sem Value × Sem Value := (mkInt x.1, do let v ← mkText x.2; standAt q; pure v)
section
variable {w : World} {b : Bool} {s : Shared} {p q : Pos}
theorem RT.mkInt {i : Int} : RT w 1 s p (PySem.mkInt i) { s with toks := s.toks + 1 } p (.int i s.toks) := by
  unfold PySem.mkInt
  exact RT.bind (n := 1) (m := 0) RT.fresh RT.pure
theorem RT.cellV {x : Int × PySem.Str} : RT w 2 s p (cell q x).2 { s with toks := s.toks + 1 } q (.str x.2 s.toks) := by
  unfold cell
  refine RT.bind (n := 1) (m := 1) (a := .str x.2 s.toks) (s' := { s with toks := s.toks + 1 }) (p' := p) ?_ ?_
  · unfold mkText; exact RT.bind (n := 1) (m := 0) RT.fresh RT.pure
  · exact RT.bind (n := 1) (m := 0) RT.standAt RT.pure
end
section
variable {α β : Type} {w : World} {s s' s'' : Shared} {p p' p'' : Pos}
theorem RT.forIn_nil {b : β} {f : α → β → Sem (ForInStep β)} : RT w 0 s p (forIn ([] : List α) b f) s p b := RT.pure
theorem RT.forIn_cons {n m : Nat} {x : α} {xs : List α} {b b' b'' : β} {f : α → β → Sem (ForInStep β)} (h : RT w n s p (f x b) s' p' (.yield b')) (k : RT w m s' p' (forIn xs b' f) s'' p'' b'') :
    RT w (n + m) s p (forIn (x :: xs) b f) s'' p'' b'' := by
  rw [List.forIn_cons]; exact RT.bind h k
end

/-- what is asked of the keys -/
def Keys (xs : List (Int × PySem.Str)) : Prop := (∀ x ∈ xs, 0 ≤ x.1 ∧ x.1 < 2 ^ 40) ∧ xs.Pairwise (fun a b => a.1 < b.1)
theorem Keys.tail {x : Int × PySem.Str} {xs : List (Int × PySem.Str)} (h : Keys (x :: xs)) : Keys xs := ⟨fun y hy => h.1 y (.tail _ hy), (List.pairwise_cons.mp h.2).2⟩
theorem entL_length : ∀ (xs : List (Int × PySem.Str)) (t : Nat), (entL t xs).length = xs.length
  | [], _ => rfl
  | (k, v) :: r, t => by simp [entL, entL_length r]
theorem entS_length : ∀ (xs : List (Int × PySem.Str)) (t : Nat), (entS t xs).length = xs.length
  | [], _ => rfl
  | (k, v) :: r, t => by simp [entS, entS_length r]
theorem long_loop (w : World) (b : Bool) (q : Pos) (pre post : List Obj) (h11 : 11 ≤ pre.length) (f : Sem Value × Sem Value → PUnit → Sem (ForInStep PUnit))
    (hf : ∀ x u, f x u = (do
                  let kv ← x.1
                  let vv ← holding [kv] x.2
                  holding [kv, vv] (dictSet pre.length kv vv)
                  pure (ForInStep.yield PUnit.unit))) :
    ∀ (xs : List (Int × PySem.Str)) (es : List DictEntry) (s : Shared), s.heap = LH (pre ++ dictO es :: post) → Keys xs → (∀ x ∈ xs, Apart es x.1) → es.length + xs.length < 2 ^ 20 →
      RT (W1 w b) (13 * xs.length) s q (forIn (xs.map (cell q)) PUnit.unit f) { s with heap := LH (pre ++ dictO (es ++ entL s.toks xs) :: post), toks := s.toks + 3 * xs.length } q PUnit.unit
  | [], es, s, hs, _, _, _ => by
    rw [show ({ s with heap := LH (pre ++ dictO (es ++ entL s.toks []) :: post), toks := s.toks + 3 * ([] : List (Int × PySem.Str)).length } : Shared) = s by rw [entL, List.append_nil, ← hs]; rfl]
    exact RT.forIn_nil
  | (k, v) :: r, es, s, hs, hk, ha, hz => by
    have hz' : es.length + r.length + 1 < 2 ^ 20 := by simpa [Nat.add_assoc] using hz
    have ih := long_loop w b q pre post h11 f hf r (es ++ [⟨k, .int k s.toks, .str v (s.toks + 1)⟩]) { s with heap := LH (pre ++ dictO (es ++ [⟨k, .int k s.toks, .str v (s.toks + 1)⟩]) :: post), toks := s.toks + 3 } rfl hk.tail
      (fun x hx e he => by
        rcases List.mem_append.mp he with he | he
        · exact ha x (.tail _ hx) e he
        · rw [List.mem_singleton.mp he]
          have := (List.pairwise_cons.mp hk.2).1 x hx
          show k ≠ x.1
          omega) (by simp only [List.length_append, List.length_cons, List.length_nil]; omega)
    have e1 : ({ s with heap := LH (pre ++ dictO (es ++ entL s.toks ((k, v) :: r)) :: post), toks := s.toks + 3 * ((k, v) :: r).length } : Shared) =
        { s with heap := LH (pre ++ dictO (es ++ [⟨k, .int k s.toks, .str v (s.toks + 1)⟩] ++ entL (s.toks + 3) r) :: post), toks := s.toks + 3 + 3 * r.length } := by
      rw [entL, List.append_assoc, List.singleton_append, List.length_cons]
      congr 1
      omega
    rw [e1, show 13 * ((k, v) :: r).length = 13 + 13 * r.length by rw [List.length_cons]; omega]
    rw [List.map_cons]
    refine RT.forIn_cons (b' := PUnit.unit) ?_ ih
    rw [hf]
    refine RT.bind (n := 1) (m := 12) RT.mkInt ?_
    refine RT.bind (n := 2) (m := 10) (RT.holding _ RT.cellV) ?_
    refine RT.bind (n := 10) (m := 0) (RT.holding _ (RT.dictSet (es := es) (pre := pre) (post := post) hs rfl h11 (ha _ (.head _)) (by omega) (hk.1 _ (.head _)).1 (hk.1 _ (.head _)).2)) ?_
    exact RT.pure
theorem sub_long (w : World) (b : Bool) (q : Pos) (pre : List Obj) (h11 : 11 ≤ pre.length) (xs : List (Int × PySem.Str)) (s : Shared) (hs : s.heap = LH pre) (hl : 15 < xs.length) (hz : xs.length < 2 ^ 20) (hk : Keys xs) :
    RT (W1 w b) (2 + 13 * xs.length) s q (subDict (xs.map (cell q))) { s with heap := LH (pre ++ [dictO (entL s.toks xs)]), toks := s.toks + 3 * xs.length } q pre.length := by
  unfold subDict
  have e : ({ s with heap := s.heap.push { cls := Value.type "dict", data := Data.dict #[] } } : Shared) = { s with heap := LH (pre ++ [dictO []]) } := by
    rw [hs, LH_push]; rfl
  rw [show 2 + 13 * xs.length = 1 + (1 + 13 * xs.length + 0) by omega]
  refine RT.bind (a := pre.length) (s' := { s with heap := LH (pre ++ [dictO []]) }) (p' := q) ?_ ?_
  · rw [← e]
    have := RT.alloc (w := W1 w b) (s := s) (p := q) (o := { cls := Value.type "dict", data := Data.dict #[] })
    rw [show s.heap.objs.size = pre.length by rw [hs, LH_size]] at this
    exact this
  refine RT.bind (a := ()) (RT.holding _ ?_) RT.pure
  rw [if_neg (by rw [List.length_map]; omega)]
  refine RT.bind RT.rule ?_
  rw [show 13 * xs.length = 13 * xs.length + 0 by omega]
  refine RT.bind (a := PUnit.unit) ?_ RT.pure
  have := long_loop w b q pre [] h11 _ (fun x u => rfl) xs [] { s with heap := LH (pre ++ [dictO []]) } rfl hk (fun x _ e he => nomatch he) (by simpa using hz)
  exact this
end Mine
namespace Mine
/-- pairs whose keys and values are evaluated -/
def vals (t : Nat) : List (Int × PySem.Str) → List (Value × Value)
  | [] => []
  | (k, v) :: r => (.int k t, .str v (t + 1)) :: vals (t + 2) r
theorem pairs_go (w : World) (q : Pos) : ∀ (xs : List (Int × PySem.Str)) (s : Shared), RT w (3 * xs.length) s q (evalPairs (xs.map (cell q))) { s with toks := s.toks + 2 * xs.length } q (vals s.toks xs)
  | [], s => RT.pure
  | (k, v) :: r, s => by
    have ih := pairs_go w q r { s with toks := s.toks + 2 }
    rw [show 3 * ((k, v) :: r).length = 1 + (2 + (3 * r.length + 0)) by rw [List.length_cons]; omega]
    rw [show ({ s with toks := s.toks + 2 * ((k, v) :: r).length } : Shared) = { s with toks := s.toks + 2 + 2 * r.length } by congr 1; rw [List.length_cons]; omega]
    rw [List.map_cons]
    show RT w _ s q (do
      let kv ← (cell q (k, v)).1
      let vv ← holding [kv] (cell q (k, v)).2
      return (kv, vv) :: (← holding [kv, vv] (evalPairs (r.map (cell q))))) _ _ _
    refine RT.bind (n := 1) RT.mkInt ?_
    refine RT.bind (n := 2) (RT.holding _ RT.cellV) ?_
    exact RT.bind (RT.holding _ ih) RT.pure
theorem short_loop (w : World) (b : Bool) (q : Pos) (pre post : List Obj) (h11 : 11 ≤ pre.length) (f : Value × Value → PUnit → Sem (ForInStep PUnit))
    (hf : ∀ x u, f x u = (do dictSet pre.length x.1 x.2; pure (ForInStep.yield PUnit.unit))) :
    ∀ (xs : List (Int × PySem.Str)) (t : Nat) (es : List DictEntry) (s : Shared), s.heap = LH (pre ++ dictO es :: post) → Keys xs → (∀ x ∈ xs, Apart es x.1) → es.length + xs.length < 2 ^ 20 →
      RT (W1 w b) (10 * xs.length) s q (forIn (vals t xs) PUnit.unit f) { s with heap := LH (pre ++ dictO (es ++ entS t xs) :: post), toks := s.toks + xs.length } q PUnit.unit
  | [], t, es, s, hs, _, _, _ => by
    rw [show ({ s with heap := LH (pre ++ dictO (es ++ entS t []) :: post), toks := s.toks + ([] : List (Int × PySem.Str)).length } : Shared) = s by rw [entS, List.append_nil, ← hs]; rfl]
    exact RT.forIn_nil
  | (k, v) :: r, t, es, s, hs, hk, ha, hz => by
    have hz' : es.length + r.length + 1 < 2 ^ 20 := by simpa [Nat.add_assoc] using hz
    have ih := short_loop w b q pre post h11 f hf r (t + 2) (es ++ [⟨k, .int k t, .str v (t + 1)⟩]) { s with heap := LH (pre ++ dictO (es ++ [⟨k, .int k t, .str v (t + 1)⟩]) :: post), toks := s.toks + 1 } rfl hk.tail
      (fun x hx e he => by
        rcases List.mem_append.mp he with he | he
        · exact ha x (.tail _ hx) e he
        · rw [List.mem_singleton.mp he]
          have := (List.pairwise_cons.mp hk.2).1 x hx
          show k ≠ x.1
          omega) (by simp only [List.length_append, List.length_cons, List.length_nil]; omega)
    have e1 : ({ s with heap := LH (pre ++ dictO (es ++ entS t ((k, v) :: r)) :: post), toks := s.toks + ((k, v) :: r).length } : Shared) =
        { s with heap := LH (pre ++ dictO (es ++ [⟨k, .int k t, .str v (t + 1)⟩] ++ entS (t + 2) r) :: post), toks := s.toks + 1 + r.length } := by
      rw [entS, List.append_assoc, List.singleton_append, List.length_cons]
      congr 1
      omega
    rw [e1, show 10 * ((k, v) :: r).length = 10 + 0 + 10 * r.length by rw [List.length_cons]; omega]
    rw [vals]
    refine RT.forIn_cons (b' := PUnit.unit) ?_ ih
    rw [hf]
    refine RT.bind (n := 10) (m := 0) (RT.dictSet (es := es) (pre := pre) (post := post) hs rfl h11 (ha _ (.head _)) (by omega) (hk.1 _ (.head _)).1 (hk.1 _ (.head _)).2) ?_
    exact RT.pure
theorem sub_short (w : World) (b : Bool) (q : Pos) (pre : List Obj) (h11 : 11 ≤ pre.length) (xs : List (Int × PySem.Str)) (s : Shared) (hs : s.heap = LH pre) (hl : xs.length ≤ 15) (hk : Keys xs) :
    RT (W1 w b) (1 + 13 * xs.length) s q (subDict (xs.map (cell q))) { s with heap := LH (pre ++ [dictO (entS s.toks xs)]), toks := s.toks + 3 * xs.length } q pre.length := by
  unfold subDict
  have e : ({ s with heap := s.heap.push { cls := Value.type "dict", data := Data.dict #[] } } : Shared) = { s with heap := LH (pre ++ [dictO []]) } := by
    rw [hs, LH_push]; rfl
  rw [show 1 + 13 * xs.length = 1 + (3 * xs.length + (10 * xs.length + 0) + 0) by omega]
  refine RT.bind (a := pre.length) (s' := { s with heap := LH (pre ++ [dictO []]) }) (p' := q) ?_ ?_
  · rw [← e]
    have := RT.alloc (w := W1 w b) (s := s) (p := q) (o := { cls := Value.type "dict", data := Data.dict #[] })
    rw [show s.heap.objs.size = pre.length by rw [hs, LH_size]] at this
    exact this
  refine RT.bind (a := ()) (RT.holding _ ?_) RT.pure
  rw [if_pos (by rw [List.length_map]; omega)]
  refine RT.bind (pairs_go _ q xs _) ?_
  refine RT.holding _ ?_
  refine RT.bind (a := PUnit.unit) ?_ RT.pure
  have := short_loop w b q pre [] h11 _ (fun x u => rfl) xs s.toks [] { s with heap := LH (pre ++ [dictO []]), toks := s.toks + 2 * xs.length } rfl hk (fun x _ e he => nomatch he) (by simp; omega)
  rw [show s.toks + 2 * xs.length + xs.length = s.toks + 3 * xs.length by omega] at this
  exact this
/-- entries as the display makes them: an int key, its own hash -/
def IntEnt (e : DictEntry) : Prop := ∃ k t v, e = ⟨k, .int k t, v⟩
theorem entL_int (xs : List (Int × PySem.Str)) : ∀ (t : Nat), ∀ e ∈ entL t xs, IntEnt e := by
  induction xs with
  | nil => exact fun t e h => absurd h (List.not_mem_nil)
  | cons x r ih =>
    obtain ⟨k, v⟩ := x
    intro t e h
    rw [entL] at h
    rcases List.mem_cons.mp h with h | h
    · exact ⟨k, t, _, h⟩
    · exact ih _ e h
theorem entS_int (xs : List (Int × PySem.Str)) : ∀ (t : Nat), ∀ e ∈ entS t xs, IntEnt e := by
  induction xs with
  | nil => exact fun t e h => absurd h (List.not_mem_nil)
  | cons x r ih =>
    obtain ⟨k, v⟩ := x
    intro t e h
    rw [entS] at h
    rcases List.mem_cons.mp h with h | h
    · exact ⟨k, t, _, h⟩
    · exact ih _ e h
theorem entL_hash : ∀ (xs : List (Int × PySem.Str)) (t : Nat), (entL t xs).map (·.hash) = xs.map (·.1)
  | [], _ => rfl
  | (k, v) :: r, t => by simp [entL, entL_hash r]
theorem entS_hash : ∀ (xs : List (Int × PySem.Str)) (t : Nat), (entS t xs).map (·.hash) = xs.map (·.1)
  | [], _ => rfl
  | (k, v) :: r, t => by simp [entS, entS_hash r]
theorem iter_dict : typeLookup (.type "dict") (Str.ofString "__iter__") = pure (some (.builtin "dict.__iter__")) := by kernel_rfl
/-- both dicts of a merge stand in the heap -/
theorem LH_get2 (pre mid : List Obj) (E es : List DictEntry) : (LH (pre ++ dictO E :: (mid ++ [dictO es]))).get? (pre.length + 1 + mid.length) = some (dictO es) := by
  have := LH_get (pre ++ dictO E :: mid) [] es
  simpa [Nat.add_assoc, Nat.add_comm, Nat.add_left_comm] using this
theorem merge_loop (w : World) (q : Pos) (pre mid : List Obj) (h11 : 11 ≤ pre.length) (es : List DictEntry) (hI : ∀ e ∈ es, IntEnt e) (f : Nat → PUnit → Sem (ForInStep PUnit)) (ep : Nat) (hep : ep = es.length)
    (hf : ∀ i u, f i u = (do
                  let __do_lift ← dictEntries (pre.length + 1 + mid.length)
                  match __do_lift[i]? with
                    | some e => do
                      holding [e.key, e.val] (dictPut pre.length e.hash e.key e.val)
                      let __do_lift ← dictEpoch (pre.length + 1 + mid.length)
                      if (__do_lift != ep) = true then do
                          unsupported "dict.changed-during-merge"
                          pure (ForInStep.yield PUnit.unit)
                        else pure (ForInStep.yield PUnit.unit)
                    | x => do
                      unsupported "dict.changed-during-merge"
                      pure (ForInStep.yield PUnit.unit))) :
    ∀ (m i : Nat) (E : List DictEntry) (s : Shared), i + m = es.length → s.heap = LH (pre ++ dictO E :: (mid ++ [dictO es])) → ((E ++ es.drop i).map (·.hash)).Nodup → E.length + m < 2 ^ 20 →
      RT w (6 * m) s q (forIn (List.range' i m) PUnit.unit f) { s with heap := LH (pre ++ dictO (E ++ es.drop i) :: (mid ++ [dictO es])) } q PUnit.unit
  | 0, i, E, s, hi, hs, _, _ => by
    have : es.drop i = [] := List.drop_eq_nil_of_le (by omega)
    rw [this, List.append_nil, ← hs]
    exact RT.forIn_nil
  | m + 1, i, E, s, hi, hs, hn, hz => by
    have hlt : i < es.length := by omega
    have hd : es.drop i = es[i] :: es.drop (i + 1) := List.drop_eq_getElem_cons hlt
    obtain ⟨k, t, v, he⟩ := hI es[i] (List.getElem_mem hlt)
    have hap : Apart E k := fun e hee hh => by
      rw [hd, List.map_append, List.nodup_append] at hn
      exact hn.2.2 _ (List.mem_map_of_mem hee) k (by rw [List.map_cons, he]; exact .head _) hh
    have ih := merge_loop w q pre mid h11 es hI f ep hep hf m (i + 1) (E ++ [es[i]]) { s with heap := LH (pre ++ dictO (E ++ [es[i]]) :: (mid ++ [dictO es])) } (by omega) rfl (by rw [List.append_assoc, List.singleton_append, ← hd]; exact hn) (by simp only [List.length_append, List.length_cons, List.length_nil]; omega)
    rw [hd, show E ++ es[i] :: es.drop (i + 1) = E ++ [es[i]] ++ es.drop (i + 1) by rw [List.append_assoc, List.singleton_append]]
    rw [show 6 * (m + 1) = 6 + 6 * m by omega]
    rw [List.range'_succ]
    refine RT.forIn_cons (b' := PUnit.unit) ?_ ih
    rw [hf]
    have g : s.heap.get? (pre.length + 1 + mid.length) = some (dictO es) := by rw [hs]; exact LH_get2 _ _ _ _
    refine RT.bind (n := 1) (m := 5) (RT.dictEntries (es := ⟨es⟩) (ep := es.length) g rfl) ?_
    rw [show (Array.mk es)[i]? = some es[i] by simp [hlt]]
    dsimp only
    have p1 : RT w 4 s q (dictPut pre.length es[i].hash es[i].key es[i].val) { s with heap := LH (pre ++ dictO (E ++ [es[i]]) :: (mid ++ [dictO es])) } q () := by
      rw [he]
      exact RT.dictPut hs rfl h11 hap (by omega)
    refine RT.bind (n := 4) (m := 1) (RT.holding _ p1) ?_
    refine RT.bind (n := 1) (m := 0) (RT.dictEpoch (es := ⟨es⟩) (ep := es.length) (o := dictO es) (LH_get2 _ _ _ _) rfl) ?_
    rw [if_neg (by simp [hep])]
    exact RT.pure
theorem is_go {w : World} {s : Shared} {q : Pos} {a : Addr} {es : List DictEntry} (g : s.heap.get? a = some (dictO es)) : RT w 1 s q (isInstance (.ref a) (.type "dict")) s q true := by
  unfold isInstance typeOf
  refine RT.bind (n := 1) (m := 0) (RT.bind (n := 1) (m := 0) (RT.loadPart g) RT.pure) ?_
  rw [show (dictO es).cls = .type "dict" from rfl, PySem.F.sub_dict_dict]; exact RT.pure
theorem iter_go {w : World} {s : Shared} {q : Pos} {a : Addr} {es : List DictEntry} (g : s.heap.get? a = some (dictO es)) : RT w 1 s q (specialOf (.ref a) (Str.ofString "__iter__")) s q (some (.builtin "dict.__iter__")) := by
  unfold specialOf typeOf
  refine RT.bind (n := 1) (m := 0) (RT.bind (n := 1) (m := 0) (RT.loadPart g) RT.pure) ?_
  rw [show (dictO es).cls = .type "dict" from rfl, iter_dict]; exact RT.pure
theorem merge_go (w : World) (q : Pos) (pre mid : List Obj) (h11 : 11 ≤ pre.length) (hsm : pre.length + 1 + mid.length ≠ sysModules) (E es : List DictEntry) (hE : E ≠ []) (hI : ∀ e ∈ es, IntEnt e) (s : Shared) (hs : s.heap = LH (pre ++ dictO E :: (mid ++ [dictO es]))) (hn : ((E ++ es).map (·.hash)).Nodup) (hz : E.length + es.length < 2 ^ 20) :
    RT w (5 + 6 * es.length) s q (mergeMapping pre.length (.ref (pre.length + 1 + mid.length)) false) { s with heap := LH (pre ++ dictO (E ++ es) :: (mid ++ [dictO es])) } q () := by
  have g : s.heap.get? (pre.length + 1 + mid.length) = some (dictO es) := by rw [hs]; exact LH_get2 _ _ _ _
  have gE : s.heap.get? pre.length = some (dictO E) := by rw [hs]; exact LH_get _ _ _
  unfold mergeMapping
  rw [show 5 + 6 * es.length = 1 + (1 + (0 + (1 + (1 + (1 + (6 * es.length + 0)))))) by omega]
  refine RT.bind (n := 1) (a := true) (s' := s) (p' := q) (is_go g) ?_
  rw [if_pos rfl]
  refine RT.bind (n := 1) (a := some (.builtin "dict.__iter__")) (s' := s) (p' := q) (iter_go g) ?_
  refine RT.bind (n := 0) (a := true) RT.pure ?_
  dsimp only
  rw [if_neg (by simpa using hsm)]
  refine RT.bind (n := 1) (RT.dictEntries (es := ⟨E⟩) (ep := E.length) gE rfl) ?_
  rw [if_neg (by simp [hE])]
  refine RT.bind (n := 1) (RT.dictEntries (es := ⟨es⟩) (ep := es.length) g rfl) ?_
  refine RT.bind (n := 1) (RT.dictEpoch (es := ⟨es⟩) (ep := es.length) (o := dictO es) g rfl) ?_
  refine RT.bind (a := PUnit.unit) ?_ RT.pure
  rw [show List.range (Array.mk es).size = List.range' 0 es.length by rw [List.range_eq_range']; simp]
  exact merge_loop w q pre mid h11 es hI _ es.length rfl (fun i u => rfl) es.length 0 E s (by omega) hs (by simpa using hn) hz
end Mine
namespace Mine
def dcell (q : Pos) (x : Int × PySem.Str) : Option (Sem Value) × Sem Value := (some (cell q x).1, (cell q x).2)
abbrev DSt := Option Addr × List (Sem Value × Sem Value)
section
variable {w : World} {q : Pos} {f : Option (Sem Value) × Sem Value → DSt → Sem (ForInStep DSt)}
theorem gather (h1 : ∀ k v main run, (run ++ [(k, v)]).length ≠ 17 → f (some k, v) (main, run) = pure (.yield (main, run ++ [(k, v)]))) :
    ∀ (xs : List (Int × PySem.Str)) (run : List (Sem Value × Sem Value)) (main : Option Addr) (rest : List (Option (Sem Value) × Sem Value)) {n : Nat} {s s' : Shared} {p p' : Pos} {r : DSt}, run.length + xs.length ≤ 16 →
      RT w n s p (forIn rest (main, run ++ xs.map (cell q)) f) s' p' r → RT w n s p (forIn (xs.map (dcell q) ++ rest) (main, run) f) s' p' r
  | [], run, main, rest, n, s, s', p, p', r, _, h => by simpa using h
  | x :: xs, run, main, rest, n, s, s', p, p', r, hl, h => by
    rw [List.map_cons, List.cons_append, ← Nat.zero_add n]
    have hl' : run.length + xs.length + 1 ≤ 16 := by simpa [Nat.add_assoc] using hl
    refine RT.forIn_cons (s' := s) (p' := p) (b' := (main, run ++ [cell q x])) ?_ ?_
    · rw [dcell, h1 _ _ _ _ (by simp; omega)]
      exact RT.pure
    · refine gather h1 xs (run ++ [cell q x]) main rest (by simp; omega) ?_
      rw [List.append_assoc, List.singleton_append]
      exact h
theorem gather_all (h1 : ∀ k v main run, (run ++ [(k, v)]).length ≠ 17 → f (some k, v) (main, run) = pure (.yield (main, run ++ [(k, v)])))
    (xs : List (Int × PySem.Str)) (main : Option Addr) {s : Shared} {p : Pos} (hl : xs.length ≤ 16) : RT w 0 s p (forIn (xs.map (dcell q)) (main, []) f) s p (main, xs.map (cell q)) := by
  have := gather (w := w) (q := q) h1 xs [] main [] (n := 0) (s := s) (s' := s) (p := p) (p' := p) (r := (main, xs.map (cell q))) (by simpa using hl) RT.forIn_nil
  rwa [List.append_nil] at this
theorem chunk17 (h1 : ∀ k v main run, (run ++ [(k, v)]).length ≠ 17 → f (some k, v) (main, run) = pure (.yield (main, run ++ [(k, v)])))
    {xs : List (Int × PySem.Str)} (hx : xs.length = 17) {main main' : Option Addr} {rest : List (Option (Sem Value) × Sem Value)} {n n' : Nat} {s s₁ s' : Shared} {p p₁ p' : Pos} {r : DSt}
    (hf : ∀ k v run, run ++ [(k, v)] = xs.map (cell q) → RT w n s p (f (some k, v) (main, run)) s₁ p₁ (.yield (main', []))) (h : RT w n' s₁ p₁ (forIn rest (main', []) f) s' p' r) : RT w (n + n') s p (forIn (xs.map (dcell q) ++ rest) (main, []) f) s' p' r := by
  obtain ⟨ys, y, rfl⟩ : ∃ ys y, xs = ys ++ [y] := ⟨xs.dropLast, xs.getLast (by rintro rfl; cases hx), (List.dropLast_concat_getLast _).symm⟩
  have hy : ys.length = 16 := by simpa using hx
  rw [List.map_append, List.append_assoc]
  refine gather h1 ys [] main _ (by simp; omega) ?_
  rw [List.nil_append, List.map_cons, List.map_nil, List.singleton_append]
  refine RT.forIn_cons (b' := (main', [])) ?_ h
  rw [dcell]
  exact hf _ _ _ (by rw [List.map_append]; rfl)
theorem entL_append : ∀ (xs ys : List (Int × PySem.Str)) (t : Nat), entL t (xs ++ ys) = entL t xs ++ entL (t + 3 * xs.length) ys
  | [], ys, t => rfl
  | (k, v) :: r, ys, t => by
    rw [List.cons_append, entL, entL, entL_append r ys (t + 3), List.length_cons, List.cons_append]
    rw [show t + 3 + 3 * r.length = t + 3 * (r.length + 1) by omega]
noncomputable def objC (t : Nat) : List (List (Int × PySem.Str)) → List Obj
  | [] => []
  | c :: cs => dictO (entL t c) :: objC (t + 51) cs
theorem objC_length : ∀ (cs : List (List (Int × PySem.Str))) (t : Nat), (objC t cs).length = cs.length
  | [], _ => rfl
  | c :: cs, t => by simp [objC, objC_length cs]
/-- one flush into a standing dict -/
theorem flush_go {b : Bool} (pre mid : List Obj) (h11 : 11 ≤ pre.length) (E : List DictEntry) (hE : E ≠ []) (xs : List (Sem Value × Sem Value)) (es : List DictEntry) (hI : ∀ e ∈ es, IntEnt e) (s : Shared) {n t : Nat}
    (hsub : RT (W1 w b) n s q (subDict xs) { s with heap := LH (pre ++ dictO E :: mid ++ [dictO es]), toks := t } q (pre ++ dictO E :: mid).length)
    (hn : ((E ++ es).map (·.hash)).Nodup) (hz : E.length + es.length < 2 ^ 20) (k : Addr → Value → Sem Unit) :
    RT (W1 w b) (n + (5 + 6 * es.length)) s q (do
      let sub ← holding [.ref pre.length] (subDict xs)
      (holding [.ref pre.length, .ref sub] (mergeMapping pre.length (.ref sub) false)).onRaise (k sub)
      pure (some pre.length)) { s with heap := LH (pre ++ dictO (E ++ es) :: (mid ++ [dictO es])), toks := t } q (some pre.length) := by
  refine RT.bind (RT.holding _ hsub) ?_
  have e1 : (pre ++ dictO E :: mid).length = pre.length + 1 + mid.length := by simp; omega
  rw [e1]
  have := merge_go (W1 w b) q pre mid h11 (by rw [show sysModules = 1 from rfl]; omega) E es hE hI { s with heap := LH (pre ++ dictO E :: mid ++ [dictO es]), toks := t } (by simp) hn hz
  rw [← Nat.add_zero (5 + 6 * es.length)]
  exact RT.bind (RT.onRaise _ (RT.holding _ this)) RT.pure
theorem keys_nodup {E : List DictEntry} {xs : List (Int × PySem.Str)} (h : (E.map (·.hash) ++ xs.map (·.1)).Pairwise (· < ·)) : (E.map (·.hash) ++ xs.map (·.1)).Nodup := h.imp fun h => Int.ne_of_lt h
/-- the parts of 17 -/
theorem chunks_go {b : Bool} (pre : List Obj) (h11 : 11 ≤ pre.length)
    (h1 : ∀ k v main run, (run ++ [(k, v)]).length ≠ 17 → f (some k, v) (main, run) = pure (.yield (main, run ++ [(k, v)])))
    (kk : Addr → Value → Sem Unit)
    (h2 : ∀ k v run, (run ++ [(k, v)]).length = 17 → f (some k, v) (some pre.length, run) = (do
      let m ← (do
        let sub ← holding [.ref pre.length] (subDict (run ++ [(k, v)]))
        (holding [.ref pre.length, .ref sub] (mergeMapping pre.length (.ref sub) false)).onRaise (kk sub)
        pure (some pre.length))
      pure (.yield (m, [])))) :
    ∀ (cs : List (List (Int × PySem.Str))) (mid : List Obj) (E : List DictEntry) (s : Shared) (rest : List (Option (Sem Value) × Sem Value)) {n' : Nat} {s' : Shared} {p' : Pos} {r : DSt}, (∀ c ∈ cs, c.length = 17) → s.heap = LH (pre ++ dictO E :: mid) → E ≠ [] →
      (∀ c ∈ cs, ∀ x ∈ c, 0 ≤ x.1 ∧ x.1 < 2 ^ 40) → (E.map (·.hash) ++ cs.flatten.map (·.1)).Pairwise (· < ·) → E.length + cs.flatten.length < 2 ^ 20 →
      RT (W1 w b) n' { s with heap := LH (pre ++ dictO (E ++ entL s.toks cs.flatten) :: (mid ++ objC s.toks cs)), toks := s.toks + 51 * cs.length } q (forIn rest (some pre.length, []) f) s' p' r →
      RT (W1 w b) (330 * cs.length + n') s q (forIn (cs.flatten.map (dcell q) ++ rest) (some pre.length, []) f) s' p' r
  | [], mid, E, s, rest, n', s', p', r, _, hs, _, _, _, _, h => by
    have e : ({ s with heap := LH (pre ++ dictO (E ++ entL s.toks ([] : List (List (Int × PySem.Str))).flatten) :: (mid ++ objC s.toks [])), toks := s.toks + 51 * ([] : List (List (Int × PySem.Str))).length } : Shared) = s := by
      simp [entL, objC, ← hs]
    rw [e] at h
    simpa using h
  | c :: cs, mid, E, s, rest, n', s', p', r, hl, hs, hE, hk, hn, hz, h => by
    have hc : c.length = 17 := hl c (.head _)
    have hp : ((E ++ entL s.toks c).map (·.hash) ++ cs.flatten.map (·.1)).Pairwise (· < ·) := by
      rw [List.map_append, entL_hash, List.append_assoc, ← List.map_append, ← List.flatten_cons]
      exact hn
    have hz' : E.length + 17 + cs.flatten.length < 2 ^ 20 := by
      rw [List.flatten_cons, List.length_append, hc] at hz
      omega
    have hpc : Keys c := by
      refine ⟨hk c (.head _), ?_⟩
      have := (List.pairwise_append.mp hn).2.1
      rw [List.flatten_cons, List.map_append] at this
      exact List.pairwise_map.mp (List.pairwise_append.mp this).1
    have hne : c.map (cell q) ≠ [] := by
      intro e
      rw [List.map_eq_nil_iff] at e
      rw [e] at hc
      cases hc
    have sub := sub_long w b q (pre ++ dictO E :: mid) (by simp; omega) c s hs (by omega) (by omega) hpc
    have fgo := flush_go (w := w) (q := q) (b := b) pre mid h11 E hE (c.map (cell q)) (entL s.toks c) (entL_int _ _) s sub (by
      have := (List.pairwise_append.mp hp).1
      exact this.imp fun h => Int.ne_of_lt h) (by rw [entL_length]; omega) kk
    rw [entL_length, hc] at fgo
    rw [List.flatten_cons, List.map_append, List.append_assoc]
    rw [show 330 * (c :: cs).length + n' = (2 + 13 * 17 + (5 + 6 * 17)) + (330 * cs.length + n') by rw [List.length_cons]; omega]
    refine chunk17 h1 hc (main' := some pre.length) (fun k v run e => by
      have e17 : (run ++ [(k, v)]).length = 17 := by rw [e, List.length_map, hc]
      rw [h2 _ _ _ e17, e, ← Nat.add_zero (2 + 13 * 17 + (5 + 6 * 17))]
      exact RT.bind fgo RT.pure) ?_
    refine chunks_go pre h11 h1 kk h2 cs (mid ++ [dictO (entL s.toks c)]) (E ++ entL s.toks c) _ rest (fun c' h' => hl c' (.tail _ h')) rfl (by simp [hE]) (fun c' h' => hk c' (.tail _ h')) hp (by rw [List.length_append, entL_length, hc]; exact hz') ?_
    rw [List.flatten_cons, entL_append, hc, objC] at h
    rw [show s.toks + 51 * (c :: cs).length = s.toks + 3 * 17 + 51 * cs.length by rw [List.length_cons]; omega] at h
    rw [List.append_assoc, List.append_assoc, List.singleton_append]
    exact h
end
/-- the whole display: a first part of 17, further parts of 17, a short rest -/
theorem display_go (w : World) (b : Bool) (q : Pos) (pre : List Obj) (h11 : 11 ≤ pre.length) (c0 : List (Int × PySem.Str)) (cs : List (List (Int × PySem.Str))) (l : List (Int × PySem.Str)) (hc0 : c0.length = 17) (hcs : ∀ c ∈ cs, c.length = 17) (hl0 : l ≠ []) (hl : l.length ≤ 15)
    (hk : ∀ x ∈ c0 ++ cs.flatten ++ l, 0 ≤ x.1 ∧ x.1 < 2 ^ 40) (hp : (c0 ++ cs.flatten ++ l).Pairwise (fun a b => a.1 < b.1)) (hz : cs.flatten.length < 2 ^ 19) (s : Shared) (hs : s.heap = LH pre) :
    RT (W1 w b) (223 + (330 * cs.length + 0) + (1 + 13 * l.length + (5 + 6 * l.length) + 0)) s q (dictDisplay ((c0 ++ cs.flatten ++ l).map (dcell q)))
      { s with heap := LH (pre ++ dictO (entL s.toks (c0 ++ cs.flatten) ++ entS (s.toks + 51 + 51 * cs.length) l) :: (objC (s.toks + 51) cs ++ [dictO (entS (s.toks + 51 + 51 * cs.length) l)])), toks := s.toks + 51 + 51 * cs.length + 3 * l.length } q (.ref pre.length) := by
  unfold dictDisplay
  have hk0 : Keys c0 := ⟨fun x hx => hk x (by simp [hx]), (List.pairwise_append.mp (List.pairwise_append.mp hp).1).1⟩
  have hkl : Keys l := ⟨fun x hx => hk x (by simp [hx]), (List.pairwise_append.mp hp).2.1⟩
  have hpm : ((c0 ++ cs.flatten ++ l).map (·.1)).Pairwise (· < ·) := List.pairwise_map.mpr hp
  rw [List.map_append, List.map_append] at hpm
  dsimp only
  refine RT.bind (n := 223 + (330 * cs.length + 0)) (a := (some pre.length, l.map (cell q))) (s' := { s with heap := LH (pre ++ dictO (entL s.toks (c0 ++ cs.flatten)) :: objC (s.toks + 51) cs), toks := s.toks + 51 + 51 * cs.length }) (p' := q) ?_ ?_
  · rw [List.map_append, List.map_append, List.append_assoc]
    have sub := sub_long w b q pre h11 c0 s hs (by omega) (by omega) hk0
    rw [hc0] at sub
    have first : RT (W1 w b) 223 s q (do let d ← subDict (c0.map (cell q)); pure (some d)) { s with heap := LH (pre ++ [dictO (entL s.toks c0)]), toks := s.toks + 51 } q (some pre.length) := RT.bind (m := 0) sub RT.pure
    refine chunk17 ?h1 hc0 (main' := some pre.length) (s₁ := { s with heap := LH (pre ++ [dictO (entL s.toks c0)]), toks := s.toks + 51 }) (p₁ := q) ?h3 ?h4
    case h1 =>
      intro k v main run h
      dsimp only
      rw [if_neg (by simpa using h)]
    case h3 =>
      intro k v run e
      have e17 : (run ++ [(k, v)]).length = 17 := by rw [e, List.length_map, hc0]
      dsimp only
      rw [if_pos (by simpa using e17), if_neg (by simp), e]
      exact RT.bind (m := 0) first RT.pure
    case h4 =>
      refine chunks_go pre h11 ?h1 (fun _ x => do
              let _ ← holding [Value.ref pre.length, x] (runValue (Code.builtin "proto.let_go" { }))
              pure ()) ?h2 cs [] (entL s.toks c0) _ _ hcs rfl (by
        intro e
        have := entL_length c0 s.toks
        rw [e, hc0] at this
        cases this) (fun c hc x hx => hk x (by simp; exact .inr (.inl ⟨c, hc, hx⟩))) ?_ (by rw [entL_length, hc0]; omega) ?_
      case h1 =>
        intro k v main run h
        dsimp only
        rw [if_neg (by simpa using h)]
      case h2 =>
        intro k v run h
        dsimp only
        rw [if_pos (by simpa using h), if_neg (by simp)]
      · rw [entL_hash]
        exact (List.pairwise_append.mp hpm).1
      · rw [entL_append, hc0]
        refine gather_all ?h1 l (some pre.length) (by omega)
        case h1 =>
          intro k v main run h
          dsimp only
          rw [if_neg (by simpa using h)]
  · dsimp only
    refine RT.bind (a := some pre.length) ?_ RT.pure
    have hl1 : l.map (cell q) ≠ [] := by
      intro e
      rw [List.map_eq_nil_iff] at e
      exact hl0 e
    rw [if_neg (by simpa using hl1)]
    have sub := sub_short w b q (pre ++ dictO (entL s.toks (c0 ++ cs.flatten)) :: objC (s.toks + 51) cs) (by simp; omega) l { s with heap := LH (pre ++ dictO (entL s.toks (c0 ++ cs.flatten)) :: objC (s.toks + 51) cs), toks := s.toks + 51 + 51 * cs.length } rfl hl hkl
    have fgo := flush_go (w := w) (q := q) (b := b) pre (objC (s.toks + 51) cs) h11 (entL s.toks (c0 ++ cs.flatten)) (by
      intro e
      have := entL_length (c0 ++ cs.flatten) s.toks
      rw [e] at this
      simp at this
      omega) (l.map (cell q)) _ (entS_int _ _) _ sub (by
        rw [List.map_append, entL_hash, entS_hash, List.map_append]
        exact hpm.imp fun h => Int.ne_of_lt h) (by rw [entL_length, entS_length, List.length_append]; omega) fun sub x => do
              let _ ← holding [Value.ref pre.length, x] (runValue (Code.builtin "proto.let_go" { }))
              pure ()
    rw [entS_length] at fgo
    exact fgo
end Mine
namespace Mine
noncomputable abbrev qGoT := @PySem.W.Fast.tw10295753902157049106
theorem qGoT_eq : @segGoT = @qGoT := PySem.W.Fast.te10295753902157049106
noncomputable def b3parts : Str × Pos × List (Option PySem.Expr) × List PySem.Expr × Pos × Pos := match PW.main.body.drop 11 with
  | .Assign [.Name x p'] (.Dict ks vs q) p :: _ => (x, p', ks, vs, q, p)
  | _ => (Str.empty, default, [], [], default, default)
noncomputable abbrev b3q : Pos := b3parts.2.2.2.2.1
noncomputable abbrev b3val : PySem.Expr := .Dict b3parts.2.2.1 b3parts.2.2.2.1 b3q
theorem sts11 : sts 11 1 = [.Assign [.Name b3parts.1 b3parts.2.1] b3val b3parts.2.2.2.2.2] := by kernel_rfl
theorem items_eq : ((evalEachOpt b3parts.2.2.1 topEnv).zip ((evalEach b3parts.2.2.2.1 topEnv).map fun v => do let x ← v; standAt b3q; pure x)) = b3pairs.map (dcell b3q) := by kernel_rfl
theorem swap11 : swapsWith b3val (some (.Name b3parts.1 b3parts.2.1)) b3parts.2.2.2.2.2.line topEnv = pure false := by kernel_rfl
noncomputable def b3c0 : List (Int × PySem.Str) := b3pairs.take 17
noncomputable def b3cs : List (List (Int × PySem.Str)) := (List.range 37).map fun j => (b3pairs.drop (17 * (j + 1))).take 17
noncomputable def b3l : List (Int × PySem.Str) := b3pairs.drop 646
theorem split_eq : b3c0 ++ b3cs.flatten ++ b3l = b3pairs := by kernel_rfl
theorem front_eq : b3c0 ++ b3cs.flatten = b3pairs.take 646 := by kernel_rfl
theorem len_c0 : b3c0.length = 17 := by kernel_rfl
theorem len_l : b3l.length = 4 := by kernel_rfl
theorem len_cs : b3cs.length = 37 := by kernel_rfl
theorem len_each : (b3cs.all fun c => c.length == 17) = true := by kernel_rfl
theorem len_flat : b3cs.flatten.length = 629 := by kernel_rfl
/-- a rising chain of keys, told by a look -/
def rising : Int → List (Int × PySem.Str) → Bool
  | _, [] => true
  | a, x :: r => Int.ble' a x.1 && rising (x.1 + 1) r
where Int.ble' (a b : Int) : Bool := decide (a ≤ b)
theorem rising_spec : ∀ (l : List (Int × PySem.Str)) (a : Int), rising a l = true → (∀ x ∈ l, a ≤ x.1) ∧ l.Pairwise (fun x y => x.1 < y.1)
  | [], a, _ => ⟨fun _ h => (nomatch h), .nil⟩
  | x :: r, a, h => by
    simp only [rising, rising.Int.ble', Bool.and_eq_true, decide_eq_true_eq] at h
    obtain ⟨h1, h2⟩ := rising_spec r _ h.2
    refine ⟨fun y hy => ?_, List.pairwise_cons.mpr ⟨fun y hy => ?_, h2⟩⟩
    · rcases List.mem_cons.mp hy with rfl | hy
      · exact h.1
      · have := h1 y hy; omega
    · have := h1 y hy; omega
theorem b3_rising : rising 0 b3pairs = true := by kernel_rfl
theorem b3_small : (b3pairs.all fun x => decide (x.1 < 2 ^ 40)) = true := by kernel_rfl
theorem mid_eq (w : World) (os : OsState) : (stS T_11m 114 2288 w os).heap = LH (L_10 w.params ++ dictO (entL 338 (b3c0 ++ b3cs.flatten) ++ entS 2276 b3l) :: (objC 389 b3cs ++ [dictO (entS 2276 b3l)])) := by kernel_rfl
theorem start_eq (w : World) (os : OsState) : stS T_10 75 338 w os = ⟨LH (L_10 w.params), gens0, boot_drawn, 338, os⟩ := by kernel_rfl
theorem tail_goT (w : World) (K : Flow → Sem Fin) (H : Value → Sem Fin) (gd : Bool → Bool) (lv : List Value → List Value) : (fun os => qGoT qTab PW w 11 annV 1 7 (stT T_11m 114 2288 w os) (thr ((do standAt b3parts.2.1; bindName topEnv b3parts.1 (.ref 75); pure .next : Sem Flow).wrap K H gd lv) b3q)) = fun os => some (stT T_11 114 2289 w os, thr (K .next) ⟨80, 0, 80, 13⟩) := by kernel_rfl
theorem tail_go (w : World) (os : OsState) : RT w 7 (stS T_11m 114 2288 w os) b3q (do standAt b3parts.2.1; bindName topEnv b3parts.1 (.ref 75); pure .next : Sem Flow) (stS T_11 114 2289 w os) ⟨80, 0, 80, 13⟩ .next := fun K H gd lv => by
  have := congrFun (tail_goT w K H gd lv) os
  rw [← qGoT_eq, ← qTab_eq] at this
  exact segGo_of this
theorem grp11 (w : World) (b : Bool) (os : OsState) : segRun treeTable PW (W1 w b) 11 annV 1 (12524 + 1) (stS T_10 75 338 (W1 w b) os) (piecesOf (sts 11 1) topEnv topC ⟨78, 0, 79, 30⟩ [topFrame topQ]) = some (.next, stS T_11 114 2289 (W1 w b) os, topC, ⟨80, 0, 80, 13⟩) := by
  have hr := rising_spec _ _ b3_rising
  have hs := List.all_eq_true.mp b3_small
  have d := display_go w b b3q (L_10 (W1 w b).params) (by show 11 ≤ 75; decide) b3c0 b3cs b3l len_c0 (fun c hc => by simpa using List.all_eq_true.mp len_each c hc) (by intro e; have := len_l; rw [e] at this; cases this) (by rw [len_l]; decide)
    (by rw [split_eq]; exact fun x hx => ⟨hr.1 x hx, by simpa using hs x hx⟩) (by rw [split_eq]; exact hr.2) (by rw [len_flat]; decide) ⟨LH (L_10 (W1 w b).params), gens0, boot_drawn, 338, os⟩ rfl
  rw [split_eq, len_cs, len_l] at d
  have e1 : RT (W1 w b) 12515 (stS T_10 75 338 (W1 w b) os) b3q (dictDisplay (b3pairs.map (dcell b3q))) (stS T_11m 114 2288 (W1 w b) os) b3q (.ref 75) := by
    rw [start_eq]
    have e2 : stS T_11m 114 2288 (W1 w b) os = ⟨LH (L_10 (W1 w b).params ++ dictO (entL 338 (b3c0 ++ b3cs.flatten) ++ entS 2276 b3l) :: (objC 389 b3cs ++ [dictO (entS 2276 b3l)])), gens0, boot_drawn, 2288, os⟩ := by
      rw [← mid_eq (W1 w b) os]; rfl
    rw [e2]
    exact d
  have e3 : RT (W1 w b) 12524 (stS T_10 75 338 (W1 w b) os) ⟨78, 0, 79, 30⟩ (execs (sts 11 1) topEnv) (stS T_11 114 2289 (W1 w b) os) ⟨80, 0, 80, 13⟩ .next := by
    rw [sts11]
    show RT _ (12524 + 0) _ _ (exec (.Assign [.Name b3parts.1 b3parts.2.1] b3val b3parts.2.2.2.2.2) topEnv >>= fun f => match f with | .next => execs [] topEnv | f => pure f) _ _ _
    refine RT.bind (a := Flow.next) ?_ RT.pure
    rw [exec_Assign_Name (hs := swap11)]
    refine RT.bind (n := 1) (m := 12523) RT.standAt ?_
    refine RT.bind (n := 12516) (m := 7) (a := Value.ref 75) ?_ (tail_go _ os)
    rw [arm_eval_Dict, items_eq]
    exact RT.bind (n := 1) (m := 12515) RT.standAt e1
  have g : segGo treeTable PW (W1 w b) 11 annV 1 12524 (stS T_10 75 338 (W1 w b) os) (piecesOf (sts 11 1) topEnv topC ⟨78, 0, 79, 30⟩ [topFrame topQ]) = some (stS T_11 114 2289 (W1 w b) os, thr (doneF .next) ⟨80, 0, 80, 13⟩) := e3 doneF deadEnd id id
  exact seg_go g rfl
end Mine
namespace Mine
noncomputable def k21 : (P : Params) → { o : Obj // (⟨(.type "function"), none, (.func ⟨(PySem.Str.ofString "_div2n1n"), (PySem.Str.ofString "_div2n1n"), (fp 2).1, .stmts (fp 2).2.1, (fp 2).2.2, 3, [], .none, .none, .none, (.str (PySem.Str.ofString "cpy313._pylong") 187), none, (.ref 20), .none, 0⟩), ⟨[]⟩⟩ : Obj) = o } := fun P => ⟨_, by
  have h : fp 2 = fp 2 := rfl
  conv at h => rhs; whnf
  rewrite [h]
  dsimp only⟩
noncomputable def k28 : (P : Params) → { o : Obj // (⟨(.type "function"), none, (.func ⟨(PySem.Str.ofString "_div3n2n"), (PySem.Str.ofString "_div3n2n"), (fp 3).1, .stmts (fp 3).2.1, (fp 3).2.2, 3, [], .none, .none, .none, (.str (PySem.Str.ofString "cpy313._pylong") 187), none, (.ref 27), .none, 0⟩), ⟨[]⟩⟩ : Obj) = o } := fun P => ⟨_, by
  have h : fp 3 = fp 3 := rfl
  conv at h => rhs; whnf
  rewrite [h]
  dsimp only⟩
noncomputable def k35 : (P : Params) → { o : Obj // (⟨(.type "function"), none, (.func ⟨(PySem.Str.ofString "_int2digits"), (PySem.Str.ofString "_int2digits"), (fp 4).1, .stmts (fp 4).2.1, (fp 4).2.2, 3, [], .none, .none, .none, (.str (PySem.Str.ofString "cpy313._pylong") 187), none, (.ref 34), .none, 0⟩), ⟨[]⟩⟩ : Obj) = o } := fun P => ⟨_, by
  have h : fp 4 = fp 4 := rfl
  conv at h => rhs; whnf
  rewrite [h]
  dsimp only⟩
noncomputable def k42 : (P : Params) → { o : Obj // (⟨(.type "function"), none, (.func ⟨(PySem.Str.ofString "_digits2int"), (PySem.Str.ofString "_digits2int"), (fp 5).1, .stmts (fp 5).2.1, (fp 5).2.2, 3, [], .none, .none, .none, (.str (PySem.Str.ofString "cpy313._pylong") 187), none, (.ref 41), .none, 0⟩), ⟨[]⟩⟩ : Obj) = o } := fun P => ⟨_, by
  have h : fp 5 = fp 5 := rfl
  conv at h => rhs; whnf
  rewrite [h]
  dsimp only⟩
noncomputable def k49 : (P : Params) → { o : Obj // (⟨(.type "function"), none, (.func ⟨(PySem.Str.ofString "_divmod_pos"), (PySem.Str.ofString "_divmod_pos"), (fp 6).1, .stmts (fp 6).2.1, (fp 6).2.2, 3, [], .none, .none, .none, (.str (PySem.Str.ofString "cpy313._pylong") 187), none, (.ref 48), .none, 0⟩), ⟨[]⟩⟩ : Obj) = o } := fun P => ⟨_, by
  have h : fp 6 = fp 6 := rfl
  conv at h => rhs; whnf
  rewrite [h]
  dsimp only⟩
noncomputable def k56 : (P : Params) → { o : Obj // (⟨(.type "function"), none, (.func ⟨(PySem.Str.ofString "int_divmod"), (PySem.Str.ofString "int_divmod"), (fp 7).1, .stmts (fp 7).2.1, (fp 7).2.2, 3, [], .none, .none, .none, (.str (PySem.Str.ofString "cpy313._pylong") 187), none, (.ref 55), .none, 0⟩), ⟨[]⟩⟩ : Obj) = o } := fun P => ⟨_, by
  have h : fp 7 = fp 7 := rfl
  conv at h => rhs; whnf
  rewrite [h]
  dsimp only⟩
noncomputable def k74 : (P : Params) → { o : Obj // (⟨(.type "function"), none, (.func ⟨(PySem.Str.ofString "in_table_b1"), (PySem.Str.ofString "in_table_b1"), (fp 10).1, .stmts (fp 10).2.1, (fp 10).2.2, 3, [], .none, .none, .none, (.str (PySem.Str.ofString "cpy313.stringprep") 269), none, (.ref 73), .none, 0⟩), ⟨[]⟩⟩ : Obj) = o } := fun P => ⟨_, by
  have h : fp 10 = fp 10 := rfl
  conv at h => rhs; whnf
  rewrite [h]
  dsimp only⟩
noncomputable def k120 : (P : Params) → { o : Obj // (⟨(.type "function"), none, (.func ⟨(PySem.Str.ofString "map_table_b3"), (PySem.Str.ofString "map_table_b3"), (fp 12).1, .stmts (fp 12).2.1, (fp 12).2.2, 3, [], .none, .none, .none, (.str (PySem.Str.ofString "cpy313.stringprep") 269), none, (.ref 119), .none, 0⟩), ⟨[]⟩⟩ : Obj) = o } := fun P => ⟨_, by
  have h : fp 12 = fp 12 := rfl
  conv at h => rhs; whnf
  rewrite [h]
  dsimp only⟩
noncomputable def k130 : (P : Params) → { o : Obj // (⟨(.type "function"), none, (.func ⟨(PySem.Str.ofString "ISEOF"), (PySem.Str.ofString "ISEOF"), (fp 64).1, .stmts (fp 64).2.1, (fp 64).2.2, 3, [], .none, .none, .none, (.str (PySem.Str.ofString "cpy313.token") 2297), none, (.ref 129), .none, 0⟩), ⟨[]⟩⟩ : Obj) = o } := fun P => ⟨_, by
  have h : fp 64 = fp 64 := rfl
  conv at h => rhs; whnf
  rewrite [h]
  dsimp only⟩
noncomputable def k137 : (P : Params) → { o : Obj // (⟨(.type "function"), none, (.func ⟨(PySem.Str.ofString "_law_cells"), (PySem.Str.ofString "_law_cells"), (fp 66).1, .stmts (fp 66).2.1, (fp 66).2.2, 3, [], .none, .none, .none, (.str (PySem.Str.ofString "law_re0179_01") 2501), none, (.ref 136), .none, 0⟩), ⟨[]⟩⟩ : Obj) = o } := fun P => ⟨_, by
  have h : fp 66 = fp 66 := rfl
  conv at h => rhs; whnf
  rewrite [h]
  dsimp only⟩
noncomputable def k144 : (P : Params) → { o : Obj // (⟨(.type "function"), none, (.func ⟨(PySem.Str.ofString "_law_blocks"), (PySem.Str.ofString "_law_blocks"), (fp 67).1, .stmts (fp 67).2.1, (fp 67).2.2, 3, [], .none, .none, .none, (.str (PySem.Str.ofString "law_re0179_01") 2501), none, (.ref 143), .none, 0⟩), ⟨[]⟩⟩ : Obj) = o } := fun P => ⟨_, by
  have h : fp 67 = fp 67 := rfl
  conv at h => rhs; whnf
  rewrite [h]
  dsimp only⟩
noncomputable def k151 : (P : Params) → { o : Obj // (⟨(.type "function"), none, (.func ⟨(PySem.Str.ofString "_law_sums"), (PySem.Str.ofString "_law_sums"), (fp 68).1, .stmts (fp 68).2.1, (fp 68).2.2, 3, [], .none, .none, .none, (.str (PySem.Str.ofString "law_re0179_01") 2501), none, (.ref 150), .none, 0⟩), ⟨[]⟩⟩ : Obj) = o } := fun P => ⟨_, by
  have h : fp 68 = fp 68 := rfl
  conv at h => rhs; whnf
  rewrite [h]
  dsimp only⟩
noncomputable def k158 : (P : Params) → { o : Obj // (⟨(.type "function"), none, (.func ⟨(PySem.Str.ofString "_law_product"), (PySem.Str.ofString "_law_product"), (fp 69).1, .stmts (fp 69).2.1, (fp 69).2.2, 3, [], .none, .none, .none, (.str (PySem.Str.ofString "law_re0179_01") 2501), none, (.ref 157), .none, 0⟩), ⟨[]⟩⟩ : Obj) = o } := fun P => ⟨_, by
  have h : fp 69 = fp 69 := rfl
  conv at h => rhs; whnf
  rewrite [h]
  dsimp only⟩
noncomputable def k165 : (P : Params) → { o : Obj // (⟨(.type "function"), none, (.func ⟨(PySem.Str.ofString "_law_dealt"), (PySem.Str.ofString "_law_dealt"), (fp 70).1, .stmts (fp 70).2.1, (fp 70).2.2, 3, [], .none, .none, .none, (.str (PySem.Str.ofString "law_re0179_01") 2501), none, (.ref 164), .none, 0⟩), ⟨[]⟩⟩ : Obj) = o } := fun P => ⟨_, by
  have h : fp 70 = fp 70 := rfl
  conv at h => rhs; whnf
  rewrite [h]
  dsimp only⟩
noncomputable def k170 : (P : Params) → { o : Obj // (⟨(.type "function"), none, (.func ⟨(PySem.Str.ofString "law"), (PySem.Str.ofString "law"), (fp 71).1, .stmts (fp 71).2.1, (fp 71).2.2, 3, [], .none, .none, .none, (.str (PySem.Str.ofString "law_re0179_01") 2501), none, (.ref 169), .none, 0⟩), ⟨[]⟩⟩ : Obj) = o } := fun P => ⟨_, by
  have h : fp 71 = fp 71 := rfl
  conv at h => rhs; whnf
  rewrite [h]
  dsimp only⟩
noncomputable def KH : Params → Frag := fun P =>
(nat_lit 2, ⟨.none, none, (.dict ⟨[]⟩ 0), ⟨[]⟩⟩) ::
(nat_lit 3, ⟨(.type "dict"), none, (.dict ⟨[⟨(PyData.keyHash P (PySem.Str.ofString "__name__")), (.str (PySem.Str.ofString "__name__") 165), (.str (PySem.Str.ofString "law_re0179_01") 2501)⟩, ⟨(PyData.keyHash P (PySem.Str.ofString "__doc__")), (.str (PySem.Str.ofString "__doc__") 166), .none⟩, ⟨(PyData.keyHash P (PySem.Str.ofString "__package__")), (.str (PySem.Str.ofString "__package__") 167), .none⟩, ⟨(PyData.keyHash P (PySem.Str.ofString "__loader__")), (.str (PySem.Str.ofString "__loader__") 168), (.builtin "__main__.__loader__#opaque")⟩, ⟨(PyData.keyHash P (PySem.Str.ofString "__spec__")), (.str (PySem.Str.ofString "__spec__") 169), .none⟩, ⟨(PyData.keyHash P (PySem.Str.ofString "__annotations__")), (.str (PySem.Str.ofString "__annotations__") 170), (.ref 6)⟩, ⟨(PyData.keyHash P (PySem.Str.ofString "__builtins__")), (.str (PySem.Str.ofString "__builtins__") 171), (.ref 4)⟩, ⟨(PyData.keyHash P (PySem.Str.ofString "__file__")), (.str (PySem.Str.ofString "__file__") 173), (.str (PySem.Str.ofString "/claim/cut.py") 172)⟩, ⟨(PyData.keyHash P (PySem.Str.ofString "__cached__")), (.str (PySem.Str.ofString "__cached__") 174), .none⟩, ⟨(PyData.keyHash P (PySem.Str.ofString "_DIV_LIMIT")), (.str (PySem.Str.ofString "_DIV_LIMIT") 190), (.int 4000 189)⟩, ⟨(PyData.keyHash P (PySem.Str.ofString "_div2n1n")), (.str (PySem.Str.ofString "_div2n1n") 207), (.ref 21)⟩, ⟨(PyData.keyHash P (PySem.Str.ofString "_div3n2n")), (.str (PySem.Str.ofString "_div3n2n") 221), (.ref 28)⟩, ⟨(PyData.keyHash P (PySem.Str.ofString "_int2digits")), (.str (PySem.Str.ofString "_int2digits") 232), (.ref 35)⟩, ⟨(PyData.keyHash P (PySem.Str.ofString "_digits2int")), (.str (PySem.Str.ofString "_digits2int") 243), (.ref 42)⟩, ⟨(PyData.keyHash P (PySem.Str.ofString "_divmod_pos")), (.str (PySem.Str.ofString "_divmod_pos") 258), (.ref 49)⟩, ⟨(PyData.keyHash P (PySem.Str.ofString "int_divmod")), (.str (PySem.Str.ofString "int_divmod") 268), (.ref 56)⟩, ⟨(PyData.keyHash P (PySem.Str.ofString "b1_set")), (.str (PySem.Str.ofString "b1_set") 330), (.ref 64)⟩, ⟨(PyData.keyHash P (PySem.Str.ofString "in_table_b1")), (.str (PySem.Str.ofString "in_table_b1") 337), (.ref 74)⟩, ⟨(PyData.keyHash P (PySem.Str.ofString "b3_exceptions")), (.str (PySem.Str.ofString "b3_exceptions") 2288), (.ref 75)⟩, ⟨(PyData.keyHash P (PySem.Str.ofString "map_table_b3")), (.str (PySem.Str.ofString "map_table_b3") 2296), (.ref 120)⟩, ⟨(PyData.keyHash P (PySem.Str.ofString "ENDMARKER")), (.str (PySem.Str.ofString "ENDMARKER") 2300), (.int 0 2299)⟩, ⟨(PyData.keyHash P (PySem.Str.ofString "LPAR")), (.str (PySem.Str.ofString "LPAR") 2302), (.int 7 2301)⟩, ⟨(PyData.keyHash P (PySem.Str.ofString "RPAR")), (.str (PySem.Str.ofString "RPAR") 2304), (.int 8 2303)⟩, ⟨(PyData.keyHash P (PySem.Str.ofString "LSQB")), (.str (PySem.Str.ofString "LSQB") 2306), (.int 9 2305)⟩, ⟨(PyData.keyHash P (PySem.Str.ofString "RSQB")), (.str (PySem.Str.ofString "RSQB") 2308), (.int 10 2307)⟩, ⟨(PyData.keyHash P (PySem.Str.ofString "COLON")), (.str (PySem.Str.ofString "COLON") 2310), (.int 11 2309)⟩, ⟨(PyData.keyHash P (PySem.Str.ofString "COMMA")), (.str (PySem.Str.ofString "COMMA") 2312), (.int 12 2311)⟩, ⟨(PyData.keyHash P (PySem.Str.ofString "SEMI")), (.str (PySem.Str.ofString "SEMI") 2314), (.int 13 2313)⟩, ⟨(PyData.keyHash P (PySem.Str.ofString "PLUS")), (.str (PySem.Str.ofString "PLUS") 2316), (.int 14 2315)⟩, ⟨(PyData.keyHash P (PySem.Str.ofString "MINUS")), (.str (PySem.Str.ofString "MINUS") 2318), (.int 15 2317)⟩, ⟨(PyData.keyHash P (PySem.Str.ofString "STAR")), (.str (PySem.Str.ofString "STAR") 2320), (.int 16 2319)⟩, ⟨(PyData.keyHash P (PySem.Str.ofString "SLASH")), (.str (PySem.Str.ofString "SLASH") 2322), (.int 17 2321)⟩, ⟨(PyData.keyHash P (PySem.Str.ofString "VBAR")), (.str (PySem.Str.ofString "VBAR") 2324), (.int 18 2323)⟩, ⟨(PyData.keyHash P (PySem.Str.ofString "AMPER")), (.str (PySem.Str.ofString "AMPER") 2326), (.int 19 2325)⟩, ⟨(PyData.keyHash P (PySem.Str.ofString "LESS")), (.str (PySem.Str.ofString "LESS") 2328), (.int 20 2327)⟩, ⟨(PyData.keyHash P (PySem.Str.ofString "GREATER")), (.str (PySem.Str.ofString "GREATER") 2330), (.int 21 2329)⟩, ⟨(PyData.keyHash P (PySem.Str.ofString "EQUAL")), (.str (PySem.Str.ofString "EQUAL") 2332), (.int 22 2331)⟩, ⟨(PyData.keyHash P (PySem.Str.ofString "DOT")), (.str (PySem.Str.ofString "DOT") 2334), (.int 23 2333)⟩, ⟨(PyData.keyHash P (PySem.Str.ofString "PERCENT")), (.str (PySem.Str.ofString "PERCENT") 2336), (.int 24 2335)⟩, ⟨(PyData.keyHash P (PySem.Str.ofString "LBRACE")), (.str (PySem.Str.ofString "LBRACE") 2338), (.int 25 2337)⟩, ⟨(PyData.keyHash P (PySem.Str.ofString "RBRACE")), (.str (PySem.Str.ofString "RBRACE") 2340), (.int 26 2339)⟩, ⟨(PyData.keyHash P (PySem.Str.ofString "EQEQUAL")), (.str (PySem.Str.ofString "EQEQUAL") 2342), (.int 27 2341)⟩, ⟨(PyData.keyHash P (PySem.Str.ofString "NOTEQUAL")), (.str (PySem.Str.ofString "NOTEQUAL") 2344), (.int 28 2343)⟩, ⟨(PyData.keyHash P (PySem.Str.ofString "LESSEQUAL")), (.str (PySem.Str.ofString "LESSEQUAL") 2346), (.int 29 2345)⟩, ⟨(PyData.keyHash P (PySem.Str.ofString "GREATEREQUAL")), (.str (PySem.Str.ofString "GREATEREQUAL") 2348), (.int 30 2347)⟩, ⟨(PyData.keyHash P (PySem.Str.ofString "TILDE")), (.str (PySem.Str.ofString "TILDE") 2350), (.int 31 2349)⟩, ⟨(PyData.keyHash P (PySem.Str.ofString "CIRCUMFLEX")), (.str (PySem.Str.ofString "CIRCUMFLEX") 2352), (.int 32 2351)⟩, ⟨(PyData.keyHash P (PySem.Str.ofString "LEFTSHIFT")), (.str (PySem.Str.ofString "LEFTSHIFT") 2354), (.int 33 2353)⟩, ⟨(PyData.keyHash P (PySem.Str.ofString "RIGHTSHIFT")), (.str (PySem.Str.ofString "RIGHTSHIFT") 2356), (.int 34 2355)⟩, ⟨(PyData.keyHash P (PySem.Str.ofString "DOUBLESTAR")), (.str (PySem.Str.ofString "DOUBLESTAR") 2358), (.int 35 2357)⟩, ⟨(PyData.keyHash P (PySem.Str.ofString "PLUSEQUAL")), (.str (PySem.Str.ofString "PLUSEQUAL") 2360), (.int 36 2359)⟩, ⟨(PyData.keyHash P (PySem.Str.ofString "MINEQUAL")), (.str (PySem.Str.ofString "MINEQUAL") 2362), (.int 37 2361)⟩, ⟨(PyData.keyHash P (PySem.Str.ofString "STAREQUAL")), (.str (PySem.Str.ofString "STAREQUAL") 2364), (.int 38 2363)⟩, ⟨(PyData.keyHash P (PySem.Str.ofString "SLASHEQUAL")), (.str (PySem.Str.ofString "SLASHEQUAL") 2366), (.int 39 2365)⟩, ⟨(PyData.keyHash P (PySem.Str.ofString "PERCENTEQUAL")), (.str (PySem.Str.ofString "PERCENTEQUAL") 2368), (.int 40 2367)⟩, ⟨(PyData.keyHash P (PySem.Str.ofString "AMPEREQUAL")), (.str (PySem.Str.ofString "AMPEREQUAL") 2370), (.int 41 2369)⟩, ⟨(PyData.keyHash P (PySem.Str.ofString "VBAREQUAL")), (.str (PySem.Str.ofString "VBAREQUAL") 2372), (.int 42 2371)⟩, ⟨(PyData.keyHash P (PySem.Str.ofString "CIRCUMFLEXEQUAL")), (.str (PySem.Str.ofString "CIRCUMFLEXEQUAL") 2374), (.int 43 2373)⟩, ⟨(PyData.keyHash P (PySem.Str.ofString "LEFTSHIFTEQUAL")), (.str (PySem.Str.ofString "LEFTSHIFTEQUAL") 2376), (.int 44 2375)⟩, ⟨(PyData.keyHash P (PySem.Str.ofString "RIGHTSHIFTEQUAL")), (.str (PySem.Str.ofString "RIGHTSHIFTEQUAL") 2378), (.int 45 2377)⟩, ⟨(PyData.keyHash P (PySem.Str.ofString "DOUBLESTAREQUAL")), (.str (PySem.Str.ofString "DOUBLESTAREQUAL") 2380), (.int 46 2379)⟩, ⟨(PyData.keyHash P (PySem.Str.ofString "DOUBLESLASH")), (.str (PySem.Str.ofString "DOUBLESLASH") 2382), (.int 47 2381)⟩, ⟨(PyData.keyHash P (PySem.Str.ofString "DOUBLESLASHEQUAL")), (.str (PySem.Str.ofString "DOUBLESLASHEQUAL") 2384), (.int 48 2383)⟩, ⟨(PyData.keyHash P (PySem.Str.ofString "AT")), (.str (PySem.Str.ofString "AT") 2386), (.int 49 2385)⟩, ⟨(PyData.keyHash P (PySem.Str.ofString "ATEQUAL")), (.str (PySem.Str.ofString "ATEQUAL") 2388), (.int 50 2387)⟩, ⟨(PyData.keyHash P (PySem.Str.ofString "RARROW")), (.str (PySem.Str.ofString "RARROW") 2390), (.int 51 2389)⟩, ⟨(PyData.keyHash P (PySem.Str.ofString "ELLIPSIS")), (.str (PySem.Str.ofString "ELLIPSIS") 2392), (.int 52 2391)⟩, ⟨(PyData.keyHash P (PySem.Str.ofString "COLONEQUAL")), (.str (PySem.Str.ofString "COLONEQUAL") 2394), (.int 53 2393)⟩, ⟨(PyData.keyHash P (PySem.Str.ofString "EXCLAMATION")), (.str (PySem.Str.ofString "EXCLAMATION") 2396), (.int 54 2395)⟩, ⟨(PyData.keyHash P (PySem.Str.ofString "EXACT_TOKEN_TYPES")), (.str (PySem.Str.ofString "EXACT_TOKEN_TYPES") 2493), (.ref 121)⟩, ⟨(PyData.keyHash P (PySem.Str.ofString "ISEOF")), (.str (PySem.Str.ofString "ISEOF") 2500), (.ref 130)⟩, ⟨(PyData.keyHash P (PySem.Str.ofString "_law_cells")), (.str (PySem.Str.ofString "_law_cells") 2511), (.ref 137)⟩, ⟨(PyData.keyHash P (PySem.Str.ofString "_law_blocks")), (.str (PySem.Str.ofString "_law_blocks") 2520), (.ref 144)⟩, ⟨(PyData.keyHash P (PySem.Str.ofString "_law_sums")), (.str (PySem.Str.ofString "_law_sums") 2533), (.ref 151)⟩, ⟨(PyData.keyHash P (PySem.Str.ofString "_law_product")), (.str (PySem.Str.ofString "_law_product") 2542), (.ref 158)⟩, ⟨(PyData.keyHash P (PySem.Str.ofString "_law_dealt")), (.str (PySem.Str.ofString "_law_dealt") 2552), (.ref 165)⟩, ⟨(PyData.keyHash P (PySem.Str.ofString "law")), (.str (PySem.Str.ofString "law") 2558), (.ref 170)⟩]⟩ 77), ⟨[]⟩⟩) ::
(nat_lit 6, ⟨(.type "dict"), none, (.dict ⟨[]⟩ 0), ⟨[]⟩⟩) ::
(nat_lit 15, ⟨(.type "tuple"), none, (.seq ⟨[]⟩ 0), ⟨[]⟩⟩) ::
(nat_lit 17, ⟨(.type "tuple"), none, (.seq ⟨[(.str (PySem.Str.ofString "a") 194), (.str (PySem.Str.ofString "b") 195), (.str (PySem.Str.ofString "n") 196), (.str (PySem.Str.ofString "pad") 197), (.str (PySem.Str.ofString "half_n") 198), (.str (PySem.Str.ofString "mask") 199), (.str (PySem.Str.ofString "b1") 200), (.str (PySem.Str.ofString "b2") 201), (.str (PySem.Str.ofString "q1") 202), (.str (PySem.Str.ofString "r") 203), (.str (PySem.Str.ofString "q2") 204)]⟩ 0), ⟨[]⟩⟩) ::
(nat_lit 18, ⟨(.type "tuple"), none, (.seq ⟨[]⟩ 0), ⟨[]⟩⟩) ::
(nat_lit 20, ⟨(.type "code"), none, (.fields ⟨[(.str (PySem.Str.ofString "_div2n1n") 191), (.str (PySem.Str.ofString "_div2n1n") 192), (.str (PySem.Str.ofString "/claim/cut.py") 193), (.int 3 0), (.int 3 0), (.int 0 0), (.int 0 0), (.int 3 0), (.ref 15), (.bool true), (.int 181 0), (.ref 16), .none, (.ref 17), (.ref 18), (.ref 19), (.int 205 0), (.int 3 0), (.str (PySem.Str.ofString "/claim/cut.py") 206)]⟩), ⟨[]⟩⟩) ::
(nat_lit 21, (k21 P).1) ::
(nat_lit 22, ⟨(.type "tuple"), none, (.seq ⟨[]⟩ 0), ⟨[]⟩⟩) ::
(nat_lit 24, ⟨(.type "tuple"), none, (.seq ⟨[(.str (PySem.Str.ofString "a12") 211), (.str (PySem.Str.ofString "a3") 212), (.str (PySem.Str.ofString "b") 213), (.str (PySem.Str.ofString "b1") 214), (.str (PySem.Str.ofString "b2") 215), (.str (PySem.Str.ofString "n") 216), (.str (PySem.Str.ofString "q") 217), (.str (PySem.Str.ofString "r") 218)]⟩ 0), ⟨[]⟩⟩) ::
(nat_lit 25, ⟨(.type "tuple"), none, (.seq ⟨[]⟩ 0), ⟨[]⟩⟩) ::
(nat_lit 27, ⟨(.type "code"), none, (.fields ⟨[(.str (PySem.Str.ofString "_div3n2n") 208), (.str (PySem.Str.ofString "_div3n2n") 209), (.str (PySem.Str.ofString "/claim/cut.py") 210), (.int 19 0), (.int 6 0), (.int 0 0), (.int 0 0), (.int 3 0), (.ref 22), (.bool true), (.int 181 0), (.ref 23), .none, (.ref 24), (.ref 25), (.ref 26), (.int 219 0), (.int 19 0), (.str (PySem.Str.ofString "/claim/cut.py") 220)]⟩), ⟨[]⟩⟩) ::
(nat_lit 28, (k28 P).1) ::
(nat_lit 29, ⟨(.type "tuple"), none, (.seq ⟨[]⟩ 0), ⟨[]⟩⟩) ::
(nat_lit 31, ⟨(.type "tuple"), none, (.seq ⟨[(.str (PySem.Str.ofString "a") 225), (.str (PySem.Str.ofString "n") 226)]⟩ 0), ⟨[]⟩⟩) ::
(nat_lit 32, ⟨(.type "tuple"), none, (.seq ⟨[(.str (PySem.Str.ofString "n") 227), (.str (PySem.Str.ofString "a_digits") 228), (.str (PySem.Str.ofString "inner") 229)]⟩ 0), ⟨[]⟩⟩) ::
(nat_lit 34, ⟨(.type "code"), none, (.fields ⟨[(.str (PySem.Str.ofString "_int2digits") 222), (.str (PySem.Str.ofString "_int2digits") 223), (.str (PySem.Str.ofString "/claim/cut.py") 224), (.int 29 0), (.int 2 0), (.int 0 0), (.int 0 0), (.int 3 0), (.ref 29), (.bool true), (.int 181 0), (.ref 30), .none, (.ref 31), (.ref 32), (.ref 33), (.int 230 0), (.int 29 0), (.str (PySem.Str.ofString "/claim/cut.py") 231)]⟩), ⟨[]⟩⟩) ::
(nat_lit 35, (k35 P).1) ::
(nat_lit 36, ⟨(.type "tuple"), none, (.seq ⟨[]⟩ 0), ⟨[]⟩⟩) ::
(nat_lit 38, ⟨(.type "tuple"), none, (.seq ⟨[(.str (PySem.Str.ofString "digits") 236), (.str (PySem.Str.ofString "n") 237)]⟩ 0), ⟨[]⟩⟩) ::
(nat_lit 39, ⟨(.type "tuple"), none, (.seq ⟨[(.str (PySem.Str.ofString "digits") 238), (.str (PySem.Str.ofString "n") 239), (.str (PySem.Str.ofString "inner") 240)]⟩ 0), ⟨[]⟩⟩) ::
(nat_lit 41, ⟨(.type "code"), none, (.fields ⟨[(.str (PySem.Str.ofString "_digits2int") 233), (.str (PySem.Str.ofString "_digits2int") 234), (.str (PySem.Str.ofString "/claim/cut.py") 235), (.int 45 0), (.int 2 0), (.int 0 0), (.int 0 0), (.int 3 0), (.ref 36), (.bool true), (.int 181 0), (.ref 37), .none, (.ref 38), (.ref 39), (.ref 40), (.int 241 0), (.int 45 0), (.str (PySem.Str.ofString "/claim/cut.py") 242)]⟩), ⟨[]⟩⟩) ::
(nat_lit 42, (k42 P).1) ::
(nat_lit 43, ⟨(.type "tuple"), none, (.seq ⟨[]⟩ 0), ⟨[]⟩⟩) ::
(nat_lit 45, ⟨(.type "tuple"), none, (.seq ⟨[(.str (PySem.Str.ofString "a") 247), (.str (PySem.Str.ofString "b") 248), (.str (PySem.Str.ofString "n") 249), (.str (PySem.Str.ofString "a_digits") 250), (.str (PySem.Str.ofString "r") 251), (.str (PySem.Str.ofString "q_digits") 252), (.str (PySem.Str.ofString "a_digit") 253), (.str (PySem.Str.ofString "q_digit") 254), (.str (PySem.Str.ofString "q") 255)]⟩ 0), ⟨[]⟩⟩) ::
(nat_lit 46, ⟨(.type "tuple"), none, (.seq ⟨[]⟩ 0), ⟨[]⟩⟩) ::
(nat_lit 48, ⟨(.type "code"), none, (.fields ⟨[(.str (PySem.Str.ofString "_divmod_pos") 244), (.str (PySem.Str.ofString "_divmod_pos") 245), (.str (PySem.Str.ofString "/claim/cut.py") 246), (.int 54 0), (.int 2 0), (.int 0 0), (.int 0 0), (.int 3 0), (.ref 43), (.bool true), (.int 181 0), (.ref 44), .none, (.ref 45), (.ref 46), (.ref 47), (.int 256 0), (.int 54 0), (.str (PySem.Str.ofString "/claim/cut.py") 257)]⟩), ⟨[]⟩⟩) ::
(nat_lit 49, (k49 P).1) ::
(nat_lit 50, ⟨(.type "tuple"), none, (.seq ⟨[]⟩ 0), ⟨[]⟩⟩) ::
(nat_lit 52, ⟨(.type "tuple"), none, (.seq ⟨[(.str (PySem.Str.ofString "a") 262), (.str (PySem.Str.ofString "b") 263), (.str (PySem.Str.ofString "q") 264), (.str (PySem.Str.ofString "r") 265)]⟩ 0), ⟨[]⟩⟩) ::
(nat_lit 53, ⟨(.type "tuple"), none, (.seq ⟨[]⟩ 0), ⟨[]⟩⟩) ::
(nat_lit 55, ⟨(.type "code"), none, (.fields ⟨[(.str (PySem.Str.ofString "int_divmod") 259), (.str (PySem.Str.ofString "int_divmod") 260), (.str (PySem.Str.ofString "/claim/cut.py") 261), (.int 65 0), (.int 2 0), (.int 0 0), (.int 0 0), (.int 3 0), (.ref 50), (.bool true), (.int 181 0), (.ref 51), .none, (.ref 52), (.ref 53), (.ref 54), (.int 266 0), (.int 65 0), (.str (PySem.Str.ofString "/claim/cut.py") 267)]⟩), ⟨[]⟩⟩) ::
(nat_lit 56, (k56 P).1) ::
(nat_lit 64, ⟨(.type "set"), none, (.set ⟨[(65024, (.int 65024 287)), (65025, (.int 65025 288)), (65026, (.int 65026 289)), (65027, (.int 65027 290)), (65028, (.int 65028 291)), (65029, (.int 65029 292)), (6150, (.int 6150 273)), (65030, (.int 65030 293)), (65031, (.int 65031 294)), (65032, (.int 65032 295)), (65033, (.int 65033 296)), (6155, (.int 6155 274)), (6156, (.int 6156 275)), (6157, (.int 6157 276)), (8203, (.int 8203 277)), (8204, (.int 8204 278)), (8205, (.int 8205 279)), (65034, (.int 65034 297)), (65035, (.int 65035 298)), (65036, (.int 65036 299)), (65037, (.int 65037 300)), (65038, (.int 65038 301)), (65039, (.int 65039 302)), (173, (.int 173 271)), (847, (.int 847 272)), (8288, (.int 8288 280)), (65279, (.int 65279 281))]⟩ 29 ⟨127, ⟨[0, 1, 2, 3, 4, 5, 6, 7, 8, 9, 10, 11, 12, 13, 14, 15, 16, 17, 18, 19, 20, 21, 22, 45, 79, 96, 127]⟩, ⟨[]⟩, 0, !(P.followText "set-order"), 2, true⟩), ⟨[]⟩⟩) ::
(nat_lit 68, ⟨(.type "tuple"), none, (.seq ⟨[]⟩ 0), ⟨[]⟩⟩) ::
(nat_lit 70, ⟨(.type "tuple"), none, (.seq ⟨[(.str (PySem.Str.ofString "code") 334)]⟩ 0), ⟨[]⟩⟩) ::
(nat_lit 71, ⟨(.type "tuple"), none, (.seq ⟨[]⟩ 0), ⟨[]⟩⟩) ::
(nat_lit 73, ⟨(.type "code"), none, (.fields ⟨[(.str (PySem.Str.ofString "in_table_b1") 331), (.str (PySem.Str.ofString "in_table_b1") 332), (.str (PySem.Str.ofString "/claim/cut.py") 333), (.int 78 0), (.int 1 0), (.int 0 0), (.int 0 0), (.int 3 0), (.ref 68), (.bool true), (.int 181 0), (.ref 69), .none, (.ref 70), (.ref 71), (.ref 72), (.int 335 0), (.int 78 0), (.str (PySem.Str.ofString "/claim/cut.py") 336)]⟩), ⟨[]⟩⟩) ::
(nat_lit 74, (k74 P).1) ::
(nat_lit 75, o75_11 P) ::
(nat_lit 114, ⟨(.type "tuple"), none, (.seq ⟨[]⟩ 0), ⟨[]⟩⟩) ::
(nat_lit 116, ⟨(.type "tuple"), none, (.seq ⟨[(.str (PySem.Str.ofString "code") 2292), (.str (PySem.Str.ofString "r") 2293)]⟩ 0), ⟨[]⟩⟩) ::
(nat_lit 117, ⟨(.type "tuple"), none, (.seq ⟨[]⟩ 0), ⟨[]⟩⟩) ::
(nat_lit 119, ⟨(.type "code"), none, (.fields ⟨[(.str (PySem.Str.ofString "map_table_b3") 2289), (.str (PySem.Str.ofString "map_table_b3") 2290), (.str (PySem.Str.ofString "/claim/cut.py") 2291), (.int 81 0), (.int 1 0), (.int 0 0), (.int 0 0), (.int 3 0), (.ref 114), (.bool true), (.int 181 0), (.ref 115), .none, (.ref 116), (.ref 117), (.ref 118), (.int 2294 0), (.int 81 0), (.str (PySem.Str.ofString "/claim/cut.py") 2295)]⟩), ⟨[]⟩⟩) ::
(nat_lit 120, (k120 P).1) ::
(nat_lit 121, ⟨(.type "dict"), none, (.dict ⟨[⟨(PyData.keyHash P (PySem.Str.ofString "!")), (.str (PySem.Str.ofString "!") 2397), (.int 54 2395)⟩, ⟨(PyData.keyHash P (PySem.Str.ofString "!=")), (.str (PySem.Str.ofString "!=") 2399), (.int 28 2343)⟩, ⟨(PyData.keyHash P (PySem.Str.ofString "%")), (.str (PySem.Str.ofString "%") 2401), (.int 24 2335)⟩, ⟨(PyData.keyHash P (PySem.Str.ofString "%=")), (.str (PySem.Str.ofString "%=") 2403), (.int 40 2367)⟩, ⟨(PyData.keyHash P (PySem.Str.ofString "&")), (.str (PySem.Str.ofString "&") 2405), (.int 19 2325)⟩, ⟨(PyData.keyHash P (PySem.Str.ofString "&=")), (.str (PySem.Str.ofString "&=") 2407), (.int 41 2369)⟩, ⟨(PyData.keyHash P (PySem.Str.ofString "(")), (.str (PySem.Str.ofString "(") 2409), (.int 7 2301)⟩, ⟨(PyData.keyHash P (PySem.Str.ofString ")")), (.str (PySem.Str.ofString ")") 2411), (.int 8 2303)⟩, ⟨(PyData.keyHash P (PySem.Str.ofString "*")), (.str (PySem.Str.ofString "*") 2413), (.int 16 2319)⟩, ⟨(PyData.keyHash P (PySem.Str.ofString "**")), (.str (PySem.Str.ofString "**") 2415), (.int 35 2357)⟩, ⟨(PyData.keyHash P (PySem.Str.ofString "**=")), (.str (PySem.Str.ofString "**=") 2417), (.int 46 2379)⟩, ⟨(PyData.keyHash P (PySem.Str.ofString "*=")), (.str (PySem.Str.ofString "*=") 2419), (.int 38 2363)⟩, ⟨(PyData.keyHash P (PySem.Str.ofString "+")), (.str (PySem.Str.ofString "+") 2421), (.int 14 2315)⟩, ⟨(PyData.keyHash P (PySem.Str.ofString "+=")), (.str (PySem.Str.ofString "+=") 2423), (.int 36 2359)⟩, ⟨(PyData.keyHash P (PySem.Str.ofString ",")), (.str (PySem.Str.ofString ",") 2425), (.int 12 2311)⟩, ⟨(PyData.keyHash P (PySem.Str.ofString "-")), (.str (PySem.Str.ofString "-") 2427), (.int 15 2317)⟩, ⟨(PyData.keyHash P (PySem.Str.ofString "-=")), (.str (PySem.Str.ofString "-=") 2429), (.int 37 2361)⟩, ⟨(PyData.keyHash P (PySem.Str.ofString "->")), (.str (PySem.Str.ofString "->") 2431), (.int 51 2389)⟩, ⟨(PyData.keyHash P (PySem.Str.ofString ".")), (.str (PySem.Str.ofString ".") 2433), (.int 23 2333)⟩, ⟨(PyData.keyHash P (PySem.Str.ofString "...")), (.str (PySem.Str.ofString "...") 2435), (.int 52 2391)⟩, ⟨(PyData.keyHash P (PySem.Str.ofString "/")), (.str (PySem.Str.ofString "/") 2437), (.int 17 2321)⟩, ⟨(PyData.keyHash P (PySem.Str.ofString "//")), (.str (PySem.Str.ofString "//") 2439), (.int 47 2381)⟩, ⟨(PyData.keyHash P (PySem.Str.ofString "//=")), (.str (PySem.Str.ofString "//=") 2441), (.int 48 2383)⟩, ⟨(PyData.keyHash P (PySem.Str.ofString "/=")), (.str (PySem.Str.ofString "/=") 2443), (.int 39 2365)⟩, ⟨(PyData.keyHash P (PySem.Str.ofString ":")), (.str (PySem.Str.ofString ":") 2445), (.int 11 2309)⟩, ⟨(PyData.keyHash P (PySem.Str.ofString ":=")), (.str (PySem.Str.ofString ":=") 2447), (.int 53 2393)⟩, ⟨(PyData.keyHash P (PySem.Str.ofString ";")), (.str (PySem.Str.ofString ";") 2449), (.int 13 2313)⟩, ⟨(PyData.keyHash P (PySem.Str.ofString "<")), (.str (PySem.Str.ofString "<") 2451), (.int 20 2327)⟩, ⟨(PyData.keyHash P (PySem.Str.ofString "<<")), (.str (PySem.Str.ofString "<<") 2453), (.int 33 2353)⟩, ⟨(PyData.keyHash P (PySem.Str.ofString "<<=")), (.str (PySem.Str.ofString "<<=") 2455), (.int 44 2375)⟩, ⟨(PyData.keyHash P (PySem.Str.ofString "<=")), (.str (PySem.Str.ofString "<=") 2457), (.int 29 2345)⟩, ⟨(PyData.keyHash P (PySem.Str.ofString "=")), (.str (PySem.Str.ofString "=") 2459), (.int 22 2331)⟩, ⟨(PyData.keyHash P (PySem.Str.ofString "==")), (.str (PySem.Str.ofString "==") 2461), (.int 27 2341)⟩, ⟨(PyData.keyHash P (PySem.Str.ofString ">")), (.str (PySem.Str.ofString ">") 2463), (.int 21 2329)⟩, ⟨(PyData.keyHash P (PySem.Str.ofString ">=")), (.str (PySem.Str.ofString ">=") 2465), (.int 30 2347)⟩, ⟨(PyData.keyHash P (PySem.Str.ofString ">>")), (.str (PySem.Str.ofString ">>") 2466), (.int 34 2355)⟩, ⟨(PyData.keyHash P (PySem.Str.ofString ">>=")), (.str (PySem.Str.ofString ">>=") 2467), (.int 45 2377)⟩, ⟨(PyData.keyHash P (PySem.Str.ofString "@")), (.str (PySem.Str.ofString "@") 2468), (.int 49 2385)⟩, ⟨(PyData.keyHash P (PySem.Str.ofString "@=")), (.str (PySem.Str.ofString "@=") 2469), (.int 50 2387)⟩, ⟨(PyData.keyHash P (PySem.Str.ofString "[")), (.str (PySem.Str.ofString "[") 2470), (.int 9 2305)⟩, ⟨(PyData.keyHash P (PySem.Str.ofString "]")), (.str (PySem.Str.ofString "]") 2471), (.int 10 2307)⟩, ⟨(PyData.keyHash P (PySem.Str.ofString "^")), (.str (PySem.Str.ofString "^") 2472), (.int 32 2351)⟩, ⟨(PyData.keyHash P (PySem.Str.ofString "^=")), (.str (PySem.Str.ofString "^=") 2473), (.int 43 2373)⟩, ⟨(PyData.keyHash P (PySem.Str.ofString "{")), (.str (PySem.Str.ofString "{") 2474), (.int 25 2337)⟩, ⟨(PyData.keyHash P (PySem.Str.ofString "|")), (.str (PySem.Str.ofString "|") 2475), (.int 18 2323)⟩, ⟨(PyData.keyHash P (PySem.Str.ofString "|=")), (.str (PySem.Str.ofString "|=") 2476), (.int 42 2371)⟩, ⟨(PyData.keyHash P (PySem.Str.ofString "}")), (.str (PySem.Str.ofString "}") 2477), (.int 26 2339)⟩, ⟨(PyData.keyHash P (PySem.Str.ofString "~")), (.str (PySem.Str.ofString "~") 2478), (.int 31 2349)⟩]⟩ 48), ⟨[]⟩⟩) ::
(nat_lit 124, ⟨(.type "tuple"), none, (.seq ⟨[]⟩ 0), ⟨[]⟩⟩) ::
(nat_lit 126, ⟨(.type "tuple"), none, (.seq ⟨[(.str (PySem.Str.ofString "x") 2497)]⟩ 0), ⟨[]⟩⟩) ::
(nat_lit 127, ⟨(.type "tuple"), none, (.seq ⟨[]⟩ 0), ⟨[]⟩⟩) ::
(nat_lit 129, ⟨(.type "code"), none, (.fields ⟨[(.str (PySem.Str.ofString "ISEOF") 2494), (.str (PySem.Str.ofString "ISEOF") 2495), (.str (PySem.Str.ofString "/claim/cut.py") 2496), (.int 137 0), (.int 1 0), (.int 0 0), (.int 0 0), (.int 3 0), (.ref 124), (.bool true), (.int 181 0), (.ref 125), .none, (.ref 126), (.ref 127), (.ref 128), (.int 2498 0), (.int 137 0), (.str (PySem.Str.ofString "/claim/cut.py") 2499)]⟩), ⟨[]⟩⟩) ::
(nat_lit 130, (k130 P).1) ::
(nat_lit 131, ⟨(.type "tuple"), none, (.seq ⟨[]⟩ 0), ⟨[]⟩⟩) ::
(nat_lit 133, ⟨(.type "tuple"), none, (.seq ⟨[(.str (PySem.Str.ofString "script") 2506), (.str (PySem.Str.ofString "cells") 2507), (.str (PySem.Str.ofString "place") 2508)]⟩ 0), ⟨[]⟩⟩) ::
(nat_lit 134, ⟨(.type "tuple"), none, (.seq ⟨[]⟩ 0), ⟨[]⟩⟩) ::
(nat_lit 136, ⟨(.type "code"), none, (.fields ⟨[(.str (PySem.Str.ofString "_law_cells") 2503), (.str (PySem.Str.ofString "_law_cells") 2504), (.str (PySem.Str.ofString "/claim/cut.py") 2505), (.int 140 0), (.int 1 0), (.int 0 0), (.int 0 0), (.int 3 0), (.ref 131), (.bool true), (.int 181 0), (.ref 132), .none, (.ref 133), (.ref 134), (.ref 135), (.int 2509 0), (.int 140 0), (.str (PySem.Str.ofString "/claim/cut.py") 2510)]⟩), ⟨[]⟩⟩) ::
(nat_lit 137, (k137 P).1) ::
(nat_lit 138, ⟨(.type "tuple"), none, (.seq ⟨[]⟩ 0), ⟨[]⟩⟩) ::
(nat_lit 140, ⟨(.type "tuple"), none, (.seq ⟨[(.str (PySem.Str.ofString "text") 2515), (.str (PySem.Str.ofString "blocks") 2516), (.str (PySem.Str.ofString "sign") 2517)]⟩ 0), ⟨[]⟩⟩) ::
(nat_lit 141, ⟨(.type "tuple"), none, (.seq ⟨[]⟩ 0), ⟨[]⟩⟩) ::
(nat_lit 143, ⟨(.type "code"), none, (.fields ⟨[(.str (PySem.Str.ofString "_law_blocks") 2512), (.str (PySem.Str.ofString "_law_blocks") 2513), (.str (PySem.Str.ofString "/claim/cut.py") 2514), (.int 145 0), (.int 1 0), (.int 0 0), (.int 0 0), (.int 3 0), (.ref 138), (.bool true), (.int 181 0), (.ref 139), .none, (.ref 140), (.ref 141), (.ref 142), (.int 2518 0), (.int 145 0), (.str (PySem.Str.ofString "/claim/cut.py") 2519)]⟩), ⟨[]⟩⟩) ::
(nat_lit 144, (k144 P).1) ::
(nat_lit 145, ⟨(.type "tuple"), none, (.seq ⟨[]⟩ 0), ⟨[]⟩⟩) ::
(nat_lit 147, ⟨(.type "tuple"), none, (.seq ⟨[(.str (PySem.Str.ofString "text") 2524), (.str (PySem.Str.ofString "more") 2525), (.str (PySem.Str.ofString "sums") 2526), (.str (PySem.Str.ofString "end") 2527), (.str (PySem.Str.ofString "total") 2528), (.str (PySem.Str.ofString "size") 2529), (.str (PySem.Str.ofString "piece") 2530)]⟩ 0), ⟨[]⟩⟩) ::
(nat_lit 148, ⟨(.type "tuple"), none, (.seq ⟨[]⟩ 0), ⟨[]⟩⟩) ::
(nat_lit 150, ⟨(.type "code"), none, (.fields ⟨[(.str (PySem.Str.ofString "_law_sums") 2521), (.str (PySem.Str.ofString "_law_sums") 2522), (.str (PySem.Str.ofString "/claim/cut.py") 2523), (.int 153 0), (.int 2 0), (.int 0 0), (.int 0 0), (.int 3 0), (.ref 145), (.bool true), (.int 181 0), (.ref 146), .none, (.ref 147), (.ref 148), (.ref 149), (.int 2531 0), (.int 153 0), (.str (PySem.Str.ofString "/claim/cut.py") 2532)]⟩), ⟨[]⟩⟩) ::
(nat_lit 151, (k151 P).1) ::
(nat_lit 152, ⟨(.type "tuple"), none, (.seq ⟨[]⟩ 0), ⟨[]⟩⟩) ::
(nat_lit 154, ⟨(.type "tuple"), none, (.seq ⟨[(.str (PySem.Str.ofString "numbers") 2537), (.str (PySem.Str.ofString "total") 2538), (.str (PySem.Str.ofString "number") 2539)]⟩ 0), ⟨[]⟩⟩) ::
(nat_lit 155, ⟨(.type "tuple"), none, (.seq ⟨[]⟩ 0), ⟨[]⟩⟩) ::
(nat_lit 157, ⟨(.type "code"), none, (.fields ⟨[(.str (PySem.Str.ofString "_law_product") 2534), (.str (PySem.Str.ofString "_law_product") 2535), (.str (PySem.Str.ofString "/claim/cut.py") 2536), (.int 163 0), (.int 1 0), (.int 0 0), (.int 0 0), (.int 3 0), (.ref 152), (.bool true), (.int 181 0), (.ref 153), .none, (.ref 154), (.ref 155), (.ref 156), (.int 2540 0), (.int 163 0), (.str (PySem.Str.ofString "/claim/cut.py") 2541)]⟩), ⟨[]⟩⟩) ::
(nat_lit 158, (k158 P).1) ::
(nat_lit 159, ⟨(.type "tuple"), none, (.seq ⟨[]⟩ 0), ⟨[]⟩⟩) ::
(nat_lit 161, ⟨(.type "tuple"), none, (.seq ⟨[(.str (PySem.Str.ofString "sums") 2546), (.str (PySem.Str.ofString "pair") 2547), (.str (PySem.Str.ofString "k") 2548), (.str (PySem.Str.ofString "l") 2549)]⟩ 0), ⟨[]⟩⟩) ::
(nat_lit 162, ⟨(.type "tuple"), none, (.seq ⟨[]⟩ 0), ⟨[]⟩⟩) ::
(nat_lit 164, ⟨(.type "code"), none, (.fields ⟨[(.str (PySem.Str.ofString "_law_dealt") 2543), (.str (PySem.Str.ofString "_law_dealt") 2544), (.str (PySem.Str.ofString "/claim/cut.py") 2545), (.int 168 0), (.int 4 0), (.int 0 0), (.int 0 0), (.int 3 0), (.ref 159), (.bool true), (.int 181 0), (.ref 160), .none, (.ref 161), (.ref 162), (.ref 163), (.int 2550 0), (.int 168 0), (.str (PySem.Str.ofString "/claim/cut.py") 2551)]⟩), ⟨[]⟩⟩) ::
(nat_lit 165, (k165 P).1) ::
(nat_lit 166, ⟨(.type "tuple"), none, (.seq ⟨[]⟩ 0), ⟨[]⟩⟩) ::
(nat_lit 169, ⟨(.type "code"), none, (.fields ⟨[(.str (PySem.Str.ofString "law") 2553), (.str (PySem.Str.ofString "law") 2554), (.str (PySem.Str.ofString "/claim/cut.py") 2555), (.int 174 0), (.int 1 0), (.int 0 0), (.int 0 0), (.int 3 0), (.ref 166), (.bool true), (.int 181 0), (.ref 167), .none, .none, .none, (.ref 168), (.int 2556 0), (.int 174 0), (.str (PySem.Str.ofString "/claim/cut.py") 2557)]⟩), ⟨[]⟩⟩) ::
(nat_lit 170, (k170 P).1) :: []
noncomputable def KA : List Addr := [2, 3, 6, 15, 17, 18, 20, 21, 22, 24, 25, 27, 28, 29, 31, 32, 34, 35, 36, 38, 39, 41, 42, 43, 45, 46, 48, 49, 50, 52, 53, 55, 56, 64, 68, 70, 71, 73, 74, 75, 114, 116, 117, 119, 120, 121, 124, 126, 127, 129, 130, 131, 133, 134, 136, 137, 138, 140, 141, 143, 144, 145, 147, 148, 150, 151, 152, 154, 155, 157, 158, 159, 161, 162, 164, 165, 166, 169, 170]
theorem KA_eq (P : Params) : KA = (KH P).map (·.1) := rfl
theorem KV_eq (P : Params) : KA.map (absHeap (T_71 P) 171 {}).get? = (KH P).map (fun p => some p.2) := by kernel_rfl
end Mine
namespace Mine
noncomputable def keepL : List Nat := [1, 2, 3, 4, 5, 6, 7, 10, 12, 14, 15, 16, 17, 18, 19, 20, 21, 22, 23, 24, 25, 26, 27, 28, 29, 30, 31, 32, 33, 34, 35, 36, 37, 38, 39, 40, 41, 42, 43, 44, 45, 46, 47, 48, 49, 50, 51, 52, 53, 54, 55, 56, 57, 58, 59, 60, 61, 62, 64, 66, 67, 68, 69, 70, 71]
noncomputable def QV : Program := { PW with main := { PW.main with body := keepL.filterMap fun i => PW.main.body[i]? } }
def looseL : List Str := [Str.ofString "b1_set", Str.ofString "b3_exceptions", Str.ofString "EXACT_TOKEN_TYPES"]
abbrev RW := PySem.Challenge.rw_re0179_01
end Mine
namespace Mine
noncomputable abbrev qRun := @PySem.W.Fast.tw10110043849684766642
theorem qRun_eq : @segRunT = @qRun := PySem.W.Fast.te10110043849684766642
noncomputable abbrev qTopGo := @PySem.W.Fast.tw15667345088766844465
theorem qTopGo_eq : @topGo = @qTopGo := PySem.W.Fast.te15667345088766844465
noncomputable abbrev qDen := @PySem.W.Fast.tw11892475500146522536
theorem qDen_eq : @denote = @qDen := PySem.W.Fast.te11892475500146522536
noncomputable abbrev qSeen := @PySem.W.Fast.tw4187177175401517315
theorem qSeen_eq : @openSeen = @qSeen := PySem.W.Fast.te4187177175401517315
noncomputable def W2 (w : World) (a b : Bool) : World := (w.withFollow "set-order" b).withFollow "special-get-raises" a
/-- one group of statements, in the tree's form -/
abbrev GrpT (w : World) (n a k n0 t0 n1 t1 : Nat) (T T' : Params → BT) (p p' : Pos) : Prop :=
  (fun os => qRun qTab PW w 11 annV 1 n (stT T n0 t0 w os) (piecesOf (sts a k) topEnv topC p [topFrame topQ])) = fun os => some (Flow.next, stT T' n1 t1 w os, topC, p')
abbrev Grp (w : World) (n a k n0 t0 n1 t1 : Nat) (T T' : Params → BT) (p p' : Pos) : Prop :=
  ∀ os, segRun treeTable PW w 11 annV 1 n (stS T n0 t0 w os) (piecesOf (sts a k) topEnv topC p [topFrame topQ]) = some (Flow.next, stS T' n1 t1 w os, topC, p')
theorem grp_of {w : World} {n a k n0 t0 n1 t1 : Nat} {T T' : Params → BT} {p p' : Pos} (h : GrpT w n a k n0 t0 n1 t1 T T' p p') : Grp w n a k n0 t0 n1 t1 T T' p p' := fun os => by
  have := congrFun h os
  rw [← qRun_eq, ← qTab_eq] at this
  exact segRun_of this
theorem g8 (w : World) : GrpT w 400 0 9 15 187 57 271 T_p T_8 topQ ⟨76, 0, 76, 8⟩ := by kernel_rfl
theorem g9a (w : World) : GrpT (W2 w false false) 1100 9 1 57 271 68 331 T_8 T_9 ⟨76, 0, 76, 8⟩ ⟨77, 0, 77, 6⟩ := by kernel_rfl
theorem g9b (w : World) : GrpT (W2 w false true) 1100 9 1 57 271 68 331 T_8 T_9 ⟨76, 0, 76, 8⟩ ⟨77, 0, 77, 6⟩ := by kernel_rfl
theorem g9c (w : World) : GrpT (W2 w true false) 1100 9 1 57 271 68 331 T_8 T_9 ⟨76, 0, 76, 8⟩ ⟨77, 0, 77, 6⟩ := by kernel_rfl
theorem g9d (w : World) : GrpT (W2 w true true) 1100 9 1 57 271 68 331 T_8 T_9 ⟨76, 0, 76, 8⟩ ⟨77, 0, 77, 6⟩ := by kernel_rfl
theorem g9 (w : World) : GrpT w 1100 9 1 57 271 68 331 T_8 T_9 ⟨76, 0, 76, 8⟩ ⟨77, 0, 77, 6⟩ := by
  revert w
  refine byRow2 "special-get-raises" (P := fun w => GrpT w 1100 9 1 57 271 68 331 T_8 T_9 ⟨76, 0, 76, 8⟩ ⟨77, 0, 77, 6⟩) ?_ ?_
  · exact byRow2 "set-order" (P := fun w => GrpT (w.withFollow "special-get-raises" false) 1100 9 1 57 271 68 331 T_8 T_9 ⟨76, 0, 76, 8⟩ ⟨77, 0, 77, 6⟩) g9a g9b
  · exact byRow2 "set-order" (P := fun w => GrpT (w.withFollow "special-get-raises" true) 1100 9 1 57 271 68 331 T_8 T_9 ⟨76, 0, 76, 8⟩ ⟨77, 0, 77, 6⟩) g9c g9d
theorem g10 (w : World) : GrpT w 40 10 1 68 331 75 338 T_9 T_10 ⟨77, 0, 77, 6⟩ ⟨78, 0, 79, 30⟩ := by kernel_rfl
theorem g11 (w : World) : Grp w 12525 11 1 75 338 114 2289 T_10 T_11 ⟨78, 0, 79, 30⟩ ⟨80, 0, 80, 13⟩ := by
  revert w
  exact byRow2 "special-get-raises" (P := fun w => Grp w 12525 11 1 75 338 114 2289 T_10 T_11 ⟨78, 0, 79, 30⟩ ⟨80, 0, 80, 13⟩) (fun w os => grp11 w false os) (fun w os => grp11 w true os)
theorem g36 (w : World) : GrpT w 400 12 25 114 2289 121 2345 T_11 T_36 ⟨80, 0, 80, 13⟩ ⟨109, 0, 109, 8⟩ := by kernel_rfl
theorem g62 (w : World) : GrpT w 400 37 26 121 2345 121 2397 T_36 T_62 ⟨109, 0, 109, 8⟩ ⟨135, 0, 135, 11⟩ := by kernel_rfl
theorem g63a (w : World) : GrpT (W1 w false) 1100 63 1 121 2397 124 2494 T_62 T_63 ⟨135, 0, 135, 11⟩ ⟨136, 0, 136, 17⟩ := by kernel_rfl
theorem g63b (w : World) : GrpT (W1 w true) 1100 63 1 121 2397 124 2494 T_62 T_63 ⟨135, 0, 135, 11⟩ ⟨136, 0, 136, 17⟩ := by kernel_rfl
theorem g63 (w : World) : GrpT w 1100 63 1 121 2397 124 2494 T_62 T_63 ⟨135, 0, 135, 11⟩ ⟨136, 0, 136, 17⟩ := by
  revert w
  exact byRow2 "special-get-raises" (P := fun w => GrpT w 1100 63 1 121 2397 124 2494 T_62 T_63 ⟨135, 0, 135, 11⟩ ⟨136, 0, 136, 17⟩) g63a g63b
theorem g71 (w : World) : GrpT w 400 64 8 124 2494 171 2559 T_63 T_71 ⟨136, 0, 136, 17⟩ ⟨174, 0, 199, 15⟩ := by kernel_rfl
theorem preQ (w : World) : (fun os => qTopGo qTab PW w 11 annV 12 ⟨boot_heap w.params, gens0, boot_drawn, 181, os⟩ (topStub PW)) = fun os => some (stS T_p 15 187 w os, ⟨qDen qTab topC, topC, topQ, [topFrame topQ]⟩) := by kernel_rfl
theorem pre (w : World) (os : OsState) : topGo treeTable PW w 11 annV 12 ⟨boot_heap w.params, gens0, boot_drawn, 181, os⟩ (topStub PW) = some (stS T_p 15 187 w os, ⟨denote treeTable topC, topC, topQ, [topFrame topQ]⟩) := by
  have := congrFun (preQ w) os
  rw [← qTopGo_eq, ← qTab_eq, ← qDen_eq] at this
  exact this
theorem blk (w : World) (os : OsState) : segRun treeTable PW w 11 annV 1 1 (stS T_p 15 187 w os) (blockOf (behindTheImports PW) topEnv topC topQ [topFrame topQ]) = some (.next, stS T_p 15 187 w os, topC, topQ) := by kernel_rfl
theorem finR (w : World) (os : OsState) : topRun treeTable PW w 11 annV 2 (stS T_71 171 2559 w os) ⟨doneF .next, topC, ⟨174, 0, 199, 15⟩, [topFrame topQ]⟩ = some (stS T_71 171 2559 w os) := by kernel_rfl
theorem body_eq : behindTheImports PW = sts 0 9 ++ (sts 9 1 ++ (sts 10 1 ++ (sts 11 1 ++ (sts 12 25 ++ (sts 37 26 ++ (sts 63 1 ++ (sts 64 8 ++ []))))))) := by kernel_rfl
theorem run_top (w : World) (os : OsState) : topRun treeTable PW w 11 annV (12 + (1 + (400 + (1100 + (40 + (12525 + (400 + (400 + (1100 + (400 + 2)))))))))) ⟨boot_heap w.params, gens0, boot_drawn, 181, os⟩ (topStub PW) = some (stS T_71 171 2559 w os) := by
  refine go_top (pre w os) ?_
  refine piece_block (blk w os) ?_
  rw [show restOf (behindTheImports PW) topEnv topC topQ [topFrame topQ] = restOf (sts 0 9 ++ (sts 9 1 ++ (sts 10 1 ++ (sts 11 1 ++ (sts 12 25 ++ (sts 37 26 ++ (sts 63 1 ++ (sts 64 8 ++ [])))))))) topEnv topC topQ [topFrame topQ] by rw [← body_eq]]
  refine piece_app (grp_of (g8 w) os) ?_
  refine piece_app (grp_of (g9 w) os) ?_
  refine piece_app (grp_of (g10 w) os) ?_
  refine piece_app (g11 w os) ?_
  refine piece_app (grp_of (g36 w) os) ?_
  refine piece_app (grp_of (g62 w) os) ?_
  refine piece_app (grp_of (g63 w) os) ?_
  refine piece_app (grp_of (g71 w) os) ?_
  exact piece_nil (finR w os)
end Mine
namespace Mine
noncomputable def XtV : Shared → Bool := fun s => xlAt QV [] s && recOk (RowW.records RW.row.toRowW) s
noncomputable abbrev HookV : Hook := kmHook KH KA KA_eq [37, 30]
theorem openV : ∀ w : World, (fencedOpening treeTable PW w 31066).map (fun s => (s.heap, s.gens, s.drawn, s.toks)) = some (boot_heap w.params, gens0, boot_drawn, 181) :=
  boot_open (by kernel_rfl) (by decide) (fun s => by kernel_rfl)
theorem sizeV (w : World) : ((boot_heap w.params).isNs mainGlobals && gens0.size == 0, (boot_heap w.params).objs.size, (boot_heap w.params).nsMap mainGlobals (Str.ofString "__annotations__")) = (true, 11, annV) := by kernel_rfl
noncomputable abbrev HF : Params → Heap := fun P => absHeap (T_71 P) 171 {}
noncomputable abbrev SF (w : World) (os : OsState) : Shared := ⟨HF w.params, gens0, boot_drawn, 2559, os⟩
theorem look1 (w : World) : staticsOk (importedModules PW.main.body) (boot_heap w.params) (HF w.params) = true := by kernel_rfl
theorem look2 (w : World) : namesBound PW (HF w.params) = true := by kernel_rfl
theorem look3 (w : World) (os : OsState) : gensDone (SF w os) = true := by kernel_rfl
theorem look4 (w : World) : laidKept (boot_heap w.params) (HF w.params) = true := by kernel_rfl
theorem tabs5 (w : World) : ([37, 30] : List Addr).map (HF w.params).get? = ([37, 30] : List Addr).map fun _ => some (tabObj #[]) := by kernel_rfl
theorem look5 (w : World) (os : OsState) : (HookV.obs (SF w os)) = HookV.val w := Prod.ext (KV_eq w.params) (tabs5 w)
end Mine
namespace Mine
theorem look_a (w : World) (os : OsState) : seen ((recsOf QV).map (·.name)) (ownsOf QV) [] { SF w os with gens := #[] } = expectedOf QV := by
  have : @PySem.W.Fast.tw5160383126252970620 ((recsOf QV).map (·.name)) (ownsOf QV) [] { SF w os with gens := #[] } = expectedOf QV := by kernel_rfl
  rwa [← PySem.W.Fast.te5160383126252970620] at this
theorem look_b (w : World) (os : OsState) : (SF w os).heap.bltView = bltViewBooted := by kernel_rfl
theorem look_c (w : World) (os : OsState) : (SF w os).heap.keysOk (looseW QV looseL) ((recsOf QV).map (·.name)) ((litsOf QV).map (·.1)) ((clssOf QV (looseW QV looseL)).map (·.name)) = true := by
  have : @PySem.W.Fast.tw10880121769531294198 (SF w os).heap (looseW QV looseL) ((recsOf QV).map (·.name)) ((litsOf QV).map (·.1)) ((clssOf QV (looseW QV looseL)).map (·.name)) = true := by kernel_rfl
  rwa [← PySem.W.Fast.te10880121769531294198] at this
theorem look_d (w : World) (os : OsState) : (SF w os).heap.accountedOkI (importedModules PW.main.body) = true := by
  have : @PySem.W.Fast.tw14722251495701143533 (SF w os).heap (importedModules PW.main.body) = true := by kernel_rfl
  rwa [← PySem.W.Fast.te14722251495701143533] at this
theorem look_e (w : World) (os : OsState) : tablesOk QV (SF w os).heap = true := by
  have : @PySem.W.Fast.tw10994771534591457954 QV (SF w os).heap = true := by kernel_rfl
  rwa [← PySem.W.Fast.te10994771534591457954] at this
theorem look_f (w : World) (os : OsState) : XtV (SF w os) = true := by kernel_rfl
theorem look_g (w : World) (os : OsState) : tabsOk QV (SF w os) = true := by
  have : @PySem.W.Fast.tw479339242167458305 QV (SF w os) = true := by kernel_rfl
  rwa [← PySem.W.Fast.te479339242167458305] at this
theorem look_h (w : World) (os : OsState) : pinSeenD QV (drecsOf QV) (SF w os) = pinGoodD (drecsOf QV) := by
  have : @PySem.W.Fast.tw16090120013241838585 QV (drecsOf QV) (SF w os) = pinGoodD (drecsOf QV) := by kernel_rfl
  rwa [← PySem.W.Fast.te16090120013241838585] at this
theorem look_i (w : World) (os : OsState) : plainSeenE QV (looseW QV looseL) (SF w os) = plainGoodE QV (looseW QV looseL) := by
  have : @PySem.W.Fast.tw2386780881361962483 QV (looseW QV looseL) (SF w os) = plainGoodE QV (looseW QV looseL) := by kernel_rfl
  rwa [← PySem.W.Fast.te2386780881361962483] at this
theorem look_j (w : World) (os : OsState) : plainSeenD QV looseL (SF w os) = plainGoodD QV looseL := by
  have : @PySem.W.Fast.tw11698064438423848299 QV looseL (SF w os) = plainGoodD QV looseL := by kernel_rfl
  rwa [← PySem.W.Fast.te11698064438423848299] at this
theorem look_k (w : World) (os : OsState) : wideSeen QV (SF w os) = wideGood QV := by
  have : @PySem.W.Fast.tw7317090234206586261 QV (SF w os) = wideGood QV := by kernel_rfl
  rwa [← PySem.W.Fast.te7317090234206586261] at this
theorem look_m (w : World) (os : OsState) : clsSeenW QV looseL (SF w os) = clsGoodW QV looseL := by
  have : @PySem.W.Fast.tw7369524293546568484 QV looseL (SF w os) = clsGoodW QV looseL := by kernel_rfl
  rwa [← PySem.W.Fast.te7369524293546568484] at this
theorem look_n (w : World) (os : OsState) : (SF w os).heap.isNs mainGlobals = true ∧ (SF w os).heap.isNs builtinsNs = true := ⟨by kernel_rfl, by kernel_rfl⟩
theorem look6 (w : World) (os : OsState) : openSeen QV looseL (importedModules PW.main.body) XtV true (SF w os) = openGood QV looseL := by
  unfold openSeen openGood
  rw [look_a, look_b, look_c, look_d, look_e, look_f, look_g, look_h, look_i, look_j, look_k, look_m, (look_n w os).1, (look_n w os).2]
  rfl
theorem leftV : LeftO PW QV looseL XtV HookV.obs HookV.val 31066 := by
  refine LeftO.of_pieces (H₀ := boot_heap) (H₁ := HF) (gs₀ := gens0) (gs₁ := gens0) (d₀ := boot_drawn) (d₁ := boot_drawn) (k₀ := 181) (k₁ := 2559) openV sizeV run_top (by decide) fun w => funext fun os => ?_
  rw [show staticsOk (importedModules PW.main.body) (boot_heap w.params) (HF w.params) = true from look1 w, show namesBound PW (HF w.params) = true from look2 w, show gensDone (SF w os) = true from look3 w os, show laidKept (boot_heap w.params) (HF w.params) = true from look4 w]
  rw [show openSeen QV looseL (importedModules PW.main.body) XtV true (SF w os) = openGood QV looseL from look6 w os, show HookV.obs (SF w os) = HookV.val w from look5 w os]
  rfl
theorem said : PySem.W.OpenLaw.wellSaid RW = true := by
  have : @PySem.W.Fast.tw9446332074065402090 RW = true := by kernel_rfl
  rwa [← PySem.W.Fast.te9446332074065402090] at this
theorem head {d : DefRec} {kwd : List (Str × PySem.Expr)} (hdef : defOf QV RW.row.name = some (d, kwd)) (hp : RW.row.prog.theDef RW.row.name = some (d.params, d.body, d.scope)) (hk : kwWritten? d.params.kwonlyargs d.params.kw_defaults = some kwd)
    (hw : RW.row.toRowW.promised) (call : WalkO QV looseL (XL QV []) HookV.says RW.row.toRowW d kwd fun f vs => PySem.call f vs) : RW.Holds := by
  w_on
  refine PySem.W.holds_law said fun _ => ?_
  refine PySem.W.holds_open (q := QV) (loose := looseL) (Xt := XtV) (XP := XL QV []) (Yf := HookV.obs) (Ya := HookV.val) (YP := HookV.says) (N := 31066) leftV HookV.of HookV.keeps (fun s e => xl_of s (Bool.and_eq_true_iff.mp e).1) XL.keeps hdef hp hk (fun s e => recFacts_of (Bool.and_eq_true_iff.mp e).2) (by rfl) (by assumption) ?_ ⟨rfl, rfl, rfl, rfl, rfl, by decide +kernel⟩ hw call
  decide +kernel
end Mine
namespace Mine
abbrev Ctr (w : World) (f : Addr) (k : Nat) (news : List (Addr × Obj)) (vs : List Value) (R : Value → List (Addr × Obj) → Prop) : Prop :=
  ∀ (dp un : Nat) (gd : Option (List Code)) (cn : Str) (cs : Scope) (a : Addr) (ccd : Value) (cl : List (Str × Addr)) (outer : List Env) (A₀ : Around) (base h₀ : Heap) (L : Addr) (m : Str → Option Value) (s : Shared) (Q E : Value → Shared → Prop) (mean : ExcName → Option Value) (mg mb : Str → Option Value),
    Below A₀ base outer h₀ → Fr h₀ L s.heap m → (KH w.params).In h₀ → News h₀ L s.heap news → Top QV (looseW QV looseL) mean mg mb h₀ → cs.kind = .function → dp + k < recursionLimit → un + 8 * k < cLine →
    (∀ r h' tk' tl, Fr h₀ L h' m → News h₀ L h' (tl ++ news) → R r tl → (∀ p ∈ tl, ∀ q ∈ news, q.1 < p.1) → Q r { s with heap := h', toks := tk' }) →
    wpAny (model RW.row.prog w) (ktrTop dp un gd cn cs L a ccd cl outer) (call (.ref f) vs) Q E s
def tup2 (x : Int) (t : Tok) (y : Int) (u : Tok) (c : Nat) : Obj := { cls := .type "tuple", data := .seq #[.int x t, .int y u] c }
theorem my_divmod {prog : Program} {w : World} {A : Around} {E : Value → Shared → Prop} {s : Shared} {a b : Int} {t u : Tok} {Q : Value → Shared → Prop} {h₀ : Heap} {L : Addr} {m : Str → Option Value} {news : List (Addr × Obj)} (F : Fr h₀ L s.heap m) (N : News h₀ L s.heap news) (hb : b ≠ 0) (hp : Builtin.divisionGoesByPylong a b = false)
    (h : ∀ D h' tk t1 t2 c, Fr h₀ L h' m → News h₀ L h' ((D, { cls := .type "tuple", data := .seq #[.int (a.fdiv b) t1, .int (a.fmod b) t2] c }) :: news) → (∀ p ∈ news, p.1 < D) → Q (.ref D) { s with heap := h', toks := tk }) :
    wpAny (model prog w) A (call (.builtin "divmod") [.int a t, .int b u]) Q E s :=
  divmod_N F N hb (fun h' F' N' => h _ h' _ _ _ _ F' N' fun p hp => Heap.lt_size (N p hp).1) (.inl hp)
local macro_rules | `(tactic| walk_at "call builtin:divmod") => `(tactic| (k_here; refine my_divmod (by k_asm) (by k_asm) (by assumption) (by assumption) ?_; intro D' h' tk' t1' t2' c' F' N' l1))
theorem c_div (w : World) (a b n : Int) (ta tb tn : Tok) (news : List (Addr × Obj)) (hb : b ≠ 0) (hn : (Builtin.Int.intBits a : Int) - n ≤ 4000) (hp : Builtin.divisionGoesByPylong a b = false) :
    Ctr w 21 1 news [.int a ta, .int b tb, .int n tn] (fun r tl => ∃ D t1 t2 c, r = .ref D ∧ tl = [(D, tup2 (a.fdiv b) t1 (a.fmod b) t2 c)]) := by
  w_on
  unfold Ctr
  k_fill
  intro dp un gd cn cs ad ccd cl outer A₀ base h₀ L m s Q E mean mg mb B F X N T hk hd hu hret
  refine wpAny_call ?_
  k_dflt ktr_enter
  k_steps
  all_goals (refine hret _ _ _ [_] (by k_asm) (by k_asm) ⟨_, _, _, _, rfl, rfl⟩ ?_)
  all_goals (intro p hp q hq; rw [List.mem_singleton.mp hp]; exact (show ∀ p ∈ news, p.1 < _ by assumption) q hq)
end Mine
namespace Mine
section
variable {prog : Program} {w : World} {A : Around} {E : Value → Shared → Prop} {s : Shared} {env : Env} {h₀ : Heap} {x : Str} {body : List Stmt} {Q : Flow → Shared → Prop}
/-- the frame's map in a turn, without its loop name -/
abbrev mapT (stored : List Str) (u m₀ : Str → Option Value) (ps : List (Str × Value)) : Str → Option Value := kstB (fun z => if stored.contains z then u z else m₀ z) ps
theorem loopG {σ : Type} (Led : σ → List (Addr × Obj)) (ps : σ → List (Str × Value)) (stored : List Str) (P : Nat → σ → Prop) (c₀ : σ)
    {I : Addr} {fp wr : List Addr} {n : Nat} {Pi : Nat → Value → Prop} {St : Nat → Heap → Prop} {m₀ : Str → Option Value} (W : Walks prog w A I fp wr n Pi St) (hLf : env.locals ∉ fp) (hwr : ∀ b ∈ wr, h₀.get? b = none)
    (hsub : ∀ b ∈ wr, b ∈ fp) (hfp : ∀ q ∈ Led c₀, q.1 ∉ fp) (hst : St 0 s.heap) (F : Fr h₀ env.locals s.heap m₀) (N : News h₀ env.locals s.heap (Led c₀)) (hk : ∀ p ∈ ps c₀, m₀ p.1 = some p.2) (hp : P 0 c₀) (hadr : ∀ c, (Led c).map (·.1) = (Led c₀).map (·.1))
    (turn : ∀ (c : σ) (i : Nat) (v : Value) (u : Str → Option Value) (h : Heap) (tk : Nat) (own : List (Addr × Obj)) (QT : Flow → Shared → Prop), i < n → Pi i v → P i c → OwnOff own ((Led c₀).map (·.1)) →
      Fr h₀ env.locals h (fun y => if y = x then some v else mapT stored u m₀ (ps c) y) → News h₀ env.locals h (Led c ++ own) →
      (∀ (c' : σ) (m' : Str → Option Value) (h' : Heap) (tk' : Nat) (all : List (Addr × Obj)), Fr h₀ env.locals h' m' → News h₀ env.locals h' all → (∀ p ∈ Led c', p ∈ all) → (∀ p ∈ own, p ∈ all) → (∀ p ∈ ps c', m' p.1 = some p.2) →
        (∀ z, z ≠ x → (∀ p ∈ ps c', z ≠ p.1) → stored.contains z = false → m' z = m₀ z) → P (i + 1) c' → QT .next { s with heap := h', toks := tk' }) →
      (∀ v s', Q (.ret v) s' → QT (.ret v) s') →
      wpAny (model prog w) A (execs body env) QT E { s with heap := h, toks := tk })
    (done : ∀ (c : σ) (u : Str → Option Value) (h : Heap) (tk : Nat), P n c → Fr h₀ env.locals h (fun y => if y = x then u y else mapT stored u m₀ (ps c) y) → News h₀ env.locals h (Led c) → Q .next { s with heap := h, toks := tk }) :
    LoopAtV prog w A h₀ env x body Q E (.ref I) s := by
  refine loop_invN (fun i m nx => ∃ c, nx = Led c ∧ (∀ p ∈ ps c, m p.1 = some p.2) ∧ (∀ z, z ≠ x → (∀ p ∈ ps c, z ≠ p.1) → stored.contains z = false → m z = m₀ z) ∧ P i c) W hLf hwr (fun p hp hI => hfp p hp (hsub _ hI)) hfp hst F N ⟨c₀, rfl, hk, fun _ _ _ _ => rfl, hp⟩ ?_ ?_
  · rintro i v m₁ news₁ h tk own hi hv _ hoff ⟨c, rfl, h1, h2, hP⟩ F₁ N₁
    refine turn c i v m₁ h tk own _ hi hv hP hoff (kst_fr h1 h2 F₁) N₁ ?_ ?_
    · intro c' m' h' tk' all F' N' hl ho hk' hr hP'
      exact ⟨h', tk', m', all, Led c', rfl, F', N', hl, ho, hadr c', c', rfl, hk', hr, hP'⟩
    · intro v s' hq
      exact hq
  · rintro m₁ news₁ h tk ⟨c, rfl, h1, h2, hP⟩ F₁ N₁
    exact done c m₁ h tk hP (kst_frOut h1 h2 F₁) N₁
/-- over a list of the ledger's, which stays as it is -/
theorem loop_list {σ : Type} (Led : σ → List (Addr × Obj)) (ps : σ → List (Str × Value)) (stored : List Str) (P : Nat → σ → Prop) (c₀ : σ) {l : Addr} {vs : List Value} {nn : Nat} {news : List (Addr × Obj)} {m₀ : Str → Option Value}
    (hh : A.handled = none) (F : Fr h₀ env.locals s.heap m₀) (N : News h₀ env.locals s.heap news) (hl : (l, listOf vs.toArray nn) ∈ news) (hnl : ∀ q ∈ Led c₀, q ∈ news ∧ q.1 ≠ l) (hk : ∀ p ∈ ps c₀, m₀ p.1 = some p.2) (hp : P 0 c₀) (hadr : ∀ c, (Led c).map (·.1) = (Led c₀).map (·.1))
    (turn : ∀ (c : σ) (i : Nat) (v : Value) (u : Str → Option Value) (h : Heap) (tk : Nat) (own : List (Addr × Obj)) (QT : Flow → Shared → Prop), i < vs.length → vs[i]? = some v → P i c → OwnOff own ((Led c₀).map (·.1)) →
      Fr h₀ env.locals h (fun y => if y = x then some v else mapT stored u m₀ (ps c) y) → News h₀ env.locals h (Led c ++ own) →
      (∀ (c' : σ) (m' : Str → Option Value) (h' : Heap) (tk' : Nat) (all : List (Addr × Obj)), Fr h₀ env.locals h' m' → News h₀ env.locals h' all → (∀ p ∈ Led c', p ∈ all) → (∀ p ∈ own, p ∈ all) → (∀ p ∈ ps c', m' p.1 = some p.2) →
        (∀ z, z ≠ x → (∀ p ∈ ps c', z ≠ p.1) → stored.contains z = false → m' z = m₀ z) → P (i + 1) c' → QT .next { s with heap := h', toks := tk' }) →
      (∀ v s', Q (.ret v) s' → QT (.ret v) s') →
      wpAny (model prog w) A (execs body env) QT E { s with heap := h, toks := tk })
    (done : ∀ (c : σ) (u : Str → Option Value) (h : Heap) (tk : Nat), P vs.length c → Fr h₀ env.locals h (fun y => if y = x then u y else mapT stored u m₀ (ps c) y) → News h₀ env.locals h (Led c) → Q .next { s with heap := h, toks := tk }) :
    wpAny (model prog w) A (pyIter (.ref l)) (fun it s₂ => LoopAtV prog w A h₀ env x body Q E it s₂) E s := by
  have hol : s.heap.get? l = some (listOf vs.toArray nn) := (N _ hl).1
  have hls : s.heap.IsList l vs.toArray := ⟨_, hol, rfl, nn, rfl⟩
  have hne : l ≠ s.heap.objs.size := Nat.ne_of_lt (Heap.lt_size hol)
  refine wpAny_pyIter_list hls ?_
  have W := Walks.list (prog := prog) (w := w) hh s.heap.objs.size l hne vs.toArray
  have hlen : vs.toArray.size = vs.length := by simp
  rw [hlen] at W
  refine loopG (s := { s with heap := s.heap.push { cls := .type "list_iterator", data := .fields #[.ref l, .int 0 0] } }) Led ps stored P c₀ W ?_ ?_ ?_ ?_ ⟨⟨_, Heap.get?_push_size _ rfl, rfl, rfl⟩, hls.at fun o e => Heap.get?_push_of_some _ e⟩ (F.push _) (fun p hp => ⟨Heap.get?_push_of_some _ (N p (hnl p hp).1).1, (N p (hnl p hp).1).2⟩) hk hp hadr
    (fun c i v u h tk own QT hi hv => turn c i v u h tk own QT hi (by simpa using hv)) done
  · intro hm
    rcases List.mem_cons.mp hm with e | hm
    · exact absurd F.ns.lt (e ▸ Nat.lt_irrefl _)
    · exact (N _ hl).2.1 ((List.mem_singleton.mp hm).symm)
  · intro b hb
    rw [List.mem_singleton.mp hb]
    exact next_is_new F
  · intro b hb
    rw [List.mem_singleton.mp hb]
    exact .head _
  · intro q hq hm
    rcases List.mem_cons.mp hm with e | hm
    · exact absurd (Heap.lt_size (N q (hnl q hq).1).1) (by rw [e]; exact Nat.lt_irrefl _)
    · exact (hnl q hq).2 (List.mem_singleton.mp hm)
/-- over a list of the ground's -/
theorem loop_base {σ : Type} (Led : σ → List (Addr × Obj)) (ps : σ → List (Str × Value)) (stored : List Str) (P : Nat → σ → Prop) (c₀ : σ) {l : Addr} {vs : List Value} {m₀ : Str → Option Value}
    (hh : A.handled = none) (F : Fr h₀ env.locals s.heap m₀) (N : News h₀ env.locals s.heap (Led c₀)) (hl : h₀.IsList l vs.toArray) (hk : ∀ p ∈ ps c₀, m₀ p.1 = some p.2) (hp : P 0 c₀) (hadr : ∀ c, (Led c).map (·.1) = (Led c₀).map (·.1))
    (turn : ∀ (c : σ) (i : Nat) (v : Value) (u : Str → Option Value) (h : Heap) (tk : Nat) (own : List (Addr × Obj)) (QT : Flow → Shared → Prop), i < vs.length → vs[i]? = some v → P i c → OwnOff own ((Led c₀).map (·.1)) →
      Fr h₀ env.locals h (fun y => if y = x then some v else mapT stored u m₀ (ps c) y) → News h₀ env.locals h (Led c ++ own) →
      (∀ (c' : σ) (m' : Str → Option Value) (h' : Heap) (tk' : Nat) (all : List (Addr × Obj)), Fr h₀ env.locals h' m' → News h₀ env.locals h' all → (∀ p ∈ Led c', p ∈ all) → (∀ p ∈ own, p ∈ all) → (∀ p ∈ ps c', m' p.1 = some p.2) →
        (∀ z, z ≠ x → (∀ p ∈ ps c', z ≠ p.1) → stored.contains z = false → m' z = m₀ z) → P (i + 1) c' → QT .next { s with heap := h', toks := tk' }) →
      (∀ v s', Q (.ret v) s' → QT (.ret v) s') →
      wpAny (model prog w) A (execs body env) QT E { s with heap := h, toks := tk })
    (done : ∀ (c : σ) (u : Str → Option Value) (h : Heap) (tk : Nat), P vs.length c → Fr h₀ env.locals h (fun y => if y = x then u y else mapT stored u m₀ (ps c) y) → News h₀ env.locals h (Led c) → Q .next { s with heap := h, toks := tk }) :
    wpAny (model prog w) A (pyIter (.ref l)) (fun it s₂ => LoopAtV prog w A h₀ env x body Q E it s₂) E s := by
  have hls : s.heap.IsList l vs.toArray := hl.at fun o e => F.keep l o e
  obtain ⟨ol, hol, _⟩ := id hl
  have hlt : l < h₀.objs.size := Heap.lt_size hol
  have hne : l ≠ s.heap.objs.size := Nat.ne_of_lt (Nat.lt_trans (Nat.lt_of_lt_of_le hlt F.above) F.ns.lt)
  refine wpAny_pyIter_list hls ?_
  have W := Walks.list (prog := prog) (w := w) hh s.heap.objs.size l hne vs.toArray
  have hlen : vs.toArray.size = vs.length := by simp
  rw [hlen] at W
  refine loopG (s := { s with heap := s.heap.push { cls := .type "list_iterator", data := .fields #[.ref l, .int 0 0] } }) Led ps stored P c₀ W ?_ ?_ ?_ ?_ ⟨⟨_, Heap.get?_push_size _ rfl, rfl, rfl⟩, hls.at fun o e => Heap.get?_push_of_some _ e⟩ (F.push _) (fun p hp => ⟨Heap.get?_push_of_some _ (N p hp).1, (N p hp).2⟩) hk hp hadr
    (fun c i v u h tk own QT hi hv => turn c i v u h tk own QT hi (by simpa using hv)) done
  · intro hm
    rcases List.mem_cons.mp hm with e | hm
    · exact absurd F.ns.lt (e ▸ Nat.lt_irrefl _)
    · exact absurd (Nat.lt_of_lt_of_le hlt F.above) ((List.mem_singleton.mp hm) ▸ Nat.lt_irrefl _)
  · intro b hb
    rw [List.mem_singleton.mp hb]
    exact next_is_new F
  · intro b hb
    rw [List.mem_singleton.mp hb]
    exact .head _
  · intro q hq hm
    rcases List.mem_cons.mp hm with e | hm
    · exact absurd (Heap.lt_size (N q hq).1) (by rw [e]; exact Nat.lt_irrefl _)
    · have := (N q hq).2.2
      rw [List.mem_singleton.mp hm, hol] at this
      cases this
/-- over a range by ones -/
theorem loop_range {σ : Type} (Led : σ → List (Addr × Obj)) (ps : σ → List (Str × Value)) (stored : List Str) (P : Nat → σ → Prop) (c₀ : σ) {r : Addr} {a₀ b₀ : Int} {t₀ u₀ v₀ : Tok} {n : Nat} {m₀ : Str → Option Value}
    (hh : A.handled = none) (hr : IsRange s.heap r a₀ b₀ 1 t₀ u₀ v₀) (hsmall : Builtin.Range.small a₀ b₀ 1 = true) (hn : Builtin.Range.rangeSize a₀ b₀ 1 = (n : Int)) (F : Fr h₀ env.locals s.heap m₀) (N : News h₀ env.locals s.heap (Led c₀)) (hk : ∀ p ∈ ps c₀, m₀ p.1 = some p.2) (hp : P 0 c₀) (hadr : ∀ c, (Led c).map (·.1) = (Led c₀).map (·.1))
    (turn : ∀ (c : σ) (i : Nat) (t : Tok) (u : Str → Option Value) (h : Heap) (tk : Nat) (own : List (Addr × Obj)) (QT : Flow → Shared → Prop), i < n → P i c → OwnOff own ((Led c₀).map (·.1)) →
      Fr h₀ env.locals h (fun y => if y = x then some (.int (a₀ + (i : Int)) t) else mapT stored u m₀ (ps c) y) → News h₀ env.locals h (Led c ++ own) →
      (∀ (c' : σ) (m' : Str → Option Value) (h' : Heap) (tk' : Nat) (all : List (Addr × Obj)), Fr h₀ env.locals h' m' → News h₀ env.locals h' all → (∀ p ∈ Led c', p ∈ all) → (∀ p ∈ own, p ∈ all) → (∀ p ∈ ps c', m' p.1 = some p.2) →
        (∀ z, z ≠ x → (∀ p ∈ ps c', z ≠ p.1) → stored.contains z = false → m' z = m₀ z) → P (i + 1) c' → QT .next { s with heap := h', toks := tk' }) →
      (∀ v s', Q (.ret v) s' → QT (.ret v) s') →
      wpAny (model prog w) A (execs body env) QT E { s with heap := h, toks := tk })
    (done : ∀ (c : σ) (u : Str → Option Value) (h : Heap) (tk : Nat), P n c → Fr h₀ env.locals h (fun y => if y = x then u y else mapT stored u m₀ (ps c) y) → News h₀ env.locals h (Led c) → Q .next { s with heap := h, toks := tk }) :
    wpAny (model prog w) A (pyIter (.ref r)) (fun it s₂ => LoopAtV prog w A h₀ env x body Q E it s₂) E s := by
  refine wpAny_pyIter_range hr hsmall ?_
  have W : Walks prog w A s.heap.objs.size [s.heap.objs.size] [s.heap.objs.size] n (fun i v => i < n ∧ ∃ t, v = .int (a₀ + i * 1) t)
      (fun i h => IsRangeIter h s.heap.objs.size (a₀ + (i : Nat) * 1) ((n : Int) - (i : Nat)) 1) := (Walks.range hh _ a₀ 1 n).bound
  refine loopG (s := { s with heap := s.heap.push _ }) Led ps stored P c₀ W ?_ ?_ ?_ ?_ (by show IsRangeIter _ _ _ _ _; rw [hn]; simpa using Heap.get?_push_size _ rfl) (F.push _) (fun p hp => ⟨Heap.get?_push_of_some _ (N p hp).1, (N p hp).2⟩) hk hp hadr
    (fun c i v u h tk own QT hi hv => ?_) done
  · intro hm
    exact absurd F.ns.lt ((List.mem_singleton.mp hm) ▸ Nat.lt_irrefl _)
  · intro b hb
    rw [List.mem_singleton.mp hb]
    exact next_is_new F
  · intro b hb
    exact hb
  · intro p hp hI
    exact absurd (Heap.lt_size (N p hp).1) ((List.mem_singleton.mp hI) ▸ Nat.lt_irrefl _)
  · obtain ⟨_, t, rfl⟩ := hv
    rw [Int.mul_one]
    exact turn c i t u h tk own QT hi
/-- over a text -/
theorem loop_str {σ : Type} (Led : σ → List (Addr × Obj)) (ps : σ → List (Str × Value)) (stored : List Str) (P : Nat → σ → Prop) (c₀ : σ) {y : Str} {ty : Tok} {m₀ : Str → Option Value}
    (hh : A.handled = none) (F : Fr h₀ env.locals s.heap m₀) (N : News h₀ env.locals s.heap (Led c₀)) (hk : ∀ p ∈ ps c₀, m₀ p.1 = some p.2) (hp : P 0 c₀) (hadr : ∀ c, (Led c).map (·.1) = (Led c₀).map (·.1))
    (turn : ∀ (c : σ) (i : Nat) (v : Value) (u : Str → Option Value) (h : Heap) (tk : Nat) (own : List (Addr × Obj)) (QT : Flow → Shared → Prop), i < y.cps.size → SignAt y i v → P i c → OwnOff own ((Led c₀).map (·.1)) →
      Fr h₀ env.locals h (fun z => if z = x then some v else mapT stored u m₀ (ps c) z) → News h₀ env.locals h (Led c ++ own) →
      (∀ (c' : σ) (m' : Str → Option Value) (h' : Heap) (tk' : Nat) (all : List (Addr × Obj)), Fr h₀ env.locals h' m' → News h₀ env.locals h' all → (∀ p ∈ Led c', p ∈ all) → (∀ p ∈ own, p ∈ all) → (∀ p ∈ ps c', m' p.1 = some p.2) →
        (∀ z, z ≠ x → (∀ p ∈ ps c', z ≠ p.1) → stored.contains z = false → m' z = m₀ z) → P (i + 1) c' → QT .next { s with heap := h', toks := tk' }) →
      (∀ v s', Q (.ret v) s' → QT (.ret v) s') →
      wpAny (model prog w) A (execs body env) QT E { s with heap := h, toks := tk })
    (done : ∀ (c : σ) (u : Str → Option Value) (h : Heap) (tk : Nat), P y.cps.size c → Fr h₀ env.locals h (fun z => if z = x then u z else mapT stored u m₀ (ps c) z) → News h₀ env.locals h (Led c) → Q .next { s with heap := h, toks := tk }) :
    wpAny (model prog w) A (pyIter (.str y ty)) (fun it s₂ => LoopAtV prog w A h₀ env x body Q E it s₂) E s := by
  refine wpAny_pyIter_str fun o St W st => ?_
  refine loopG (s := { s with heap := s.heap.push o }) Led ps stored P c₀ (W A hh) ?_ ?_ ?_ ?_ st (F.push _) (fun p hp => ⟨Heap.get?_push_of_some _ (N p hp).1, (N p hp).2⟩) hk hp hadr turn done
  · intro hm
    exact absurd F.ns.lt ((List.mem_singleton.mp hm) ▸ Nat.lt_irrefl _)
  · intro b hb
    rw [List.mem_singleton.mp hb]
    exact next_is_new F
  · intro b hb
    exact hb
  · intro p hp hI
    exact absurd (Heap.lt_size (N p hp).1) ((List.mem_singleton.mp hI) ▸ Nat.lt_irrefl _)
end
end Mine
namespace Mine
section
variable {prog : Program} {w : World} {A A₀ : Around} {s : Shared} {K : Frag} {L : Addr} {h₀ base : Heap} {m mg mb : Str → Option Value} {p : Program} {loose : List Str} {mean : ExcName → Option Value}
/-- a def of the written part is entered; all that stands stays -/
theorem code_pure {env : Env} {outer : List Env} {R : Result → Shared → Prop} {name qual : Str} {params : Arguments} {body : List Stmt} {scope : Scope} {dV kV doc pm cdv ct oc : Value} {an od : Option Addr} {osl : Array (Option Value)} {f : Addr} {args : Args} {binds : List (Str × Value)}
    (B : Below A₀ base outer h₀) (F : Fr h₀ L s.heap m) (X₀ : K.In h₀) (T : Top p loose mean mg mb h₀) (hA : A.frames = some (env :: outer)) (hf : env.frame = some L) (hke : env.scope.kind = .function)
    (ho : K.lookup f = some ⟨oc, od, .func (fnOf name qual params body scope dV kV doc pm an cdv ct), osl⟩) (hcd : codeIn K cdv qual = true) (hroom : A.depth < recursionLimit)
    (hbind : BindsTo s (fnOf name qual params body scope dV kV doc pm an cdv ct) args binds) (hloc : ∀ y ∈ binds, scope.names.lookup y.1 = some .local)
    (h : ∀ L' h₁, Fr s.heap L' h₁ (fun y => binds.reverse.lookup y) → News s.heap L' h₁ [] → Below A base (env :: outer) s.heap → K.In s.heap → Top p loose mean mg mb s.heap →
      wpAny (model prog w) (A.deeper (envX qual scope L' f cdv [])) (execs body (envX qual scope L' f cdv []))
        (fun fl s' => LeaveK h₀ L m s.heap R (match fl with | .ret v => v | _ => .none) s')
        (fun e s' => wpAny (model prog w) (A.deeper (envX qual scope L' f cdv [])) (leaving (envX qual scope L' f cdv []) e) (fun _ s'' => R (.error e) s'') (fun e' s'' => R (.error e') s'') s')
        { s with heap := h₁, toks := s.toks + binds.length })
    (hco : scope.isCoroutine = false) (hgen : scope.isGenerator = false) (hk : scope.kind = .function)
    (hcell : ∀ x ∈ scope.names, x.2 ≠ .cell) : codeAny (model prog w) A (.call (.ref f) args) R s := by
  obtain ⟨FG, BG, st, lv⟩ := groundX (R := R) B F (News.nil (h₀ := h₀) (L := L) (h := s.heap)) hA hf hke
  refine codeAny_call_def (fd := fnX name qual params body scope [] dV kV doc pm an cdv ct) (body := body) (binds := binds) hroom ((X₀.keeps F.keep) _ _ ho) rfl (T.nolimit.keeps F.keep) (codeRec_of (X₀.keeps F.keep) hcd) rfl hbind hcell hloc (fun h₁ hns hk₁ => ?_) hco hgen hk
  exact wpAny_mono (h s.heap.objs.size h₁ ⟨hns, hk₁, Nat.le_refl _⟩ News.nil BG (X₀.keeps F.keep) (T.keeps F.keep)) (fun fl s' hl => lv _ _ hl) fun _ _ y => y
end
/-- the walk stops here -/
def Hold (P : Prop) : Prop := P
theorem hold {P : Prop} (h : Hold P) : P := h
/-- the loose names behind the hidden tables -/
noncomputable abbrev LX : List Str := looseW QV looseL ++ (recsOf QV).map (·.name) ++ (litsOf QV).map (·.1) ++ (clssOf QV (looseW QV looseL)).map (·.name)
/-- a contract over the heap: what it asks of the heap, what it hands on; all that stood stays, but what lies in the hole -/
abbrev CtrO (w : World) (f : Addr) (k : Nat) (vs : List Value) (hole : List Addr) (H : Heap → Prop) (R : Heap → Value → Heap → Prop) : Prop :=
  ∀ (dp un : Nat) (gd : Option (List Code)) (cn : Str) (cs : Scope) (a : Addr) (ccd : Value) (cl : List (Str × Addr)) (outer : List Env) (A₀ : Around) (base h₀ : Heap) (L : Addr) (m : Str → Option Value) (s : Shared) (Q E : Value → Shared → Prop) (mean : ExcName → Option Value) (mg mb : Str → Option Value),
    Below A₀ base outer h₀ → Fr h₀ L s.heap m → (KH w.params).In h₀ → Top topProg LX mean mg mb h₀ → cs.kind = .function → dp + k < recursionLimit → un + 8 * k < cLine → (∀ b ∈ hole, h₀.get? b = none ∧ b ≠ L) → H s.heap →
    (∀ r h' tk', (∀ b o, b ∉ hole → s.heap.get? b = some o → h'.get? b = some o) → R s.heap r h' → Q r { s with heap := h', toks := tk' }) →
    wpAny (model RW.row.prog w) (ktrTop dp un gd cn cs L a ccd cl outer) (call (.ref f) vs) Q E s
/-- the same without a hole -/
abbrev CtrH (w : World) (f : Addr) (k : Nat) (vs : List Value) (H : Heap → Prop) (R : Heap → Value → Heap → Prop) : Prop :=
  ∀ (dp un : Nat) (gd : Option (List Code)) (cn : Str) (cs : Scope) (a : Addr) (ccd : Value) (cl : List (Str × Addr)) (outer : List Env) (A₀ : Around) (base h₀ : Heap) (L : Addr) (m : Str → Option Value) (s : Shared) (Q E : Value → Shared → Prop) (mean : ExcName → Option Value) (mg mb : Str → Option Value),
    Below A₀ base outer h₀ → Fr h₀ L s.heap m → (KH w.params).In h₀ → Top topProg LX mean mg mb h₀ → cs.kind = .function → dp + k < recursionLimit → un + 8 * k < cLine → H s.heap →
    (∀ r h' tk', (∀ b o, s.heap.get? b = some o → h'.get? b = some o) → R s.heap r h' → Q r { s with heap := h', toks := tk' }) →
    wpAny (model RW.row.prog w) (ktrTop dp un gd cn cs L a ccd cl outer) (call (.ref f) vs) Q E s
section
variable {w : World} {f : Addr} {k : Nat} {vs : List Value} {hole : List Addr} {H : Heap → Prop} {R : Heap → Value → Heap → Prop} {dp un : Nat} {gd : Option (List Code)} {cn : Str} {cs : Scope} {a : Addr} {ccd : Value} {cl : List (Str × Addr)} {outer : List Env} {A₀ : Around} {base h₀ : Heap} {L : Addr} {m : Str → Option Value} {s : Shared} {Q E : Value → Shared → Prop} {mean : ExcName → Option Value} {mg mb : Str → Option Value} {news : List (Addr × Obj)}
theorem Fr.hold {h' : Heap} (F : Fr h₀ L s.heap m) (k : ∀ b o, s.heap.get? b = some o → h'.get? b = some o) : Fr h₀ L h' m := ⟨F.ns.keeps k, fun b o e => k b o (F.keep b o e), F.above⟩
theorem News.hold {h' : Heap} (N : News h₀ L s.heap news) (k : ∀ b o, s.heap.get? b = some o → h'.get? b = some o) : News h₀ L h' news := fun p hp => ⟨k _ _ (N p hp).1, (N p hp).2⟩
theorem News.add {h' : Heap} {D : Addr} {o : Obj} (N : News h₀ L h' news) (F : Fr h₀ L s.heap m) (hD : s.heap.get? D = none) (ho : h'.get? D = some o) : News h₀ L h' ((D, o) :: news) := fun p hp => by
  rcases List.mem_cons.mp hp with rfl | hp
  · refine ⟨ho, fun q => ?_, ?_⟩
    · obtain ⟨oL, es, ep, hL, _⟩ := F.ns
      rw [show D = L from q, hL] at hD; cases hD
    · cases q : h₀.get? D with
      | none => rfl
      | some o' => rw [F.keep _ _ q] at hD; cases hD
  · exact N p hp
theorem useH (C : CtrH w f k vs H R) (B : Below A₀ base outer h₀) (F : Fr h₀ L s.heap m) (X : (KH w.params).In h₀) (N : News h₀ L s.heap news) (T : Top topProg LX mean mg mb h₀) (hk : cs.kind = .function) (hd : dp + k < recursionLimit) (hu : un + 8 * k < cLine) (hH : H s.heap)
    (hret : ∀ r h' tk', Fr h₀ L h' m → News h₀ L h' news → (∀ b o, s.heap.get? b = some o → h'.get? b = some o) → R s.heap r h' → Q r { s with heap := h', toks := tk' }) :
    wpAny (model RW.row.prog w) (ktrTop dp un gd cn cs L a ccd cl outer) (call (.ref f) vs) Q E s :=
  C _ _ _ _ _ _ _ _ _ _ _ _ _ _ _ _ _ _ _ _ B F X T hk hd hu hH fun r h' tk' kp hr => hret r h' tk' (Fr.hold F kp) (News.hold N kp) kp hr
end
local macro_rules | `(tactic| ktr_enter) => `(tactic| (refine' code_pure ?k1 ?k2 ?k3 ?k5 ?kA ?kF ?kK ?k6 ?k7 ?k8 ?k9 ?kB ?_ ?c2 ?c3 ?c4 ?c5; (case kA => exact rfl); (case kF => exact rfl); (case kK => assumption); (case k1 => k_asm); (case k2 => k_asm); (case k3 => k_asm); (case k5 => k_asm); (case k6 => k_is); (case k7 => k_is); (case k8 => ktr_room); (case k9 => exact BindsTo.of_eq rfl); (case c5 => decide); (case kB => exact locs rfl); (case c2 => exact rfl); (case c3 => exact rfl); (case c4 => exact rfl); k_whole; intro L' h' lF9 N' B' X' T'; (try dsimp only)))
local macro_rules | `(tactic| walk_at "call builtin:divmod") => `(tactic| (k_here; refine my_divmod (by k_asm) (by k_asm) (by assumption) (by assumption) ?_; intro D' h' tk' t1' t2' c' F' N' l1))
/-- a new tuple of two ints -/
def Tup2 (h : Heap) (v : Value) (h' : Heap) (x y : Int) : Prop := ∃ D t1 t2 c, v = .ref D ∧ h.get? D = none ∧ h'.get? D = some { cls := .type "tuple", data := .seq #[.int x t1, .int y t2] c }
theorem cdivH (w : World) (a b n : Int) (ta tb tn : Tok) (hb : b ≠ 0) (hn : (Builtin.Int.intBits a : Int) - n ≤ 4000) (hp : Builtin.divisionGoesByPylong a b = false) :
    CtrH w 21 1 [.int a ta, .int b tb, .int n tn] (fun _ => True) (fun h r h' => Tup2 h r h' (a.fdiv b) (a.fmod b)) := by
  w_on
  unfold CtrH
  k_fill
  intro dp un gd cn cs ad ccd cl outer A₀ base h₀ L m s Q E mean mg mb B F X T hk hd hu hH hret
  refine wpAny_call ?_
  k_dflt ktr_enter
  k_steps
  all_goals (rename News s.heap _ _ _ => N9; rename Fr s.heap _ _ _ => F9; have z := N9 _ (List.mem_cons_self ..); exact hret _ _ _ F9.keep ⟨_, _, _, _, rfl, z.2.2, z.1⟩)
end Mine
namespace Mine
theorem mul_ok {a b : Int} (ha : a.natAbs < 2 ^ 4000) (hb : b.natAbs < 2 ^ 4000) : IntMulOk a b := by
  have h1 := PyProof.Rows.intBits_le ha
  have h2 := PyProof.Rows.intBits_le hb
  unfold IntMulOk Builtin.Int.intTooBig
  intro e
  simp only [Bool.and_eq_true, decide_eq_true_eq] at e
  have : PySem.bitsLine = 2 ^ 27 := rfl
  omega
local macro_rules | `(tactic| ktr_enter) => `(tactic| (refine' code_pure ?k1 ?k2 ?k3 ?k5 ?kA ?kF ?kK ?k6 ?k7 ?k8 ?k9 ?kB ?_ ?c2 ?c3 ?c4 ?c5; (case kA => exact rfl); (case kF => exact rfl); (case kK => assumption); (case k1 => k_asm); (case k2 => k_asm); (case k3 => k_asm); (case k5 => k_asm); (case k6 => k_is); (case k7 => k_is); (case k8 => ktr_room); (case k9 => exact BindsTo.of_eq rfl); (case c5 => decide); (case kB => exact locs rfl); (case c2 => exact rfl); (case c3 => exact rfl); (case c4 => exact rfl); k_whole; intro L' h' lF9 N' B' X' T'; (try dsimp only)))
local macro_rules | `(tactic| walk_at "inplaceOp Mult int int") => `(tactic| (k_here; refine imul_int ?_ (mul_ok (by assumption) (by assumption))))
local macro_rules | `(tactic| walk_at "pyIter ref") => `(tactic| (k_here; (with_reducible show wpAny _ _ (pyIter (Value.ref _)) (fun it s₂ => LoopAtV _ _ _ _ _ _ _ _ _ it s₂) _ _); refine hold ?_))
local macro_rules | `(tactic| walk_at "exec For Name Name cons nil") => `(tactic| (k_here; (rename Fr _ _ _ _ => lF'); (with_unfolding_all refine' For_invVF lF' ?k1 ?k2 ?_; (case k1 => exact rfl); (case k2 => exact rfl); k_whole)))
local macro_rules | `(tactic| walk_at "exec For Name Call cons nil") => `(tactic| (k_here; (rename Fr _ _ _ _ => lF'); (with_unfolding_all refine' For_invVF lF' ?k1 ?k2 ?_; (case k1 => exact rfl); (case k2 => exact rfl); k_whole)))
local macro_rules | `(tactic| walk_at "call ref") => `(tactic| (k_here; (with_reducible show wpAny _ _ (call (Value.ref _) _) _ _ _); refine hold ?_))
local macro_rules | `(tactic| walk_at "subscriptTail") => `(tactic| (k_here; (with_reducible show wpAny _ _ (subscriptTail _ _ (Value.ref _) (Value.int _ _)) _ _ _); refine hold ?_))
local macro_rules | `(tactic| walk_at "pyIter str") => `(tactic| (k_here; refine hold ?_))
local macro_rules | `(tactic| walk_at "call builtin:list.append") => `(tactic| (k_here; refine hold ?_))
local macro_rules | `(tactic| walk_at "getItem") => `(tactic| (k_here; (with_reducible show wpAny _ _ (PySem.getItem _ (Value.int _ _)) _ _ _); refine hold ?_))
local macro_rules | `(tactic| walk_at "setItem ref int") => `(tactic| (k_here; refine hold ?_))
local macro_rules | `(tactic| walk_at "setItem ref str") => `(tactic| (k_here; refine hold ?_))
local macro_rules | `(tactic| walk_at "call type:range") => `(tactic| ((rename Fr _ _ _ _ => F'); (rename News _ _ _ _ => N'); first | (with_unfolding_all refine range1_rows F' N' ?_; intro _ _ _ _ _ _ _ _ _) | (with_unfolding_all refine range2_rows F' N' ?_; intro _ _ _ _ _ _ _ _ _)))
section
theorem c_prod (w : World) (l : Addr) (vs : List Value) (ns : List Int) (hi : IntsAre vs ns)
    (hb : ∀ i, (ns.take i).prod.natAbs < 2 ^ 4000) (hb2 : ∀ n ∈ ns, n.natAbs < 2 ^ 4000) :
    CtrH w 158 1 [.ref l] (fun h => h.IsList l vs.toArray) (fun _ r _ => ∃ t, r = .int ns.prod t) := by
  w_on
  unfold CtrH
  k_fill
  intro dp un gd cn cs ad ccd cl outer A₀ base h₀ L m s Q E mean mg mb B F X T hk hd hu hH hret
  refine wpAny_call ?_
  k_dflt ktr_enter
  k_steps
  unfold Hold
  refine loop_base (σ := Int × Tok) (fun _ => []) (fun c => [(Str.ofString "total", .int c.1 c.2)]) [] (fun i c => c.1 = (ns.take i).prod) (1, _) rfl (by k_asm) (by k_asm) hH (by intro p hp; rw [List.mem_singleton.mp hp]; rfl) rfl (fun _ => rfl) ?turn ?done
  case turn =>
    rintro ⟨a, t⟩ i v u h tk own QT hlt hv hP hoff F1 N1 hnext hret1
    obtain ⟨n, t1, rfl, hn⟩ := IntsAre.at hi i _ hv
    dsimp only [List.nil_append] at F1 N1 hP ⊢
    have hPa : a.natAbs < 2 ^ 4000 := by rw [hP]; exact hb i
    have hPn : n.natAbs < 2 ^ 4000 := hb2 n (List.mem_of_getElem? hn)
    k_steps
    ((rename Fr _ _ _ _ => fE'); (rename News _ _ _ _ => nE'); (try simp only [List.push_toArray] at nE'); (refine hnext (a * n, _) _ _ _ _ fE' nE' (by first | kst_in | kst_inAny) (by first | (intro p hp; kst_mem) | kst_anyIn) (by kst_all) (by ((try dsimp only [mapT, kstB]); kst_same)) ?_); (try dsimp only))
    rw [hP, List.take_add_one, hn]
    simp
  case done =>
    rintro ⟨a, t⟩ u h tk hP F1 N1
    dsimp only at F1 N1 hP ⊢
    k_steps
    rw [List.take_of_length_le (by have := IntsAre.length hi; omega)] at hP
    subst hP
    (rename News s.heap _ _ _ => N9; rename Fr s.heap _ _ _ => F9; refine hret _ _ _ F9.keep ⟨_, rfl⟩)
end
section
theorem setL_of : ∀ (l : List Value) (k : Nat) (v : Value), k < l.length → ki_setL l k v = some (l.set k v)
  | _ :: _, 0, _, _ => rfl
  | a :: r, k + 1, v, h => by
    show (match ki_setL r k v with | some q => some (a :: q) | none => none) = _
    rw [setL_of r k v (Nat.lt_of_succ_lt_succ h)]
    rfl
theorem c_cells (w : World) (l : Addr) (vs : List Value) (ns : List Int) (hi : IntsAre vs ns) (hn : ns.length ≤ 63) : 
    CtrH w 137 1 [.ref l] (fun h => h.IsList l vs.toArray) (fun h r h' => ∃ D ws nn c0 c1 c2 c3 c4, r = .ref D ∧ h.get? D = none ∧ h'.get? D = some (listOf ws.toArray nn) ∧ IntsAre ws [c0, c1, c2, c3, c4] ∧ (∀ c ∈ [c0, c1, c2, c3, c4], 0 ≤ c ∧ c ≤ 64000000)) := by
  w_on
  unfold CtrH
  k_fill
  intro dp un gd cn cs ad ccd cl outer A₀ base h₀ L m s Q E mean mg mb B F X T hk hd hu hH hret
  refine wpAny_call ?_
  k_dflt ktr_enter
  k_steps
  unfold Hold
  rename IsRange _ _ _ _ _ _ _ _ => hR
  refine loop_range (σ := List Value × List Int × Nat) (fun c => [(_, listOf c.1.toArray c.2.2)]) (fun _ => [(Str.ofString "cells", .ref _)]) [] (fun i c => IntsAre c.1 c.2.1 ∧ c.2.1.length = 5 ∧ ∀ x ∈ c.2.1, 0 ≤ x ∧ x ≤ 2 + 1000000 * (i : Int)) ([_, _, _, _, _], [0, 0, 0, 1, 2], 0) rfl hR (n := ns.length) (small_one (by decide) (by decide) (by omega) (by omega)) (by rw [rangeSize_nat]; omega) (by k_asm) (by k_asm) (by intro p hp; obtain rfl := List.mem_singleton.mp hp; rfl) ⟨.cons _ _ (.cons _ _ (.cons _ _ (.cons _ _ (.cons _ _ .nil)))), rfl, by intro x hx; simp only [List.mem_cons, List.not_mem_nil, or_false] at hx; omega⟩ (fun _ => rfl) ?turn ?done
  case turn =>
    rintro ⟨ws, cs5, nn⟩ i ti u h tk own QT hlt ⟨hP, hP5, hPb⟩ hoff F1 N1 hnext hret1
    dsimp only [List.nil_append, List.cons_append] at F1 N1 hP hP5 hPb ⊢
    k_steps
    unfold Hold
    have hj0 : 0 ≤ ((0 : Int) + (i : Int)).fmod 5 := Int.fmod_nonneg_of_pos _ (by decide)
    have hj1 : ((0 : Int) + (i : Int)).fmod 5 < 5 := Int.fmod_lt_of_pos _ (by decide)
    generalize ((0 : Int) + (i : Int)).fmod 5 = j at hj0 hj1 ⊢
    have hlw := IntsAre.length hP
    have hx0 : 0 ≤ (ns.getD ((0 : Int) + (i : Int)).toNat 0).fmod (10 ^ Int.toNat 6) := Int.fmod_nonneg_of_pos _ (by decide)
    have hx1 : (ns.getD ((0 : Int) + (i : Int)).toNat 0).fmod (10 ^ Int.toNat 6) < 1000000 := Int.fmod_lt_of_pos _ (by decide)
    generalize (ns.getD ((0 : Int) + (i : Int)).toNat 0).fmod (10 ^ Int.toNat 6) = z at hx0 hx1 ⊢
    have hold := hPb (cs5.getD j.toNat 0) (by
      rw [List.getD_eq_getElem?_getD, List.getElem?_eq_getElem (by omega)]
      exact List.getElem_mem _)
    (refine' ki_set (q := ws.set j.toNat (.int (cs5.getD j.toNat 0 + z) _)) ?kF9 ?kN9 ?ka9 ?kb9 ?ke9 ?kU9 ?_; (case kF9 => k_asm); (case kN9 => k_asm); (case kU9 => k_upd); (case ka9 => exact hj0); (case kb9 => omega); (case ke9 => exact setL_of _ _ _ (by show j.toNat < ws.length; omega)))
    intro h5 F5 N5
    k_steps
    ((rename Fr _ _ _ _ => fE'); (rename News _ _ _ _ => nE'); (try simp only [List.push_toArray] at nE'); (refine hnext (ws.set j.toNat (.int (cs5.getD j.toNat 0 + z) _), cs5.set j.toNat (cs5.getD j.toNat 0 + z), nn) _ _ _ _ fE' nE' (by first | kst_in | kst_inAny) (by first | (intro p hp; kst_mem) | kst_anyIn) (by kst_all) (by ((try dsimp only [mapT, kstB]); kst_same)) ?_); (try dsimp only))
    refine ⟨PySem.W.ints_set hP _, by simpa using hP5, fun x hx => ?_⟩
    rcases List.mem_or_eq_of_mem_set hx with hx | rfl
    · have := hPb x hx
      omega
    · omega
  case done =>
    rintro ⟨ws, cs5, nn⟩ u h tk hP F1 N1
    obtain ⟨hP, hP5, hPb⟩ := hP
    dsimp only at F1 N1 hP hP5 hPb ⊢
    k_steps
    rename News s.heap _ _ _ => N9
    rename Fr s.heap _ _ _ => F9
    have z := N9 _ (List.mem_cons_self ..)
    match cs5, hP5 with
    | [c0, c1, c2, c3, c4], _ =>
      exact hret _ _ _ F9.keep ⟨_, _, _, c0, c1, c2, c3, c4, rfl, z.2.2, z.1, hP, fun c hc => ⟨(hPb c hc).1, by have := (hPb c hc).2; omega⟩⟩
end
section
def dealtF (ns : List Int) (p : Int) : Nat → Nat → Int
  | 0, _ => 1
  | _ + 1, 0 => 1
  | k + 1, 1 => ns.getD (k + 1) 0
  | k + 1, l + 2 => ns.getD (k + 1) 0 * dealtF ns p (k + 1) (l + 1) + p * ns.getD l 0 * dealtF ns p k (l + 2)
termination_by k l => k + l
theorem c_dealt (w : World) (lst : Addr) (vs : List Value) (ns : List Int) (hi : IntsAre vs ns) (p : Int) (tp : Tok) (hlen : ns.length ≤ 1000) (hp : p.natAbs < 2 ^ 4000) (hns : ∀ n ∈ ns, n.natAbs < 2 ^ 4000)
    (hD : ∀ k l, k + l < ns.length → (dealtF ns p k l).natAbs < 2 ^ 4000) (hpl : ∀ l, l < ns.length → (p * ns.getD l 0).natAbs < 2 ^ 4000) :
    ∀ N (k l : Nat) (tk tl : Tok), k + l = N → k + l < ns.length → CtrH w 165 (N + 1) [.ref lst, .int p tp, .int (k : Int) tk, .int (l : Int) tl] (fun h => h.IsList lst vs.toArray) (fun _ r _ => ∃ t, r = .int (dealtF ns p k l) t) := by
  have hget : ∀ i : Nat, (ns.getD i 0).natAbs < 2 ^ 4000 := fun i => by
    rw [List.getD_eq_getElem?_getD]
    cases q : ns[i]? with
    | none => exact Nat.pow_pos (by decide)
    | some n => exact hns n (List.mem_of_getElem? q)
  intro N
  induction N using Nat.strongRecOn with
  | ind N ih =>
  intro k l tk tl hN hlt
  w_on
  unfold CtrH
  k_fill
  intro dp un gd cn cs ad ccd cl outer A₀ base h₀ L m s Q E mean mg mb B F X T hk hd hu hH hret
  refine wpAny_call ?_
  k_dflt ktr_enter
  k_steps
  · have e : dealtF ns p k l = 1 := by
      obtain rfl : k = 0 := by omega
      rw [dealtF]
    (rename News s.heap _ _ _ => N9; rename Fr s.heap _ _ _ => F9; refine hret _ _ _ F9.keep ⟨_, by rw [e]⟩)
  · have e : dealtF ns p k l = 1 := by
      obtain rfl : l = 0 := by omega
      obtain ⟨k', rfl⟩ : ∃ k', k = k' + 1 := ⟨k - 1, by omega⟩
      rw [dealtF]
    (rename News s.heap _ _ _ => N9; rename Fr s.heap _ _ _ => F9; refine hret _ _ _ F9.keep ⟨_, by rw [e]⟩)
  · have e : dealtF ns p k l = ns.getD (k : Int).toNat 0 := by
      obtain rfl : l = 1 := by omega
      obtain ⟨k', rfl⟩ : ∃ k', k = k' + 1 := ⟨k - 1, by omega⟩
      rw [dealtF]
      rfl
    (rename News s.heap _ _ _ => N9; rename Fr s.heap _ _ _ => F9; refine hret _ _ _ F9.keep ⟨_, by rw [e]⟩)
  · unfold Hold
    obtain ⟨k', rfl⟩ : ∃ k', k = k' + 1 := ⟨k - 1, by omega⟩
    obtain ⟨l', rfl⟩ : ∃ l', l = l' + 2 := ⟨l - 2, by omega⟩
    rw [show ((l' + 2 : Nat) : Int) - 1 = ((l' + 1 : Nat) : Int) from by omega]
    ((with_unfolding_all refine' useH (ih (k' + 1 + (l' + 1)) (by omega) (k' + 1) (l' + 1) _ _ rfl (by omega)) ?x1 ?x2 ?x3 ?x4 ?x5 ?x6 ?x7 ?x8 ?x9 ?_); (case x1 => k_asm); (case x2 => k_asm); (case x3 => k_asm); (case x4 => k_asm); (case x5 => k_asm); (case x6 => first | rfl | assumption); (case x7 => ktr_room); (case x8 => ktr_units))
    case x9 => exact PyProof.Rows.Fr.lst (by assumption) hH
    rintro r h' tk' F2 N2 kp2 ⟨t2, rfl⟩
    k_steps
    refine mul_int ?_ (mul_ok (hget _) (hD _ _ (by omega)))
    k_steps
    refine mul_int ?_ (mul_ok hp (hget _))
    k_steps
    unfold Hold
    rw [show ((k' + 1 : Nat) : Int) - 1 = ((k' : Nat) : Int) from by omega]
    ((with_unfolding_all refine' useH (ih (k' + (l' + 2)) (by omega) k' (l' + 2) _ _ rfl (by omega)) ?x1 ?x2 ?x3 ?x4 ?x5 ?x6 ?x7 ?x8 ?x9 ?_); (case x1 => k_asm); (case x2 => k_asm); (case x3 => k_asm); (case x4 => k_asm); (case x5 => k_asm); (case x6 => first | rfl | assumption); (case x7 => ktr_room); (case x8 => ktr_units))
    case x9 => exact PyProof.Rows.Fr.lst (by assumption) hH
    rintro r h' tk' F2 N2 kp2 ⟨t2, rfl⟩
    have el : (((l' + 2 : Nat) : Int) - 2).toNat = l' := by omega
    rw [el]
    refine mul_int ?_ (mul_ok (hpl _ (by omega)) (hD _ _ (by omega)))
    k_steps
    have e : dealtF ns p (k' + 1) (l' + 2) = ns.getD (k' + 1) 0 * dealtF ns p (k' + 1) (l' + 1) + p * ns.getD l' 0 * dealtF ns p k' (l' + 2) := by rw [dealtF]
    (rename News s.heap _ _ _ => N9; rename Fr s.heap _ _ _ => F9; refine hret _ _ _ F9.keep ⟨_, by rw [e]; rfl⟩)
end
section
def b1es : List (Int × Value) := [(65024, (.int 65024 287)), (65025, (.int 65025 288)), (65026, (.int 65026 289)), (65027, (.int 65027 290)), (65028, (.int 65028 291)), (65029, (.int 65029 292)), (6150, (.int 6150 273)), (65030, (.int 65030 293)), (65031, (.int 65031 294)), (65032, (.int 65032 295)), (65033, (.int 65033 296)), (6155, (.int 6155 274)), (6156, (.int 6156 275)), (6157, (.int 6157 276)), (8203, (.int 8203 277)), (8204, (.int 8204 278)), (8205, (.int 8205 279)), (65034, (.int 65034 297)), (65035, (.int 65035 298)), (65036, (.int 65036 299)), (65037, (.int 65037 300)), (65038, (.int 65038 301)), (65039, (.int 65039 302)), (173, (.int 173 271)), (847, (.int 847 272)), (8288, (.int 8288 280)), (65279, (.int 65279 281))]
def okInt (e : Int × Value) : Bool := match e.2 with | .int k _ => e.1 == hashInt k | _ => false
theorem okInt_of {e : Int × Value} (h : okInt e = true) : (∃ k, Value.isInt k e.2 = true ∧ e.1 = hashInt k) ∧ e.2.scannable = true := by
  obtain ⟨a, v⟩ := e
  unfold okInt at h
  split at h
  · rename_i k t hv
    dsimp only at hv
    subst hv
    exact ⟨⟨k, isInt_self k t, beq_iff_eq.mp h⟩, rfl⟩
  · cases h
theorem b1_ok : b1es.all okInt = true := by kernel_rfl
def inB1 (k : Int) : Bool := b1es.any fun e => Value.isInt k e.2
theorem b1_set {prog : Program} {w : World} {h : Heap} (X : (KH w.params).In h) : h.SetOf (intKind prog w) 64 inB1 27 := by
  have e : (KH w.params).lookup 64 = some ⟨.type "set", none, .set ⟨b1es⟩ 29 ⟨127, ⟨[0, 1, 2, 3, 4, 5, 6, 7, 8, 9, 10, 11, 12, 13, 14, 15, 16, 17, 18, 19, 20, 21, 22, 45, 79, 96, 127]⟩, ⟨[]⟩, 0, !(w.params.followText "set-order"), 2, true⟩, ⟨[]⟩⟩ := by kernel_rfl
  refine ⟨_, _, _, _, X _ _ e, ⟨rfl, rfl, rfl⟩, rfl, fun x hx => okInt_of (List.all_eq_true.mp b1_ok x hx), fun k => ?_, by decide, by kernel_rfl, by kernel_rfl⟩
  unfold inB1
  rw [List.any_eq_true]
  exact Iff.rfl
def okEnt (e : DictEntry) : Bool := match e.key with | .int k _ => e.hash == hashInt k | _ => false
theorem b3_ok : b3all.all okEnt = true := by kernel_rfl
theorem b3_map {prog : Program} {w : World} {h : Heap} (X : (KH w.params).In h) : h.MapOf (intKind prog w) 75 (fun k => findBy Value.isInt ⟨b3all⟩ k) := by
  have e : (KH w.params).lookup 75 = some ⟨.type "dict", none, .dict ⟨b3all⟩ b3all.length, ⟨[]⟩⟩ := by kernel_rfl
  refine ⟨_, _, _, X _ _ e, ⟨rfl, rfl, rfl⟩, rfl, fun x hx => ?_, fun _ => rfl⟩
  have h := List.all_eq_true.mp b3_ok x (by simpa using hx)
  unfold okEnt at h
  split at h
  · rename_i k t hv
    exact ⟨k, by rw [hv]; exact isInt_self k t, beq_iff_eq.mp h⟩
  · cases h
theorem b3_get {prog : Program} {w : World} {A : Around} {E : Value → Shared → Prop} {s : Shared} {Q : Value → Shared → Prop} {k : Int} {t : Tok} {h₀ : Heap} {L : Addr} {m : Str → Option Value} (F : Fr h₀ L s.heap m) (X : (KH w.params).In h₀) (hn : findBy Value.isInt ⟨b3all⟩ k = none) (h : Q .none { s with toks := s.toks + 1 }) :
    wpAny (model prog w) A (call (.builtin "dict.get") [.ref 75, .int k t]) Q E s := by
  have hm := b3_map (prog := prog) (X.keeps F.keep)
  exact call_meetsIn PySem.F.slot_dict_get hm.typeIs PySem.F.entry_dict_get (PySem.F.args_dict_get_2 _ _) (meets_dict_get (intKind prog w) 75 (intKind_is prog w k t) rfl) ⟨_, hm, by rw [hn]; exact h⟩
theorem b3_meth {prog : Program} {w : World} {A : Around} {E : Value → Shared → Prop} {s : Shared} {pl : Sem Bool} {Q : Value × List Value → Shared → Prop} {h₀ : Heap} {L : Addr} {m : Str → Option Value} (F : Fr h₀ L s.heap m) (X : (KH w.params).In h₀) (h : Q (.builtin "dict.get", [.ref 75]) s) :
    wpAny (model prog w) A (getMethod (.ref 75) "get" pl) Q E s := by
  have hm := b3_map (prog := prog) (X.keeps F.keep)
  exact getMethod_builtin hm.typeIs PySem.F.plainAttrs_dict PySem.F.slot_dict_get PySem.F.type_dict_get hm.noDict h
theorem b1_in {prog : Program} {w : World} {A : Around} {E : Value → Shared → Prop} {s : Shared} {Q : Value → Shared → Prop} {k : Int} {t : Tok} {h₀ : Heap} {L : Addr} {m : Str → Option Value} (F : Fr h₀ L s.heap m) (X : (KH w.params).In h₀) (h : Q (.bool (inB1 k)) { s with toks := s.toks + 1 }) :
    wpAny (model prog w) A (compareOp .In (.int k t) (.ref 64)) Q E s :=
  wpAny_inSet_of (intKind_is prog w k t) rfl (b1_set (X.keeps F.keep)) h
local macro_rules | `(tactic| walk_at "compareOp In int ref") => `(tactic| (refine b1_in (by k_asm) (by k_asm) ?_))
local macro_rules | `(tactic| walk_at "getMethod ref") => `(tactic| (refine b3_meth (by k_asm) (by k_asm) ?_))
local macro_rules | `(tactic| walk_at "call builtin:dict.get") => `(tactic| (refine b3_get (by k_asm) (by k_asm) (by assumption) ?_))
local macro_rules | `(tactic| walk_at "call builtin:ord") => `(tactic| (refine P.ord_of_char ?_))
local macro_rules | `(tactic| walk_at "call builtin:str.lower") => `(tactic| (refine hold ?_))
theorem c_b1 (w : World) (c : Nat) (t : Tok) : 
    CtrH w 74 1 [.str ⟨#[c]⟩ t] (fun _ => True) (fun _ r _ => r = .bool (inB1 c)) := by
  w_on
  unfold CtrH
  k_fill
  intro dp un gd cn cs ad ccd cl outer A₀ base h₀ L m s Q E mean mg mb B F X T hk hd hu hH hret
  refine wpAny_call ?_
  k_dflt ktr_enter
  k_steps
  (rename News s.heap _ _ _ => N9; rename Fr s.heap _ _ _ => F9; refine hret _ _ _ F9.keep rfl)
theorem c_b3 (w : World) (c : Nat) (t : Tok) (hn : findBy Value.isInt ⟨b3all⟩ (c : Int) = none) (hl : Txt.lower ⟨#[c]⟩ = ⟨#[c]⟩) : 
    CtrH w 120 1 [.str ⟨#[c]⟩ t] (fun _ => True) (fun _ r _ => ∃ t, r = .str ⟨#[c]⟩ t) := by
  w_on
  unfold CtrH
  k_fill
  intro dp un gd cn cs ad ccd cl outer A₀ base h₀ L m s Q E mean mg mb B F X T hk hd hu hH hret
  refine wpAny_call ?_
  k_dflt ktr_enter
  k_steps
  unfold Hold
  refine SCL.lower (by show 1 ≤ 5592405; decide) ?_
  intro _
  rw [hl]
  k_steps
  (rename News s.heap _ _ _ => N9; rename Fr s.heap _ _ _ => F9; refine hret _ _ _ F9.keep ⟨_, rfl⟩)
def signs5 : List Nat := [42, 47, 60, 61, 62]
theorem sign_b1 : ∀ c ∈ signs5, inB1 (c : Int) = false := by decide +kernel
theorem find_none {k : Int} (h : b3all.find? (fun e => Value.isInt k e.key) = none) : findBy Value.isInt ⟨b3all⟩ k = none := by
  unfold findBy
  rw [show (⟨b3all⟩ : Array DictEntry) = b3all.toArray from rfl, List.find?_toArray, h]
  rfl
theorem sign_b3 : ∀ c ∈ signs5, findBy Value.isInt ⟨b3all⟩ (c : Int) = none ∧ Txt.lower ⟨#[c]⟩ = ⟨#[c]⟩ := by
  intro c hc
  unfold signs5 at hc
  rcases List.mem_cons.mp hc with rfl | hc
  · exact ⟨find_none (by kernel_rfl), by kernel_rfl⟩
  rcases List.mem_cons.mp hc with rfl | hc
  · exact ⟨find_none (by kernel_rfl), by kernel_rfl⟩
  rcases List.mem_cons.mp hc with rfl | hc
  · exact ⟨find_none (by kernel_rfl), by kernel_rfl⟩
  rcases List.mem_cons.mp hc with rfl | hc
  · exact ⟨find_none (by kernel_rfl), by kernel_rfl⟩
  rcases List.mem_cons.mp hc with rfl | hc
  · exact ⟨find_none (by kernel_rfl), by kernel_rfl⟩
  cases hc
theorem mark_b1 : ∀ i, i < 8 → inB1 ((65024 + i : Nat) : Int) = true := by decide +kernel
end
section
def stepB (bs : List Str) (c : Nat) : List Str := if inB1 (c : Int) then bs ++ [Str.empty] else bs.dropLast ++ [bs.getLastD Str.empty ++ ⟨#[c]⟩]
def blocksF (cs : List Nat) : List Str := cs.foldl stepB [Str.empty]
theorem strs_last : ∀ {vs : List Value} {bs : List Str} {y : Str}, StrsAre vs (bs ++ [y]) → ∃ ws t, vs = ws ++ [.str y t] ∧ StrsAre ws bs
  | _, [], _, .cons _ t .nil => ⟨[], t, rfl, .nil⟩
  | _, b :: bs, y, .cons _ t h => by
    obtain ⟨ws, t', rfl, hw⟩ := strs_last h
    exact ⟨_, t', (List.cons_append ..).symm, .cons _ t hw⟩
theorem setL_last (ws : List Value) (a v : Value) : ki_setL (ws ++ [a]) ws.length v = some (ws ++ [v]) := by
  induction ws with
  | nil => rfl
  | cons b ws ih => show (match ki_setL (ws ++ [a]) ws.length v with | some q => some (b :: q) | none => none) = _; rw [ih]; rfl
theorem idx_last (n : Nat) : seqIndex? (-1) (n + 1) = some n := by
  have := PySem.seqIndex_neg (k := -1) (n := n + 1) (by decide) (by omega)
  rw [this]
  congr 1
  omega
theorem blocksF_ne (cs : List Nat) : ∃ bs y, blocksF cs = bs ++ [y] := by
  have : ∀ (cs : List Nat) (b : List Str), b ≠ [] → cs.foldl stepB b ≠ [] := by
    intro cs
    induction cs with
    | nil => intro b hb; exact hb
    | cons c cs ih =>
      intro b hb
      refine ih _ ?_
      unfold stepB
      split <;> simp
  have h := this cs _ (by simp : [Str.empty] ≠ [])
  exact ⟨_, _, (List.dropLast_concat_getLast h).symm⟩
theorem blocksF_len (cs : List Nat) : ∀ b ∈ blocksF cs, b.length ≤ cs.length := by
  have : ∀ (cs : List Nat) (bs : List Str) (n : Nat), (∀ b ∈ bs, b.length ≤ n) → ∀ b ∈ cs.foldl stepB bs, b.length ≤ n + cs.length := by
    intro cs
    induction cs with
    | nil => intro bs n h b hb; exact h b hb
    | cons c cs ih =>
      intro bs n h b hb
      have := ih (stepB bs c) (n + 1) ?_ b hb
      · simp only [List.length_cons]; omega
      · intro b hb
        unfold stepB at hb
        split at hb
        · rcases List.mem_append.mp hb with hb | hb
          · have := h b hb; omega
          · rw [List.mem_singleton.mp hb]; exact Nat.zero_le _
        · rcases List.mem_append.mp hb with hb | hb
          · have := h b (List.dropLast_subset _ hb); omega
          · rw [List.mem_singleton.mp hb]
            have e : (bs.getLastD Str.empty ++ (⟨#[c]⟩ : Str)).length = (bs.getLastD Str.empty).length + 1 := by
              show (_ ++ _ : Array Nat).size = _
              simp
              rfl
            rw [e]
            rcases List.eq_nil_or_concat bs with rfl | ⟨l, a, rfl⟩
            · exact Nat.succ_le_succ (Nat.zero_le _)
            · rw [List.concat_eq_append, List.getLastD_concat]
              have := h a (by simp)
              omega
  intro b hb
  have := this cs [Str.empty] 0 (fun b hb => by rw [List.mem_singleton.mp hb]; exact Nat.zero_le _) b hb
  omega
theorem c_blocks (w : World) (x : Str) (t : Tok) (hx : ∀ c ∈ x.cps.toList, c ∈ signs5 ∨ inB1 (c : Int) = true) (hn : x.cps.size ≤ 20) : 
    CtrH w 144 2 [.str x t] (fun _ => True) (fun h r h' => ∃ D vs nn, r = .ref D ∧ h.get? D = none ∧ h'.get? D = some (listOf vs.toArray nn) ∧ StrsAre vs (blocksF x.cps.toList)) := by
  w_on
  unfold CtrH
  k_fill
  intro dp un gd cn cs ad ccd cl outer A₀ base h₀ L m s Q E mean mg mb B F X T hk hd hu hH hret
  refine wpAny_call ?_
  k_dflt ktr_enter
  k_steps
  unfold Hold
  refine loop_str (σ := List Value × Nat) (fun c => [(_, listOf c.1.toArray c.2)]) (fun _ => [(Str.ofString "blocks", .ref _)]) [] (fun i c => StrsAre c.1 (blocksF (x.cps.toList.take i)) ∧ c.1.length ≤ i + 1) ([_], 0) rfl (by k_asm) (by k_asm) (by intro p hp; rw [List.mem_singleton.mp hp]; rfl) ⟨.cons _ _ .nil, Nat.le_refl 1⟩ (fun _ => rfl) ?turn ?done
  case turn =>
    rintro ⟨vs, nn⟩ i v u h tk own QT hlt ⟨c, tc, hc, rfl⟩ hP hoff F1 N1 hnext hret1
    dsimp only [List.nil_append, List.cons_append] at F1 N1 hP ⊢
    k_steps
    unfold Hold
    ((with_unfolding_all refine' useH (c_b1 w c tc) ?x1 ?x2 ?x3 ?x4 ?x5 ?x6 ?x7 ?x8 ?x9 ?_); (case x1 => k_asm); (case x2 => k_asm); (case x3 => k_asm); (case x4 => k_asm); (case x5 => k_asm); (case x6 => first | rfl | assumption); (case x7 => ktr_room); (case x8 => ktr_units))
    case x9 => trivial
    rintro r h' tk' F2 N2 kp2 rfl
    have hst : blocksF (x.cps.toList.take (i + 1)) = stepB (blocksF (x.cps.toList.take i)) c := by
      have hc' : x.cps.toList[i]? = some c := by simpa using hc
      unfold blocksF
      rw [List.take_add_one, hc', List.foldl_append]
      rfl
    unfold stepB at hst
    have hcl : inB1 (c : Int) = false → c ∈ signs5 := fun q => (hx c (List.mem_of_getElem? (by simpa using hc))).resolve_right (by rw [q]; decide)
    generalize inB1 (c : Int) = b at hst hcl ⊢
    clear hx kp2
    cases b with
    | true =>
      clear hcl
      simp only [if_true] at hst
      k_steps
      unfold Hold
      ((refine' append_K ?k1 ?k2 ?k3 ?_ ?z; (case k1 => k_asm); (case k2 => k_asm); (case k3 => k_upd); (case z => (show vs.toArray.size ≤ 2 ^ 24; simp only [List.size_toArray]; omega))); intro h9' F9' N9'; (try k_sweep))
      k_steps
      ((rename Fr _ _ _ _ => fE'); (rename News _ _ _ _ => nE'); (try simp only [List.push_toArray] at nE'); (refine hnext (vs ++ [Value.str Str.empty _], nn + 1) _ _ _ _ fE' nE' (by first | kst_in | kst_inAny) (by first | (intro p hp; kst_mem) | kst_anyIn) (by kst_all) (by ((try dsimp only [mapT, kstB]); kst_same)) ?_); (try dsimp only))
      refine ⟨?_, by simp; omega⟩
      rw [hst]
      exact StrsAre.append' hP.1 (.cons _ _ .nil)
    | false =>
      have hcs := hcl rfl
      clear hcl
      simp only [Bool.false_eq_true, if_false] at hst
      obtain ⟨hP1, hP2⟩ := hP
      obtain ⟨bs, y, hbs⟩ := blocksF_ne (x.cps.toList.take i)
      rw [hbs] at hP1 hst
      obtain ⟨ws, ty, rfl, hws⟩ := strs_last hP1
      simp only [List.dropLast_concat, List.getLastD_concat] at hst
      obtain ⟨hsn, hsl⟩ := sign_b3 c hcs
      k_steps
      unfold Hold
      refine wpAny_getItem_list_neg (News.isList N2 (.head _)) (by decide) (by simp; omega) (by decide) (x := .str y ty) (by simp only [List.size_toArray, List.length_append, List.length_singleton]; rw [show ((-1 : Int) + ((ws.length + 1 : Nat) : Int)).toNat = ws.length from by omega]; simp) ?_
      clear hsn hsl
      k_steps
      unfold Hold
      obtain ⟨hsn, hsl⟩ := sign_b3 c hcs
      ((with_unfolding_all refine' useH (c_b3 w c tc hsn hsl) ?x1 ?x2 ?x3 ?x4 ?x5 ?x6 ?x7 ?x8 ?x9 ?_); (case x1 => k_asm); (case x2 => k_asm); (case x3 => k_asm); (case x4 => k_asm); (case x5 => k_asm); (case x6 => first | rfl | assumption); (case x7 => ktr_room); (case x8 => ktr_units))
      case x9 => trivial
      clear hsn hsl
      rintro r h'' tk'' F3 N3 kp3 ⟨t3, rfl⟩
      clear kp3
      k_steps
      have hyl : y.length ≤ i := by
        have h := blocksF_len (x.cps.toList.take i) y (by rw [hbs]; simp)
        rw [List.length_take] at h
        omega
      refine SBL.iadd (hsz := by show y.length + 1 ≤ 2 ^ 24; omega) ?_
      intro t4 k4 _
      k_steps
      unfold Hold
      (refine' ki_setNeg (j := ws.length) (q := ws ++ [Value.str (y ++ ⟨#[c]⟩) t4]) ?F ?N ?a ?b ?j ?e ?U ?_; (case F => k_asm); (case N => k_asm); (case U => k_upd); (case a => decide); (case b => decide); (case j => simp only [List.size_toArray, List.length_append, List.length_singleton]; exact idx_last _); (case e => exact setL_last _ _ _))
      intro h5 F5 N5
      k_steps
      ((rename Fr _ _ _ _ => fE'); (rename News _ _ _ _ => nE'); (try simp only [List.push_toArray] at nE'); (refine hnext (ws ++ [Value.str (y ++ ⟨#[c]⟩) t4], nn) _ _ _ _ fE' nE' (by first | kst_in | kst_inAny) (by first | (intro p hp; kst_mem) | kst_anyIn) (by kst_all) (by ((try dsimp only [mapT, kstB]); kst_same)) ?_); (try dsimp only))
      refine ⟨?_, by simp only [List.length_append, List.length_singleton] at hP2 ⊢; omega⟩
      rw [hst]
      exact StrsAre.append' hws (.cons _ _ .nil)
  case done =>
    rintro ⟨vs, nn⟩ u h tk hP F1 N1
    dsimp only at F1 N1 hP ⊢
    k_steps
    rename News s.heap _ _ _ => N9
    rename Fr s.heap _ _ _ => F9
    have z := N9 _ (List.mem_cons_self ..)
    rw [List.take_of_length_le (by simp)] at hP
    exact hret _ _ _ F9.keep ⟨_, _, _, rfl, z.2.2, z.1, hP.1⟩
end
section
def repS (c k : Nat) : Str := ⟨(List.replicate k c).toArray⟩
def luc (A B : Int) : Nat → Int
  | 0 => 1
  | 1 => A
  | n + 2 => A * luc A B (n + 1) + B * luc A B n
def sumsF (A B : Int) (k : Nat) : List Int := (List.range (k + 1)).map (luc A B)
def tok1 (c : Nat) : Int := if c = 42 then 16 else if c = 47 then 17 else if c = 60 then 20 else if c = 61 then 22 else 21
def tok2 (c : Nat) : Int := if c = 42 then 35 else if c = 47 then 47 else if c = 60 then 33 else if c = 61 then 27 else 34
def tokL : List (Str × Tok × Int × Tok) := [(Str.ofString "!", 2397, 54, 2395), (Str.ofString "!=", 2399, 28, 2343), (Str.ofString "%", 2401, 24, 2335), (Str.ofString "%=", 2403, 40, 2367), (Str.ofString "&", 2405, 19, 2325), (Str.ofString "&=", 2407, 41, 2369), (Str.ofString "(", 2409, 7, 2301), (Str.ofString ")", 2411, 8, 2303), (Str.ofString "*", 2413, 16, 2319), (Str.ofString "**", 2415, 35, 2357), (Str.ofString "**=", 2417, 46, 2379), (Str.ofString "*=", 2419, 38, 2363), (Str.ofString "+", 2421, 14, 2315), (Str.ofString "+=", 2423, 36, 2359), (Str.ofString ",", 2425, 12, 2311), (Str.ofString "-", 2427, 15, 2317), (Str.ofString "-=", 2429, 37, 2361), (Str.ofString "->", 2431, 51, 2389), (Str.ofString ".", 2433, 23, 2333), (Str.ofString "...", 2435, 52, 2391), (Str.ofString "/", 2437, 17, 2321), (Str.ofString "//", 2439, 47, 2381), (Str.ofString "//=", 2441, 48, 2383), (Str.ofString "/=", 2443, 39, 2365), (Str.ofString ":", 2445, 11, 2309), (Str.ofString ":=", 2447, 53, 2393), (Str.ofString ";", 2449, 13, 2313), (Str.ofString "<", 2451, 20, 2327), (Str.ofString "<<", 2453, 33, 2353), (Str.ofString "<<=", 2455, 44, 2375), (Str.ofString "<=", 2457, 29, 2345), (Str.ofString "=", 2459, 22, 2331), (Str.ofString "==", 2461, 27, 2341), (Str.ofString ">", 2463, 21, 2329), (Str.ofString ">=", 2465, 30, 2347), (Str.ofString ">>", 2466, 34, 2355), (Str.ofString ">>=", 2467, 45, 2377), (Str.ofString "@", 2468, 49, 2385), (Str.ofString "@=", 2469, 50, 2387), (Str.ofString "[", 2470, 9, 2305), (Str.ofString "]", 2471, 10, 2307), (Str.ofString "^", 2472, 32, 2351), (Str.ofString "^=", 2473, 43, 2373), (Str.ofString "{", 2474, 25, 2337), (Str.ofString "|", 2475, 18, 2323), (Str.ofString "|=", 2476, 42, 2371), (Str.ofString "}", 2477, 26, 2339), (Str.ofString "~", 2478, 31, 2349)]
noncomputable def tokEs (P : Params) : List DictEntry := tokL.map fun q => ⟨PyData.keyHash P q.1, .str q.1 q.2.1, .int q.2.2.1 q.2.2.2⟩
theorem tok_hl (P : Params) : (KH P).lookup 121 = some ⟨.type "dict", none, .dict ⟨tokEs P⟩ 48, #[]⟩ := by kernel_rfl
theorem keysLit_map (P : Params) : ∀ l : List (Str × Tok × Int × Tok), KeysLit P (l.map fun q => ⟨PyData.keyHash P q.1, .str q.1 q.2.1, .int q.2.2.1 q.2.2.2⟩)
  | [] => trivial
  | _ :: r => ⟨⟨_, _, rfl, rfl⟩, keysLit_map P r⟩
theorem tok_keys (P : Params) : KeysLit P (⟨tokEs P⟩ : Array DictEntry).toList := keysLit_map P tokL
theorem tok_look (P : Params) : ∀ c ∈ signs5, (∃ t, nsIn (KH P) 121 (repS c 1) = some (some (.int (tok1 c) t))) ∧ (∃ t, nsIn (KH P) 121 (repS c 2) = some (some (.int (tok2 c) t))) ∧ nsIn (KH P) 121 (repS c 3) = some none := by
  intro c hc
  unfold signs5 at hc
  rcases List.mem_cons.mp hc with rfl | hc
  · exact ⟨⟨2319, by kernel_rfl⟩, ⟨2357, by kernel_rfl⟩, by kernel_rfl⟩
  rcases List.mem_cons.mp hc with rfl | hc
  · exact ⟨⟨2321, by kernel_rfl⟩, ⟨2381, by kernel_rfl⟩, by kernel_rfl⟩
  rcases List.mem_cons.mp hc with rfl | hc
  · exact ⟨⟨2327, by kernel_rfl⟩, ⟨2353, by kernel_rfl⟩, by kernel_rfl⟩
  rcases List.mem_cons.mp hc with rfl | hc
  · exact ⟨⟨2331, by kernel_rfl⟩, ⟨2341, by kernel_rfl⟩, by kernel_rfl⟩
  rcases List.mem_cons.mp hc with rfl | hc
  · exact ⟨⟨2329, by kernel_rfl⟩, ⟨2355, by kernel_rfl⟩, by kernel_rfl⟩
  cases hc
theorem rng_b {h : Heap} {r : Addr} {a b c : Int} {t u v : Tok} (_ : IsRange h r a b c t u v) : b = b := rfl
theorem len_rep (c k : Nat) : (repS c k).length = k := by show (List.replicate k c).toArray.size = k; simp
theorem sumsF_len (al be : Int) (k : Nat) : (sumsF al be k).length = k + 1 := by simp [sumsF]
theorem sumsF_get (al be : Int) (k i : Nat) (h : i ≤ k) : (sumsF al be k).getD i 0 = luc al be i := by
  unfold sumsF
  rw [List.getD_eq_getElem?_getD, List.getElem?_map, List.getElem?_range (by omega)]
  rfl
theorem luc_bound (al be : Int) (h0 : 0 ≤ al) (h1 : 0 ≤ be) (h2 : al + be ≤ 2100) : ∀ n, 0 ≤ luc al be n ∧ luc al be n ≤ 2100 ^ n := by
  intro n
  induction n using Nat.strongRecOn with
  | ind n ih =>
    match n, ih with
    | 0, _ => exact ⟨by show (0 : Int) ≤ 1; decide, by show (1 : Int) ≤ 2100 ^ 0; decide⟩
    | 1, _ => exact ⟨h0, by show al ≤ 2100 ^ 1; omega⟩
    | n + 2, ih =>
      obtain ⟨a1, a2⟩ := ih (n + 1) (by omega)
      obtain ⟨b1, b2⟩ := ih n (by omega)
      have e : luc al be (n + 2) = al * luc al be (n + 1) + be * luc al be n := by rw [luc]
      rw [e]
      refine ⟨Int.add_nonneg (Int.mul_nonneg h0 a1) (Int.mul_nonneg h1 b1), ?_⟩
      have hp : (0 : Int) ≤ 2100 ^ n := Int.pow_nonneg (by decide)
      have e1 : (2100 : Int) ^ (n + 1) = 2100 ^ n * 2100 := Int.pow_succ ..
      have e2 : (2100 : Int) ^ (n + 2) = 2100 ^ n * 2100 * 2100 := by rw [Int.pow_succ, Int.pow_succ]
      have c1 : al * luc al be (n + 1) ≤ al * (2100 ^ n * 2100) := Int.mul_le_mul_of_nonneg_left (e1 ▸ a2) h0
      have c2 : be * luc al be n ≤ be * (2100 ^ n * 2100) := Int.mul_le_mul_of_nonneg_left (by omega) h1
      have c3 : (al + be) * (2100 ^ n * 2100) ≤ 2100 * (2100 ^ n * 2100) := Int.mul_le_mul_of_nonneg_right h2 (by omega)
      rw [Int.add_mul] at c3
      rw [e2]
      omega
theorem small_4000 {z : Int} (h : z.natAbs ≤ 4000) : z.natAbs < 2 ^ 4000 :=
  Nat.lt_of_le_of_lt h (Nat.lt_of_lt_of_le (by decide : 4000 < 2 ^ 12) (Nat.pow_le_pow_right (by decide) (by decide)))
theorem luc_small (al be : Int) (h0 : 0 ≤ al) (h1 : 0 ≤ be) (h2 : al + be ≤ 2100) (n : Nat) (hn : n ≤ 20) : (luc al be n).natAbs < 2 ^ 4000 := by
  obtain ⟨a, b⟩ := luc_bound al be h0 h1 h2 n
  have h3 : (2100 : Nat) ^ n ≤ 2100 ^ 20 := Nat.pow_le_pow_right (by decide) hn
  have h4 : (2100 : Nat) ^ 20 < 2 ^ 250 := by decide +kernel
  have h5 : (2 : Nat) ^ 250 ≤ 2 ^ 4000 := Nat.pow_le_pow_right (by decide) (by decide)
  have h6 : (luc al be n).natAbs ≤ 2100 ^ n := by
    have : ((2100 ^ n : Nat) : Int) = 2100 ^ n := by simp
    omega
  exact Nat.lt_of_le_of_lt h6 (Nat.lt_of_le_of_lt h3 (Nat.lt_of_lt_of_le h4 h5))
theorem tok_small : ∀ c ∈ signs5, 0 ≤ tok1 c ∧ tok1 c ≤ 22 ∧ 0 ≤ tok2 c ∧ tok2 c ≤ 47 := by decide
theorem slice_rep : ∀ c ∈ signs5, ∀ k : Nat, k < 8 → ∀ i : Nat, i < k → ∀ j : Nat, j < min (i + 1) 3 → Txt.slice (repS c k) (some ((1 : Int) + (i : Int) - (1 + (j : Int)))) (some ((1 : Int) + (i : Int))) = repS c (j + 1) := by decide +kernel
end
section
section
variable {prog : Program} {w : World} {A A₀ : Around} {s : Shared} {K : Frag} {L : Addr} {h₀ base : Heap} {m mg mb : Str → Option Value} {news : List (Addr × Obj)} {p : Program} {loose : List Str} {mean : ExcName → Option Value}
/-- a def with cells is entered; the lines go in, all else stays -/
theorem code_holeC {env : Env} {outer : List Env} {R : Result → Shared → Prop} {name qual : Str} {params : Arguments} {body : List Stmt} {scope : Scope} {dV kV doc pm cdv ct oc : Value} {an od : Option Addr} {osl : Array (Option Value)} {f : Addr} {args : Args} {binds : List (Str × Value)}
    (B : Below A₀ base outer h₀) (F : Fr h₀ L s.heap m) (X₀ : K.In h₀) (N : News h₀ L s.heap news) (T : Top p loose mean mg mb h₀) (hA : A.frames = some (env :: outer)) (hf : env.frame = some L) (hke : env.scope.kind = .function)
    (ho : K.lookup f = some ⟨oc, od, .func (fnOf name qual params body scope dV kV doc pm an cdv ct), osl⟩) (hcd : codeIn K cdv qual = true) (hroom : A.depth < recursionLimit)
    (hbind : BindsTo s (fnOf name qual params body scope dV kV doc pm an cdv ct) args binds) (hkind : (binds.all fun y => scope.names.lookup y.1 == some .local || scope.names.lookup y.1 == some .cell) = true)
    (hnd : ((cellsFrom 0 scope.names []).map (·.1)).Nodup)
    (h : ∀ g L' h₁ tk cells, (∀ b o, b ∉ news.map (·.1) → s.heap.get? b = some o → g.get? b = some o) → Fr g L' h₁ (bindL (envOfC qual scope L' f cdv).kindOf binds fun _ => none) → News g L' h₁ (cells ++ news) →
      CellsAre (bindC (envOfC qual scope L' f cdv).kindOf binds fun _ => none) (cellsFrom (L' + 1) scope.names []) cells → Below A base (env :: outer) g → K.In g → Top p loose mean mg mb g → (∀ p ∈ news, p.1 < L') →
      wpAny (model prog w) (A.deeper (envOfC qual scope L' f cdv)) (execs body (envOfC qual scope L' f cdv))
        (fun fl s' => LeaveK h₀ L m g R (match fl with | .ret v => v | _ => .none) s')
        (fun e s' => wpAny (model prog w) (A.deeper (envOfC qual scope L' f cdv)) (leaving (envOfC qual scope L' f cdv) e) (fun _ s'' => R (.error e) s'') (fun e' s'' => R (.error e') s'') s')
        { s with heap := h₁, toks := tk })
    (hco : scope.isCoroutine = false) (hgen : scope.isGenerator = false) (hk : scope.kind = .function) : codeAny (model prog w) A (.call (.ref f) args) R s := by
  obtain ⟨FG, BG, st, lv⟩ := groundX (R := R) B F N hA hf hke
  refine codeAny_call_function hroom ((X₀.keeps F.keep) _ _ ho) rfl hco hgen rfl (codeRec_of (X₀.keeps F.keep) hcd) (hbind _ _ _ _ ?_)
  refine wpAny_newFunctionEnv_cells hk (kindsX hkind _) fun env' he s' x => ?_
  subst he
  refine ⟨(T.nolimit.keeps F.keep).keeps x.toInCall.keep, codeAny_func ?_⟩
  obtain ⟨h₁, tk, rfl, _⟩ := x.done
  have hk₁ := x.toInCall.keep
  obtain ⟨cells, NC, Y⟩ := Cl.news (h₀ := s.heap) (Nat.le_refl _) fun n c hm => ⟨x.cell n c (lookup_of_mem_nodup (cellsFrom_names scope.names 0 (s.heap.objs.size + 1) [] [] rfl ▸ hnd) hm), x.above n c hm⟩
  refine wpAny_mono (h (hideAll s.heap (news.map (fun x : Addr × Obj => x.1))) s.heap.objs.size h₁ tk cells (fun b o hb e => hideAll_get (news.map (fun x : Addr × Obj => x.1)) e hb) ⟨x.toInCall.ns, fun b o e => hk₁ b o (of_hideAll _ e), Nat.le_of_eq (hideAll_size _ _)⟩ (fun p hp => ?_) Y BG (X₀.keeps st) (T.keeps st) (fun p hp => Heap.lt_size (N p hp).1)) (fun fl s' hl => lv _ _ hl) fun _ _ y => y
  rcases List.mem_append.mp hp with hp | hp
  · refine ⟨(NC p hp).1, (NC p hp).2.1, ?_⟩
    cases q : (hideAll s.heap (news.map (·.1))).get? p.1 with
    | none => rfl
    | some o => have := of_hideAll _ q; rw [(NC p hp).2.2] at this; cases this
  · exact ⟨hk₁ _ _ (N p hp).1, Nat.ne_of_lt (Heap.lt_size (N p hp).1), hideAll_none _ (List.mem_map_of_mem hp)⟩
/-- a def with no cells of its own (it may have free ones) is entered; the lines go in, all else stays -/
theorem code_hole {env : Env} {outer : List Env} {R : Result → Shared → Prop} {name qual : Str} {params : Arguments} {body : List Stmt} {scope : Scope} {cl : List (Str × Addr)} {dV kV doc pm cdv ct : Value} {an : Option Addr} {fo : Obj} {f : Addr} {args : Args} {binds : List (Str × Value)}
    (B : Below A₀ base outer h₀) (F : Fr h₀ L s.heap m) (X₀ : K.In h₀) (N : News h₀ L s.heap news) (T : Top p loose mean mg mb h₀) (hA : A.frames = some (env :: outer)) (hf : env.frame = some L) (hke : env.scope.kind = .function)
    (ho : s.heap.get? f = some fo) (hd : fo.data = .func (fnX name qual params body scope cl dV kV doc pm an cdv ct)) (hcd : s.heap.CodeRec cdv qual) (hroom : A.depth < recursionLimit)
    (hbind : BindsTo s (fnX name qual params body scope cl dV kV doc pm an cdv ct) args binds) (hloc : ∀ y ∈ binds, scope.names.lookup y.1 = some .local)
    (h : ∀ g L' h₁, (∀ b o, b ∉ news.map (·.1) → s.heap.get? b = some o → g.get? b = some o) → Fr g L' h₁ (fun y => binds.reverse.lookup y) → News g L' h₁ news → Below A base (env :: outer) g → K.In g → Top p loose mean mg mb g → (∀ p ∈ news, p.1 < L') →
      wpAny (model prog w) (A.deeper (envX qual scope L' f cdv cl)) (execs body (envX qual scope L' f cdv cl))
        (fun fl s' => LeaveK h₀ L m g R (match fl with | .ret v => v | _ => .none) s')
        (fun e s' => wpAny (model prog w) (A.deeper (envX qual scope L' f cdv cl)) (leaving (envX qual scope L' f cdv cl) e) (fun _ s'' => R (.error e) s'') (fun e' s'' => R (.error e') s'') s')
        { s with heap := h₁, toks := s.toks + binds.length })
    (hco : scope.isCoroutine = false) (hgen : scope.isGenerator = false) (hk : scope.kind = .function)
    (hcell : ∀ x ∈ scope.names, x.2 ≠ .cell) : codeAny (model prog w) A (.call (.ref f) args) R s := by
  obtain ⟨FG, BG, st, lv⟩ := groundX (R := R) B F N hA hf hke
  refine codeAny_call_def (fd := fnX name qual params body scope cl dV kV doc pm an cdv ct) (body := body) (binds := binds) hroom ho hd (T.nolimit.keeps F.keep) hcd rfl hbind hcell hloc (fun h₁ hns hk₁ => ?_) hco hgen hk
  exact wpAny_mono (h (hideAll s.heap (news.map (fun x : Addr × Obj => x.1))) s.heap.objs.size h₁ (fun b o hb e => hideAll_get (news.map (fun x : Addr × Obj => x.1)) e hb) ⟨hns, fun b o e => hk₁ b o (of_hideAll _ e), Nat.le_of_eq (hideAll_size _ _)⟩
    (fun p hp => ⟨hk₁ _ _ (N p hp).1, Nat.ne_of_lt (Heap.lt_size (N p hp).1), hideAll_none _ (List.mem_map_of_mem hp)⟩) BG (X₀.keeps st) (T.keeps st) (fun p hp => Heap.lt_size (N p hp).1)) (fun fl s' hl => lv _ _ hl) fun _ _ y => y
end
/-- a contract over lines: the lines go in, lines come out, all else stays -/
abbrev CtrN (w : World) (f : Addr) (k : Nat) (vs : List Value) (lines : List (Addr × Obj)) (H : Heap → Prop) (R : Value → List (Addr × Obj) → Heap → Prop) : Prop :=
  ∀ (dp un : Nat) (gd : Option (List Code)) (cn : Str) (cs : Scope) (a : Addr) (ccd : Value) (cl : List (Str × Addr)) (outer : List Env) (A₀ : Around) (base h₀ : Heap) (L : Addr) (m : Str → Option Value) (s : Shared) (Q E : Value → Shared → Prop) (mean : ExcName → Option Value) (mg mb : Str → Option Value),
    Below A₀ base outer h₀ → Fr h₀ L s.heap m → (KH w.params).In h₀ → News h₀ L s.heap lines → Top topProg LX mean mg mb h₀ → cs.kind = .function → dp + k < recursionLimit → un + 8 * k < cLine → H s.heap →
    (∀ r h' tk' lines', Fr h₀ L h' m → News h₀ L h' lines' → R r lines' h' → (∀ b o, b ∉ lines.map (·.1) → s.heap.get? b = some o → h'.get? b = some o) → Q r { s with heap := h', toks := tk' }) →
    wpAny (model RW.row.prog w) (ktrTop dp un gd cn cs L a ccd cl outer) (call (.ref f) vs) Q E s
theorem useN {w : World} {f : Addr} {k : Nat} {vs : List Value} {lines : List (Addr × Obj)} {H : Heap → Prop} {R : Value → List (Addr × Obj) → Heap → Prop} {dp un : Nat} {gd : Option (List Code)} {cn : Str} {cs : Scope} {a : Addr} {ccd : Value} {cl : List (Str × Addr)} {outer : List Env} {A₀ : Around} {base h₀ : Heap} {L : Addr} {m : Str → Option Value} {s : Shared} {Q E : Value → Shared → Prop} {mean : ExcName → Option Value} {mg mb : Str → Option Value}
    (C : CtrN w f k vs lines H R) (B : Below A₀ base outer h₀) (F : Fr h₀ L s.heap m) (X : (KH w.params).In h₀) (N : News h₀ L s.heap lines) (T : Top topProg LX mean mg mb h₀) (hk : cs.kind = .function) (hd : dp + k < recursionLimit) (hu : un + 8 * k < cLine) (hH : H s.heap)
    (hret : ∀ r h' tk' lines', Fr h₀ L h' m → News h₀ L h' lines' → R r lines' h' → (∀ b o, b ∉ lines.map (·.1) → s.heap.get? b = some o → h'.get? b = some o) → Q r { s with heap := h', toks := tk' }) :
    wpAny (model RW.row.prog w) (ktrTop dp un gd cn cs L a ccd cl outer) (call (.ref f) vs) Q E s :=
  C _ _ _ _ _ _ _ _ _ _ _ _ _ _ _ _ _ _ _ _ B F X N T hk hd hu hH hret
end
section
theorem flat_rep (N : Nat) (v : Value) : (List.replicate N [v]).flatten = List.replicate N v := by
  induction N with
  | zero => rfl
  | succ N ih => rw [List.replicate_succ, List.flatten_cons, ih]; rfl
local macro_rules | `(tactic| walk_at "binaryOp RShift int int") => `(tactic| (k_here; refine hold ?_))
local macro_rules | `(tactic| walk_at "binaryOp LShift int int") => `(tactic| (k_here; refine hold ?_))
local macro_rules | `(tactic| walk_at "binaryOp BitXor int int") => `(tactic| (k_here; refine hold ?_))
local macro_rules | `(tactic| walk_at "binaryOp Mult int int") => `(tactic| (k_here; refine hold ?_))
theorem midL_eq (Lo k : Nat) : ((Lo : Int) + ((Lo + k : Nat) : Int)).fdiv (2 ^ (1 : Int).toNat) = ((Lo + k / 2 : Nat) : Int) := by
  rw [Int.fdiv_eq_ediv_of_nonneg _ (by decide)]
  show ((Lo : Int) + ((Lo + k : Nat) : Int)) / 2 = _
  omega
theorem land_high (a m : Nat) : a &&& (a / 2 ^ m * 2 ^ m) = a / 2 ^ m * 2 ^ m := by
  apply Nat.eq_of_testBit_eq
  intro i
  rw [Nat.testBit_and, Nat.testBit_mul_two_pow, Nat.testBit_div_two_pow]
  by_cases h : m ≤ i
  · rw [show i - m + m = i from by omega]
    cases a.testBit i <;> simp
  · simp [h]
theorem xor_high (x : Int) (m : Nat) (hx : 0 ≤ x) : Builtin.bitXor x (x / 2 ^ m * 2 ^ m) = x % 2 ^ m := by
  obtain ⟨a, rfl⟩ := Int.eq_ofNat_of_zero_le hx
  have e : ((a : Int) / 2 ^ m * 2 ^ m) = ((a / 2 ^ m * 2 ^ m : Nat) : Int) := by simp
  have h1 : Builtin.bitAnd (a : Int) ((a / 2 ^ m * 2 ^ m : Nat) : Int) = ((a / 2 ^ m * 2 ^ m : Nat) : Int) := by
    unfold Builtin.bitAnd
    rw [decide_eq_true (Int.natCast_nonneg a), decide_eq_true (Int.natCast_nonneg _)]
    show ((a &&& (a / 2 ^ m * 2 ^ m) : Nat) : Int) = _
    rw [land_high]
  rw [e, bitXor_and, h1, ← e]
  have := Int.emod_add_mul_ediv (a : Int) (2 ^ m)
  rw [Int.mul_comm] at this
  omega
theorem shr_eq (x : Int) (m : Nat) : x.fdiv (2 ^ ((m : Nat) : Int).toNat) = x / 2 ^ m := by
  rw [Int.toNat_natCast, Int.fdiv_eq_ediv_of_nonneg _ (Int.le_of_lt (Int.pow_pos (by decide)))]
/-- the digits as the function lays them -/
def digsT (n : Nat) (k : Nat) (x : Int) : List Int :=
  if h : k ≤ 1 then [x] else digsT n (k / 2) (x % 2 ^ (k / 2 * n)) ++ digsT n (k - k / 2) (x / 2 ^ (k / 2 * n))
termination_by k
decreasing_by all_goals omega
theorem digsT_len (n : Nat) : ∀ k x, 1 ≤ k → (digsT n k x).length = k := by
  intro k
  induction k using Nat.strongRecOn with
  | ind k ih =>
    intro x hk
    rw [digsT]
    split
    · simp; omega
    · rw [List.length_append, ih (k / 2) (by omega) _ (by omega), ih (k - k / 2) (by omega) _ (by omega)]
      omega
theorem digsT_one (n : Nat) (x : Int) : digsT n 1 x = [x] := by rw [digsT]; simp
theorem digsT_two (n k : Nat) (x : Int) (hk : 2 ≤ k) : digsT n k x = digsT n (k / 2) (x % 2 ^ (k / 2 * n)) ++ digsT n (k - k / 2) (x / 2 ^ (k / 2 * n)) := by
  rw [digsT, dif_neg (by omega)]
theorem join_digs (ns d1 d2 : List Int) (Lo k1 k2 : Nat) (h1 : d1.length = k1) (h : Lo + k1 + k2 ≤ ns.length) :
    (ns.take Lo ++ d1 ++ ns.drop (Lo + k1)).take (Lo + k1) ++ d2 ++ (ns.take Lo ++ d1 ++ ns.drop (Lo + k1)).drop (Lo + k1 + k2) = ns.take Lo ++ (d1 ++ d2) ++ ns.drop (Lo + k1 + k2) := by
  have hl : (ns.take Lo ++ d1).length = Lo + k1 := by rw [List.length_append, List.length_take]; omega
  rw [← hl, List.take_left, List.drop_length_add_append, hl, List.drop_drop]
  simp [List.append_assoc]
theorem join_len (ns d1 : List Int) (Lo k1 : Nat) (h1 : d1.length = k1) (h : Lo + k1 ≤ ns.length) : (ns.take Lo ++ d1 ++ ns.drop (Lo + k1)).length = ns.length := by
  rw [List.length_append, List.length_append, List.length_take, List.length_drop]
  omega
theorem set_digs (ns : List Int) (Lo : Nat) (x : Int) (h : Lo < ns.length) : ns.set Lo x = ns.take Lo ++ [x] ++ ns.drop (Lo + 1) := by
  rw [List.set_eq_take_append_cons_drop, if_pos h]
  simp
abbrev InC (w : World) (n : Nat) (f c' D cI cA cN : Addr) (FN oc oI oA oN : Obj) (k : Nat) : Prop :=
  ∀ (x : Int) (Lo : Nat) (ns : List Int) (vs : List Value) (nn : Nat) (tx t1 t2 : Tok), 0 ≤ x → Builtin.Int.intBits x ≤ 4000 → IntsAre vs ns → Lo + k ≤ ns.length → ns.length ≤ 1000 →
    CtrN w f (k + 1) [.int x tx, .int (Lo : Int) t1, .int ((Lo + k : Nat) : Int) t2] [(f, FN), (c', oc), (D, listOf vs.toArray nn), (cI, oI), (cA, oA), (cN, oN)] (fun _ => True)
      (fun _ lines' _ => ∃ vs', IntsAre vs' (ns.take Lo ++ digsT n k x ++ ns.drop (Lo + k)) ∧ lines' = [(f, FN), (c', oc), (D, listOf vs'.toArray nn), (cI, oI), (cA, oA), (cN, oN)])
theorem with_lines {w : World} {n : Nat} {P : Prop} {g h : Heap} {L f c' D cI cA cN l0 : Addr} {FN oc oI oA oN ol o0 : Obj} {rest : List (Addr × Obj)} (_ : News g L h ((f, FN) :: (c', oc) :: (D, ol) :: (l0, o0) :: (cI, oI) :: (cA, oA) :: (cN, oN) :: rest))
    (key : ∀ k, 1 ≤ k → k ≤ 200 → InC w n f c' D cI cA cN FN oc oI oA oN k) (use : (∀ k, 1 ≤ k → k ≤ 200 → InC w n f c' D cI cA cN FN oc oI oA oN k) → P) : P := use key
theorem fresh_of {h g : Heap} {l : List Addr} {b : Addr} (hg : ∀ b o, ¬ b ∈ l → h.get? b = some o → g.get? b = some o) (hn : g.get? b = none) (hb : ¬ b ∈ l) : h.get? b = none := by
  cases q : h.get? b with
  | none => rfl
  | some o => rw [hg b o hb q] at hn; cases hn
theorem news3 {h₀ h : Heap} {L : Addr} {p q : Addr × Obj} {r1 : Addr} {ro : Obj} (a : h.get? p.1 = some p.2 ∧ p.1 ≠ L ∧ h₀.get? p.1 = none) (b : h.get? q.1 = some q.2 ∧ q.1 ≠ L ∧ h₀.get? q.1 = none) (c : h.get? r1 = some ro ∧ r1 ≠ L ∧ h₀.get? r1 = none) : News h₀ L h [p, q, (r1, ro)] := fun x hx => by
  simp only [List.mem_cons, List.not_mem_nil, or_false] at hx
  rcases hx with rfl | rfl | rfl
  · exact a
  · exact b
  · exact c
theorem ints_if0 {a : Int} {n : Nat} {vs : List Value} (ea : a = 0) (h : IntsAre vs []) : IntsAre vs (if a = 0 then [] else digsT n 0 a) := by
  rw [if_pos ea]
  exact h
def qIn1 : Str := Str.ofString "_int2digits.<locals>.inner"
abbrev I2dR (a : Int) (n N : Nat) (hp : Heap) (lo : Nat) (r : Value) (lines' : List (Addr × Obj)) (_ : Heap) : Prop :=
  ∃ D c' oc vsc tq ws nn, r = .ref D ∧ hp.get? D = none ∧ lines' = [(D, listOf ws.toArray nn), (c', oc), (30, tabObj #[rawInt 32, rawInt 4, .ref c'])] ∧ oc.data = .fields vsc ∧ vsc[1]? = some (.str qIn1 tq) ∧ @LT.lt Nat _ 30 c' ∧ IntsAre ws (if a = 0 then [] else digsT n N a) ∧ @LE.le Nat _ lo c'
theorem c_i2d0 (w : World) (hp : Heap) (a : Int) (n : Nat) (ta tn : Tok) (N : Nat) (ha : 0 ≤ a) (hn : 0 < n) (hn2 : n ≤ 4000) (hb : Builtin.Int.intBits a ≤ 4000) (hNe : ((Builtin.Int.intBits a : Int) + (n : Int) - 1).fdiv (n : Int) = (N : Int)) (hN : N ≤ 200) (hN1 : a ≠ 0 → 1 ≤ N) (hN0 : a = 0 → N = 0) :
    CtrN w 35 (N + 5) [.int a ta, .int (n : Int) tn] [(30, tabObj #[])] (fun h => h = hp) (I2dR a n N hp 30) := by
  w_on
  unfold CtrN
  k_fill
  intro dp un gd cn cs ad ccd cl outer A₀ base h₀ L m s Q E mean mg mb B F X N0 T hk hd hu hH hret
  have C34 : CodeHd h₀ 34 30 := codeHd_of_K (c := 34) (P := 30) X (by kernel_rfl)
  have C41 : CodeHd h₀ 41 37 := codeHd_of_K (c := 41) (P := 37) X (by kernel_rfl)
  refine wpAny_call ?_
  k_dflt (refine' code_holeC ?k1 ?k2 ?k3 ?k4 ?k5 ?kA ?kF ?kK ?k6 ?k7 ?k8 ?k9 ?kB ?kD ?_ ?c2 ?c3 ?c4; (case kA => exact rfl); (case kF => exact rfl); (case kK => assumption); (case k1 => k_asm); (case k2 => k_asm); (case k3 => k_asm); (case k4 => exact N0); (case k5 => k_asm); (case k6 => k_is); (case k7 => k_is); (case k8 => ktr_room); (case k9 => exact BindsTo.of_eq rfl); (case kB => exact rfl); (case kD => decide +kernel); (case c2 => exact rfl); (case c3 => exact rfl); (case c4 => exact rfl); k_whole; intro g' L' h' tk' cells' hg9 F' N' Y' B' X' T' l1; (try k_lt l1); k_cells Y'; (have C34g := codeHd_of_K (c := 34) (P := 30) X' (by kernel_rfl)); (have C41g := codeHd_of_K (c := 41) (P := 37) X' (by kernel_rfl)); (try simp only [List.cons_append, List.nil_append] at N'); (try dsimp only))
  k_steps
  unfold Hold
  (with_reducible rename News _ _ _ _ => N5)
  refine with_lines (w := w) (n := n) N5 ?key ?use
  case key =>
    clear N5
    repeat ((with_reducible rename Fr _ _ _ _ => z1); clear z1)
    repeat ((with_reducible rename News _ _ _ _ => z1); clear z1)
    repeat ((with_reducible rename Below _ _ _ _ => z1); clear z1)
    repeat ((with_reducible rename Top _ _ _ _ _ _ => z1); clear z1)
    repeat ((with_reducible rename Frag.In _ _ => z1); clear z1)
    repeat ((with_reducible rename IntsAre _ _ => z1); clear z1)
    clear hret hH hd hu hk
    intro k
    induction k using Nat.strongRecOn with
    | ind k ih =>
    intro hk1 hk2 x Lo ns vs nn tx t1 t2 hx hbx hvs hle hln
    intro dp un gd cn cs ad ccd cl outer A₀ base h₀ L m s Q E mean mg mb B F X N0 T hk hd hu hH hret
    have l9 := N0
    refine wpAny_call ?_
    k_dflt (refine' code_hole ?k1 ?k2 ?k3 ?k4 ?k5 ?kA ?kF ?kK ?k6 ?k7 ?k8 ?k9 ?kB ?c1 ?_ ?c2 ?c3 ?c4 ?c5; (case kA => exact rfl); (case kF => exact rfl); (case kK => assumption); (case k1 => k_asm); (case k2 => k_asm); (case k3 => k_asm); (case k4 => exact N0); (case k5 => k_asm); (case k6 => exact (N0 _ (.head _)).1); (case k7 => exact rfl); (case k8 => exact codeRec_news N0 (.tail _ (.head _)) (by assumption) (by assumption)); (case k9 => ktr_room); (case kB => exact BindsTo.of_eq rfl); (case c1 => exact locs rfl); (case c2 => exact rfl); (case c3 => exact rfl); (case c4 => exact rfl); (case c5 => decide); k_whole; intro g' L' h' hg9 F' N' B' X' T' l1; (try k_lt l1); (try dsimp only))
    have hk3 : k / 2 * n ≤ 100 * 4000 := Nat.mul_le_mul (by omega) hn2
    k_steps
    · unfold Hold
      have hlv := IntsAre.length hvs
      (refine' ki_set (q := vs.set Lo (.int x tx)) ?kF9 ?kN9 ?ka9 ?kb9 ?ke9 ?kU9 ?_; (case kF9 => k_asm); (case kN9 => k_asm); (case kU9 => k_upd); (case ka9 => omega); (case kb9 => omega); (case ke9 => exact setL_of _ _ _ (by show Lo < vs.length; omega)))
      intro h5 F5 N5
      k_steps
      rename Fr g' _ _ _ => F9
      rename Fr h₀ _ _ _ => F8
      rename News h₀ _ _ _ => N8
      have ek : k = 1 := by omega
      subst ek
      exact hret _ _ _ _ F8 N8 ⟨vs.set Lo (.int x tx), by rw [digsT_one, ← set_digs ns Lo x (by omega)]; exact PySem.W.ints_set hvs _, rfl⟩ (fun b o hb e => F9.keep b o (hg9 b o hb e))
    · unfold Hold
      refine rshift_int (by decide) ?_
      rw [midL_eq]
      k_steps
      unfold Hold
      refine mul_int ?_ (mul_ok (small_4000 (by omega)) (small_4000 (by omega)))
      rw [show (((Lo + k / 2 : Nat) : Int) - (Lo : Int)) * (n : Int) = ((k / 2 * n : Nat) : Int) from by rw [show ((Lo + k / 2 : Nat) : Int) - (Lo : Int) = ((k / 2 : Nat) : Int) from by omega]; exact (Int.natCast_mul _ _).symm]
      k_steps
      unfold Hold
      refine rshift_int (by omega) ?_
      rw [shr_eq]
      have hup : 0 ≤ x / 2 ^ (k / 2 * n) := Int.ediv_nonneg hx (Int.le_of_lt (Int.pow_pos (by decide)))
      have hupb : Builtin.Int.intBits (x / 2 ^ (k / 2 * n)) ≤ 4000 := by
        have := intBits_fdiv_le (y := 2 ^ ((k / 2 * n : Nat) : Int).toNat) hbx
        rwa [shr_eq] at this
      k_steps
      unfold Hold
      refine lshift_int (by omega) (by omega) ?_
      k_steps
      unfold Hold
      refine xor_int ?_
      rw [Int.toNat_natCast, xor_high x _ hx]
      k_steps
      unfold Hold
      dsimp only [List.nil_append]
      have hlo0 : 0 ≤ x % 2 ^ (k / 2 * n) := Int.emod_nonneg _ (Int.ne_of_gt (Int.pow_pos (by decide)))
      have hlob : Builtin.Int.intBits (x % 2 ^ (k / 2 * n)) ≤ 4000 := by
        refine intBits_le_of_natAbs ?_ hbx
        have h1 := Int.emod_add_mul_ediv x (2 ^ (k / 2 * n))
        have h2 : 0 ≤ 2 ^ (k / 2 * n) * (x / 2 ^ (k / 2 * n)) := Int.mul_nonneg (Int.le_of_lt (Int.pow_pos (by decide))) hup
        omega
      ((with_unfolding_all refine' useN (ih (k / 2) (by omega) (by omega) (by omega) (x % 2 ^ (k / 2 * n)) Lo ns vs nn _ _ _ hlo0 hlob hvs (by omega) hln) ?x1 ?x2 ?x3 ?x4 ?x5 ?x6 ?x7 ?x8 ?x9 ?_); (case x1 => k_asm); (case x2 => k_asm); (case x3 => k_asm); (case x4 => k_asm); (case x5 => k_asm); (case x6 => first | rfl | assumption); (case x7 => ktr_room); (case x8 => ktr_units))
      case x9 => trivial
      rintro r h1 tk1 lines1 F1 N1 ⟨vs1, hvs1, rfl⟩ kp1
      k_steps
      unfold Hold
      dsimp only [List.nil_append]
      have hd1 := digsT_len n (k / 2) (x % 2 ^ (k / 2 * n)) (by omega)
      have hR : ((Lo + k : Nat) : Int) = ((Lo + k / 2 + (k - k / 2) : Nat) : Int) := by omega
      rw [hR]
      ((with_unfolding_all refine' useN (ih (k - k / 2) (by omega) (by omega) (by omega) (x / 2 ^ (k / 2 * n)) (Lo + k / 2) _ vs1 nn _ _ _ hup hupb hvs1 (by rw [join_len ns _ Lo (k / 2) hd1 (by omega)]; omega) (by rw [join_len ns _ Lo (k / 2) hd1 (by omega)]; omega)) ?x1 ?x2 ?x3 ?x4 ?x5 ?x6 ?x7 ?x8 ?x9 ?_); (case x1 => k_asm); (case x2 => k_asm); (case x3 => k_asm); (case x4 => k_asm); (case x5 => k_asm); (case x6 => first | rfl | assumption); (case x7 => ktr_room); (case x8 => ktr_units))
      case x9 => trivial
      rintro r2 h2 tk2 lines2 F2 N2 ⟨vs2, hvs2, rfl⟩ kp2
      rw [join_digs ns _ _ Lo (k / 2) (k - k / 2) hd1 (by omega), ← digsT_two n k x (by omega), show Lo + k / 2 + (k - k / 2) = Lo + k from by omega] at hvs2
      k_steps
      rename Fr g' _ _ _ => F9
      rename Fr h₀ _ _ _ => F8
      rename News h₀ _ _ _ => N8
      exact hret _ _ _ _ F8 N8 ⟨vs2, hvs2, rfl⟩ (fun b o hb e => F9.keep b o (hg9 b o hb e))
  case use =>
    intro key
    dsimp only [List.nil_append]
    rename (0 ≤ (_ : Int) → _ = _ * _) => e3
    have en := e3 (by rw [hNe]; omega)
    rw [hNe, show ((0 + 1 : Nat) : Int) * (N : Int) = (N : Int) from by omega] at en
    rw [en]
    have i1 := (show IntsAre _ _ by assumption)
    rw [hNe, Int.toNat_natCast, flat_rep, PySem.W.krep_flat] at i1
    rw [hNe, Int.toNat_natCast, flat_rep] at N5
    rw [show (N : Int) = ((0 + N : Nat) : Int) from by omega, show (0 : Int) = ((0 : Nat) : Int) from rfl]
    (with_unfolding_all refine' useN (key N (hN1 (by assumption)) hN a 0 (List.replicate N 0) _ 0 _ _ _ ha hb i1 (by simp) (by simp; omega)) ?x1 ?x2 ?x3 ?x4 ?x5 ?x6 ?x7 ?x8 ?x9 ?_); (case x1 => k_asm); (case x2 => k_asm); (case x3 => k_asm); (case x4 => (intro p hp; (simp only [List.mem_cons, List.not_mem_nil, or_false] at hp); rcases hp with rfl | rfl | rfl | rfl | rfl | rfl <;> exact N5 _ (by k_mem))); (case x5 => k_asm); (case x6 => first | rfl | assumption); (case x7 => ktr_room); (case x8 => ktr_units)
    case x9 => trivial
    rintro r h1 tk1 lines1 F1 N1 ⟨vs1, hvs1, rfl⟩ kp1
    k_steps
    rename Fr h₀ _ _ _ => F8
    rename News h₀ _ _ _ => N8
    rename Fr g' _ _ _ => F9
    rename News g' _ _ _ => N9
    have y30 := (N5 _ (.tail _ (.tail _ (.tail _ (.tail _ (.tail _ (.tail _ (.tail _ (.head _)))))))))
    have z30 := kp1 30 _ (by intro hm; simp only [List.map_cons, List.map_nil, List.mem_cons, List.not_mem_nil, or_false] at hm; rcases hm with e | e | e | e | e | e <;> exact (neN (by omega)) e) y30.1
    have zD := N9 _ (List.Mem.tail _ (List.Mem.tail _ (List.Mem.head _)))
    have zn := fresh_of hg9 zD.2.2 (by intro hm; simp only [List.map_cons, List.map_nil, List.mem_cons, List.not_mem_nil, or_false] at hm; exact (neN (by omega)) hm)
    have hr0 : IntsAre vs1 (if a = 0 then [] else digsT n N a) := by
      rw [if_neg (by assumption)]
      simpa using hvs1
    have NF := news3 (N8 _ (.tail _ (.tail _ (.head _)))) (N8 _ (.tail _ (.head _))) ⟨z30, (N0 _ (.head _)).2⟩
    exact hret _ _ _ _ F8 NF ⟨_, _, _, _, _, vs1, 0, rfl, hH ▸ zn, rfl, by assumption, by assumption, by omega, hr0, by omega⟩ (fun b o hb e => F9.keep b o (hg9 b o hb e))
  rename Fr h₀ _ _ _ => F8
  rename News h₀ _ _ _ => N8
  rename Fr g' _ _ _ => F9
  rename News g' _ _ _ => N9
  have ea : a = 0 := by assumption
  have hN00 := hN0 ea
  subst hN00
  have i1 := (show IntsAre _ _ by assumption)
  rw [hNe, Int.toNat_natCast, flat_rep, PySem.W.krep_flat] at i1
  rw [hNe, Int.toNat_natCast, flat_rep] at N8 N9
  have zD := N9 _ (List.Mem.tail _ (List.Mem.tail _ (List.Mem.head _)))
  have zn := fresh_of hg9 zD.2.2 (by intro hm; simp only [List.map_cons, List.map_nil, List.mem_cons, List.not_mem_nil, or_false] at hm; exact (neN (by omega)) hm)
  have hr0 := ints_if0 (n := n) ea i1
  have NF := news3 (N8 _ (.tail _ (.tail _ (.head _)))) (N8 _ (.tail _ (.head _))) ⟨(N8 _ (.tail _ (.tail _ (.tail _ (.tail _ (.tail _ (.tail _ (.tail _ (.head _))))))))).1, (N0 _ (.head _)).2⟩
  exact hret _ _ _ _ F8 NF ⟨_, _, _, _, _, _, 0, rfl, hH ▸ zn, rfl, by assumption, by assumption, by omega, hr0, by omega⟩ (fun b o hb e => F9.keep b o (hg9 b o hb e))
end
section
theorem with_linesH {w : World} {n : Nat} {P : Prop} {g h : Heap} {L f c' D cI cA cN l0 : Addr} {FN oc oI oA oN ol o0 : Obj} {rest : List (Addr × Obj)} (_ : News g L h ((f, FN) :: (D, ol) :: (l0, o0) :: (cI, oI) :: (cA, oA) :: (cN, oN) :: (c', oc) :: rest))
    (key : ∀ k, 1 ≤ k → k ≤ 200 → InC w n f c' D cI cA cN FN oc oI oA oN k) (use : (∀ k, 1 ≤ k → k ≤ 200 → InC w n f c' D cI cA cN FN oc oI oA oN k) → P) : P := use key
local macro_rules | `(tactic| walk_at "binaryOp RShift int int") => `(tactic| (k_here; refine hold ?_))
local macro_rules | `(tactic| walk_at "binaryOp LShift int int") => `(tactic| (k_here; refine hold ?_))
local macro_rules | `(tactic| walk_at "binaryOp BitXor int int") => `(tactic| (k_here; refine hold ?_))
local macro_rules | `(tactic| walk_at "binaryOp Mult int int") => `(tactic| (k_here; refine hold ?_))
theorem c_i2d1 (w : World) (hp : Heap) (cc : Addr) (occ : Obj) (vcc : Array Value) (tcc : Tok) (dcc : occ.data = .fields vcc) (dcv : vcc[1]? = some (.str qIn1 tcc)) (hcc : @LT.lt Nat _ 30 cc) (a : Int) (n : Nat) (ta tn : Tok) (N : Nat) (ha : 0 ≤ a) (hn : 0 < n) (hn2 : n ≤ 4000) (hb : Builtin.Int.intBits a ≤ 4000) (hNe : ((Builtin.Int.intBits a : Int) + (n : Int) - 1).fdiv (n : Int) = (N : Int)) (hN : N ≤ 200) (hN1 : a ≠ 0 → 1 ≤ N) (hN0 : a = 0 → N = 0) :
    CtrN w 35 (N + 5) [.int a ta, .int (n : Int) tn] [(cc, occ), (30, tabObj #[rawInt 32, rawInt 4, .ref cc])] (fun h => h = hp) (I2dR a n N hp cc) := by
  w_on
  unfold CtrN
  k_fill
  intro dp un gd cn cs ad ccd cl outer A₀ base h₀ L m s Q E mean mg mb B F X N0 T hk hd hu hH hret
  have C34 : CodeHd h₀ 34 30 := codeHd_of_K (c := 34) (P := 30) X (by kernel_rfl)
  have C41 : CodeHd h₀ 41 37 := codeHd_of_K (c := 41) (P := 37) X (by kernel_rfl)
  refine wpAny_call ?_
  k_dflt (refine' code_holeC ?k1 ?k2 ?k3 ?k4 ?k5 ?kA ?kF ?kK ?k6 ?k7 ?k8 ?k9 ?kB ?kD ?_ ?c2 ?c3 ?c4; (case kA => exact rfl); (case kF => exact rfl); (case kK => assumption); (case k1 => k_asm); (case k2 => k_asm); (case k3 => k_asm); (case k4 => exact N0); (case k5 => k_asm); (case k6 => k_is); (case k7 => k_is); (case k8 => ktr_room); (case k9 => exact BindsTo.of_eq rfl); (case kB => exact rfl); (case kD => decide +kernel); (case c2 => exact rfl); (case c3 => exact rfl); (case c4 => exact rfl); k_whole; intro g' L' h' tk' cells' hg9 F' N' Y' B' X' T' l1; (try k_lt l1); k_cells Y'; (have C34g := codeHd_of_K (c := 34) (P := 30) X' (by kernel_rfl)); (have C41g := codeHd_of_K (c := 41) (P := 37) X' (by kernel_rfl)); (try simp only [List.cons_append, List.nil_append] at N'); (try dsimp only))
  k_steps
  unfold Hold
  (with_reducible rename News _ _ _ _ => N5)
  refine with_linesH (w := w) (n := n) N5 ?key ?use
  case key =>
    clear N5
    repeat ((with_reducible rename Fr _ _ _ _ => z1); clear z1)
    repeat ((with_reducible rename News _ _ _ _ => z1); clear z1)
    repeat ((with_reducible rename Below _ _ _ _ => z1); clear z1)
    repeat ((with_reducible rename Top _ _ _ _ _ _ => z1); clear z1)
    repeat ((with_reducible rename Frag.In _ _ => z1); clear z1)
    repeat ((with_reducible rename IntsAre _ _ => z1); clear z1)
    clear hret hH hd hu hk
    intro k
    induction k using Nat.strongRecOn with
    | ind k ih =>
    intro hk1 hk2 x Lo ns vs nn tx t1 t2 hx hbx hvs hle hln
    intro dp un gd cn cs ad ccd cl outer A₀ base h₀ L m s Q E mean mg mb B F X N0 T hk hd hu hH hret
    have l9 := N0
    refine wpAny_call ?_
    k_dflt (refine' code_hole ?k1 ?k2 ?k3 ?k4 ?k5 ?kA ?kF ?kK ?k6 ?k7 ?k8 ?k9 ?kB ?c1 ?_ ?c2 ?c3 ?c4 ?c5; (case kA => exact rfl); (case kF => exact rfl); (case kK => assumption); (case k1 => k_asm); (case k2 => k_asm); (case k3 => k_asm); (case k4 => exact N0); (case k5 => k_asm); (case k6 => exact (N0 _ (.head _)).1); (case k7 => exact rfl); (case k8 => exact codeRec_news N0 (.tail _ (.head _)) dcc dcv); (case k9 => ktr_room); (case kB => exact BindsTo.of_eq rfl); (case c1 => exact locs rfl); (case c2 => exact rfl); (case c3 => exact rfl); (case c4 => exact rfl); (case c5 => decide); k_whole; intro g' L' h' hg9 F' N' B' X' T' l1; (try k_lt l1); (try dsimp only))
    have hk3 : k / 2 * n ≤ 100 * 4000 := Nat.mul_le_mul (by omega) hn2
    k_steps
    · unfold Hold
      have hlv := IntsAre.length hvs
      (refine' ki_set (q := vs.set Lo (.int x tx)) ?kF9 ?kN9 ?ka9 ?kb9 ?ke9 ?kU9 ?_; (case kF9 => k_asm); (case kN9 => k_asm); (case kU9 => k_upd); (case ka9 => omega); (case kb9 => omega); (case ke9 => exact setL_of _ _ _ (by show Lo < vs.length; omega)))
      intro h5 F5 N5
      k_steps
      rename Fr g' _ _ _ => F9
      rename Fr h₀ _ _ _ => F8
      rename News h₀ _ _ _ => N8
      have ek : k = 1 := by omega
      subst ek
      exact hret _ _ _ _ F8 N8 ⟨vs.set Lo (.int x tx), by rw [digsT_one, ← set_digs ns Lo x (by omega)]; exact PySem.W.ints_set hvs _, rfl⟩ (fun b o hb e => F9.keep b o (hg9 b o hb e))
    · unfold Hold
      refine rshift_int (by decide) ?_
      rw [midL_eq]
      k_steps
      unfold Hold
      refine mul_int ?_ (mul_ok (small_4000 (by omega)) (small_4000 (by omega)))
      rw [show (((Lo + k / 2 : Nat) : Int) - (Lo : Int)) * (n : Int) = ((k / 2 * n : Nat) : Int) from by rw [show ((Lo + k / 2 : Nat) : Int) - (Lo : Int) = ((k / 2 : Nat) : Int) from by omega]; exact (Int.natCast_mul _ _).symm]
      k_steps
      unfold Hold
      refine rshift_int (by omega) ?_
      rw [shr_eq]
      have hup : 0 ≤ x / 2 ^ (k / 2 * n) := Int.ediv_nonneg hx (Int.le_of_lt (Int.pow_pos (by decide)))
      have hupb : Builtin.Int.intBits (x / 2 ^ (k / 2 * n)) ≤ 4000 := by
        have := intBits_fdiv_le (y := 2 ^ ((k / 2 * n : Nat) : Int).toNat) hbx
        rwa [shr_eq] at this
      k_steps
      unfold Hold
      refine lshift_int (by omega) (by omega) ?_
      k_steps
      unfold Hold
      refine xor_int ?_
      rw [Int.toNat_natCast, xor_high x _ hx]
      k_steps
      unfold Hold
      dsimp only [List.nil_append]
      have hlo0 : 0 ≤ x % 2 ^ (k / 2 * n) := Int.emod_nonneg _ (Int.ne_of_gt (Int.pow_pos (by decide)))
      have hlob : Builtin.Int.intBits (x % 2 ^ (k / 2 * n)) ≤ 4000 := by
        refine intBits_le_of_natAbs ?_ hbx
        have h1 := Int.emod_add_mul_ediv x (2 ^ (k / 2 * n))
        have h2 : 0 ≤ 2 ^ (k / 2 * n) * (x / 2 ^ (k / 2 * n)) := Int.mul_nonneg (Int.le_of_lt (Int.pow_pos (by decide))) hup
        omega
      ((with_unfolding_all refine' useN (ih (k / 2) (by omega) (by omega) (by omega) (x % 2 ^ (k / 2 * n)) Lo ns vs nn _ _ _ hlo0 hlob hvs (by omega) hln) ?x1 ?x2 ?x3 ?x4 ?x5 ?x6 ?x7 ?x8 ?x9 ?_); (case x1 => k_asm); (case x2 => k_asm); (case x3 => k_asm); (case x4 => k_asm); (case x5 => k_asm); (case x6 => first | rfl | assumption); (case x7 => ktr_room); (case x8 => ktr_units))
      case x9 => trivial
      rintro r h1 tk1 lines1 F1 N1 ⟨vs1, hvs1, rfl⟩ kp1
      k_steps
      unfold Hold
      dsimp only [List.nil_append]
      have hd1 := digsT_len n (k / 2) (x % 2 ^ (k / 2 * n)) (by omega)
      have hR : ((Lo + k : Nat) : Int) = ((Lo + k / 2 + (k - k / 2) : Nat) : Int) := by omega
      rw [hR]
      ((with_unfolding_all refine' useN (ih (k - k / 2) (by omega) (by omega) (by omega) (x / 2 ^ (k / 2 * n)) (Lo + k / 2) _ vs1 nn _ _ _ hup hupb hvs1 (by rw [join_len ns _ Lo (k / 2) hd1 (by omega)]; omega) (by rw [join_len ns _ Lo (k / 2) hd1 (by omega)]; omega)) ?x1 ?x2 ?x3 ?x4 ?x5 ?x6 ?x7 ?x8 ?x9 ?_); (case x1 => k_asm); (case x2 => k_asm); (case x3 => k_asm); (case x4 => k_asm); (case x5 => k_asm); (case x6 => first | rfl | assumption); (case x7 => ktr_room); (case x8 => ktr_units))
      case x9 => trivial
      rintro r2 h2 tk2 lines2 F2 N2 ⟨vs2, hvs2, rfl⟩ kp2
      rw [join_digs ns _ _ Lo (k / 2) (k - k / 2) hd1 (by omega), ← digsT_two n k x (by omega), show Lo + k / 2 + (k - k / 2) = Lo + k from by omega] at hvs2
      k_steps
      rename Fr g' _ _ _ => F9
      rename Fr h₀ _ _ _ => F8
      rename News h₀ _ _ _ => N8
      exact hret _ _ _ _ F8 N8 ⟨vs2, hvs2, rfl⟩ (fun b o hb e => F9.keep b o (hg9 b o hb e))
  case use =>
    intro key
    dsimp only [List.nil_append]
    rename (0 ≤ (_ : Int) → _ = _ * _) => e3
    have en := e3 (by rw [hNe]; omega)
    rw [hNe, show ((0 + 1 : Nat) : Int) * (N : Int) = (N : Int) from by omega] at en
    rw [en]
    have i1 := (show IntsAre _ _ by assumption)
    rw [hNe, Int.toNat_natCast, flat_rep, PySem.W.krep_flat] at i1
    rw [hNe, Int.toNat_natCast, flat_rep] at N5
    rw [show (N : Int) = ((0 + N : Nat) : Int) from by omega, show (0 : Int) = ((0 : Nat) : Int) from rfl]
    (with_unfolding_all refine' useN (key N (hN1 (by assumption)) hN a 0 (List.replicate N 0) _ 0 _ _ _ ha hb i1 (by simp) (by simp; omega)) ?x1 ?x2 ?x3 ?x4 ?x5 ?x6 ?x7 ?x8 ?x9 ?_); (case x1 => k_asm); (case x2 => k_asm); (case x3 => k_asm); (case x4 => (intro p hp; (simp only [List.mem_cons, List.not_mem_nil, or_false] at hp); rcases hp with rfl | rfl | rfl | rfl | rfl | rfl <;> exact N5 _ (by k_mem))); (case x5 => k_asm); (case x6 => first | rfl | assumption); (case x7 => ktr_room); (case x8 => ktr_units)
    case x9 => trivial
    rintro r h1 tk1 lines1 F1 N1 ⟨vs1, hvs1, rfl⟩ kp1
    k_steps
    rename Fr h₀ _ _ _ => F8
    rename News h₀ _ _ _ => N8
    rename Fr g' _ _ _ => F9
    rename News g' _ _ _ => N9
    have y30 := (N5 _ (.tail _ (.tail _ (.tail _ (.tail _ (.tail _ (.tail _ (.tail _ (.head _)))))))))
    have z30 := kp1 30 _ (by intro hm; simp only [List.map_cons, List.map_nil, List.mem_cons, List.not_mem_nil, or_false] at hm; rcases hm with e | e | e | e | e | e <;> exact (neN (by omega)) e) y30.1
    have zD := N9 _ (List.Mem.tail _ (List.Mem.tail _ (List.Mem.head _)))
    have zn := fresh_of hg9 zD.2.2 (by intro hm; simp only [List.map_cons, List.map_nil, List.mem_cons, List.not_mem_nil, or_false] at hm; rcases hm with e | e <;> exact (neN (by omega)) e)
    have hr0 : IntsAre vs1 (if a = 0 then [] else digsT n N a) := by
      rw [if_neg (by assumption)]
      simpa using hvs1
    have NF := news3 (N8 _ (.tail _ (.tail _ (.head _)))) (N8 _ (.tail _ (.head _))) ⟨z30, (N0 _ (.tail _ (.head _))).2⟩
    exact hret _ _ _ _ F8 NF ⟨_, _, _, _, _, vs1, 0, rfl, hH ▸ zn, rfl, dcc, dcv, hcc, hr0, Nat.le_refl _⟩ (fun b o hb e => F9.keep b o (hg9 b o hb e))
  rename Fr h₀ _ _ _ => F8
  rename News h₀ _ _ _ => N8
  rename Fr g' _ _ _ => F9
  rename News g' _ _ _ => N9
  have ea : a = 0 := by assumption
  have hN00 := hN0 ea
  subst hN00
  have i1 := (show IntsAre _ _ by assumption)
  rw [hNe, Int.toNat_natCast, flat_rep, PySem.W.krep_flat] at i1
  rw [hNe, Int.toNat_natCast, flat_rep] at N8 N9
  have zD := N9 _ (List.Mem.tail _ (List.Mem.head _))
  have zn := fresh_of hg9 zD.2.2 (by intro hm; simp only [List.map_cons, List.map_nil, List.mem_cons, List.not_mem_nil, or_false] at hm; rcases hm with e | e <;> exact (neN (by omega)) e)
  have hr0 := ints_if0 (n := n) ea i1
  have NF := news3 (N8 _ (.tail _ (.head _))) (N8 _ (.tail _ (.tail _ (.tail _ (.tail _ (.tail _ (.tail _ (.head _)))))))) ⟨(N8 _ (.tail _ (.tail _ (.tail _ (.tail _ (.tail _ (.tail _ (.tail _ (.head _))))))))).1, (N0 _ (.tail _ (.head _))).2⟩
  exact hret _ _ _ _ F8 NF ⟨_, _, _, _, _, _, 0, rfl, hH ▸ zn, rfl, dcc, dcv, hcc, hr0, Nat.le_refl _⟩ (fun b o hb e => F9.keep b o (hg9 b o hb e))
end
section
/-- the value of digits, lowest first -/
def valD (n : Nat) : List Int → Int
  | [] => 0
  | d :: r => d + 2 ^ n * valD n r
theorem valD_append (n : Nat) : ∀ a b : List Int, valD n (a ++ b) = valD n a + 2 ^ (a.length * n) * valD n b
  | [], b => by simp [valD]
  | d :: r, b => by
    rw [List.cons_append, valD, valD_append n r b, valD, List.length_cons, Nat.succ_mul, Nat.add_comm (r.length * n) n, Int.pow_add, Int.mul_add, Int.mul_assoc, Int.add_assoc]
theorem valD_bound (n : Nat) : ∀ a : List Int, (∀ d ∈ a, 0 ≤ d ∧ d < 2 ^ n) → 0 ≤ valD n a ∧ valD n a < 2 ^ (a.length * n)
  | [], _ => by simp [valD]
  | d :: r, h => by
    obtain ⟨h1, h2⟩ := h d (.head _)
    obtain ⟨h3, h4⟩ := valD_bound n r fun x hx => h x (.tail _ hx)
    have hp : (0 : Int) < 2 ^ n := Int.pow_pos (by decide)
    rw [valD, List.length_cons, Nat.succ_mul, Nat.add_comm (r.length * n) n, Int.pow_add]
    have h5 : 2 ^ n * valD n r ≤ 2 ^ n * (2 ^ (r.length * n) - 1) := Int.mul_le_mul_of_nonneg_left (by omega) (Int.le_of_lt hp)
    rw [Int.mul_sub, Int.mul_one] at h5
    exact ⟨Int.add_nonneg h1 (Int.mul_nonneg (Int.le_of_lt hp) h3), by omega⟩
theorem val_leaf (n : Nat) (ns : List Int) (Lo : Nat) (h : Lo < ns.length) : valD n ((ns.drop Lo).take 1) = ns.getD Lo 0 := by
  rw [List.drop_eq_getElem_cons h, List.getD_eq_getElem?_getD, List.getElem?_eq_getElem h]
  simp only [List.take_succ_cons, List.take_zero, valD, Int.mul_zero, Int.add_zero, Option.getD_some]
theorem val_bits (n : Nat) (ns : List Int) (hds : ∀ d ∈ ns, 0 ≤ d ∧ d < 2 ^ n) (hn2 : n ≤ 4000) (a b : Nat) (hb : b ≤ 200) : Builtin.Int.intBits (valD n ((ns.drop a).take b)) ≤ 800000 := by
  obtain ⟨h1, h2⟩ := valD_bound n ((ns.drop a).take b) fun d hd => hds d (List.mem_of_mem_drop (List.mem_of_mem_take hd))
  have h3 : ((ns.drop a).take b).length * n ≤ 200 * 4000 := Nat.mul_le_mul (by rw [List.length_take]; omega) hn2
  refine Nat.le_trans (PyProof.Rows.intBits_le (k := ((ns.drop a).take b).length * n) ?_) h3
  have : ((2 ^ (((ns.drop a).take b).length * n) : Nat) : Int) = 2 ^ (((ns.drop a).take b).length * n) := by simp
  omega
theorem val_split (n : Nat) (ns : List Int) (Lo k : Nat) (h : Lo + k ≤ ns.length) : valD n ((ns.drop Lo).take k) = valD n ((ns.drop (Lo + k / 2)).take (k - k / 2)) * 2 ^ (k / 2 * n) + valD n ((ns.drop Lo).take (k / 2)) := by
  have e : (ns.drop Lo).take k = (ns.drop Lo).take (k / 2) ++ (ns.drop (Lo + k / 2)).take (k - k / 2) := by
    rw [← List.drop_drop, ← List.take_add]
    congr 1
    omega
  have hl : ((ns.drop Lo).take (k / 2)).length = k / 2 := by rw [List.length_take, List.length_drop]; omega
  rw [e, valD_append, hl, Int.mul_comm (2 ^ (k / 2 * n)), Int.add_comm]
abbrev InD (w : World) (n : Nat) (D : Addr) (vs : List Value) (ns : List Int) (f c' cI cN cD : Addr) (FN oc oI oN oD : Obj) (k : Nat) : Prop :=
  ∀ (Lo : Nat) (t1 t2 : Tok), Lo + k ≤ ns.length →
    CtrN w f (k + 1) [.int (Lo : Int) t1, .int ((Lo + k : Nat) : Int) t2] [(f, FN), (c', oc), (cI, oI), (cN, oN), (cD, oD)] (fun h => h.IsList D vs.toArray)
      (fun r lines' _ => (∃ t, r = .int (valD n ((ns.drop Lo).take k)) t) ∧ lines' = [(f, FN), (c', oc), (cI, oI), (cN, oN), (cD, oD)])
theorem with_linesD {w : World} {n : Nat} {D : Addr} {vs : List Value} {ns : List Int} {P : Prop} {g h : Heap} {L f c' cI cN cD : Addr} {FN oc oI oN oD : Obj} {rest : List (Addr × Obj)} (_ : News g L h ((f, FN) :: (c', oc) :: (cI, oI) :: (cN, oN) :: (cD, oD) :: rest))
    (key : ∀ k, 1 ≤ k → k ≤ 200 → InD w n D vs ns f c' cI cN cD FN oc oI oN oD k) (use : (∀ k, 1 ≤ k → k ≤ 200 → InD w n D vs ns f c' cI cN cD FN oc oI oN oD k) → P) : P := use key
theorem isList_ne {h : Heap} {D b : Addr} {its : Array Value} {o : Obj} (hl : h.IsList D its) (ho : h.get? b = some o) (hd : ∀ n, o.data ≠ .seq its n) : D ≠ b := by
  rintro rfl
  obtain ⟨o', e, _, n, q⟩ := hl
  rw [ho] at e
  cases e
  exact hd n q
local macro_rules | `(tactic| walk_at "binaryOp RShift int int") => `(tactic| (k_here; refine hold ?_))
local macro_rules | `(tactic| walk_at "binaryOp LShift int int") => `(tactic| (k_here; refine hold ?_))
local macro_rules | `(tactic| walk_at "binaryOp Mult int int") => `(tactic| (k_here; refine hold ?_))
def qIn2 : Str := Str.ofString "_digits2int.<locals>.inner"
abbrev D2iR (n : Nat) (ns : List Int) (lo : Nat) (r : Value) (lines' : List (Addr × Obj)) (_ : Heap) : Prop :=
  ∃ t c' oc vsc tq, r = .int (valD n ns) t ∧ lines' = [(c', oc), (37, tabObj #[rawInt 47, rawInt 4, .ref c'])] ∧ oc.data = .fields vsc ∧ vsc[1]? = some (.str qIn2 tq) ∧ @LT.lt Nat _ 37 c' ∧ @LE.le Nat _ lo c'
theorem news2 {h₀ h : Heap} {L : Addr} {p : Addr × Obj} {r1 : Addr} {ro : Obj} (a : h.get? p.1 = some p.2 ∧ p.1 ≠ L ∧ h₀.get? p.1 = none) (c : h.get? r1 = some ro ∧ r1 ≠ L ∧ h₀.get? r1 = none) : News h₀ L h [p, (r1, ro)] := fun x hx => by
  simp only [List.mem_cons, List.not_mem_nil, or_false] at hx
  rcases hx with rfl | rfl
  · exact a
  · exact c
theorem c_d2i0 (w : World) (hp : Heap) (D : Addr) (vs : List Value) (ns : List Int) (hi : IntsAre vs ns) (n : Nat) (tn : Tok) (hn2 : n ≤ 4000) (hN : ns.length ≤ 200) (hds : ∀ d ∈ ns, 0 ≤ d ∧ d < 2 ^ n) :
    CtrN w 42 (ns.length + 5) [.ref D, .int (n : Int) tn] [(37, tabObj #[])] (fun h => h = hp ∧ h.IsList D vs.toArray) (D2iR n ns 37) := by
  w_on
  unfold CtrN
  k_fill
  intro dp un gd cn cs ad ccd cl outer A₀ base h₀ L m s Q E mean mg mb B F X N0 T hk hd hu hH hret
  have C34 : CodeHd h₀ 34 30 := codeHd_of_K (c := 34) (P := 30) X (by kernel_rfl)
  have C41 : CodeHd h₀ 41 37 := codeHd_of_K (c := 41) (P := 37) X (by kernel_rfl)
  refine wpAny_call ?_
  obtain ⟨hHp, hHl⟩ := hH
  have hlen := IntsAre.length hi
  have hD37 : D ≠ 37 := by
    rintro rfl
    obtain ⟨o, e, hc, _⟩ := hHl
    rw [(N0 _ (.head _)).1] at e
    cases e
    cases hc
  k_dflt (refine' code_holeC ?k1 ?k2 ?k3 ?k4 ?k5 ?kA ?kF ?kK ?k6 ?k7 ?k8 ?k9 ?kB ?kD ?_ ?c2 ?c3 ?c4; (case kA => exact rfl); (case kF => exact rfl); (case kK => assumption); (case k1 => k_asm); (case k2 => k_asm); (case k3 => k_asm); (case k4 => exact N0); (case k5 => k_asm); (case k6 => k_is); (case k7 => k_is); (case k8 => ktr_room); (case k9 => exact BindsTo.of_eq rfl); (case kB => exact rfl); (case kD => decide +kernel); (case c2 => exact rfl); (case c3 => exact rfl); (case c4 => exact rfl); k_whole; intro g' L' h' tk' cells' hg9 F' N' Y' B' X' T' l1; (try k_lt l1); k_cells Y'; (have C34g := codeHd_of_K (c := 34) (P := 30) X' (by kernel_rfl)); (have C41g := codeHd_of_K (c := 41) (P := 37) X' (by kernel_rfl)); (try simp only [List.cons_append, List.nil_append] at N'); (try dsimp only))
  have hHg : g'.IsList D vs.toArray := hHl.at fun o e => hg9 D o (by intro hm; simp only [List.map_cons, List.map_nil, List.mem_cons, List.not_mem_nil, or_false] at hm; exact hD37 hm) e
  k_steps
  · unfold Hold
    (with_reducible rename News _ _ _ _ => N5)
    refine with_linesD (w := w) (n := n) (D := D) (vs := vs) (ns := ns) N5 ?key ?use
    case key =>
      clear N5 hHg
      repeat ((with_reducible rename Fr _ _ _ _ => z1); clear z1)
      repeat ((with_reducible rename News _ _ _ _ => z1); clear z1)
      repeat ((with_reducible rename Below _ _ _ _ => z1); clear z1)
      repeat ((with_reducible rename Top _ _ _ _ _ _ => z1); clear z1)
      repeat ((with_reducible rename Frag.In _ _ => z1); clear z1)
      clear hret hHp hHl hd hu hk
      intro k
      induction k using Nat.strongRecOn with
      | ind k ih =>
      intro hk1 hk2 Lo t1 t2 hle
      intro dp un gd cn cs ad ccd cl outer A₀ base h₀ L m s Q E mean mg mb B F X N0 T hk hd hu hH hret
      refine wpAny_call ?_
      k_dflt (refine' code_hole ?k1 ?k2 ?k3 ?k4 ?k5 ?kA ?kF ?kK ?k6 ?k7 ?k8 ?k9 ?kB ?c1 ?_ ?c2 ?c3 ?c4 ?c5; (case kA => exact rfl); (case kF => exact rfl); (case kK => assumption); (case k1 => k_asm); (case k2 => k_asm); (case k3 => k_asm); (case k4 => exact N0); (case k5 => k_asm); (case k6 => exact (N0 _ (.head _)).1); (case k7 => exact rfl); (case k8 => exact codeRec_news N0 (.tail _ (.head _)) (by assumption) (by assumption)); (case k9 => ktr_room); (case kB => exact BindsTo.of_eq rfl); (case c1 => exact locs rfl); (case c2 => exact rfl); (case c3 => exact rfl); (case c4 => exact rfl); (case c5 => decide); k_whole; intro g' L' h' hg9 F' N' B' X' T' l1; (try k_lt l1); (try dsimp only))
      have hDg : g'.IsList D vs.toArray := hH.at fun o e => hg9 D o (by
        intro hm
        simp only [List.map_cons, List.map_nil, List.mem_cons, List.not_mem_nil, or_false] at hm
        rcases hm with e | e | e | e | e
        · exact isList_ne hH (N0 _ (.head _)).1 (fun _ q => by cases q) e
        · exact isList_ne hH (N0 _ (.tail _ (.head _))).1 (fun _ q => by simp_all) e
        · exact isList_ne hH (N0 _ (.tail _ (.tail _ (.head _)))).1 (fun _ q => by simp_all) e
        · exact isList_ne hH (N0 _ (.tail _ (.tail _ (.tail _ (.head _))))).1 (fun _ q => by simp_all) e
        · exact isList_ne hH (N0 _ (.tail _ (.tail _ (.tail _ (.tail _ (.head _)))))).1 (fun _ q => by simp_all) e) e
      have hk3 : k / 2 * n ≤ 100 * 4000 := Nat.mul_le_mul (by omega) hn2
      k_steps
      · rename Fr g' _ _ _ => F9
        rename Fr h₀ _ _ _ => F8
        rename News h₀ _ _ _ => N8
        have ek : k = 1 := by omega
        subst ek
        have ev : valD n ((ns.drop Lo).take 1) = ns.getD ((Lo : Nat) : Int).toNat 0 := by
          rw [Int.toNat_natCast]
          exact val_leaf n ns Lo (by omega)
        exact hret _ _ _ _ F8 N8 ⟨⟨_, by rw [ev]⟩, rfl⟩ (fun b o hb e => F9.keep b o (hg9 b o hb e))
      · unfold Hold
        refine rshift_int (by decide) ?_
        rw [midL_eq]
        k_steps
        unfold Hold
        refine mul_int ?_ (mul_ok (small_4000 (by omega)) (small_4000 (by omega)))
        rw [show (((Lo + k / 2 : Nat) : Int) - (Lo : Int)) * (n : Int) = ((k / 2 * n : Nat) : Int) from by rw [show ((Lo + k / 2 : Nat) : Int) - (Lo : Int) = ((k / 2 : Nat) : Int) from by omega]; exact (Int.natCast_mul _ _).symm]
        k_steps
        unfold Hold
        dsimp only [List.nil_append]
        have hR : ((Lo + k : Nat) : Int) = ((Lo + k / 2 + (k - k / 2) : Nat) : Int) := by omega
        rw [hR]
        ((with_unfolding_all refine' useN (ih (k - k / 2) (by omega) (by omega) (by omega) (Lo + k / 2) _ _ (by omega)) ?x1 ?x2 ?x3 ?x4 ?x5 ?x6 ?x7 ?x8 ?x9 ?_); (case x1 => k_asm); (case x2 => k_asm); (case x3 => k_asm); (case x4 => k_asm); (case x5 => k_asm); (case x6 => first | rfl | assumption); (case x7 => ktr_room); (case x8 => ktr_units))
        case x9 => exact hDg.at fun o e => Fr.keep (by assumption) D o e
        rintro r1 h1 tk1 lines1 F1 N1 ⟨⟨u1, rfl⟩, rfl⟩ kp1
        k_steps
        unfold Hold
        refine lshift_int (by omega) (by have := val_bits n ns hds hn2 (Lo + k / 2) (k - k / 2) (by omega); omega) ?_
        k_steps
        unfold Hold
        dsimp only [List.nil_append]
        ((with_unfolding_all refine' useN (ih (k / 2) (by omega) (by omega) (by omega) Lo _ _ (by omega)) ?x1 ?x2 ?x3 ?x4 ?x5 ?x6 ?x7 ?x8 ?x9 ?_); (case x1 => k_asm); (case x2 => k_asm); (case x3 => k_asm); (case x4 => k_asm); (case x5 => k_asm); (case x6 => first | rfl | assumption); (case x7 => ktr_room); (case x8 => ktr_units))
        case x9 => exact hDg.at fun o e => Fr.keep (by assumption) D o e
        rintro r2 h2 tk2 lines2 F2 N2 ⟨⟨u2, rfl⟩, rfl⟩ kp2
        k_steps
        rename Fr g' _ _ _ => F9
        rename Fr h₀ _ _ _ => F8
        rename News h₀ _ _ _ => N8
        exact hret _ _ _ _ F8 N8 ⟨⟨_, by rw [val_split n ns Lo k (by omega), Int.toNat_natCast]⟩, rfl⟩ (fun b o hb e => F9.keep b o (hg9 b o hb e))
    case use =>
      intro key
      dsimp only [List.nil_append]
      have hne : 1 ≤ ns.length := by first | omega | (simp_all; omega)
      rw [show ((ns.length : Nat) : Int) = ((0 + ns.length : Nat) : Int) from by omega, show (0 : Int) = ((0 : Nat) : Int) from rfl]
      (with_unfolding_all refine' useN (key ns.length hne hN 0 _ _ (by omega)) ?x1 ?x2 ?x3 ?x4 ?x5 ?x6 ?x7 ?x8 ?x9 ?_); (case x1 => k_asm); (case x2 => k_asm); (case x3 => k_asm); (case x4 => (intro p hp; (simp only [List.mem_cons, List.not_mem_nil, or_false] at hp); rcases hp with rfl | rfl | rfl | rfl | rfl <;> exact N5 _ (by k_mem))); (case x5 => k_asm); (case x6 => first | rfl | assumption); (case x7 => ktr_room); (case x8 => ktr_units)
      case x9 => exact hHg.at fun o e => Fr.keep (by assumption) D o e
      rintro r h1 tk1 lines1 F1 N1 ⟨⟨u1, rfl⟩, rfl⟩ kp1
      k_steps
      rename Fr g' _ _ _ => F9
      rename Fr h₀ _ _ _ => F8
      rename News h₀ _ _ _ => N8
      have y37 := (N5 _ (.tail _ (.tail _ (.tail _ (.tail _ (.tail _ (.head _)))))))
      have z37 := kp1 37 _ (by intro hm; simp only [List.map_cons, List.map_nil, List.mem_cons, List.not_mem_nil, or_false] at hm; rcases hm with e | e | e | e | e <;> exact (neN (by omega)) e) y37.1
      have NF := news2 (N8 _ (.tail _ (.head _))) ⟨z37, (N0 _ (.head _)).2⟩
      exact hret _ _ _ _ F8 NF ⟨_, _, _, _, _, by rw [List.drop_zero, List.take_length], rfl, by assumption, by assumption, by omega, by omega⟩ (fun b o hb e => F9.keep b o (hg9 b o hb e))
  · rename Fr g' _ _ _ => F9
    rename Fr h₀ _ _ _ => F8
    rename News h₀ _ _ _ => N8
    have hnil : ns = [] := by
      apply List.eq_nil_of_length_eq_zero
      first | omega | (simp_all; omega)
    have NF := news2 (N8 _ (.tail _ (.head _))) ⟨(N8 _ (.tail _ (.tail _ (.tail _ (.tail _ (.tail _ (.head _))))))).1, (N0 _ (.head _)).2⟩
    exact hret _ _ _ _ F8 NF ⟨_, _, _, _, _, by rw [hnil]; rfl, rfl, by assumption, by assumption, by omega, by omega⟩ (fun b o hb e => F9.keep b o (hg9 b o hb e))
end
section
theorem with_linesDH {w : World} {n : Nat} {D : Addr} {vs : List Value} {ns : List Int} {P : Prop} {g h : Heap} {L f c' cI cN cD : Addr} {FN oc oI oN oD : Obj} {rest : List (Addr × Obj)} (_ : News g L h ((f, FN) :: (cI, oI) :: (cN, oN) :: (cD, oD) :: (c', oc) :: rest))
    (key : ∀ k, 1 ≤ k → k ≤ 200 → InD w n D vs ns f c' cI cN cD FN oc oI oN oD k) (use : (∀ k, 1 ≤ k → k ≤ 200 → InD w n D vs ns f c' cI cN cD FN oc oI oN oD k) → P) : P := use key
local macro_rules | `(tactic| walk_at "binaryOp RShift int int") => `(tactic| (k_here; refine hold ?_))
local macro_rules | `(tactic| walk_at "binaryOp LShift int int") => `(tactic| (k_here; refine hold ?_))
local macro_rules | `(tactic| walk_at "binaryOp Mult int int") => `(tactic| (k_here; refine hold ?_))
theorem c_d2i1 (w : World) (hp : Heap) (cc : Addr) (occ : Obj) (vcc : Array Value) (tcc : Tok) (dcc : occ.data = .fields vcc) (dcv : vcc[1]? = some (.str qIn2 tcc)) (hcc : @LT.lt Nat _ 37 cc) (D : Addr) (vs : List Value) (ns : List Int) (hi : IntsAre vs ns) (n : Nat) (tn : Tok) (hn2 : n ≤ 4000) (hN : ns.length ≤ 200) (hds : ∀ d ∈ ns, 0 ≤ d ∧ d < 2 ^ n) :
    CtrN w 42 (ns.length + 5) [.ref D, .int (n : Int) tn] [(cc, occ), (37, tabObj #[rawInt 47, rawInt 4, .ref cc])] (fun h => h = hp ∧ h.IsList D vs.toArray) (D2iR n ns cc) := by
  w_on
  unfold CtrN
  k_fill
  intro dp un gd cn cs ad ccd cl outer A₀ base h₀ L m s Q E mean mg mb B F X N0 T hk hd hu hH hret
  have C34 : CodeHd h₀ 34 30 := codeHd_of_K (c := 34) (P := 30) X (by kernel_rfl)
  have C41 : CodeHd h₀ 41 37 := codeHd_of_K (c := 41) (P := 37) X (by kernel_rfl)
  refine wpAny_call ?_
  obtain ⟨hHp, hHl⟩ := hH
  have hlen := IntsAre.length hi
  have hD37 : D ≠ 37 := by
    rintro rfl
    obtain ⟨o, e, hc, _⟩ := hHl
    rw [(N0 _ (.tail _ (.head _))).1] at e
    cases e
    cases hc
  k_dflt (refine' code_holeC ?k1 ?k2 ?k3 ?k4 ?k5 ?kA ?kF ?kK ?k6 ?k7 ?k8 ?k9 ?kB ?kD ?_ ?c2 ?c3 ?c4; (case kA => exact rfl); (case kF => exact rfl); (case kK => assumption); (case k1 => k_asm); (case k2 => k_asm); (case k3 => k_asm); (case k4 => exact N0); (case k5 => k_asm); (case k6 => k_is); (case k7 => k_is); (case k8 => ktr_room); (case k9 => exact BindsTo.of_eq rfl); (case kB => exact rfl); (case kD => decide +kernel); (case c2 => exact rfl); (case c3 => exact rfl); (case c4 => exact rfl); k_whole; intro g' L' h' tk' cells' hg9 F' N' Y' B' X' T' l1; (try k_lt l1); k_cells Y'; (have C34g := codeHd_of_K (c := 34) (P := 30) X' (by kernel_rfl)); (have C41g := codeHd_of_K (c := 41) (P := 37) X' (by kernel_rfl)); (try simp only [List.cons_append, List.nil_append] at N'); (try dsimp only))
  have hHg : g'.IsList D vs.toArray := hHl.at fun o e => hg9 D o (by intro hm; simp only [List.map_cons, List.map_nil, List.mem_cons, List.not_mem_nil, or_false] at hm; exact hm.elim (fun e => isList_ne hHl (N0 _ (.head _)).1 (fun _ q => by simp_all) e) hD37) e
  k_steps
  · unfold Hold
    (with_reducible rename News _ _ _ _ => N5)
    refine with_linesDH (w := w) (n := n) (D := D) (vs := vs) (ns := ns) N5 ?key ?use
    case key =>
      clear N5 hHg
      repeat ((with_reducible rename Fr _ _ _ _ => z1); clear z1)
      repeat ((with_reducible rename News _ _ _ _ => z1); clear z1)
      repeat ((with_reducible rename Below _ _ _ _ => z1); clear z1)
      repeat ((with_reducible rename Top _ _ _ _ _ _ => z1); clear z1)
      repeat ((with_reducible rename Frag.In _ _ => z1); clear z1)
      clear hret hHp hHl hd hu hk
      intro k
      induction k using Nat.strongRecOn with
      | ind k ih =>
      intro hk1 hk2 Lo t1 t2 hle
      intro dp un gd cn cs ad ccd cl outer A₀ base h₀ L m s Q E mean mg mb B F X N0 T hk hd hu hH hret
      refine wpAny_call ?_
      k_dflt (refine' code_hole ?k1 ?k2 ?k3 ?k4 ?k5 ?kA ?kF ?kK ?k6 ?k7 ?k8 ?k9 ?kB ?c1 ?_ ?c2 ?c3 ?c4 ?c5; (case kA => exact rfl); (case kF => exact rfl); (case kK => assumption); (case k1 => k_asm); (case k2 => k_asm); (case k3 => k_asm); (case k4 => exact N0); (case k5 => k_asm); (case k6 => exact (N0 _ (.head _)).1); (case k7 => exact rfl); (case k8 => exact codeRec_news N0 (.tail _ (.head _)) dcc dcv); (case k9 => ktr_room); (case kB => exact BindsTo.of_eq rfl); (case c1 => exact locs rfl); (case c2 => exact rfl); (case c3 => exact rfl); (case c4 => exact rfl); (case c5 => decide); k_whole; intro g' L' h' hg9 F' N' B' X' T' l1; (try k_lt l1); (try dsimp only))
      have hDg : g'.IsList D vs.toArray := hH.at fun o e => hg9 D o (by
        intro hm
        simp only [List.map_cons, List.map_nil, List.mem_cons, List.not_mem_nil, or_false] at hm
        rcases hm with e | e | e | e | e
        · exact isList_ne hH (N0 _ (.head _)).1 (fun _ q => by cases q) e
        · exact isList_ne hH (N0 _ (.tail _ (.head _))).1 (fun _ q => by simp_all) e
        · exact isList_ne hH (N0 _ (.tail _ (.tail _ (.head _)))).1 (fun _ q => by simp_all) e
        · exact isList_ne hH (N0 _ (.tail _ (.tail _ (.tail _ (.head _))))).1 (fun _ q => by simp_all) e
        · exact isList_ne hH (N0 _ (.tail _ (.tail _ (.tail _ (.tail _ (.head _)))))).1 (fun _ q => by simp_all) e) e
      have hk3 : k / 2 * n ≤ 100 * 4000 := Nat.mul_le_mul (by omega) hn2
      k_steps
      · rename Fr g' _ _ _ => F9
        rename Fr h₀ _ _ _ => F8
        rename News h₀ _ _ _ => N8
        have ek : k = 1 := by omega
        subst ek
        have ev : valD n ((ns.drop Lo).take 1) = ns.getD ((Lo : Nat) : Int).toNat 0 := by
          rw [Int.toNat_natCast]
          exact val_leaf n ns Lo (by omega)
        exact hret _ _ _ _ F8 N8 ⟨⟨_, by rw [ev]⟩, rfl⟩ (fun b o hb e => F9.keep b o (hg9 b o hb e))
      · unfold Hold
        refine rshift_int (by decide) ?_
        rw [midL_eq]
        k_steps
        unfold Hold
        refine mul_int ?_ (mul_ok (small_4000 (by omega)) (small_4000 (by omega)))
        rw [show (((Lo + k / 2 : Nat) : Int) - (Lo : Int)) * (n : Int) = ((k / 2 * n : Nat) : Int) from by rw [show ((Lo + k / 2 : Nat) : Int) - (Lo : Int) = ((k / 2 : Nat) : Int) from by omega]; exact (Int.natCast_mul _ _).symm]
        k_steps
        unfold Hold
        dsimp only [List.nil_append]
        have hR : ((Lo + k : Nat) : Int) = ((Lo + k / 2 + (k - k / 2) : Nat) : Int) := by omega
        rw [hR]
        ((with_unfolding_all refine' useN (ih (k - k / 2) (by omega) (by omega) (by omega) (Lo + k / 2) _ _ (by omega)) ?x1 ?x2 ?x3 ?x4 ?x5 ?x6 ?x7 ?x8 ?x9 ?_); (case x1 => k_asm); (case x2 => k_asm); (case x3 => k_asm); (case x4 => k_asm); (case x5 => k_asm); (case x6 => first | rfl | assumption); (case x7 => ktr_room); (case x8 => ktr_units))
        case x9 => exact hDg.at fun o e => Fr.keep (by assumption) D o e
        rintro r1 h1 tk1 lines1 F1 N1 ⟨⟨u1, rfl⟩, rfl⟩ kp1
        k_steps
        unfold Hold
        refine lshift_int (by omega) (by have := val_bits n ns hds hn2 (Lo + k / 2) (k - k / 2) (by omega); omega) ?_
        k_steps
        unfold Hold
        dsimp only [List.nil_append]
        ((with_unfolding_all refine' useN (ih (k / 2) (by omega) (by omega) (by omega) Lo _ _ (by omega)) ?x1 ?x2 ?x3 ?x4 ?x5 ?x6 ?x7 ?x8 ?x9 ?_); (case x1 => k_asm); (case x2 => k_asm); (case x3 => k_asm); (case x4 => k_asm); (case x5 => k_asm); (case x6 => first | rfl | assumption); (case x7 => ktr_room); (case x8 => ktr_units))
        case x9 => exact hDg.at fun o e => Fr.keep (by assumption) D o e
        rintro r2 h2 tk2 lines2 F2 N2 ⟨⟨u2, rfl⟩, rfl⟩ kp2
        k_steps
        rename Fr g' _ _ _ => F9
        rename Fr h₀ _ _ _ => F8
        rename News h₀ _ _ _ => N8
        exact hret _ _ _ _ F8 N8 ⟨⟨_, by rw [val_split n ns Lo k (by omega), Int.toNat_natCast]⟩, rfl⟩ (fun b o hb e => F9.keep b o (hg9 b o hb e))
    case use =>
      intro key
      dsimp only [List.nil_append]
      have hne : 1 ≤ ns.length := by first | omega | (simp_all; omega)
      rw [show ((ns.length : Nat) : Int) = ((0 + ns.length : Nat) : Int) from by omega, show (0 : Int) = ((0 : Nat) : Int) from rfl]
      (with_unfolding_all refine' useN (key ns.length hne hN 0 _ _ (by omega)) ?x1 ?x2 ?x3 ?x4 ?x5 ?x6 ?x7 ?x8 ?x9 ?_); (case x1 => k_asm); (case x2 => k_asm); (case x3 => k_asm); (case x4 => (intro p hp; (simp only [List.mem_cons, List.not_mem_nil, or_false] at hp); rcases hp with rfl | rfl | rfl | rfl | rfl <;> exact N5 _ (by k_mem))); (case x5 => k_asm); (case x6 => first | rfl | assumption); (case x7 => ktr_room); (case x8 => ktr_units)
      case x9 => exact hHg.at fun o e => Fr.keep (by assumption) D o e
      rintro r h1 tk1 lines1 F1 N1 ⟨⟨u1, rfl⟩, rfl⟩ kp1
      k_steps
      rename Fr g' _ _ _ => F9
      rename Fr h₀ _ _ _ => F8
      rename News h₀ _ _ _ => N8
      have y37 := (N5 _ (.tail _ (.tail _ (.tail _ (.tail _ (.tail _ (.head _)))))))
      have z37 := kp1 37 _ (by intro hm; simp only [List.map_cons, List.map_nil, List.mem_cons, List.not_mem_nil, or_false] at hm; rcases hm with e | e | e | e | e <;> exact (neN (by omega)) e) y37.1
      have NF := news2 (N8 _ (.tail _ (.head _))) ⟨z37, (N0 _ (.tail _ (.head _))).2⟩
      exact hret _ _ _ _ F8 NF ⟨_, _, _, _, _, by rw [List.drop_zero, List.take_length], rfl, dcc, dcv, hcc, Nat.le_refl _⟩ (fun b o hb e => F9.keep b o (hg9 b o hb e))
  · rename Fr g' _ _ _ => F9
    rename Fr h₀ _ _ _ => F8
    rename News h₀ _ _ _ => N8
    have hnil : ns = [] := by
      apply List.eq_nil_of_length_eq_zero
      first | omega | (simp_all; omega)
    have NF := news2 (N8 _ (.tail _ (.tail _ (.tail _ (.tail _ (.head _)))))) ⟨(N8 _ (.tail _ (.tail _ (.tail _ (.tail _ (.tail _ (.head _))))))).1, (N0 _ (.tail _ (.head _))).2⟩
    exact hret _ _ _ _ F8 NF ⟨_, _, _, _, _, by rw [hnil]; rfl, rfl, dcc, dcv, hcc, Nat.le_refl _⟩ (fun b o hb e => F9.keep b o (hg9 b o hb e))
end
section
section
variable {prog : Program} {w : World} {A A₀ : Around} {s : Shared} {K : Frag} {L : Addr} {h₀ base : Heap} {m mg mb : Str → Option Value} {news : List (Addr × Obj)} {p : Program} {loose : List Str} {mean : ExcName → Option Value}
/-- a def of the written part is entered; the lines go in, all else stays -/
theorem code_holeK {env : Env} {outer : List Env} {R : Result → Shared → Prop} {name qual : Str} {params : Arguments} {body : List Stmt} {scope : Scope} {dV kV doc pm cdv ct oc : Value} {an od : Option Addr} {osl : Array (Option Value)} {f : Addr} {args : Args} {binds : List (Str × Value)}
    (B : Below A₀ base outer h₀) (F : Fr h₀ L s.heap m) (X₀ : K.In h₀) (N : News h₀ L s.heap news) (T : Top p loose mean mg mb h₀) (hA : A.frames = some (env :: outer)) (hf : env.frame = some L) (hke : env.scope.kind = .function)
    (ho : K.lookup f = some ⟨oc, od, .func (fnOf name qual params body scope dV kV doc pm an cdv ct), osl⟩) (hcd : codeIn K cdv qual = true) (hroom : A.depth < recursionLimit)
    (hbind : BindsTo s (fnOf name qual params body scope dV kV doc pm an cdv ct) args binds) (hloc : ∀ y ∈ binds, scope.names.lookup y.1 = some .local)
    (h : ∀ g L' h₁, (∀ b o, b ∉ news.map (·.1) → s.heap.get? b = some o → g.get? b = some o) → Fr g L' h₁ (fun y => binds.reverse.lookup y) → News g L' h₁ news → Below A base (env :: outer) g → K.In g → Top p loose mean mg mb g → (∀ p ∈ news, p.1 < L') →
      wpAny (model prog w) (A.deeper (envX qual scope L' f cdv [])) (execs body (envX qual scope L' f cdv []))
        (fun fl s' => LeaveK h₀ L m g R (match fl with | .ret v => v | _ => .none) s')
        (fun e s' => wpAny (model prog w) (A.deeper (envX qual scope L' f cdv [])) (leaving (envX qual scope L' f cdv []) e) (fun _ s'' => R (.error e) s'') (fun e' s'' => R (.error e') s'') s')
        { s with heap := h₁, toks := s.toks + binds.length })
    (hco : scope.isCoroutine = false) (hgen : scope.isGenerator = false) (hk : scope.kind = .function)
    (hcell : ∀ x ∈ scope.names, x.2 ≠ .cell) : codeAny (model prog w) A (.call (.ref f) args) R s :=
  code_hole B F X₀ N T hA hf hke ((X₀.keeps F.keep) _ _ ho) rfl (codeRec_of (X₀.keeps F.keep) hcd) hroom hbind hloc h hco hgen hk hcell
end
theorem CtrN.mono {w : World} {f : Addr} {k : Nat} {vs : List Value} {l1 l2 : List (Addr × Obj)} {H : Heap → Prop} {R R' : Value → List (Addr × Obj) → Heap → Prop} (C : CtrN w f k vs l1 H R) (hl : ∀ p ∈ l1, p ∈ l2) (hR : ∀ r l h, R r l h → R' r l h) : CtrN w f k vs l2 H R' := by
  intro dp un gd cn cs ad ccd cl outer A₀ base h₀ L m s Q E mean mg mb B F X N T hk hd hu hH hret
  refine C dp un gd cn cs ad ccd cl outer A₀ base h₀ L m s Q E mean mg mb B F X (fun p hp => N p (hl p hp)) T hk hd hu hH ?_
  intro r h' tk' lines' F' N' hr kp
  refine hret r h' tk' lines' F' N' (hR _ _ _ hr) fun b o hb e => kp b o (fun hm => hb ?_) e
  obtain ⟨q, hq, rfl⟩ := List.mem_map.mp hm
  exact List.mem_map_of_mem (hl q hq)
/-- a contract over lines is used; the other lines stay -/
theorem useNR {w : World} {f : Addr} {k : Nat} {vs : List Value} {lines rest : List (Addr × Obj)} {H : Heap → Prop} {R : Value → List (Addr × Obj) → Heap → Prop} {dp un : Nat} {gd : Option (List Code)} {cn : Str} {cs : Scope} {a : Addr} {ccd : Value} {cl : List (Str × Addr)} {outer : List Env} {A₀ : Around} {base h₀ : Heap} {L : Addr} {m : Str → Option Value} {s : Shared} {Q E : Value → Shared → Prop} {mean : ExcName → Option Value} {mg mb : Str → Option Value}
    (C : CtrN w f k vs lines H R) (B : Below A₀ base outer h₀) (F : Fr h₀ L s.heap m) (X : (KH w.params).In h₀) (N : News h₀ L s.heap (lines ++ rest)) (hdis : ∀ p ∈ rest, p.1 ∉ lines.map (·.1)) (T : Top topProg LX mean mg mb h₀) (hk : cs.kind = .function) (hd : dp + k < recursionLimit) (hu : un + 8 * k < cLine) (hH : H s.heap)
    (hret : ∀ r h' tk' lines', Fr h₀ L h' m → News h₀ L h' (lines' ++ rest) → R r lines' h' → (∀ b o, b ∉ lines.map (·.1) → s.heap.get? b = some o → h'.get? b = some o) → Q r { s with heap := h', toks := tk' }) :
    wpAny (model RW.row.prog w) (ktrTop dp un gd cn cs L a ccd cl outer) (call (.ref f) vs) Q E s := by
  refine useN C B F X (fun p hp => N p (List.mem_append_left _ hp)) T hk hd hu hH ?_
  intro r h' tk' lines' F' N' hr kp
  refine hret r h' tk' lines' F' (fun p hp => ?_) hr kp
  rcases List.mem_append.mp hp with hp | hp
  · exact N' p hp
  · have z := N p (List.mem_append_right _ hp)
    exact ⟨kp _ _ (hdis p hp) z.1, z.2⟩
def St30 (x : Addr) (ox t : Obj) : Prop := (x = 30 ∧ ox = tabObj #[] ∧ t = tabObj #[]) ∨ (t = tabObj #[rawInt 32, rawInt 4, .ref x] ∧ (∃ vsc tq, ox.data = .fields vsc ∧ vsc[1]? = some (.str qIn1 tq)) ∧ @LT.lt Nat _ 30 x)
def St37 (x : Addr) (ox t : Obj) : Prop := (x = 37 ∧ ox = tabObj #[] ∧ t = tabObj #[]) ∨ (t = tabObj #[rawInt 47, rawInt 4, .ref x] ∧ (∃ vsc tq, ox.data = .fields vsc ∧ vsc[1]? = some (.str qIn2 tq)) ∧ @LT.lt Nat _ 37 x)
abbrev I2dS (a : Int) (n N : Nat) (hp : Heap) (lo : Nat) (r : Value) (lines' : List (Addr × Obj)) (_ : Heap) : Prop :=
  ∃ D x ox t ws nn, r = .ref D ∧ hp.get? D = none ∧ lines' = [(D, listOf ws.toArray nn), (x, ox), (30, t)] ∧ St30 x ox t ∧ IntsAre ws (if a = 0 then [] else digsT n N a) ∧ @LE.le Nat _ lo x
theorem c_i2d (w : World) (hp : Heap) (x : Addr) (ox t : Obj) (S : St30 x ox t) (a : Int) (n : Nat) (ta tn : Tok) (N : Nat) (ha : 0 ≤ a) (hn : 0 < n) (hn2 : n ≤ 4000) (hb : Builtin.Int.intBits a ≤ 4000) (hNe : ((Builtin.Int.intBits a : Int) + (n : Int) - 1).fdiv (n : Int) = (N : Int)) (hN : N ≤ 200) (hN1 : a ≠ 0 → 1 ≤ N) (hN0 : a = 0 → N = 0) :
    CtrN w 35 (N + 5) [.int a ta, .int (n : Int) tn] [(x, ox), (30, t)] (fun h => h = hp) (I2dS a n N hp x) := by
  have hR : ∀ r l h, I2dR a n N hp x r l h → I2dS a n N hp x r l h := by
    rintro r l h ⟨D, c', oc, vsc, tq, ws, nn, h1, h2, h3, h4, h5, h6, h7, h8⟩
    exact ⟨D, c', oc, _, ws, nn, h1, h2, h3, .inr ⟨rfl, ⟨vsc, tq, h4, h5⟩, h6⟩, h7, h8⟩
  rcases S with ⟨rfl, rfl, rfl⟩ | ⟨rfl, ⟨vsc, tq, h4, h5⟩, h6⟩
  · exact CtrN.mono (c_i2d0 w hp a n ta tn N ha hn hn2 hb hNe hN hN1 hN0) (fun p hp => by rw [List.mem_singleton.mp hp]; exact .head _) hR
  · exact CtrN.mono (c_i2d1 w hp x ox vsc tq h4 h5 h6 a n ta tn N ha hn hn2 hb hNe hN hN1 hN0) (fun p hp => hp) hR
abbrev D2iS (n : Nat) (ns : List Int) (lo : Nat) (r : Value) (lines' : List (Addr × Obj)) (_ : Heap) : Prop :=
  ∃ t x ox u, r = .int (valD n ns) t ∧ lines' = [(x, ox), (37, u)] ∧ St37 x ox u ∧ @LE.le Nat _ lo x
theorem c_d2i' (w : World) (hp : Heap) (x : Addr) (ox t : Obj) (S : St37 x ox t) (D : Addr) (vs : List Value) (ns : List Int) (hi : IntsAre vs ns) (n : Nat) (tn : Tok) (hn2 : n ≤ 4000) (hN : ns.length ≤ 200) (hds : ∀ d ∈ ns, 0 ≤ d ∧ d < 2 ^ n) :
    CtrN w 42 (ns.length + 5) [.ref D, .int (n : Int) tn] [(x, ox), (37, t)] (fun h => h = hp ∧ h.IsList D vs.toArray) (D2iS n ns x) := by
  have hR : ∀ r l h, D2iR n ns x r l h → D2iS n ns x r l h := by
    rintro r l h ⟨t, c', oc, vsc, tq, h1, h3, h4, h5, h6, h7⟩
    exact ⟨t, c', oc, _, h1, h3, .inr ⟨rfl, ⟨vsc, tq, h4, h5⟩, h6⟩, h7⟩
  rcases S with ⟨rfl, rfl, rfl⟩ | ⟨rfl, ⟨vsc, tq, h4, h5⟩, h6⟩
  · exact CtrN.mono (c_d2i0 w hp D vs ns hi n tn hn2 hN hds) (fun p hp => by rw [List.mem_singleton.mp hp]; exact .head _) hR
  · exact CtrN.mono (c_d2i1 w hp x ox vsc tq h4 h5 h6 D vs ns hi n tn hn2 hN hds) (fun p hp => hp) hR
theorem c_d2i (w : World) (x : Addr) (ox t : Obj) (S : St37 x ox t) (D : Addr) (vs : List Value) (ns : List Int) (hi : IntsAre vs ns) (n : Nat) (tn : Tok) (hn2 : n ≤ 4000) (hN : ns.length ≤ 200) (hds : ∀ d ∈ ns, 0 ≤ d ∧ d < 2 ^ n) :
    CtrN w 42 (ns.length + 5) [.ref D, .int (n : Int) tn] [(x, ox), (37, t)] (fun h => h.IsList D vs.toArray) (D2iS n ns x) := by
  intro dp un gd cn cs ad ccd cl outer A₀ base h₀ L m s Q E mean mg mb B F X N T hk hd hu hH hret
  exact c_d2i' w s.heap x ox t S D vs ns hi n tn hn2 hN hds dp un gd cn cs ad ccd cl outer A₀ base h₀ L m s Q E mean mg mb B F X N T hk hd hu ⟨rfl, hH⟩ hret
theorem St30.le {x : Addr} {ox t : Obj} (S : St30 x ox t) : @LE.le Nat _ 30 x := by
  rcases S with ⟨rfl, _, _⟩ | ⟨_, _, h⟩
  · exact Nat.le_refl _
  · exact Nat.le_of_lt h
end
section
section
variable {prog : Program} {w : World} {A : Around} {E : Value → Shared → Prop} {s : Shared} {env : Env} {h₀ : Heap} {x : Str} {body : List Stmt} {Q : Flow → Shared → Prop}
/-- over a list from behind -/
theorem loop_rev {σ : Type} (Led : σ → List (Addr × Obj)) (ps : σ → List (Str × Value)) (stored : List Str) (P : Nat → σ → Prop) (c₀ : σ) {I ax : Addr} {vs : List Value} {nn : Nat} {news : List (Addr × Obj)} {m₀ : Str → Option Value}
    (hh : A.handled = none) (F : Fr h₀ env.locals s.heap m₀) (N : News h₀ env.locals s.heap news) (hI : (I, revObj ax ((vs.length : Int) - 1)) ∈ news) (hl : (ax, listOf vs.toArray nn) ∈ news) (hne : ax ≠ I) (hnl : ∀ q ∈ Led c₀, q ∈ news ∧ q.1 ≠ I ∧ q.1 ≠ ax) (hk : ∀ p ∈ ps c₀, m₀ p.1 = some p.2) (hp : P 0 c₀) (hadr : ∀ c, (Led c).map (·.1) = (Led c₀).map (·.1))
    (turn : ∀ (c : σ) (i : Nat) (v : Value) (u : Str → Option Value) (h : Heap) (tk : Nat) (own : List (Addr × Obj)) (QT : Flow → Shared → Prop), i < vs.length → vs[vs.length - 1 - i]? = some v → P i c → OwnOff own ((Led c₀).map (·.1)) →
      Fr h₀ env.locals h (fun y => if y = x then some v else mapT stored u m₀ (ps c) y) → News h₀ env.locals h (Led c ++ own) →
      (∀ (c' : σ) (m' : Str → Option Value) (h' : Heap) (tk' : Nat) (all : List (Addr × Obj)), Fr h₀ env.locals h' m' → News h₀ env.locals h' all → (∀ p ∈ Led c', p ∈ all) → (∀ p ∈ own, p ∈ all) → (∀ p ∈ ps c', m' p.1 = some p.2) →
        (∀ z, z ≠ x → (∀ p ∈ ps c', z ≠ p.1) → stored.contains z = false → m' z = m₀ z) → P (i + 1) c' → QT .next { s with heap := h', toks := tk' }) →
      (∀ v s', Q (.ret v) s' → QT (.ret v) s') →
      wpAny (model prog w) A (execs body env) QT E { s with heap := h, toks := tk })
    (done : ∀ (c : σ) (u : Str → Option Value) (h : Heap) (tk : Nat), P vs.length c → Fr h₀ env.locals h (fun y => if y = x then u y else mapT stored u m₀ (ps c) y) → News h₀ env.locals h (Led c) → Q .next { s with heap := h, toks := tk }) :
    wpAny (model prog w) A (pyIter (.ref I)) (fun it s₂ => LoopAtV prog w A h₀ env x body Q E it s₂) E s := by
  have hol : s.heap.get? ax = some (listOf vs.toArray nn) := (N _ hl).1
  have hls : s.heap.IsList ax vs.toArray := ⟨_, hol, rfl, nn, rfl⟩
  have hit : s.heap.IsRevIter I ax ((vs.length : Int) - 1) := ⟨_, (N _ hI).1, rfl, rfl⟩
  refine wpAny_pyIter_revIter hit ?_
  have W := Walks.listRev (prog := prog) (w := w) hh I ax hne vs.toArray
  have hlen : vs.toArray.size = vs.length := by simp
  rw [hlen] at W
  refine loopG Led ps stored P c₀ W ?_ ?_ ?_ ?_ ⟨Nat.zero_le _, ?_, hls⟩ F (fun p hp => N p (hnl p hp).1) hk hp hadr
    (fun c i v u h tk own QT hi hv => turn c i v u h tk own QT hi (by simpa using hv)) done
  · intro hm
    rcases List.mem_cons.mp hm with e | hm
    · exact (N _ hI).2.1 e.symm
    · exact (N _ hl).2.1 ((List.mem_singleton.mp hm).symm)
  · intro b hb
    rw [List.mem_singleton.mp hb]
    exact (N _ hI).2.2
  · intro b hb
    rw [List.mem_singleton.mp hb]
    exact .head _
  · intro q hq hm
    rcases List.mem_cons.mp hm with e | hm
    · exact (hnl q hq).2.1 e
    · exact (hnl q hq).2.2 (List.mem_singleton.mp hm)
  · simpa using hit
end
theorem digsT_val (n : Nat) : ∀ k x, 1 ≤ k → 0 ≤ x → x < 2 ^ (k * n) → valD n (digsT n k x) = x ∧ ∀ d ∈ digsT n k x, 0 ≤ d ∧ d < 2 ^ n := by
  intro k
  induction k using Nat.strongRecOn with
  | ind k ih =>
    intro x hk h0 hx
    by_cases h1 : k = 1
    · subst h1
      rw [digsT_one]
      refine ⟨by simp [valD], fun d hd => ?_⟩
      rw [List.mem_singleton.mp hd]
      exact ⟨h0, by rwa [Nat.one_mul] at hx⟩
    · have hp : (0 : Int) < 2 ^ (k / 2 * n) := Int.pow_pos (by decide)
      rw [digsT_two n k x (by omega)]
      have a1 := ih (k / 2) (by omega) (x % 2 ^ (k / 2 * n)) (by omega) (Int.emod_nonneg _ (Int.ne_of_gt hp)) (Int.emod_lt_of_pos _ hp)
      have e : (2 : Int) ^ (k * n) = 2 ^ (k / 2 * n) * 2 ^ ((k - k / 2) * n) := by
        rw [← Int.pow_add, ← Nat.add_mul]
        congr 2
        omega
      have a2 := ih (k - k / 2) (by omega) (x / 2 ^ (k / 2 * n)) (by omega) (Int.ediv_nonneg h0 (Int.le_of_lt hp)) (Int.ediv_lt_of_lt_mul hp (by rw [Int.mul_comm, ← e]; exact hx))
      refine ⟨?_, fun d hd => ?_⟩
      · rw [valD_append, a1.1, a2.1, digsT_len n _ _ (by omega)]
        exact Int.emod_add_mul_ediv x _
      · rcases List.mem_append.mp hd with hd | hd
        · exact a1.2 d hd
        · exact a2.2 d hd
theorem nopylong {x y : Int} (h : Builtin.Int.intBits y ≤ 4000) : Builtin.divisionGoesByPylong x y = false := by
  unfold Builtin.divisionGoesByPylong
  unfold Builtin.Int.intBits at h
  simp only
  by_cases h0 : (y == 0) = true
  · simp [h0]
  · rw [if_neg h0] at h
    simp only [Bool.and_eq_false_iff, decide_eq_false_iff_not]
    left
    rw [if_neg h0]
    omega
theorem bits_pos {b : Int} (h : 0 < b) : b < 2 ^ Builtin.Int.intBits b ∧ 2 ^ (Builtin.Int.intBits b - 1) ≤ b := by
  have h0 : ¬ ((b == 0) = true) := by simp; omega
  unfold Builtin.Int.intBits
  rw [if_neg h0]
  have hn : b.natAbs ≠ 0 := by omega
  have h1 := Nat.lt_log2_self (n := b.natAbs)
  have h2 := Nat.log2_self_le hn
  have e1 : ((2 ^ (b.natAbs.log2 + 1) : Nat) : Int) = 2 ^ (b.natAbs.log2 + 1) := by simp
  have e2 : ((2 ^ b.natAbs.log2 : Nat) : Int) = 2 ^ b.natAbs.log2 := by simp
  rw [Nat.add_sub_cancel]
  omega
theorem div_step (n : Nat) (b r d Q V : Int) (hb : 0 < b) (hr : 0 ≤ r) (hrb : r < b) (hd : 0 ≤ d) (hdn : d < 2 ^ n) (hV : V = Q * b + r) :
    d + 2 ^ n * V = ((r * 2 ^ n + d).fdiv b + 2 ^ n * Q) * b + (r * 2 ^ n + d).fmod b ∧ 0 ≤ (r * 2 ^ n + d).fmod b ∧ (r * 2 ^ n + d).fmod b < b ∧ 0 ≤ (r * 2 ^ n + d).fdiv b ∧ (r * 2 ^ n + d).fdiv b < 2 ^ n := by
  have hp : (0 : Int) < 2 ^ n := Int.pow_pos (by decide)
  have hx : 0 ≤ r * 2 ^ n + d := Int.add_nonneg (Int.mul_nonneg hr (Int.le_of_lt hp)) hd
  rw [Int.fdiv_eq_ediv_of_nonneg _ (Int.le_of_lt hb), Int.fmod_eq_emod_of_nonneg _ (Int.le_of_lt hb)]
  have h1 : r * 2 ^ n ≤ (b - 1) * 2 ^ n := Int.mul_le_mul_of_nonneg_right (by omega) (Int.le_of_lt hp)
  rw [Int.sub_mul, Int.one_mul] at h1
  refine ⟨?_, Int.emod_nonneg _ (Int.ne_of_gt hb), Int.emod_lt_of_pos _ hb, Int.ediv_nonneg hx (Int.le_of_lt hb), Int.ediv_lt_of_lt_mul hb (by have h6 : b * 2 ^ n = 2 ^ n * b := Int.mul_comm ..; omega)⟩
  have h2 := Int.emod_add_mul_ediv (r * 2 ^ n + d) b
  rw [hV, Int.mul_add, Int.add_mul]
  have h3 : 2 ^ n * (Q * b) = 2 ^ n * Q * b := (Int.mul_assoc ..).symm
  have h4 : b * ((r * 2 ^ n + d) / b) = (r * 2 ^ n + d) / b * b := Int.mul_comm ..
  have h5 : 2 ^ n * r = r * 2 ^ n := Int.mul_comm ..
  omega
theorem drop_step (ds : List Int) (i : Nat) (d : Int) (h : ds[ds.length - 1 - i]? = some d) (hi : i < ds.length) : ds.drop (ds.length - (i + 1)) = d :: ds.drop (ds.length - i) := by
  have e : ds.length - (i + 1) = ds.length - 1 - i := by omega
  rw [e, List.drop_eq_getElem_cons (by omega)]
  rw [List.getElem?_eq_getElem (by omega)] at h
  rw [Option.some.inj h]
  congr 2
  omega
theorem n_digs (a : Int) (n : Nat) (ha : 0 ≤ a) (hab : Builtin.Int.intBits a ≤ 3000) (hn : 25 ≤ n) :
    ∃ N : Nat, ((Builtin.Int.intBits a : Int) + (n : Int) - 1).fdiv (n : Int) = (N : Int) ∧ N ≤ 200 ∧ (a ≠ 0 → 1 ≤ N) ∧ (a = 0 → N = 0) ∧ a < 2 ^ (N * n) := by
  have e : ((Builtin.Int.intBits a : Int) + (n : Int) - 1).fdiv (n : Int) = (((Builtin.Int.intBits a + n - 1) / n : Nat) : Int) := by
    rw [Int.fdiv_eq_ediv_of_nonneg _ (by omega), show (Builtin.Int.intBits a : Int) + (n : Int) - 1 = ((Builtin.Int.intBits a + n - 1 : Nat) : Int) from by omega]
    exact (Int.natCast_ediv _ _).symm
  have hN : Builtin.Int.intBits a ≤ (Builtin.Int.intBits a + n - 1) / n * n := by
    have h1 := Nat.div_add_mod (Builtin.Int.intBits a + n - 1) n
    have h2 := Nat.mod_lt (Builtin.Int.intBits a + n - 1) (show n > 0 by omega)
    rw [Nat.mul_comm] at h1
    omega
  refine ⟨_, e, ?_, ?_, ?_, ?_⟩
  · rw [Nat.div_le_iff_le_mul_add_pred (by omega)]
    have : 25 * 200 ≤ n * 200 := Nat.mul_le_mul_right _ hn
    omega
  · intro h0
    have h1 : 1 ≤ Builtin.Int.intBits a := by
      unfold Builtin.Int.intBits
      rw [if_neg (by simpa using h0)]
      omega
    exact (Nat.le_div_iff_mul_le (by omega)).mpr (by omega)
  · rintro rfl
    have h1 : Builtin.Int.intBits 0 = 0 := rfl
    rw [h1]
    exact Nat.div_eq_of_lt (by omega)
  · by_cases h0 : a = 0
    · subst h0
      exact Int.pow_pos (by decide)
    · have h1 := (bits_pos (b := a) (by omega)).1
      have h2 : (2 : Nat) ^ Builtin.Int.intBits a ≤ 2 ^ ((Builtin.Int.intBits a + n - 1) / n * n) := Nat.pow_le_pow_right (by decide) hN
      have e1 : ((2 ^ Builtin.Int.intBits a : Nat) : Int) = 2 ^ Builtin.Int.intBits a := by simp
      have e2 : ((2 ^ ((Builtin.Int.intBits a + n - 1) / n * n) : Nat) : Int) = 2 ^ ((Builtin.Int.intBits a + n - 1) / n * n) := by simp
      omega
theorem st_ne {h₀ h : Heap} {L x y : Addr} {ox t oy u : Obj} (S : St30 x ox t) (S' : St37 y oy u) (N : News h₀ L h [(x, ox), (30, t), (y, oy), (37, u)]) : x ≠ y ∧ x ≠ 37 ∧ y ≠ 30 := by
  have a1 := (N _ (.head _)).1
  have a2 := (N _ (.tail _ (.head _))).1
  have a3 := (N _ (.tail _ (.tail _ (.head _)))).1
  have a4 := (N _ (.tail _ (.tail _ (.tail _ (.head _))))).1
  dsimp only at a1 a2 a3 a4
  refine ⟨?_, ?_, ?_⟩
  · rintro rfl
    rw [a1] at a3
    have e := Option.some.inj a3
    subst e
    rcases S with ⟨rfl, rfl, rfl⟩ | ⟨rfl, ⟨v, tq, h4, h5⟩, h6⟩
    · rcases S' with ⟨e, _, _⟩ | ⟨_, _, h6⟩
      · exact absurd e (by decide)
      · exact absurd h6 (by decide)
    · rcases S' with ⟨_, rfl, _⟩ | ⟨_, ⟨v', tq', h4', h5'⟩, _⟩
      · cases h4
        cases h5
      · rw [h4] at h4'
        cases h4'
        rw [h5] at h5'
        have := Option.some.inj h5'
        injection this with e1 _
        exact absurd e1 (by decide)
  · rintro rfl
    rw [a1] at a4
    have e := Option.some.inj a4
    subst e
    rcases S with ⟨e, _, _⟩ | ⟨_, ⟨v, tq, h4, h5⟩, _⟩
    · exact absurd e (by decide)
    · rcases S' with ⟨_, _, rfl⟩ | ⟨rfl, _, _⟩
      · cases h4
        cases h5
      · cases h4
        cases h5
  · rintro rfl
    rcases S' with ⟨e, _, _⟩ | ⟨_, _, h⟩
    · exact absurd e (by decide)
    · exact absurd h (by decide)
theorem St30.ne_seq {x : Addr} {ox t : Obj} (S : St30 x ox t) {v : Array Value} {n : Nat} : ox ≠ listOf v n := by
  rintro rfl
  rcases S with ⟨_, h, _⟩ | ⟨_, ⟨v, tq, h4, h5⟩, h6⟩
  · cases h
  · cases h4
theorem St37.ne_seq {x : Addr} {ox t : Obj} (S : St37 x ox t) {v : Array Value} {n : Nat} : ox ≠ listOf v n := by
  rintro rfl
  rcases S with ⟨_, h, _⟩ | ⟨_, ⟨v, tq, h4, h5⟩, h6⟩
  · cases h
  · cases h4
theorem name2 {P : Prop} {g h : Heap} {L I q : Addr} {o1 o2 : Obj} {rest : List (Addr × Obj)} (_ : News g L h ((I, o1) :: (q, o2) :: rest)) (use : ∀ I' q', I' = I → q' = q → P) : P := use I q rfl rfl
theorem name1 {P : Prop} {g h : Heap} {L I : Addr} {o1 : Obj} {rest : List (Addr × Obj)} (_ : News g L h ((I, o1) :: rest)) (use : ∀ I', I' = I → P) : P := use I rfl
theorem not_in {h₀ h : Heap} {L D : Addr} {lines : List (Addr × Obj)} (N : News h₀ L h lines) (hD : h.get? D = none) : ∀ p ∈ lines, p.1 ≠ D := fun p hp e => by
  have := (N p hp).1
  rw [e, hD] at this
  cases this
theorem ne_obj {h₀ h : Heap} {L a b : Addr} {oa ob : Obj} {news : List (Addr × Obj)} (N : News h₀ L h news) (ha : (a, oa) ∈ news) (hb : (b, ob) ∈ news) (hne : oa ≠ ob) : a ≠ b := by
  rintro rfl
  have := (N _ ha).1
  rw [(N _ hb).1] at this
  exact hne (Option.some.inj this).symm
theorem drop_step_val (n : Nat) (ds : List Int) (i : Nat) (d : Int) (h : ds[ds.length - 1 - i]? = some d) (hi : i < ds.length) : valD n (ds.drop (ds.length - (i + 1))) = d + 2 ^ n * valD n (ds.drop (ds.length - i)) := by
  rw [drop_step ds i d h hi]
  rfl
theorem bits_le_of {r b : Int} (h0 : 0 ≤ r) (h : r ≤ b) : Builtin.Int.intBits r ≤ Builtin.Int.intBits b := by
  by_cases hb : b = 0
  · subst hb
    have : r = 0 := by omega
    subst this
    exact Nat.le_refl _
  · have h1 := (bits_pos (b := b) (by omega)).1
    refine PyProof.Rows.intBits_le ?_
    have e1 : ((2 ^ Builtin.Int.intBits b : Nat) : Int) = 2 ^ Builtin.Int.intBits b := by simp
    omega
theorem shl_bits (b r d : Int) (hb : 0 < b) (hr : 0 ≤ r) (hrb : r < b) (hd : 0 ≤ d) (hdn : d < 2 ^ Builtin.Int.intBits b) : Builtin.Int.intBits (r * 2 ^ Builtin.Int.intBits b + d) ≤ 2 * Builtin.Int.intBits b := by
  refine PyProof.Rows.intBits_le ?_
  have hp : (0 : Int) < 2 ^ Builtin.Int.intBits b := Int.pow_pos (by decide)
  have h0 := (bits_pos hb).1
  have h1 : r * 2 ^ Builtin.Int.intBits b ≤ (b - 1) * 2 ^ Builtin.Int.intBits b := Int.mul_le_mul_of_nonneg_right (by omega) (Int.le_of_lt hp)
  rw [Int.sub_mul, Int.one_mul] at h1
  have h2 : b * 2 ^ Builtin.Int.intBits b ≤ 2 ^ Builtin.Int.intBits b * 2 ^ Builtin.Int.intBits b := Int.mul_le_mul_of_nonneg_right (by omega) (Int.le_of_lt hp)
  have h3 : 0 ≤ r * 2 ^ Builtin.Int.intBits b := Int.mul_nonneg hr (Int.le_of_lt hp)
  have e1 : ((2 ^ (2 * Builtin.Int.intBits b) : Nat) : Int) = 2 ^ Builtin.Int.intBits b * 2 ^ Builtin.Int.intBits b := by
    rw [Nat.two_mul, Nat.pow_add]
    simp
  omega
theorem div_unique {a b q r : Int} (hb : 0 < b) (h : a = q * b + r) (h0 : 0 ≤ r) (h1 : r < b) : q = a.fdiv b ∧ r = a.fmod b := by
  rw [Int.fdiv_eq_ediv_of_nonneg _ (Int.le_of_lt hb), Int.fmod_eq_emod_of_nonneg _ (Int.le_of_lt hb)]
  subst h
  rw [Int.add_comm, Int.add_mul_ediv_right _ _ (Int.ne_of_gt hb), Int.add_mul_emod_self_right, Int.ediv_eq_zero_of_lt h0 h1, Int.emod_eq_of_lt h0 h1]
  exact ⟨by omega, rfl⟩
end
section
local macro_rules | `(tactic| walk_at "call builtin:list.reverse") => `(tactic| (k_here; refine hold ?_))
local macro_rules | `(tactic| walk_at "binaryOp LShift int int") => `(tactic| (k_here; refine hold ?_))
abbrev DmR (q r : Int) (hp : Heap) (x0 y0 : Nat) (v : Value) (lines' : List (Addr × Obj)) (_ : Heap) : Prop :=
  ∃ D t1 t2 c x ox t y oy u, v = .ref D ∧ hp.get? D = none ∧ lines' = [(D, tup2 q t1 r t2 c), (x, ox), (30, t), (y, oy), (37, u)] ∧ St30 x ox t ∧ St37 y oy u ∧ @LE.le Nat _ x0 x ∧ @LE.le Nat _ y0 y
theorem c_dm (w : World) (hp : Heap) (x : Addr) (ox t : Obj) (y : Addr) (oy u : Obj) (S : St30 x ox t) (S' : St37 y oy u) (a b : Int) (ta tb : Tok) (ha : 0 ≤ a) (hb : 0 < b) (hab : Builtin.Int.intBits a ≤ 3000) (hbb : Builtin.Int.intBits b ≤ 2000) (hb25 : 25 ≤ Builtin.Int.intBits b) :
    CtrN w 49 210 [.int a ta, .int b tb] [(x, ox), (30, t), (y, oy), (37, u)] (fun h => h = hp) (DmR (a.fdiv b) (a.fmod b) hp x y) := by
  w_on
  unfold CtrN
  k_fill
  intro dp un gd cn cs ad ccd cl outer A₀ base h₀ L m s Q E mean mg mb B F X N0 T hk hd hu hH hret
  refine wpAny_call ?_
  k_dflt (refine' code_holeK ?k1 ?k2 ?k3 ?k4 ?k5 ?kA ?kF ?kK ?k6 ?k7 ?k8 ?k9 ?kB ?_ ?c2 ?c3 ?c4 ?c5; (case kA => exact rfl); (case kF => exact rfl); (case kK => assumption); (case k1 => k_asm); (case k2 => k_asm); (case k3 => k_asm); (case k4 => exact N0); (case k5 => k_asm); (case k6 => k_is); (case k7 => k_is); (case k8 => ktr_room); (case k9 => exact BindsTo.of_eq rfl); (case kB => exact locs rfl); (case c2 => exact rfl); (case c3 => exact rfl); (case c4 => exact rfl); (case c5 => decide); k_whole; intro g' L' h' hg9 F' N' B' X' T' l1; (try k_lt l1); (try dsimp only))
  k_steps
  unfold Hold
  (with_reducible rename News g' _ _ _ => N'9)
  obtain ⟨N, hNe, hN, hN1, hN0, hlt⟩ := n_digs a (Builtin.Int.intBits b) ha hab hb25
  obtain ⟨ne1, ne2, ne3⟩ := st_ne S S' N0
  ((with_unfolding_all refine' useNR ((c_i2d w _ x ox t S a (Builtin.Int.intBits b) _ _ N ha (by omega) (by omega) (by omega) hNe hN hN1 hN0)) ?x1 ?x2 ?x3 N'9 ?xd ?x5 ?x6 ?x7 ?x8 ?x9 ?_); (case x1 => k_asm); (case x2 => k_asm); (case x3 => k_asm); (case x5 => k_asm); (case x6 => first | rfl | assumption); (case x7 => ktr_room); (case x8 => ktr_units))
  case xd => intro p hp hm; simp only [List.map_cons, List.map_nil, List.mem_cons, List.not_mem_nil, or_false] at hp hm; rcases hp with rfl | rfl <;> rcases hm with e | e <;> simp_all
  case x9 => rfl
  rintro r h1 tk1 lines1 F1 N1 ⟨D, x', ox', t', ws, nn, rfl, hD, rfl, S1, hws, hxx⟩ kp1
  have d1 := not_in N'9 hD
  dsimp only [List.cons_append, List.nil_append] at N1
  have dx : x' ≠ D := ne_obj N1 (.tail _ (.head _)) (.head _) S1.ne_seq
  k_steps
  unfold Hold
  (with_reducible rename News g' _ _ _ => N5)
  refine name2 N5 ?_
  intro I lq eI eq
  subst eI eq
  have hds := fun h0 : a ≠ 0 => digsT_val (Builtin.Int.intBits b) N a (hN1 h0) ha hlt
  obtain ⟨ds, eds⟩ : ∃ ds, ds = (if a = 0 then [] else digsT (Builtin.Int.intBits b) N a) := ⟨_, rfl⟩
  rw [← eds] at hws
  have hdv : valD (Builtin.Int.intBits b) ds = a ∧ ∀ d ∈ ds, 0 ≤ d ∧ d < 2 ^ Builtin.Int.intBits b := by
    rw [eds]
    by_cases h0 : a = 0
    · rw [if_pos h0]; exact ⟨h0.symm, fun d hd => by cases hd⟩
    · rw [if_neg h0]; exact hds h0
  have hdl : ds.length ≤ 200 := by
    rw [eds]
    by_cases h0 : a = 0
    · rw [if_pos h0]; exact Nat.zero_le _
    · rw [if_neg h0, digsT_len _ _ _ (hN1 h0)]; exact hN
  clear hds eds hNe hN1 hN0 hlt hN kp1
  have hlen := IntsAre.length hws
  refine loop_rev (σ := (Int × Tok) × (List Value × Nat) × List Int) (fun c => [(lq, listOf c.2.1.1.toArray c.2.1.2), (x', ox'), (30, t'), (y, oy), (37, u)]) (fun c => [(Str.ofString "r", .int c.1.1 c.1.2)]) [Str.ofString "q_digit"]
    (fun i c => IntsAre c.2.1.1 c.2.2 ∧ c.2.2.length = i ∧ 0 ≤ c.1.1 ∧ c.1.1 < b ∧ valD (Builtin.Int.intBits b) (ds.drop (ds.length - i)) = valD (Builtin.Int.intBits b) c.2.2.reverse * b + c.1.1 ∧ ∀ d ∈ c.2.2, 0 ≤ d ∧ d < 2 ^ Builtin.Int.intBits b)
    ((0, _), ([], 0), []) (vs := ws) (nn := nn) rfl (by k_asm) N5 (by k_mem) (by k_mem) ?ne ?hnl (by intro p hp; rw [List.mem_singleton.mp hp]; rfl) ?hp (fun _ => rfl) ?turn ?done
  case ne => exact neN (by omega)
  case hnl =>
    intro q hq
    simp only [List.mem_cons, List.not_mem_nil, or_false] at hq
    rcases hq with rfl | rfl | rfl | rfl | rfl
    · exact ⟨by k_mem, neN (by omega), neN (by omega)⟩
    · exact ⟨by k_mem, neN (by omega), dx⟩
    · exact ⟨by k_mem, neN (by omega), d1 (30, t) (by k_mem)⟩
    · exact ⟨by k_mem, neN (by omega), d1 (y, oy) (by k_mem)⟩
    · exact ⟨by k_mem, neN (by omega), d1 (37, u) (by k_mem)⟩
  case hp =>
    refine ⟨.nil, rfl, Int.le_refl _, hb, ?_, fun d hd => by cases hd⟩
    simp [valD]
  case turn =>
    rintro ⟨⟨r, tr⟩, ⟨vals, nv⟩, qs⟩ i v u5 h tk own QT hi hv ⟨hP1, hP2, hP3, hP4, hP5, hP6⟩ hoff F2 N2 hnext hret1
    dsimp only [List.nil_append, List.cons_append] at F2 N2 hP1 hP2 hP3 hP4 hP5 hP6 hv ⊢
    obtain ⟨d, td, rfl, hd⟩ := IntsAre.at hws _ _ hv
    rw [hlen] at hd hi
    have hdb := hdv.2 d (List.mem_of_getElem? hd)
    have hstep := div_step (Builtin.Int.intBits b) b r d _ _ hb hP3 hP4 hdb.1 hdb.2 hP5
    rw [← drop_step_val (Builtin.Int.intBits b) ds i d hd hi] at hstep
    have hrb := bits_le_of hP3 (Int.le_of_lt hP4)
    have hsb := shl_bits b r d hb hP3 hP4 hdb.1 hdb.2
    k_steps
    unfold Hold
    refine lshift_int (by omega) (by omega) ?_
    rw [Int.toNat_natCast]
    k_steps
    unfold Hold
    (with_reducible rename News g' _ _ _ => N8)
    ((with_unfolding_all refine' useH (cdivH w _ b _ _ _ _ (by omega) (by omega) (nopylong (by omega))) ?x1 ?x2 ?x3 ?x4 ?x5 ?x6 ?x7 ?x8 ?x9 ?_); (case x1 => k_asm); (case x2 => k_asm); (case x3 => k_asm); (case x4 => k_asm); (case x5 => k_asm); (case x6 => first | rfl | assumption); (case x7 => ktr_room); (case x8 => ktr_units))
    case x9 => trivial
    rintro rv h' tk' F3 N3 kp2 ⟨D3, t1, t2, c, rfl, hD3, ho3⟩
    have d3 : @Ne Nat lq D3 := not_in N8 hD3 (lq, _) (.head _)
    have N4 := News.add N3 (by k_asm) hD3 ho3
    k_steps
    unfold Hold
    have hvl : vals.length ≤ 200 := by have := IntsAre.length hP1; omega
    ((refine' append_K ?k1 ?k2 ?k3 ?_ ?z; (case k1 => k_asm); (case k2 => k_asm); (case k3 => k_upd); (case z => (show vals.toArray.size ≤ 2 ^ 24; simp only [List.size_toArray]; omega))); intro h9' F9' N9'; (try k_sweep))
    k_steps
    ((rename Fr _ _ _ _ => fE'); (rename News _ _ _ _ => nE'); (try simp only [List.push_toArray] at nE'); (refine hnext ((((r * 2 ^ Builtin.Int.intBits b + d).fmod b, t2), (vals ++ [Value.int ((r * 2 ^ Builtin.Int.intBits b + d).fdiv b) t1], nv + 1), qs ++ [(r * 2 ^ Builtin.Int.intBits b + d).fdiv b])) _ _ _ _ fE' nE' (by first | kst_in | kst_inAny) (by first | (intro p hp; kst_mem) | kst_anyIn) (by kst_all) (by ((try dsimp only [mapT, kstB]); kst_same)) ?_); (try dsimp only))
    refine ⟨IntsAre.append hP1 (.cons _ _ .nil), by simp [hP2], hstep.2.1, hstep.2.2.1, ?_, fun e he => ?_⟩
    · rw [hstep.1, List.reverse_append]
      rfl
    · rcases List.mem_append.mp he with he | he
      · exact hP6 e he
      · rw [List.mem_singleton.mp he]
        exact hstep.2.2.2
  case done =>
    rintro ⟨⟨r, tr⟩, ⟨vals, nv⟩, qs⟩ u5 h tk ⟨hP1, hP2, hP3, hP4, hP5, hP6⟩ F2 N2
    dsimp only at F2 N2 hP1 hP2 hP3 hP4 hP5 hP6 ⊢
    k_steps
    unfold Hold
    have hvl : vals.length ≤ 200 := by have := IntsAre.length hP1; omega
    (refine' kl_reverse (l := vals.reverse) ?F ?N ?e ?U ?z ?_; (case F => k_asm); (case N => k_asm); (case e => rfl); (case U => k_upd); (case z => show vals.toArray.toList.length ≤ sizeLine; simp only [List.toList_toArray]; rw [show sizeLine = 2 ^ 24 from rfl]; omega))
    intro h5 F5 N5
    k_steps
    unfold Hold
    (with_reducible rename News g' _ _ _ => N8)
    obtain ⟨hqq, hrr⟩ : valD (Builtin.Int.intBits b) qs.reverse = a.fdiv b ∧ r = a.fmod b := by
      rw [hlen, Nat.sub_self, List.drop_zero, hdv.1] at hP5
      exact div_unique hb hP5 hP3 hP4
    have hrl : qs.reverse.length ≤ 200 := by rw [List.length_reverse]; omega
    have n8 : News g' L' _ ([(y, oy), (37, u)] ++ [(lq, listOf vals.reverse.toArray nv), (x', ox'), (30, t')]) := fun p hp => N8 p (by
      simp only [List.cons_append, List.nil_append, List.mem_cons, List.not_mem_nil, or_false] at hp
      rcases hp with rfl | rfl | rfl | rfl | rfl <;> k_mem)
    ((with_unfolding_all refine' useNR ((c_d2i w y oy u S' lq vals.reverse qs.reverse (PyProof.Rows.IntsAre.reverse hP1) (Builtin.Int.intBits b) _ (by omega) (by omega) (fun d hd => hP6 d (by simpa using hd)))) ?x1 ?x2 ?x3 n8 ?xd ?x5 ?x6 ?x7 ?x8 ?x9 ?_); (case x1 => k_asm); (case x2 => k_asm); (case x3 => k_asm); (case x5 => k_asm); (case x6 => first | rfl | assumption); (case x7 => ktr_room); (case x8 => ktr_units))
    case xd =>
      obtain ⟨q1, q2, q3⟩ := st_ne S1 S' (fun p hp => N8 p (.tail _ hp))
      intro p hp hm
      simp only [List.map_cons, List.map_nil, List.mem_cons, List.not_mem_nil, or_false] at hp hm
      rcases hp with rfl | rfl | rfl
      · rcases hm with e | e
        · exact (neN (by omega)) e
        · exact (neN (by omega)) e
      · rcases hm with e | e
        · exact q1 e
        · exact q2 e
      · rcases hm with e | e
        · exact q3 e.symm
        · exact (neN (by decide)) (show (30 : Nat) = 37 from e)
    case x9 => exact News.isList N8 (.head _)
    rintro rv h6 tk6 lines6 F6 N6 ⟨t6, y', oy', u', rfl, rfl, S6, hyy⟩ kp6
    dsimp only [List.cons_append, List.nil_append] at N6
    k_steps
    rename Fr g' _ _ _ => F9
    rename News g' _ _ _ => N9
    rename Fr h₀ _ _ _ => F8
    rename News h₀ _ _ _ => N8
    have zD := N9 _ (List.mem_cons_self ..)
    have zn := fresh_of hg9 zD.2.2 (by intro hm; simp only [List.map_cons, List.map_nil, List.mem_cons, List.not_mem_nil, or_false] at hm; rcases hm with e | e | e | e <;> exact (neN (by omega)) e)
    rw [hH] at zn
    subst hrr
    rw [hqq] at N8
    exact hret _ _ _ _ F8 (fun p hp => N8 p (by
      simp only [List.mem_cons, List.not_mem_nil, or_false] at hp
      rcases hp with rfl | rfl | rfl | rfl | rfl
      · exact List.mem_cons_self ..
      all_goals k_mem)) ⟨_, _, _, _, _, _, _, _, _, _, rfl, zn, rfl, S1, S6, hxx, hyy⟩ (fun b o hb e => F9.keep b o (hg9 b o hb e))
end
section
theorem useNXR {w : World} {f : Addr} {k : Nat} {vs : List Value} {lines rest : List (Addr × Obj)} {R : Heap → Value → List (Addr × Obj) → Heap → Prop} {dp un : Nat} {gd : Option (List Code)} {cn : Str} {cs : Scope} {a : Addr} {ccd : Value} {cl : List (Str × Addr)} {outer : List Env} {A₀ : Around} {base h₀ : Heap} {L : Addr} {m : Str → Option Value} {s : Shared} {Q E : Value → Shared → Prop} {mean : ExcName → Option Value} {mg mb : Str → Option Value}
    (C : ∀ hp, CtrN w f k vs lines (fun h => h = hp) (R hp)) (B : Below A₀ base outer h₀) (F : Fr h₀ L s.heap m) (X : (KH w.params).In h₀) (N : News h₀ L s.heap (lines ++ rest)) (hdis : ∀ p ∈ rest, p.1 ∉ lines.map (·.1)) (T : Top topProg LX mean mg mb h₀) (hk : cs.kind = .function) (hd : dp + k < recursionLimit) (hu : un + 8 * k < cLine)
    (hret : ∀ r h' tk' lines', Fr h₀ L h' m → News h₀ L h' (lines' ++ rest) → R s.heap r lines' h' → (∀ b o, b ∉ lines.map (·.1) → s.heap.get? b = some o → h'.get? b = some o) → Q r { s with heap := h', toks := tk' }) :
    wpAny (model RW.row.prog w) (ktrTop dp un gd cn cs L a ccd cl outer) (call (.ref f) vs) Q E s :=
  useNR (C s.heap) B F X N hdis T hk hd hu rfl hret
theorem useNX {w : World} {f : Addr} {k : Nat} {vs : List Value} {lines : List (Addr × Obj)} {R : Heap → Value → List (Addr × Obj) → Heap → Prop} {dp un : Nat} {gd : Option (List Code)} {cn : Str} {cs : Scope} {a : Addr} {ccd : Value} {cl : List (Str × Addr)} {outer : List Env} {A₀ : Around} {base h₀ : Heap} {L : Addr} {m : Str → Option Value} {s : Shared} {Q E : Value → Shared → Prop} {mean : ExcName → Option Value} {mg mb : Str → Option Value}
    (C : ∀ hp, CtrN w f k vs lines (fun h => h = hp) (R hp)) (B : Below A₀ base outer h₀) (F : Fr h₀ L s.heap m) (X : (KH w.params).In h₀) (N : News h₀ L s.heap lines) (T : Top topProg LX mean mg mb h₀) (hk : cs.kind = .function) (hd : dp + k < recursionLimit) (hu : un + 8 * k < cLine)
    (hret : ∀ r h' tk' lines', Fr h₀ L h' m → News h₀ L h' lines' → R s.heap r lines' h' → (∀ b o, b ∉ lines.map (·.1) → s.heap.get? b = some o → h'.get? b = some o) → Q r { s with heap := h', toks := tk' }) :
    wpAny (model RW.row.prog w) (ktrTop dp un gd cn cs L a ccd cl outer) (call (.ref f) vs) Q E s :=
  useN (C s.heap) B F X N T hk hd hu rfl hret
theorem fresh2 {h g h' : Heap} {L' D : Addr} {m : Str → Option Value} {lines : List (Addr × Obj)} (hg : ∀ b o, ¬ b ∈ lines.map (fun x => x.1) → h.get? b = some o → g.get? b = some o) (F' : Fr g L' h' m) (N' : News g L' h' lines) (hD : h'.get? D = none) : h.get? D = none := by
  cases q : h.get? D with
  | none => rfl
  | some o =>
    by_cases hm : D ∈ lines.map (fun x => x.1)
    · obtain ⟨p, hp, rfl⟩ := List.mem_map.mp hm
      rw [(N' p hp).1] at hD
      cases hD
    · rw [F'.keep _ _ (hg _ _ hm q)] at hD
      cases hD
abbrev ImC (w : World) (hp : Heap) (x : Addr) (ox t : Obj) (y : Addr) (oy u : Obj) (a b : Int) (ta tb : Tok) (k : Nat) : Prop :=
    CtrN w 56 k [.int a ta, .int b tb] [(x, ox), (30, t), (y, oy), (37, u)] (fun h => h = hp) (DmR (a.fdiv b) (a.fmod b) hp x y)
theorem c_im0 (w : World) (hp : Heap) (x : Addr) (ox t : Obj) (y : Addr) (oy u : Obj) (S : St30 x ox t) (S' : St37 y oy u) (a b : Int) (ta tb : Tok) (ha : 0 ≤ a) (hb : 0 < b) (hab : Builtin.Int.intBits a ≤ 3000) (hbb : Builtin.Int.intBits b ≤ 2000) (hb25 : 25 ≤ Builtin.Int.intBits b) :
    ImC w hp x ox t y oy u a b ta tb 211 := by
  unfold ImC
  w_on
  unfold CtrN
  k_fill
  intro dp un gd cn cs ad ccd cl outer A₀ base h₀ L m s Q E mean mg mb B F X N0 T hk hd hu hH hret
  refine wpAny_call ?_
  k_dflt (refine' code_holeK ?k1 ?k2 ?k3 ?k4 ?k5 ?kA ?kF ?kK ?k6 ?k7 ?k8 ?k9 ?kB ?_ ?c2 ?c3 ?c4 ?c5; (case kA => exact rfl); (case kF => exact rfl); (case kK => assumption); (case k1 => k_asm); (case k2 => k_asm); (case k3 => k_asm); (case k4 => exact N0); (case k5 => k_asm); (case k6 => k_is); (case k7 => k_is); (case k8 => ktr_room); (case k9 => exact BindsTo.of_eq rfl); (case kB => exact locs rfl); (case c2 => exact rfl); (case c3 => exact rfl); (case c4 => exact rfl); (case c5 => decide); k_whole; intro g' L' h' hg9 F' N' B' X' T' l1; (try k_lt l1); (try dsimp only))
  k_steps
  all_goals (try (exfalso; omega))
  unfold Hold
  (with_reducible rename News g' _ _ _ => N'9)
  ((with_unfolding_all refine' useNX (fun hp => c_dm w hp x ox t y oy u S S' a b _ _ ha hb hab hbb hb25) ?x1 ?x2 ?x3 ?x4 ?x5 ?x6 ?x7 ?x8 ?_); (case x1 => k_asm); (case x2 => k_asm); (case x3 => k_asm); (case x4 => k_asm); (case x5 => k_asm); (case x6 => first | rfl | assumption); (case x7 => ktr_room); (case x8 => ktr_units))
  rintro r h1 tk1 lines1 F1 N1 ⟨D, t1, t2, c, x', ox', t', y', oy', u', rfl, hD, rfl, S1, S6, hxx, hyy⟩ kp1
  have zn := fresh2 hg9 (by k_asm) N'9 hD
  rw [hH] at zn
  k_steps
  rename Fr g' _ _ _ => F9
  rename News g' _ _ _ => N9
  rename Fr h₀ _ _ _ => F8
  rename News h₀ _ _ _ => N8
  exact hret _ _ _ _ F8 N8 ⟨_, _, _, _, _, _, _, _, _, _, rfl, zn, rfl, S1, S6, hxx, hyy⟩ (fun b o hb e => F9.keep b o (hg9 b o hb e))
theorem not_small {a b : Int} (ha : a < 0) (hb : 0 < b) : 0 ≤ -a - 1 ∧ a.fdiv b = -((-a - 1).fdiv b) - 1 ∧ a.fmod b = b + (-((-a - 1).fmod b) - 1) := by
  rw [Int.fdiv_eq_ediv_of_nonneg _ (Int.le_of_lt hb), Int.fdiv_eq_ediv_of_nonneg _ (Int.le_of_lt hb), Int.fmod_eq_emod_of_nonneg _ (Int.le_of_lt hb), Int.fmod_eq_emod_of_nonneg _ (Int.le_of_lt hb)]
  have h1 := Int.emod_add_mul_ediv (-a - 1) b
  have h2 := Int.emod_nonneg (-a - 1) (Int.ne_of_gt hb)
  have h3 := Int.emod_lt_of_pos (-a - 1) hb
  have e : a = (-((-a - 1) / b) - 1) * b + (b + (-((-a - 1) % b) - 1)) := by
    rw [Int.sub_mul, Int.neg_mul, Int.one_mul, Int.mul_comm]
    omega
  have u := div_unique (a := a) (b := b) (q := -((-a - 1) / b) - 1) (r := b + (-((-a - 1) % b) - 1)) hb e (by omega) (by omega)
  rw [Int.fdiv_eq_ediv_of_nonneg _ (Int.le_of_lt hb), Int.fmod_eq_emod_of_nonneg _ (Int.le_of_lt hb)] at u
  exact ⟨by omega, u.1.symm, u.2.symm⟩
theorem neg_div {a b : Int} : a.fdiv b = (-a).fdiv (-b) ∧ a.fmod b = -((-a).fmod (-b)) := by
  have e1 : a.fdiv b = (-a).fdiv (-b) := (Int.neg_fdiv_neg ..).symm
  refine ⟨e1, ?_⟩
  have h1 := Int.fmod_add_mul_fdiv a b
  have h2 := Int.fmod_add_mul_fdiv (-a) (-b)
  rw [Int.neg_mul, ← e1] at h2
  omega
theorem c_im1 (w : World) (hp : Heap) (x : Addr) (ox t : Obj) (y : Addr) (oy u : Obj) (S : St30 x ox t) (S' : St37 y oy u) (a b : Int) (ta tb : Tok) (ha : a < 0) (hb : 0 < b) (hab : Builtin.Int.intBits a ≤ 3000) (hbb : Builtin.Int.intBits b ≤ 2000) (hb25 : 25 ≤ Builtin.Int.intBits b) :
    ImC w hp x ox t y oy u a b ta tb 212 := by
  unfold ImC
  w_on
  unfold CtrN
  k_fill
  intro dp un gd cn cs ad ccd cl outer A₀ base h₀ L m s Q E mean mg mb B F X N0 T hk hd hu hH hret
  refine wpAny_call ?_
  k_dflt (refine' code_holeK ?k1 ?k2 ?k3 ?k4 ?k5 ?kA ?kF ?kK ?k6 ?k7 ?k8 ?k9 ?kB ?_ ?c2 ?c3 ?c4 ?c5; (case kA => exact rfl); (case kF => exact rfl); (case kK => assumption); (case k1 => k_asm); (case k2 => k_asm); (case k3 => k_asm); (case k4 => exact N0); (case k5 => k_asm); (case k6 => k_is); (case k7 => k_is); (case k8 => ktr_room); (case k9 => exact BindsTo.of_eq rfl); (case kB => exact locs rfl); (case c2 => exact rfl); (case c3 => exact rfl); (case c4 => exact rfl); (case c5 => decide); k_whole; intro g' L' h' hg9 F' N' B' X' T' l1; (try k_lt l1); (try dsimp only))
  k_steps
  all_goals (try (exfalso; omega))
  unfold Hold
  (with_reducible rename News g' _ _ _ => N'9)
  obtain ⟨q1, q2, q3⟩ := not_small ha hb
  rw [show Builtin.bitNot a = -a - 1 from rfl]
  ((with_unfolding_all refine' useNX (fun hp => c_im0 w hp x ox t y oy u S S' (-a - 1) b _ _ q1 hb (Nat.le_trans (intBits_le_of_natAbs (by omega) (Nat.le_refl _)) hab) hbb hb25) ?x1 ?x2 ?x3 ?x4 ?x5 ?x6 ?x7 ?x8 ?_); (case x1 => k_asm); (case x2 => k_asm); (case x3 => k_asm); (case x4 => k_asm); (case x5 => k_asm); (case x6 => first | rfl | assumption); (case x7 => ktr_room); (case x8 => ktr_units))
  rintro r h1 tk1 lines1 F1 N1 ⟨D, t1, t2, c, x', ox', t', y', oy', u', rfl, hD, rfl, S1, S6, hxx, hyy⟩ kp1
  have d1 := not_in N'9 hD
  k_steps
  rename Fr g' _ _ _ => F9
  rename News g' _ _ _ => N9
  rename Fr h₀ _ _ _ => F8
  rename News h₀ _ _ _ => N8
  have zD := N9 _ (List.mem_cons_self ..)
  have zn := fresh_of hg9 zD.2.2 (by intro hm; simp only [List.map_cons, List.map_nil, List.mem_cons, List.not_mem_nil, or_false] at hm; rcases hm with e | e | e | e <;> exact (neN (by omega)) e)
  rw [hH] at zn
  rw [show Builtin.bitNot ((-a - 1).fdiv b) = a.fdiv b from q2.symm, show b + Builtin.bitNot ((-a - 1).fmod b) = a.fmod b from q3.symm] at N8
  exact hret _ _ _ _ F8 (fun p hp => N8 p (by
      simp only [List.mem_cons, List.not_mem_nil, or_false] at hp
      rcases hp with rfl | rfl | rfl | rfl | rfl
      · exact List.mem_cons_self ..
      all_goals k_mem)) ⟨_, _, _, _, _, _, _, _, _, _, rfl, zn, rfl, S1, S6, hxx, hyy⟩ (fun b o hb e => F9.keep b o (hg9 b o hb e))
theorem c_im01 (w : World) (x : Addr) (ox t : Obj) (y : Addr) (oy u : Obj) (S : St30 x ox t) (S' : St37 y oy u) (a b : Int) (ta tb : Tok) (hb : 0 < b) (hab : Builtin.Int.intBits a ≤ 3000) (hbb : Builtin.Int.intBits b ≤ 2000) (hb25 : 25 ≤ Builtin.Int.intBits b) (hp : Heap) :
    ImC w hp x ox t y oy u a b ta tb 212 := by
  by_cases ha : 0 ≤ a
  · unfold ImC
    intro dp un gd cn cs ad ccd cl outer A₀ base h₀ L m s Q E mean mg mb B F X N T hk hd hu hH hret
    exact c_im0 w hp x ox t y oy u S S' a b ta tb ha hb hab hbb hb25 dp un gd cn cs ad ccd cl outer A₀ base h₀ L m s Q E mean mg mb B F X N T hk (by omega) (by omega) hH hret
  · exact c_im1 w hp x ox t y oy u S S' a b ta tb (by omega) hb hab hbb hb25
theorem c_im2 (w : World) (hp : Heap) (x : Addr) (ox t : Obj) (y : Addr) (oy u : Obj) (S : St30 x ox t) (S' : St37 y oy u) (a b : Int) (ta tb : Tok) (hb : b < 0) (hab : Builtin.Int.intBits a ≤ 3000) (hbb : Builtin.Int.intBits b ≤ 2000) (hb25 : 25 ≤ Builtin.Int.intBits b) :
    ImC w hp x ox t y oy u a b ta tb 213 := by
  unfold ImC
  w_on
  unfold CtrN
  k_fill
  intro dp un gd cn cs ad ccd cl outer A₀ base h₀ L m s Q E mean mg mb B F X N0 T hk hd hu hH hret
  refine wpAny_call ?_
  k_dflt (refine' code_holeK ?k1 ?k2 ?k3 ?k4 ?k5 ?kA ?kF ?kK ?k6 ?k7 ?k8 ?k9 ?kB ?_ ?c2 ?c3 ?c4 ?c5; (case kA => exact rfl); (case kF => exact rfl); (case kK => assumption); (case k1 => k_asm); (case k2 => k_asm); (case k3 => k_asm); (case k4 => exact N0); (case k5 => k_asm); (case k6 => k_is); (case k7 => k_is); (case k8 => ktr_room); (case k9 => exact BindsTo.of_eq rfl); (case kB => exact locs rfl); (case c2 => exact rfl); (case c3 => exact rfl); (case c4 => exact rfl); (case c5 => decide); k_whole; intro g' L' h' hg9 F' N' B' X' T' l1; (try k_lt l1); (try dsimp only))
  k_steps
  all_goals (try (exfalso; omega))
  unfold Hold
  (with_reducible rename News g' _ _ _ => N'9)
  have eb : Builtin.Int.intBits (-b) = Builtin.Int.intBits b := Nat.le_antisymm (intBits_le_of_natAbs (by omega) (Nat.le_refl _)) (intBits_le_of_natAbs (by omega) (Nat.le_refl _))
  have ea : Builtin.Int.intBits (-a) = Builtin.Int.intBits a := Nat.le_antisymm (intBits_le_of_natAbs (by omega) (Nat.le_refl _)) (intBits_le_of_natAbs (by omega) (Nat.le_refl _))
  obtain ⟨q2, q3⟩ := neg_div (a := a) (b := b)
  ((with_unfolding_all refine' useNX (c_im01 w x ox t y oy u S S' (-a) (-b) _ _ (by omega) (by rw [ea]; exact hab) (by rw [eb]; exact hbb) (by rw [eb]; exact hb25)) ?x1 ?x2 ?x3 ?x4 ?x5 ?x6 ?x7 ?x8 ?_); (case x1 => k_asm); (case x2 => k_asm); (case x3 => k_asm); (case x4 => k_asm); (case x5 => k_asm); (case x6 => first | rfl | assumption); (case x7 => ktr_room); (case x8 => ktr_units))
  rintro r h1 tk1 lines1 F1 N1 ⟨D, t1, t2, c, x', ox', t', y', oy', u', rfl, hD, rfl, S1, S6, hxx, hyy⟩ kp1
  have d1 := not_in N'9 hD
  k_steps
  rename Fr g' _ _ _ => F9
  rename News g' _ _ _ => N9
  rename Fr h₀ _ _ _ => F8
  rename News h₀ _ _ _ => N8
  have zD := N9 _ (List.mem_cons_self ..)
  have zn := fresh_of hg9 zD.2.2 (by intro hm; simp only [List.map_cons, List.map_nil, List.mem_cons, List.not_mem_nil, or_false] at hm; rcases hm with e | e | e | e <;> exact (neN (by omega)) e)
  rw [hH] at zn
  rw [← q2, ← q3] at N8
  exact hret _ _ _ _ F8 (fun p hp => N8 p (by
      simp only [List.mem_cons, List.not_mem_nil, or_false] at hp
      rcases hp with rfl | rfl | rfl | rfl | rfl
      · exact List.mem_cons_self ..
      all_goals k_mem)) ⟨_, _, _, _, _, _, _, _, _, _, rfl, zn, rfl, S1, S6, hxx, hyy⟩ (fun b o hb e => F9.keep b o (hg9 b o hb e))
theorem c_im (w : World) (x : Addr) (ox t : Obj) (y : Addr) (oy u : Obj) (S : St30 x ox t) (S' : St37 y oy u) (a b : Int) (ta tb : Tok) (hb : b ≠ 0) (hab : Builtin.Int.intBits a ≤ 3000) (hbb : Builtin.Int.intBits b ≤ 2000) (hb25 : 25 ≤ Builtin.Int.intBits b) (hp : Heap) :
    ImC w hp x ox t y oy u a b ta tb 213 := by
  by_cases h : 0 < b
  · unfold ImC
    intro dp un gd cn cs ad ccd cl outer A₀ base h₀ L m s Q E mean mg mb B F X N T hk hd hu hH hret
    exact c_im01 w x ox t y oy u S S' a b ta tb h hab hbb hb25 hp dp un gd cn cs ad ccd cl outer A₀ base h₀ L m s Q E mean mg mb B F X N T hk (by omega) (by omega) hH hret
  · exact c_im2 w hp x ox t y oy u S S' a b ta tb (by omega) hab hbb hb25
end
section
theorem c_eof (w : World) (r : Int) (t : Tok) : 
    CtrH w 130 1 [.int r t] (fun _ => True) (fun _ v _ => v = .bool (r == 0)) := by
  w_on
  unfold CtrH
  k_fill
  intro dp un gd cn cs ad ccd cl outer A₀ base h₀ L m s Q E mean mg mb B F X T hk hd hu hH hret
  refine wpAny_call ?_
  k_dflt ktr_enter
  k_steps
  (rename News s.heap _ _ _ => N9; rename Fr s.heap _ _ _ => F9; refine hret _ _ _ F9.keep rfl)
end
section
def partS (al be : Int) (e j : Nat) : Int := (if 1 ≤ j then al * luc al be (e - 1) else 0) + (if 2 ≤ j then be * luc al be (e - 2) else 0)
local macro_rules | `(tactic| walk_at "call builtin:len") => `(tactic| (k_here; refine SBL.len (by rw [len_rep]; omega) ?_; rw [len_rep]))
local macro_rules | `(tactic| walk_at "subscriptTail") => `(tactic| (k_here; (with_reducible show wpAny _ _ (subscriptTail _ (PySem.Expr.Slice _ _ _ _) (Value.str _ _) (Value.ref _)) _ _ _); refine hold ?_))
local macro_rules | `(tactic| walk_at "subscriptTail") => `(tactic| (k_here; (with_reducible show wpAny _ _ (subscriptTail _ _ (Value.ref _) (Value.str _ _)) _ _ _); refine hold ?_))
local macro_rules | `(tactic| walk_at "compareOp In str ref") => `(tactic| (k_here; refine hold ?_))
theorem c_sums (w : World) (c k : Nat) (t : Tok) (hc : c ∈ signs5) (hk7 : k ≤ 7) (a1 b1 : Int) (l : Addr) (ms : List Value) (hm : IntsAre ms [a1, b1, 0]) (ha : 0 ≤ a1 ∧ a1 < 1000) (hb : 0 ≤ b1 ∧ b1 < 1000) (al be : Int) (hal : al = tok1 c + a1) (hbe : be = tok2 c + b1) : 
    CtrH w 151 2 [.str (repS c k) t, .ref l] (fun h => h.IsList l ms.toArray) (fun h r h' => ∃ D vs nn, r = .ref D ∧ h.get? D = none ∧ h'.get? D = some (listOf vs.toArray nn) ∧ IntsAre vs (sumsF al be k)) := by
  w_on
  unfold CtrH
  k_fill
  intro dp un gd cn cs ad ccd cl outer A₀ base h₀ L m s Q E mean mg mb B F X T hk hd hu hH hret
  refine wpAny_call ?_
  k_dflt ktr_enter
  k_steps
  unfold Hold
  rename IsRange _ _ _ _ _ _ _ _ => hR
  refine loop_range (σ := List Value × Nat) (fun c => [(_, listOf c.1.toArray c.2)]) (fun _ => [(Str.ofString "sums", .ref _)]) [Str.ofString "total", Str.ofString "size", Str.ofString "piece"] (fun i c => IntsAre c.1 (sumsF al be i)) ([_], 0) rfl hR (n := k) (small_one (by decide) (by omega) (by omega) (by omega)) (by rw [rangeSize_nat]; omega) (by k_asm) (by k_asm) (by intro p hp; obtain rfl := List.mem_singleton.mp hp; rfl) (.cons _ _ .nil) (fun _ => rfl) ?turn ?done
  case turn =>
    rintro ⟨vs, nn⟩ i ti u h tk own QT hlt hP hoff F1 N1 hnext hret1
    dsimp only [List.nil_append, List.cons_append] at F1 N1 hP ⊢
    k_steps
    unfold Hold
    rename IsRange _ _ _ _ _ _ _ _ => hR2
    refine loop_range (σ := Int × Tok) (fun _ => (_, listOf vs.toArray nn) :: own) (fun c => [(Str.ofString "total", .int c.1 c.2)]) [Str.ofString "piece"] (fun j c => c.1 = partS al be (i + 1) j) (0, _) rfl hR2 (n := min (i + 1) 3) (small_one (by decide) (by decide) (by split <;> omega) (by split <;> omega)) (by rw [rangeSize_nat]; split <;> omega) (by k_asm) (by k_asm) (by intro p hp; obtain rfl := List.mem_singleton.mp hp; rfl) rfl (fun _ => rfl) ?tin ?din
    case tin =>
      rintro ⟨a, ta⟩ j tj u2 h2 tk2 own2 QT2 hlt2 hP2 hoff2 F2 N2 hnext2 hret2
      dsimp only [List.nil_append, List.cons_append] at F2 N2 hP2 ⊢
      clear hnext hret1 hret hR
      k_steps
      unfold Hold
      (with_reducible rename Fr _ _ _ _ => F3)
      (with_reducible rename News _ _ _ _ => N3)
      refine slice_strN_ss (hsz := ?hsz) (s := ⟨_, _, _, _, _⟩) F3 N3 ?_
      case hsz => rw [len_rep]; show _ ≤ 2 ^ 24; omega
      intro h4 t4 k4 F4 N4
      rw [slice_rep c hc k (by omega) i hlt j hlt2]
      clear F3 N3
      k_steps
      unfold Hold
      obtain ⟨⟨q1, h1⟩, ⟨q2, h2'⟩, h3⟩ := tok_look w.params c hc
      obtain ⟨s1, s2, s3, s4⟩ := tok_small c hc
      have hj : j = 0 ∨ j = 1 ∨ j = 2 := by omega
      rcases hj with rfl | rfl | rfl
      · refine topIn_K (by k_asm) (by k_asm) (tok_hl _) (tok_keys _) h1 rfl ?_
        dsimp only [Option.isSome]
        k_steps
        unfold Hold
        refine topItem_K (by k_asm) (by k_asm) (tok_hl _) (tok_keys _) h1 ?_
        k_steps
        unfold Hold
        (with_reducible rename News _ _ _ _ => N5)
        refine item_list_intsR (News.isList N5 (.head _)) hP (by omega) (by rw [sumsF_len]; omega) (by omega) ?_
        intro t5
        rw [show ((1 : Int) + (i : Int) - (1 + ((0 : Nat) : Int))).toNat = i - 0 from by omega, sumsF_get al be i (i - 0) (by omega)]
        rw [show tok1 c + [a1, b1, 0].getD ((1 : Int) + ((0 : Nat) : Int) - 1).toNat 0 = al from hal.symm]
        k_steps
        ((rename Fr _ _ _ _ => fE'); (rename News _ _ _ _ => nE'); (try simp only [List.push_toArray] at nE'); (refine hnext2 (a + al * luc al be (i - 0), _) _ _ _ _ fE' nE' (by first | kst_in | kst_inAny) (by first | (intro p hp; kst_mem) | kst_anyIn) (by kst_all) (by ((try dsimp only [mapT, kstB]); kst_same)) ?_); (try dsimp only))
        rw [hP2]
        simp [partS]
      · refine topIn_K (by k_asm) (by k_asm) (tok_hl _) (tok_keys _) h2' rfl ?_
        dsimp only [Option.isSome]
        k_steps
        unfold Hold
        refine topItem_K (by k_asm) (by k_asm) (tok_hl _) (tok_keys _) h2' ?_
        k_steps
        unfold Hold
        (with_reducible rename News _ _ _ _ => N5)
        refine item_list_intsR (News.isList N5 (.head _)) hP (by omega) (by rw [sumsF_len]; omega) (by omega) ?_
        intro t5
        rw [show ((1 : Int) + (i : Int) - (1 + ((1 : Nat) : Int))).toNat = i - 1 from by omega, sumsF_get al be i (i - 1) (by omega)]
        rw [show tok2 c + [a1, b1, 0].getD ((1 : Int) + ((1 : Nat) : Int) - 1).toNat 0 = be from hbe.symm]
        k_steps
        ((rename Fr _ _ _ _ => fE'); (rename News _ _ _ _ => nE'); (try simp only [List.push_toArray] at nE'); (refine hnext2 (a + be * luc al be (i - 1), _) _ _ _ _ fE' nE' (by first | kst_in | kst_inAny) (by first | (intro p hp; kst_mem) | kst_anyIn) (by kst_all) (by ((try dsimp only [mapT, kstB]); kst_same)) ?_); (try dsimp only))
        rw [hP2]
        simp [partS]
      · refine topIn_K (by k_asm) (by k_asm) (tok_hl _) (tok_keys _) h3 rfl ?_
        k_steps
        ((rename Fr _ _ _ _ => fE'); (rename News _ _ _ _ => nE'); (try simp only [List.push_toArray] at nE'); (refine hnext2 (a, ta) _ _ _ _ fE' nE' (by first | kst_in | kst_inAny) (by first | (intro p hp; kst_mem) | kst_anyIn) (by kst_all) (by ((try dsimp only [mapT, kstB]); kst_same)) ?_); (try dsimp only))
        rw [hP2]
        simp [partS]
    case din =>
      rintro ⟨a, ta⟩ u2 h2 tk2 hP2 F2 N2
      dsimp only [List.nil_append, List.cons_append] at F2 N2 hP2 ⊢
      have hlen := IntsAre.length hP
      rw [sumsF_len] at hlen
      k_steps
      unfold Hold
      ((refine' append_K ?k1 ?k2 ?k3 ?_ ?z; (case k1 => k_asm); (case k2 => k_asm); (case k3 => k_upd); (case z => (show vs.toArray.size ≤ 2 ^ 24; simp only [List.size_toArray]; omega))); intro h9' F9' N9'; (try k_sweep))
      k_steps
      ((rename Fr _ _ _ _ => fE'); (rename News _ _ _ _ => nE'); (try simp only [List.push_toArray] at nE'); (refine hnext (vs ++ [Value.int a ta], nn + 1) _ _ _ _ fE' nE' (by first | kst_in | kst_inAny) (by first | (intro p hp; kst_mem) | kst_anyIn) (by kst_all) (by ((try dsimp only [mapT, kstB]); kst_same)) ?_); (try dsimp only))
      have ha2 : a = luc al be (i + 1) := by
        rw [hP2]
        rcases i with _ | i
        · simp [partS, luc]
        · have : min (i + 1 + 1) 3 = 2 ∨ min (i + 1 + 1) 3 = 3 := by omega
          rcases this with e | e <;> (rw [e]; simp [partS, luc])
      rw [ha2]
      have e : sumsF al be (i + 1) = sumsF al be i ++ [luc al be (i + 1)] := by
        unfold sumsF
        rw [List.range_succ, List.map_append]
        rfl
      rw [e]
      exact IntsAre.append hP (.cons _ _ .nil)
  case done =>
    rintro ⟨vs, nn⟩ u h tk hP F1 N1
    dsimp only at F1 N1 hP ⊢
    k_steps
    rename News s.heap _ _ _ => N9
    rename Fr s.heap _ _ _ => F9
    have z := N9 _ (List.mem_cons_self ..)
    exact hret _ _ _ F9.keep ⟨_, _, _, rfl, z.2.2, z.1, hP⟩
end
section
def pieceS (c : Nat) (b : Bool) (j : Nat) : Str := if b then ⟨#[c, 65024 + j]⟩ else ⟨#[c]⟩
def pieceT (c : Nat) (b : Bool) : Str := if b then ⟨#[c, 44]⟩ else ⟨#[c]⟩
/-- how many signs stand between unseen ones -/
def lens : Nat → List Bool → List Nat
  | k, [] => [k]
  | k, true :: r => (k + 1) :: lens 0 r
  | k, false :: r => lens (k + 1) r
def piecesS (c : Nat) : Nat → List Bool → List Str
  | _, [] => []
  | j, b :: r => pieceS c b j :: piecesS c (j + 1) r
theorem pieces_range (c : Nat) (f : Nat → Bool) : ∀ n s, (List.range' s n).map (fun j => pieceS c (f j) j) = piecesS c s ((List.range' s n).map f)
  | 0, _ => rfl
  | n + 1, s => by
    rw [List.range'_succ, List.map_cons, List.map_cons, piecesS, pieces_range c f n (s + 1)]
theorem pieces_range0 (c : Nat) (f : Nat → Bool) (n : Nat) : (List.range n).map (fun j => pieceS c (f j) j) = piecesS c 0 ((List.range n).map f) := by
  rw [List.range_eq_range', pieces_range]
theorem join0 : ∀ ts : List Str, (Str.join ⟨#[]⟩ ts).cps.toList = (ts.map fun t => t.cps.toList).flatten
  | [] => rfl
  | [x] => by simp [Str.join]
  | x :: y :: r => by
    rw [show Str.join ⟨#[]⟩ (x :: y :: r) = x ++ ⟨#[]⟩ ++ Str.join ⟨#[]⟩ (y :: r) from rfl, PyProof.Rows.cps_toList_append, PyProof.Rows.cps_toList_append, join0 (y :: r)]
    simp
theorem rep_snoc (c k : Nat) : repS c k ++ (⟨#[c]⟩ : Str) = repS c (k + 1) := by
  show (⟨(List.replicate k c).toArray ++ #[c]⟩ : Str) = ⟨(List.replicate (k + 1) c).toArray⟩
  congr 1
  apply Array.toList_inj.mp
  rw [List.replicate_succ']
  simp
theorem blocks_lens (c : Nat) (hc : c ∈ signs5) : ∀ (bs : List Bool) (j k : Nat) (pre : List Str), j + bs.length ≤ 8 → (((piecesS c j bs).map fun t => t.cps.toList).flatten).foldl stepB (pre ++ [repS c k]) = pre ++ (lens k bs).map (repS c)
  | [], _, _, _, _ => rfl
  | b :: r, j, k, pre, h => by
    have h1 : stepB (pre ++ [repS c k]) c = pre ++ [repS c (k + 1)] := by
      unfold stepB
      rw [sign_b1 c hc, if_neg Bool.false_ne_true, List.dropLast_concat, List.getLastD_concat, rep_snoc]
    simp only [List.length_cons] at h
    cases b with
    | true =>
      show (([c, 65024 + j] ++ ((piecesS c (j + 1) r).map fun t => t.cps.toList).flatten)).foldl stepB (pre ++ [repS c k]) = _
      rw [List.foldl_append, List.foldl_cons, List.foldl_cons, List.foldl_nil, h1]
      have h2 : stepB (pre ++ [repS c (k + 1)]) (65024 + j) = (pre ++ [repS c (k + 1)]) ++ [repS c 0] := by
        unfold stepB
        rw [mark_b1 j (by omega), if_pos rfl]
        rfl
      rw [h2, blocks_lens c hc r (j + 1) 0 _ (by omega)]
      simp [lens]
    | false =>
      show (([c] ++ ((piecesS c (j + 1) r).map fun t => t.cps.toList).flatten)).foldl stepB (pre ++ [repS c k]) = _
      rw [List.foldl_append, List.foldl_cons, List.foldl_nil, h1, blocks_lens c hc r (j + 1) (k + 1) _ (by omega)]
      rfl
theorem txt_join (x : Str) (ts : List Str) : Txt.join x ts = Str.join x ts := PySem.StrLaws.glued_eq_join x ts
theorem blocks_are (c : Nat) (hc : c ∈ signs5) (f : Nat → Bool) (n : Nat) (hn : n ≤ 8) :
    blocksF (Txt.join (Str.ofString "") ((List.range n).map fun j => pieceS c (f j) j)).cps.toList = (lens 0 ((List.range n).map f)).map (repS c) := by
  rw [txt_join, show Str.ofString "" = ⟨#[]⟩ from rfl, pieces_range0, join0]
  have := blocks_lens c hc ((List.range n).map f) 0 0 [] (by simpa using hn)
  rw [List.nil_append, List.nil_append] at this
  exact this
theorem codes_ok (c : Nat) (hc : c ∈ signs5) : ∀ (bs : List Bool) (j : Nat), j + bs.length ≤ 8 → ∀ x ∈ ((piecesS c j bs).map fun t => t.cps.toList).flatten, x ∈ signs5 ∨ inB1 (x : Int) = true
  | [], _, _, x, hx => by cases hx
  | b :: r, j, h, x, hx => by
    simp only [List.length_cons] at h
    rw [piecesS, List.map_cons, List.flatten_cons] at hx
    rcases List.mem_append.mp hx with hx | hx
    · cases b with
      | true =>
        have hx' : x ∈ [c, 65024 + j] := hx
        simp only [List.mem_cons, List.not_mem_nil, or_false] at hx'
        rcases hx' with rfl | rfl
        · exact .inl hc
        · exact .inr (mark_b1 j (by omega))
      | false =>
        have hx' : x ∈ [c] := hx
        rw [List.mem_singleton.mp hx']
        exact .inl hc
    · exact codes_ok c hc r (j + 1) (by omega) x hx
theorem text_ok (c : Nat) (hc : c ∈ signs5) (f : Nat → Bool) (n : Nat) (hn : n ≤ 8) : ∀ x ∈ (Txt.join (Str.ofString "") ((List.range n).map fun j => pieceS c (f j) j)).cps.toList, x ∈ signs5 ∨ inB1 (x : Int) = true := by
  rw [txt_join, show Str.ofString "" = ⟨#[]⟩ from rfl, pieces_range0, join0]
  exact codes_ok c hc _ 0 (by simpa using hn)
theorem codes_len (c : Nat) : ∀ (bs : List Bool) (j : Nat), (((piecesS c j bs).map fun t => t.cps.toList).flatten).length ≤ 2 * bs.length
  | [], _ => Nat.le_refl _
  | b :: r, j => by
    rw [piecesS, List.map_cons, List.flatten_cons, List.length_append, List.length_cons]
    have h1 := codes_len c r (j + 1)
    have h2 : (pieceS c b j).cps.toList.length ≤ 2 := by
      cases b
      · exact Nat.le_succ 1
      · exact Nat.le_refl 2
    omega
theorem text_len (c : Nat) (f : Nat → Bool) (n : Nat) : (Txt.join (Str.ofString "") ((List.range n).map fun j => pieceS c (f j) j)).cps.size ≤ 2 * n := by
  rw [← Array.length_toList, txt_join, show Str.ofString "" = ⟨#[]⟩ from rfl, pieces_range0, join0]
  have := codes_len c ((List.range n).map f) 0
  simpa using this
/-- parts joined by a sign -/
def joinN (s : Nat) : List (List Nat) → List Nat
  | [] => []
  | [x] => x
  | x :: y :: r => x ++ s :: joinN s (y :: r)
theorem join_joinN (s : Nat) : ∀ ts : List Str, (Str.join ⟨#[s]⟩ ts).cps.toList = joinN s (ts.map fun t => t.cps.toList)
  | [] => rfl
  | [x] => by simp [Str.join, joinN]
  | x :: y :: r => by
    rw [show Str.join ⟨#[s]⟩ (x :: y :: r) = x ++ ⟨#[s]⟩ ++ Str.join ⟨#[s]⟩ (y :: r) from rfl, PyProof.Rows.cps_toList_append, PyProof.Rows.cps_toList_append, join_joinN s (y :: r)]
    simp [joinN]
theorem head_uniq (s : Nat) : ∀ {x y a b : List Nat}, s ∉ x → s ∉ y → x ++ s :: a = y ++ s :: b → x = y ∧ a = b
  | [], [], _, _, _, _, h => ⟨rfl, by simpa using h⟩
  | [], z :: y, _, _, _, hy, h => by
    have : s = z := by simpa using (List.cons.inj h).1
    exact absurd (this ▸ List.mem_cons_self ..) hy
  | z :: x, [], _, _, hx, _, h => by
    have : z = s := by simpa using (List.cons.inj h).1
    exact absurd (this ▸ List.mem_cons_self ..) hx
  | z :: x, z' :: y, a, b, hx, hy, h => by
    have h1 := List.cons.inj h
    obtain ⟨e1, e2⟩ := head_uniq s (fun q => hx (List.mem_cons_of_mem _ q)) (fun q => hy (List.mem_cons_of_mem _ q)) h1.2
    exact ⟨by rw [h1.1, e1], e2⟩
theorem joinN_uniq (s : Nat) : ∀ {P Q : List (List Nat)}, P ≠ [] → Q ≠ [] → (∀ p ∈ P, s ∉ p) → (∀ q ∈ Q, s ∉ q) → joinN s P = joinN s Q → P = Q
  | [], _, h, _, _, _, _ => absurd rfl h
  | _, [], _, h, _, _, _ => absurd rfl h
  | [x], [y], _, _, _, _, h => by
    have : x = y := h
    rw [this]
  | [x], y :: z :: r, _, _, hP, _, h => by
    have h' : x = y ++ s :: joinN s (z :: r) := h
    exact absurd (h' ▸ List.mem_append_right _ (List.mem_cons_self ..)) (hP x (.head _))
  | x :: z :: r, [y], _, _, _, hQ, h => by
    have h' : x ++ s :: joinN s (z :: r) = y := h
    exact absurd (h' ▸ List.mem_append_right _ (List.mem_cons_self ..)) (hQ y (.head _))
  | x :: z :: r, y :: z' :: r', _, _, hP, hQ, h => by
    obtain ⟨e1, e2⟩ := head_uniq s (hP x (.head _)) (hQ y (.head _)) h
    have e3 := joinN_uniq s (P := z :: r) (Q := z' :: r') (by simp) (by simp) (fun p hp => hP p (.tail _ hp)) (fun q hq => hQ q (.tail _ hq)) e2
    rw [e1, e3]
theorem lens_ne : ∀ (k : Nat) (bs : List Bool), lens k bs ≠ []
  | _, [] => by simp [lens]
  | _, true :: _ => by simp [lens]
  | k, false :: r => lens_ne (k + 1) r
theorem join_lens (c : Nat) : ∀ (bs : List Bool) (k : Nat), joinN 44 ((lens k bs).map fun l => List.replicate l c) = List.replicate k c ++ ((bs.map (pieceT c)).map fun t => t.cps.toList).flatten
  | [], k => by simp [lens, joinN]
  | true :: r, k => by
    have ih := join_lens c r 0
    cases hl : lens 0 r with
    | nil => exact absurd hl (lens_ne 0 r)
    | cons l0 ls =>
      rw [hl] at ih
      rw [lens, hl]
      show List.replicate (k + 1) c ++ 44 :: joinN 44 ((l0 :: ls).map fun l => List.replicate l c) = _
      rw [ih, List.replicate_succ']
      simp [pieceT]
  | false :: r, k => by
    rw [lens, join_lens c r (k + 1), List.replicate_succ']
    simp [pieceT]
theorem split_are (c : Nat) (hc : c ≠ 44) (bs : List Bool) : Txt.split (Txt.join (Str.ofString "") (bs.map (pieceT c))) (Str.ofString ",") = (lens 0 bs).map (repS c) := by
  have hs : Str.ofString "," = ⟨#[44]⟩ := by kernel_rfl
  rw [hs]
  generalize hx : Txt.join (Str.ofString "") (bs.map (pieceT c)) = x
  have h1 := PySem.StrLaws.join_split x ⟨#[44]⟩
  have h2 := PySem.StrLaws.split_free x 44
  have h3 := split_pos x ⟨#[44]⟩
  have e1 : joinN 44 ((Txt.split x ⟨#[44]⟩).map fun t => t.cps.toList) = x.cps.toList := by rw [← join_joinN, h1]
  have e2 : joinN 44 (((lens 0 bs).map (repS c)).map fun t => t.cps.toList) = x.cps.toList := by
    rw [List.map_map, ← hx, txt_join, show Str.ofString "" = ⟨#[]⟩ from rfl, join0]
    have := join_lens c bs 0
    rw [List.replicate_zero, List.nil_append] at this
    rw [← this]
    congr 1
  have e3 := joinN_uniq 44 (by intro q; rw [List.map_eq_nil_iff] at q; rw [q] at h3; exact absurd h3 (by decide)) (by intro q; rw [List.map_eq_nil_iff, List.map_eq_nil_iff] at q; exact lens_ne _ _ q)
    (fun p hp => by obtain ⟨t, ht, rfl⟩ := List.mem_map.mp hp; exact h2 t ht) (fun q hq => by
      obtain ⟨t, ht, rfl⟩ := List.mem_map.mp hq
      obtain ⟨l, _, rfl⟩ := List.mem_map.mp ht
      show 44 ∉ (List.replicate l c).toArray.toList
      intro hm
      exact hc (List.eq_of_mem_replicate (by simpa using hm)).symm) (e1.trans e2.symm)
  have inj : ∀ {P Q : List Str}, P.map (fun t => t.cps.toList) = Q.map (fun t => t.cps.toList) → P = Q := by
    intro P
    induction P with
    | nil => intro Q h; rw [List.map_nil] at h; exact (List.map_eq_nil_iff.mp h.symm).symm
    | cons p P ih =>
      intro Q h
      cases Q with
      | nil => cases h
      | cons q Q =>
        have h' := List.cons.inj h
        have : p = q := by
          have := Array.toList_inj.mp h'.1
          cases p; cases q; congr
        rw [this, ih h'.2]
  exact inj e3
theorem lens_sum : ∀ (bs : List Bool) (k : Nat), (lens k bs).sum = k + bs.length
  | [], k => by simp [lens]
  | true :: r, k => by rw [lens, List.sum_cons, lens_sum r 0, List.length_cons]; omega
  | false :: r, k => by rw [lens, lens_sum r (k + 1), List.length_cons]; omega
theorem lens_length : ∀ (bs : List Bool) (k : Nat), (lens k bs).length ≤ bs.length + 1
  | [], _ => Nat.le_refl _
  | true :: r, _ => by rw [lens, List.length_cons, List.length_cons]; exact Nat.succ_le_succ (lens_length r 0)
  | false :: r, k => by rw [lens, List.length_cons]; exact Nat.le_succ_of_le (lens_length r (k + 1))
theorem join_reps (c : Nat) : ∀ ls : List Nat, ((ls.map (repS c)).map fun t => t.cps.toList).flatten = List.replicate ls.sum c
  | [] => rfl
  | l :: r => by
    rw [List.map_cons, List.map_cons, List.flatten_cons, join_reps c r, List.sum_cons]
    exact List.replicate_append_replicate
theorem join_blocks (c : Nat) (ls : List Nat) : Txt.join (Str.ofString "") (ls.map (repS c)) = repS c ls.sum := by
  rw [txt_join, show Str.ofString "" = ⟨#[]⟩ from rfl]
  have := (join0 (ls.map (repS c))).trans (join_reps c ls)
  cases h : Str.join ⟨#[]⟩ (ls.map (repS c)) with
  | mk a =>
    rw [h] at this
    unfold repS
    congr 1
    apply Array.toList_inj.mp
    simpa using this
end
section
/-- the product of the first n sums -/
def PU (al be : Int) : Nat → Int
  | 0 => 1
  | n + 1 => PU al be n * luc al be n
theorem luc_add (al be : Int) : ∀ k l, luc al be (k + l + 2) = luc al be (k + 1) * luc al be (l + 1) + be * luc al be k * luc al be l
  | 0, l => by
    rw [Nat.zero_add, luc]
    show al * luc al be (l + 1) + be * luc al be l = al * luc al be (l + 1) + be * 1 * luc al be l
    rw [Int.mul_one]
  | k + 1, l => by
    have h1 := luc_add al be k (l + 1)
    rw [show k + 1 + l + 2 = k + (l + 1) + 2 from by omega, h1, show luc al be (l + 1 + 1) = al * luc al be (l + 1) + be * luc al be l from by rw [luc],
      show luc al be (k + 1 + 1) = al * luc al be (k + 1) + be * luc al be k from by rw [luc]]
    simp only [Int.mul_add, Int.add_mul, Int.mul_assoc, Int.mul_comm, Int.mul_left_comm]
    omega
theorem luc_pos (al be : Int) (h0 : 0 < al) (h1 : 0 < be) : ∀ n, 0 < luc al be n := by
  intro n
  induction n using Nat.strongRecOn with
  | ind n ih =>
    match n, ih with
    | 0, _ => exact (by decide : (0 : Int) < 1)
    | 1, _ => exact h0
    | n + 2, ih =>
      rw [luc]
      exact Int.add_pos (Int.mul_pos h0 (ih (n + 1) (by omega))) (Int.mul_pos h1 (ih n (by omega)))
theorem PU_pos (al be : Int) (h0 : 0 < al) (h1 : 0 < be) : ∀ n, 0 < PU al be n
  | 0 => (by decide : (0 : Int) < 1)
  | n + 1 => Int.mul_pos (PU_pos al be h0 h1 n) (luc_pos al be h0 h1 n)
theorem prod_snoc (l : List Int) (a : Int) : (l ++ [a]).prod = l.prod * a := by simp
theorem PU_prod (al be : Int) : ∀ n, ((List.range n).map (luc al be)).prod = PU al be n
  | 0 => rfl
  | n + 1 => by rw [List.range_succ, List.map_append, List.map_cons, List.map_nil, prod_snoc, PU_prod al be n, PU]
theorem sums_take (al be : Int) (n : Nat) : (sumsF al be n).take n = (List.range n).map (luc al be) := by
  unfold sumsF
  rw [← List.map_take, List.take_range, Nat.min_eq_left (by omega)]
theorem dealt_law (al be : Int) (n : Nat) : ∀ N k l, k + l = N → k + l ≤ n → PU al be (k + l) = PU al be k * PU al be l * dealtF (sumsF al be n) be k l := by
  intro N
  induction N using Nat.strongRecOn with
  | ind N ih =>
    intro k l hN hn
    match k, l with
    | 0, l => rw [dealtF, Nat.zero_add, Int.mul_one]; show _ = 1 * _; rw [Int.one_mul]
    | k + 1, 0 => rw [dealtF, Nat.add_zero, Int.mul_one]; show _ = _ * 1; rw [Int.mul_one]
    | k + 1, 1 =>
      rw [dealtF, sumsF_get al be n (k + 1) (by omega), show PU al be (k + 1 + 1) = PU al be (k + 1) * luc al be (k + 1) from rfl]
      show _ = PU al be (k + 1) * (1 * 1) * luc al be (k + 1)
      rw [Int.mul_one, Int.mul_one]
    | k + 1, l + 2 =>
      rw [dealtF, sumsF_get al be n (k + 1) (by omega), sumsF_get al be n l (by omega)]
      have h1 := ih (k + 1 + (l + 1)) (by omega) (k + 1) (l + 1) rfl (by omega)
      have h2 := ih (k + (l + 2)) (by omega) k (l + 2) rfl (by omega)
      have e1 : PU al be (k + 1 + (l + 2)) = PU al be (k + l + 2) * luc al be (k + l + 2) := by rw [show k + 1 + (l + 2) = (k + l + 2) + 1 from by omega, PU]
      rw [show k + 1 + (l + 1) = k + l + 2 from by omega] at h1
      rw [show k + (l + 2) = k + l + 2 from by omega] at h2
      have e2 : PU al be (l + 2) = PU al be (l + 1) * luc al be (l + 1) := rfl
      have e3 : PU al be (k + 1) = PU al be k * luc al be k := rfl
      have e4 := luc_add al be k l
      rw [e1, e4, Int.mul_add]
      have a1 : PU al be (k + l + 2) * (luc al be (k + 1) * luc al be (l + 1)) = PU al be (k + 1) * PU al be (l + 2) * (luc al be (k + 1) * dealtF (sumsF al be n) be (k + 1) (l + 1)) := by
        rw [h1, e2]
        simp only [Int.mul_assoc, Int.mul_comm, Int.mul_left_comm]
      have a2 : PU al be (k + l + 2) * (be * luc al be k * luc al be l) = PU al be (k + 1) * PU al be (l + 2) * (be * luc al be l * dealtF (sumsF al be n) be k (l + 2)) := by
        rw [h2, e3]
        simp only [Int.mul_assoc, Int.mul_comm, Int.mul_left_comm]
      rw [a1, a2, ← Int.mul_add]
theorem pos_of_mul {a b : Int} (h : 0 < a * b) (ha : 0 < a) : 0 < b := by
  rcases Int.lt_trichotomy b 0 with h1 | h1 | h1
  · have := Int.mul_neg_of_pos_of_neg ha h1
    omega
  · subst h1
    rw [Int.mul_zero] at h
    omega
  · exact h1
theorem le_of_mul {a b c : Int} (e : a = b * c) (ha : 0 < a) (hb : 0 < b) : 0 < c ∧ c ≤ a := by
  have hc : 0 < c := pos_of_mul (e ▸ ha) hb
  refine ⟨hc, ?_⟩
  have h1 : 1 * c ≤ b * c := Int.mul_le_mul_of_nonneg_right (by omega) (Int.le_of_lt hc)
  rw [e]
  omega
theorem dealt_pos (al be : Int) (h0 : 0 < al) (h1 : 0 < be) (n k l : Nat) (h : k + l ≤ n) : 0 < dealtF (sumsF al be n) be k l ∧ dealtF (sumsF al be n) be k l ≤ PU al be (k + l) :=
  le_of_mul (dealt_law al be n _ k l rfl h) (PU_pos al be h0 h1 _) (Int.mul_pos (PU_pos al be h0 h1 _) (PU_pos al be h0 h1 _))
theorem luc_le12 (al be : Int) (h0 : 0 < al) (h1 : 0 < be) (h2 : al + be ≤ 2100) : ∀ n, luc al be n ≤ 2 ^ (12 * n) := by
    intro n
    have h := (luc_bound al be (Int.le_of_lt h0) (Int.le_of_lt h1) h2 n).2
    have h3 : (2100 : Nat) ^ n ≤ (2 ^ 12) ^ n := Nat.pow_le_pow_left (by decide) n
    rw [← Nat.pow_mul] at h3
    have e1 : ((2100 ^ n : Nat) : Int) = 2100 ^ n := by simp
    have e2 : ((2 ^ (12 * n) : Nat) : Int) = 2 ^ (12 * n) := by simp
    omega
theorem mul_pow_le {a b : Int} {i j : Nat} (ha : 0 ≤ a) (h1 : a ≤ 2 ^ i) (h2 : b ≤ 2 ^ j) : a * b ≤ 2 ^ (i + j) := by
  rw [Int.pow_add]
  exact Int.le_trans (Int.mul_le_mul_of_nonneg_left h2 ha) (Int.mul_le_mul_of_nonneg_right h1 (Int.pow_nonneg (by decide)))
theorem pow_mono {i j : Nat} (h : i ≤ j) : (2 : Int) ^ i ≤ 2 ^ j := by
  have h3 : (2 : Nat) ^ i ≤ 2 ^ j := Nat.pow_le_pow_right (by decide) h
  have e1 : ((2 ^ i : Nat) : Int) = 2 ^ i := by simp
  have e2 : ((2 ^ j : Nat) : Int) = 2 ^ j := by simp
  omega
theorem PU_le (al be : Int) (h0 : 0 < al) (h1 : 0 < be) (h2 : al + be ≤ 2100) : ∀ n, n ≤ 8 → PU al be n ≤ 2 ^ (84 * n)
  | 0, _ => (by decide : (1 : Int) ≤ 2 ^ (84 * 0))
  | n + 1, h => by
    have a1 := PU_le al be h0 h1 h2 n (by omega)
    have a2 := Int.le_trans (luc_le12 al be h0 h1 h2 n) (pow_mono (show 12 * n ≤ 84 by omega))
    have := mul_pow_le (Int.le_of_lt (PU_pos al be h0 h1 n)) a1 a2
    rw [show 84 * (n + 1) = 84 * n + 84 from by omega, PU]
    exact this
/-- the blocks' products -/
def seenF (al be : Int) (ls : List Nat) : Int := (ls.map (PU al be)).prod
/-- the quotient told block by block -/
def dealtAll (ns : List Int) (p : Int) : Nat → List Nat → Int
  | _, [] => 1
  | a, l :: r => dealtF ns p a l * dealtAll ns p (a + l) r
theorem seen_law (al be : Int) (n : Nat) : ∀ (ls : List Nat) (a : Nat), a + ls.sum ≤ n → PU al be (a + ls.sum) = PU al be a * seenF al be ls * dealtAll (sumsF al be n) be a ls
  | [], a, _ => by simp [seenF, dealtAll]
  | l :: r, a, h => by
    rw [List.sum_cons] at h ⊢
    have h1 := seen_law al be n r (a + l) (by omega)
    have h2 := dealt_law al be n _ a l rfl (by omega)
    rw [show a + (l + r.sum) = a + l + r.sum from by omega, h1, h2]
    show _ = PU al be a * ((PU al be l) * seenF al be r) * (dealtF (sumsF al be n) be a l * dealtAll (sumsF al be n) be (a + l) r)
    simp only [Int.mul_assoc, Int.mul_comm, Int.mul_left_comm]
theorem seen_pos (al be : Int) (h0 : 0 < al) (h1 : 0 < be) : ∀ ls, 0 < seenF al be ls
  | [] => (by decide : (0 : Int) < 1)
  | l :: r => Int.mul_pos (PU_pos al be h0 h1 l) (seen_pos al be h0 h1 r)
theorem seen_le (al be : Int) (h0 : 0 < al) (h1 : 0 < be) (h2 : al + be ≤ 2100) : ∀ ls : List Nat, (∀ l ∈ ls, l ≤ 8) → seenF al be ls ≤ 2 ^ (84 * ls.sum)
  | [], _ => (by decide : (1 : Int) ≤ 2 ^ (84 * 0))
  | l :: r, h => by
    have a1 := PU_le al be h0 h1 h2 l (h l (.head _))
    have a2 := seen_le al be h0 h1 h2 r fun x hx => h x (.tail _ hx)
    rw [List.sum_cons, Nat.mul_add]
    exact mul_pow_le (Int.le_of_lt (PU_pos al be h0 h1 l)) a1 a2
theorem abs_lt {a : Int} {k : Nat} (h0 : 0 ≤ a) (h : a ≤ 2 ^ k) (hk : k < 4000) : a.natAbs < 2 ^ 4000 := by
  have h1 : (2 : Nat) ^ k < 2 ^ 4000 := Nat.pow_lt_pow_right (by decide) hk
  have e1 : ((2 ^ k : Nat) : Int) = 2 ^ k := by simp
  omega
theorem mem_le_sum : ∀ {ls : List Nat} {l : Nat}, l ∈ ls → l ≤ ls.sum
  | _ :: _, _, .head _ => by rw [List.sum_cons]; omega
  | _ :: _, _, .tail _ h => by rw [List.sum_cons]; have := mem_le_sum h; omega
theorem take_sum : ∀ (ls : List Nat) (i : Nat), (ls.take i).sum ≤ ls.sum
  | [], i => by simp
  | _ :: _, 0 => Nat.zero_le _
  | l :: r, i + 1 => by rw [List.take_succ_cons, List.sum_cons, List.sum_cons]; have := take_sum r i; omega
theorem seen_take (al be : Int) (h0 : 0 < al) (h1 : 0 < be) (h2 : al + be ≤ 2100) (ls : List Nat) (hs : ls.sum ≤ 8) (i : Nat) : ((ls.map (PU al be)).take i).prod.natAbs < 2 ^ 4000 := by
  rw [← List.map_take]
  have a2 := seen_le al be h0 h1 h2 (ls.take i) fun x hx => Nat.le_trans (mem_le_sum (List.mem_of_mem_take hx)) hs
  have a3 := take_sum ls i
  exact abs_lt (Int.le_of_lt (seen_pos al be h0 h1 _)) a2 (by omega)
theorem PU_small (al be : Int) (h0 : 0 < al) (h1 : 0 < be) (h2 : al + be ≤ 2100) (n : Nat) (hn : n ≤ 8) : (PU al be n).natAbs < 2 ^ 4000 :=
  abs_lt (Int.le_of_lt (PU_pos al be h0 h1 n)) (PU_le al be h0 h1 h2 n hn) (by omega)
theorem sums_prods (al be : Int) (h0 : 0 < al) (h1 : 0 < be) (h2 : al + be ≤ 2100) (n : Nat) (hn : n ≤ 8) (i : Nat) : (((List.range n).map (luc al be)).take i).prod.natAbs < 2 ^ 4000 := by
  rw [← List.map_take, List.take_range, PU_prod]
  exact PU_small al be h0 h1 h2 _ (by omega)
theorem luc_in (al be : Int) (h0 : 0 < al) (h1 : 0 < be) (h2 : al + be ≤ 2100) (n : Nat) (hn : n ≤ 20) : ∀ x ∈ (List.range n).map (luc al be), x.natAbs < 2 ^ 4000 := by
  intro x hx
  obtain ⟨j, hj, rfl⟩ := List.mem_map.mp hx
  exact luc_small al be (Int.le_of_lt h0) (Int.le_of_lt h1) h2 j (by have := List.mem_range.mp hj; omega)
theorem dealt_small (al be : Int) (h0 : 0 < al) (h1 : 0 < be) (h2 : al + be ≤ 2100) (n : Nat) (hn : n ≤ 8) (k l : Nat) (h : k + l ≤ n) : (dealtF (sumsF al be n) be k l).natAbs < 2 ^ 4000 := by
  obtain ⟨a, b⟩ := dealt_pos al be h0 h1 n k l h
  exact abs_lt (Int.le_of_lt a) (Int.le_trans b (PU_le al be h0 h1 h2 (k + l) (by omega))) (by omega)
end
section
theorem strs_canLay : ∀ ns : List Str, (∀ x ∈ ns, PyData.strOk x = true) → PyData.canLayAll0 (ns.map PyData.str) = true
  | [], _ => rfl
  | x :: r, h => by simp [PyData.canLayAll0, PyData.canLay0, strs_canLay r fun y hy => h y (.tail _ hy), h x (.head _)]
theorem strs_shaped (ns : List Str) (h : ∀ x ∈ ns, PyData.strOk x = true) : SeqAt.shaped (.list (ns.map PyData.str)) = true := by
  simp [SeqAt.shaped, PyData.canLay0, PyData.depth, strs_canLay ns h, PyProof.Rows.depthAll_strs']
theorem strs_same : ∀ ns : List Str, PySem.Spec.sameAll (ns.map PyData.str) (ns.map PyData.str) = true
  | [] => by simp [PySem.Spec.sameAll]
  | a :: r => by
    simp only [List.map_cons, PySem.Spec.sameAll, strs_same r]
    simp [PySem.Spec.same]
theorem ne_strs {prog : Program} {w : World} {A : Around} {E : Value → Shared → Prop} {s : Shared} {a b : Addr} {xs ys : List Value} {ns : List Str} {Q : Value → Shared → Prop} (ha : s.heap.IsList a xs.toArray) (hb : s.heap.IsList b ys.toArray) (hi : StrsAre xs ns) (hj : StrsAre ys ns) (ho : ∀ x ∈ ns, PyData.strOk x = true) (hu : A.units + 64 < cLine) (h : Q (.bool false) s) :
    wpAny (model prog w) A (compareOp .NotEq (.ref a) (.ref b)) Q E s :=
  ne_dataH_same (reads_newData ha hi.carried) (reads_newData hb hj.carried) (strs_shaped _ ho) (strs_shaped _ ho) hu (SeqAt.noMix_of_shape (.list .str) rfl _ _ (list_map_has fun _ => rfl) (list_map_has fun _ => rfl)) (by simp only [PySem.Spec.same]; rw [strs_same]; exact h)
theorem rep_ok (c l : Nat) (h : c < 0x110000) : PyData.strOk (repS c l) = true := by
  show (List.replicate l c).toArray.all (· < 0x110000) = true
  rw [Array.all_eq_true_iff_forall_mem]
  intro x hx
  have : x = c := List.eq_of_mem_replicate (by simpa using hx)
  rw [this]
  exact decide_eq_true h
theorem signs_lt : ∀ c ∈ signs5, c < 0x110000 ∧ c ≠ 44 := by decide
theorem rep_weight (c : Nat) (ls : List Nat) (h : ls.sum ≤ 8) (h2 : ls.length ≤ 9) : ((ls.map (repS c)).map (·.length)).sum + (ls.map (repS c)).length ≤ 1048576 := by
  have : ((ls.map (repS c)).map (·.length)) = ls := by
    rw [List.map_map]
    conv => rhs; rw [← List.map_id ls]
    congr 1
    funext l
    exact len_rep c l
  rw [this, List.length_map]
  omega
end
section
section
variable {prog : Program} {w : World} {A : Around} {E : Value → Shared → Prop} {s : Shared}
/-- a slice of a list, whatever it was got from -/
theorem slice_intsR {value slice : PySem.Expr} {h₀ : Heap} {L l : Addr} {m : Str → Option Value} {news : List (Addr × Obj)} {vs : List Value} {ms : List Int} {vl vu : Value} {lo hi : Option Int} {Q : Value → Shared → Prop}
    (F : Fr h₀ L s.heap m) (N : News h₀ L s.heap news) (hl : s.heap.IsList l vs.toArray) (pl : IsPart vl lo) (pu : IsPart vu hi) (hm : IntsAre (slicePick vs.toArray lo hi none).toList ms)
    (h : ∀ D ws h', Fr h₀ L h' m → News h₀ L h' ((D, listOf (List.toArray ws) 0) :: news) → (∀ p ∈ news, p.1 < D) → IntsAre ws ms → Q (.ref D) { s with heap := h' })
    (hs : subscripted slice false (.ref l) (.ref s.heap.objs.size) = operate [.ref s.heap.objs.size, .ref l] (getItem (.ref l) (.ref s.heap.objs.size)))
    (hsz : vs.toArray.size ≤ sizeLine) :
    wpAny (model prog w) A (subscriptTail value slice (.ref l) (.ref s.heap.objs.size)) Q E { s with heap := s.heap.push { cls := .type "slice", data := .fields #[vl, vu, .none] } } := by
  refine PyProof.Rows.tail_any (Heap.IsList.typeIs (s := { s with heap := s.heap.push { cls := .type "slice", data := .fields #[vl, vu, .none] } }) (hl.push _)) list_getitem_lookup
    (wpAny_getItem_list_slice (hl.push _) (Heap.IsSliceOf.new ..) pl pu .none (by simp) ?_ hsz) hs
  have N1 := News.push (F.push { cls := .type "slice", data := .fields #[vl, vu, .none] }) (N.grown fun _ _ e => Heap.get?_push_of_some _ e) { cls := .type "list", data := .seq (slicePick vs.toArray lo hi none) }
  rw [Heap.size_push] at N1
  show Q (.ref (s.heap.push _).objs.size) _
  rw [Heap.size_push]
  refine h _ (slicePick vs.toArray lo hi none).toList _ ((F.push _).push _) ?_ (fun p hp => Nat.lt_succ_of_lt (Heap.lt_size (N p hp).1)) hm
  rw [Array.toArray_toList]
  exact N1
end
theorem dealtAll_snoc (ns : List Int) (p : Int) (x : Nat) : ∀ (l : List Nat) (a : Nat), dealtAll ns p a (l ++ [x]) = dealtAll ns p a l * dealtF ns p (a + l.sum) x
  | [], a => by simp [dealtAll]
  | y :: r, a => by
    rw [List.cons_append, dealtAll, dealtAll_snoc ns p x r (a + y), dealtAll, List.sum_cons, Int.mul_assoc, Nat.add_assoc]
theorem dealtAll_pos (al be : Int) (h0 : 0 < al) (h1 : 0 < be) (n : Nat) (ls : List Nat) (h : ls.sum ≤ n) : 0 < dealtAll (sumsF al be n) be 0 ls ∧ dealtAll (sumsF al be n) be 0 ls ≤ PU al be ls.sum := by
  have e := seen_law al be n ls 0 (by omega)
  rw [Nat.zero_add] at e
  exact le_of_mul e (PU_pos al be h0 h1 _) (Int.mul_pos (PU_pos al be h0 h1 _) (seen_pos al be h0 h1 _))
theorem dealtAll_small (al be : Int) (h0 : 0 < al) (h1 : 0 < be) (h2 : al + be ≤ 2100) (n : Nat) (hn : n ≤ 8) (ls : List Nat) (h : ls.sum ≤ n) : (dealtAll (sumsF al be n) be 0 ls).natAbs < 2 ^ 4000 := by
  obtain ⟨a, b⟩ := dealtAll_pos al be h0 h1 n ls h
  exact abs_lt (Int.le_of_lt a) (Int.le_trans b (PU_le al be h0 h1 h2 ls.sum (by omega))) (by omega)
theorem pair_small (al be : Int) (h0 : 0 < al) (h1 : 0 < be) (h2 : al + be ≤ 2100) (n : Nat) (hn : n ≤ 8) : ∀ l, l < (sumsF al be n).length → (be * (sumsF al be n).getD l 0).natAbs < 2 ^ 4000 := by
  intro l hl
  rw [sumsF_len] at hl
  rw [sumsF_get al be n l (by omega)]
  have b1 : be ≤ 2 ^ 12 := by omega
  have b2 := luc_le12 al be h0 h1 h2 l
  exact abs_lt (Int.mul_nonneg (Int.le_of_lt h1) (Int.le_of_lt (luc_pos al be h0 h1 l))) (mul_pow_le (Int.le_of_lt h1) b1 b2) (by omega)
theorem sums_in (al be : Int) (h0 : 0 < al) (h1 : 0 < be) (h2 : al + be ≤ 2100) (n : Nat) (hn : n ≤ 8) : ∀ x ∈ sumsF al be n, x.natAbs < 2 ^ 4000 := luc_in al be h0 h1 h2 (n + 1) (by omega)
theorem PU_in (al be : Int) (h0 : 0 < al) (h1 : 0 < be) (h2 : al + be ≤ 2100) (ls : List Nat) (hs : ls.sum ≤ 8) : ∀ x ∈ ls.map (PU al be), x.natAbs < 2 ^ 4000 := by
  intro x hx
  obtain ⟨l, hl, rfl⟩ := List.mem_map.mp hx
  exact PU_small al be h0 h1 h2 l (Nat.le_trans (mem_le_sum hl) hs)
theorem sum_snoc (l : List Nat) (x : Nat) : (l ++ [x]).sum = l.sum + x := by simp
theorem name_tail {P : Prop} {g h : Heap} {L : Addr} {a1 a2 a3 a4 a5 a6 a7 a8 a9 a10 : Addr × Obj} {tail : List (Addr × Obj)} (_ : News g L h (a1 :: a2 :: a3 :: a4 :: a5 :: a6 :: a7 :: a8 :: a9 :: a10 :: tail)) (use : ∀ t, t = tail → P) : P := use tail rfl
end
section
/-- not the iterator of a list -/
def NoIt (o : Obj) : Prop := ∀ v k, o.data ≠ .fields #[.ref v, rawInt k]
/-- the iterator of a list, or a list -/
def ItL (o : Obj) : Prop := (∃ v k, o.data = .fields #[.ref v, rawInt k]) ∨ ∃ a n, o.data = .seq a n
section
variable {prog : Program} {w : World} {A : Around} {E : Value → Shared → Prop} {s : Shared} {env : Env} {h₀ : Heap} {x : Str} {body : List Stmt} {Q : Flow → Shared → Prop}
/-- over a list; the lines may come to lie elsewhere -/
theorem loopL {σ : Type} (Led : σ → List (Addr × Obj)) (stored : List Str) (P : σ → Prop) (c₀ : σ) {l : Addr} {vs : List Value} {nn : Nat} {news : List (Addr × Obj)} {m₀ : Str → Option Value}
    (hh : A.handled = none) (F : Fr h₀ env.locals s.heap m₀) (N : News h₀ env.locals s.heap news) (hl : (l, listOf vs.toArray nn) ∈ news) (hnl : ∀ q ∈ Led c₀, q ∈ news) (hp : P c₀)
    (hq : ∀ c, P c → ∀ q ∈ Led c, q.1 ∈ (Led c₀).map (·.1) ∨ NoIt q.2)
    (turn : ∀ (c : σ) (v : Value) (u : Str → Option Value) (h : Heap) (tk : Nat) (own : List (Addr × Obj)) (QT : Flow → Shared → Prop), v ∈ vs → P c → (∀ p ∈ own, ItL p.2) →
      Fr h₀ env.locals h (fun y => if y = x then some v else if stored.contains y then u y else m₀ y) → News h₀ env.locals h (Led c ++ own) →
      (∀ (c' : σ) (m' : Str → Option Value) (h' : Heap) (tk' : Nat) (all : List (Addr × Obj)), Fr h₀ env.locals h' m' → News h₀ env.locals h' all → (∀ p ∈ Led c', p ∈ all) → (∀ p ∈ own, p ∈ all) →
        (∀ z, stored.contains z = false → m' z = m₀ z) → P c' → QT .next { s with heap := h', toks := tk' }) →
      (∀ v s', Q (.ret v) s' → QT (.ret v) s') →
      wpAny (model prog w) A (execs body env) QT E { s with heap := h, toks := tk })
    (done : ∀ (c : σ) (u : Str → Option Value) (h : Heap) (tk : Nat), P c → Fr h₀ env.locals h (fun y => if stored.contains y then u y else m₀ y) → News h₀ env.locals h (Led c) → Q .next { s with heap := h, toks := tk }) :
    wpAny (model prog w) A (pyIter (.ref l)) (fun it s₂ => LoopAtV prog w A h₀ env x body Q E it s₂) E s := by
  have hol : s.heap.get? l = some (listOf vs.toArray nn) := (N _ hl).1
  have hls : s.heap.IsList l vs.toArray := ⟨_, hol, rfl, nn, rfl⟩
  have hne : l ≠ s.heap.objs.size := Nat.ne_of_lt (Heap.lt_size hol)
  refine wpAny_pyIter_list hls ?_
  have W := Walks.list (prog := prog) (w := w) hh s.heap.objs.size l hne vs.toArray
  have hlen : vs.toArray.size = vs.length := by simp
  rw [hlen] at W
  have hnew := next_is_new F
  have conv : ∀ {h : Heap} {m₁ : Str → Option Value}, (∀ z, stored.contains z = false → m₁ z = m₀ z) → (fun y => if stored.contains y then m₁ y else m₀ y) = m₁ := by
    intro h m₁ hm
    funext y
    cases q : stored.contains y with
    | true => simp
    | false => simp [hm y q]
  let J : Nat → (Str → Option Value) → List (Addr × Obj) → Prop := fun _ m₁ news₁ => ∃ c, news₁ = Led c ∧ (∀ z, stored.contains z = false → m₁ z = m₀ z) ∧ P c
  refine ⟨_, _, _, vs.length, _, _, m₀, Led c₀, J, rfl, W, ?_, ?_, ?_, ⟨⟨_, Heap.get?_push_size _ rfl, rfl, rfl⟩, hls.at fun o e => Heap.get?_push_of_some _ e⟩, F.push _, (fun p hp => ⟨Heap.get?_push_of_some _ (N p (hnl p hp)).1, (N p (hnl p hp)).2⟩), ⟨c₀, rfl, fun _ _ => rfl, hp⟩, ?_, ?_⟩
  · intro hm
    rcases List.mem_cons.mp hm with e | hm
    · exact absurd F.ns.lt (e ▸ Nat.lt_irrefl _)
    · exact (N _ hl).2.1 ((List.mem_singleton.mp hm).symm)
  · intro b hb
    rw [List.mem_singleton.mp hb]
    exact hnew
  · intro p hp hI
    exact absurd (Heap.lt_size (N p (hnl p hp)).1) ((List.mem_singleton.mp hI) ▸ Nat.lt_irrefl _)
  · rintro i v m₁ news₁ s₁ own ⟨hh', tk', rfl⟩ hin hP ⟨c, rfl, hm, hPc⟩ hoff hown hget hall hst F₁ N₁
    obtain ⟨it, hit, hic, hid⟩ := hst.1
    have hmemI := hall s.heap.objs.size (List.mem_cons_self ..) hnew _ hit
    have hitl : ∀ p ∈ own, ItL p.2 := by
      intro p hp
      have h2 : hh'.get? p.1 = some p.2 := hget p hp
      rcases List.mem_cons.mp (hown p hp) with h1 | h1
      · rw [h1, hit] at h2
        rw [← Option.some.inj h2]
        exact .inl ⟨_, _, hid⟩
      · have h1' : p.1 = l := List.mem_singleton.mp h1
        obtain ⟨ol, ho, _, n2, hd2⟩ := hst.2
        rw [h1', ho] at h2
        rw [← Option.some.inj h2]
        exact .inr ⟨_, _, hd2⟩
    have hv : v ∈ vs := List.mem_of_getElem? (by simpa using hP)
    have F₂ : Fr h₀ env.locals hh' (fun y => if y = x then some v else if stored.contains y then m₁ y else m₀ y) := by
      have e : (fun y => if y = x then some v else if stored.contains y then m₁ y else m₀ y) = fun y => if y = x then some v else m₁ y := by
        funext y
        rw [show (if stored.contains y = true then m₁ y else m₀ y) = m₁ y from congrFun (conv (h := hh') hm) y]
      rw [e]
      exact F₁
    have N₂ : News h₀ env.locals hh' (Led c ++ own) := fun p hp => N₁ p ((List.mem_append.mp hp).elim (fun h => List.mem_append.mpr (.inr h)) fun h => List.mem_append.mpr (.inl h))
    refine wpAny_mono (turn c v m₁ hh' tk' own (fun f s₂ => match f with
      | .next => LoopStepU h₀ env.locals [s.heap.objs.size] own (J (i + 1)) { s with heap := hh', toks := tk' } .next s₂
      | .ret v => Q (.ret v) s₂
      | _ => False) hv hPc hitl F₂ N₂ ?_ (fun _ _ q => q)) (fun f s₂ p => ?_) fun _ _ e => e
    · intro c' m' h' tk'' all F' N' hl' ho' hz hP'
      refine ⟨rfl, h', tk'', m', Led c', rfl, F', fun p hp => N' p ((List.mem_append.mp hp).elim (ho' p) (hl' p)), fun p hp hI => ?_, c', rfl, hz, hP'⟩
      have hI' : p.1 = s.heap.objs.size := List.mem_singleton.mp hI
      rcases hq c' hP' p hp with h1 | h1
      · obtain ⟨q, hq1, hq2⟩ := List.mem_map.mp h1
        have := Heap.lt_size (N q (hnl q hq1)).1
        rw [hq2, hI'] at this
        exact Nat.lt_irrefl _ this
      · have a1 := (N' _ (ho' _ hmemI)).1
        have a2 := (N' _ (hl' _ hp)).1
        rw [hI'] at a2
        dsimp only at a1
        rw [a1] at a2
        have e := Option.some.inj a2
        rw [← e] at h1
        exact h1 _ _ hid
    · cases f with
      | ret v => exact .ret p
      | brk => exact p.elim
      | next => exact .next p
      | cont => exact p.elim
  · rintro h' tk m' news' F' N' _ ⟨c, rfl, hm, hPc⟩
    refine done c m' h' tk hPc ?_ N'
    rw [conv (h := h') hm]
    exact F'
end
/-- neither the iterator of a list nor a list -/
def NoItL (o : Obj) : Prop := NoIt o ∧ ∀ a n, o.data ≠ .seq a n
theorem NoItL.ne {o o' : Obj} (a : NoItL o) (b : ItL o') : o ≠ o' := by
  rintro rfl
  rcases b with ⟨v, k, h⟩ | ⟨v, k, h⟩
  · exact a.1 v k h
  · exact a.2 v k h
theorem noItL_tab0 : NoItL (tabObj #[]) := ⟨(fun _ _ h => by cases h), (fun _ _ h => by cases h)⟩
theorem noItL_tab3 (a b c : Value) : NoItL (tabObj #[a, b, c]) := ⟨(fun _ _ h => by cases h), (fun _ _ h => by cases h)⟩
theorem St30.noItL {x : Addr} {ox t : Obj} (S : St30 x ox t) : NoItL ox ∧ NoItL t := by
  rcases S with ⟨_, rfl, rfl⟩ | ⟨rfl, ⟨v, tq, h4, h5⟩, _⟩
  · exact ⟨noItL_tab0, noItL_tab0⟩
  · refine ⟨⟨fun a k h => ?_, fun a k h => ?_⟩, noItL_tab3 _ _ _⟩
    · rw [h4] at h
      cases h
      cases h5
    · rw [h4] at h
      cases h
theorem St37.noItL {x : Addr} {ox t : Obj} (S : St37 x ox t) : NoItL ox ∧ NoItL t := by
  rcases S with ⟨_, rfl, rfl⟩ | ⟨rfl, ⟨v, tq, h4, h5⟩, _⟩
  · exact ⟨noItL_tab0, noItL_tab0⟩
  · refine ⟨⟨fun a k h => ?_, fun a k h => ?_⟩, noItL_tab3 _ _ _⟩
    · rw [h4] at h
      cases h
      cases h5
    · rw [h4] at h
      cases h
/-- the four lines of the two tables -/
abbrev TabC : Type := (Addr × Obj × Obj) × (Addr × Obj × Obj)
abbrev tabLed (c : TabC) : List (Addr × Obj) := [(c.1.1, c.1.2.1), (30, c.1.2.2), (c.2.1, c.2.2.1), (37, c.2.2.2)]
def TabP (c : TabC) : Prop := St30 c.1.1 c.1.2.1 c.1.2.2 ∧ St37 c.2.1 c.2.2.1 c.2.2.2
theorem TabP.no {c : TabC} (P : TabP c) : ∀ q ∈ tabLed c, NoItL q.2 := by
  intro q hq
  simp only [List.mem_cons, List.not_mem_nil, or_false] at hq
  rcases hq with rfl | rfl | rfl | rfl
  · exact P.1.noItL.1
  · exact P.1.noItL.2
  · exact P.2.noItL.1
  · exact P.2.noItL.2
theorem own_off {h₀ h : Heap} {L : Addr} {c : TabC} {own all : List (Addr × Obj)} (P : TabP c) (N : News h₀ L h all) (h1 : ∀ p ∈ tabLed c, p ∈ all) (h2 : ∀ p ∈ own, p ∈ all) (ho : ∀ p ∈ own, ItL p.2) : ∀ p ∈ own, p.1 ∉ (tabLed c).map (·.1) := by
  intro p hp hm
  obtain ⟨q, hq, e⟩ := List.mem_map.mp hm
  have a1 := (N _ (h2 p hp)).1
  have a2 := (N _ (h1 q hq)).1
  rw [e, a1] at a2
  exact (TabP.no P q hq).ne (ho p hp) (Option.some.inj a2).symm
abbrev tabC0 : TabC := ((30, tabObj #[], tabObj #[]), (37, tabObj #[], tabObj #[]))
theorem tab_sub {big : List (Addr × Obj)} (h30 : (30, tabObj #[]) ∈ big) (h37 : (37, tabObj #[]) ∈ big) : ∀ q ∈ tabLed tabC0, q ∈ big := by
  intro q hq
  have hq' : q ∈ [((30 : Addr), tabObj #[]), (30, tabObj #[]), (37, tabObj #[]), (37, tabObj #[])] := hq
  simp only [List.mem_cons, List.not_mem_nil, or_false] at hq'
  rcases hq' with rfl | rfl | rfl | rfl
  · exact h30
  · exact h30
  · exact h37
  · exact h37
theorem tabP0 : TabP tabC0 := ⟨.inl ⟨rfl, rfl, rfl⟩, .inl ⟨rfl, rfl, rfl⟩⟩
theorem tab_mem {P : Prop} {g h : Heap} {L : Addr} {a1 a2 a3 a4 a5 a6 a7 a8 : Addr × Obj} (_ : News g L h [a1, a2, a3, a4, a5, a6, a7, a8, (37, tabObj #[]), (30, tabObj #[])]) (use : (∀ q ∈ tabLed tabC0, q ∈ [a1, a2, a3, a4, a5, a6, a7, a8, ((37 : Addr), tabObj #[]), (30, tabObj #[])]) → P) : P :=
  use (tab_sub (by simp) (by simp))
theorem St30.tab {x : Addr} {ox t : Obj} (S : St30 x ox t) : ∃ ps, t = tabObj ps := by
  rcases S with ⟨_, _, h⟩ | ⟨h, _, _⟩
  · exact ⟨_, h⟩
  · exact ⟨_, h⟩
theorem St37.tab {x : Addr} {ox t : Obj} (S : St37 x ox t) : ∃ ps, t = tabObj ps := by
  rcases S with ⟨_, _, h⟩ | ⟨h, _, _⟩
  · exact ⟨_, h⟩
  · exact ⟨_, h⟩
theorem tab_two {x y : Addr} {ox oy t u : Obj} {p : Addr × Obj} (h : p ∈ [((37 : Addr), u), (30, t)]) : p ∈ [(x, ox), ((30 : Addr), t), (y, oy), ((37 : Addr), u)] := by
  simp only [List.mem_cons, List.not_mem_nil, or_false] at h ⊢
  rcases h with rfl | rfl
  · exact .inr (.inr (.inr rfl))
  · exact .inr (.inl rfl)
end
section
theorem cont_tail {a z : Str} {l : List Str} (h : (a :: l).contains z = false) : l.contains z = false := by
  rw [List.contains_cons, Bool.or_eq_false_iff] at h
  exact h.2
theorem fr_back {α : Type} {st1 st2 : List Str} {x : Str} {u1 u2 m₀ : Str → α} {v : α} (hx : st1.contains x = true) (hsub : ∀ z, st1.contains z = false → st2.contains z = false) :
    ∀ z, st1.contains z = false → (fun y => if st2.contains y = true then u2 y else if y = x then v else if st1.contains y = true then u1 y else m₀ y) z = m₀ z := by
  intro z hz
  show (if st2.contains z = true then u2 z else if z = x then v else if st1.contains z = true then u1 z else m₀ z) = m₀ z
  rw [if_neg (by rw [hsub z hz]; exact Bool.false_ne_true), if_neg (by rintro rfl; rw [hx] at hz; cases hz), if_neg (by rw [hz]; exact Bool.false_ne_true)]
theorem div_both {a b q r : Int} (h : a = q * b + r) (hr : (0 ≤ r ∧ r < b) ∨ (b < r ∧ r ≤ 0)) : a.fdiv b = q ∧ a.fmod b = r := by
  rcases hr with ⟨h0, h1⟩ | ⟨h0, h1⟩
  · have := div_unique (by omega) h h0 h1
    exact ⟨this.1.symm, this.2.symm⟩
  · obtain ⟨e1, e2⟩ := neg_div (a := a) (b := b)
    have h' : -a = q * (-b) + (-r) := by rw [Int.mul_neg]; omega
    have u := div_unique (a := -a) (b := -b) (q := q) (r := -r) (by omega) h' (by omega) (by omega)
    exact ⟨e1.trans u.1.symm, by rw [e2, ← u.2]; omega⟩
structure Body (PP SS U dv e1 e2 e3 : Int) : Prop where
  hb : e2 * SS * U ≠ 0
  hq : (e1 * PP * U + e2 * e3).fdiv (e2 * SS * U) = e1 * e2 * dv
  hr : (e1 * PP * U + e2 * e3).fmod (e2 * SS * U) = e2 * e3
  ba : Builtin.Int.intBits (e1 * PP * U + e2 * e3) ≤ 3000
  bb : Builtin.Int.intBits (e2 * SS * U) ≤ 2000
  b25 : 25 ≤ Builtin.Int.intBits (e2 * SS * U)
  m1 : e1.natAbs < 2 ^ 4000
  m2 : PP.natAbs < 2 ^ 4000
  m3 : (e1 * PP).natAbs < 2 ^ 4000
  m4 : U.natAbs < 2 ^ 4000
  m5 : e2.natAbs < 2 ^ 4000
  m6 : e3.natAbs < 2 ^ 4000
  m7 : SS.natAbs < 2 ^ 4000
  m8 : (e2 * SS).natAbs < 2 ^ 4000
  m9 : (e1 * e2).natAbs < 2 ^ 4000
  m10 : dv.natAbs < 2 ^ 4000
theorem abs_sgn {e x : Int} (h : e = 1 ∨ e = -1) : (e * x).natAbs = x.natAbs := by
  rcases h with rfl | rfl <;> omega
theorem nat_lt {a : Int} {k j : Nat} (h : a.natAbs ≤ 2 ^ k) (hk : k < j) : a.natAbs < 2 ^ j := Nat.lt_of_le_of_lt h (Nat.pow_lt_pow_right (by decide) hk)
theorem nat_le {a : Int} {k : Nat} (h0 : 0 ≤ a) (h : a ≤ 2 ^ k) : a.natAbs ≤ 2 ^ k := by
  have e1 : ((2 ^ k : Nat) : Int) = 2 ^ k := by simp
  omega
theorem bits_ge {a : Int} (h : 16777216 ≤ a.natAbs) : 25 ≤ Builtin.Int.intBits a := by
  unfold Builtin.Int.intBits
  rw [if_neg (by simp; omega)]
  have := (Nat.le_log2 (n := a.natAbs) (by omega)).mpr (show 2 ^ 24 ≤ a.natAbs by omega)
  omega
theorem body_of {PP SS U dv e1 e2 e3 : Int} (hP : PP = SS * dv) (hS : 0 < SS) (hPp : 0 < PP) (hPl : PP ≤ 2 ^ 672) (hU0 : 16777216 ≤ U) (hU1 : U ≤ 2 ^ 27) (he1 : e1 = 1 ∨ e1 = -1) (he2 : e2 = 1 ∨ e2 = -1) (he3 : e3 = 0 ∨ e3 = SS * U - 1) : Body PP SS U dv e1 e2 e3 := by
  obtain ⟨hd0, hdP⟩ := le_of_mul hP hPp hS
  obtain ⟨_, hSP⟩ := le_of_mul (hP.trans (Int.mul_comm ..)) hPp hd0
  have hSU : 0 < SS * U := Int.mul_pos hS (by omega)
  have hSUg : 16777216 ≤ SS * U := by
    have := Int.mul_le_mul (show 1 ≤ SS by omega) hU0 (by decide) (Int.le_of_lt hS)
    omega
  have hSUl : SS * U ≤ 2 ^ 699 := mul_pow_le (i := 672) (j := 27) (Int.le_of_lt hS) (Int.le_trans hSP hPl) hU1
  have hPUl : PP * U ≤ 2 ^ 699 := mul_pow_le (i := 672) (j := 27) (Int.le_of_lt hPp) hPl hU1
  have hPU0 : 0 < PP * U := Int.mul_pos hPp (by omega)
  have h30 : 0 ≤ e3 := by rcases he3 with h | h <;> omega
  have h3l : e3 < SS * U := by rcases he3 with h | h <;> omega
  have aPU : (PP * U).natAbs ≤ 2 ^ 699 := nat_le (Int.le_of_lt hPU0) hPUl
  have aSU : (SS * U).natAbs ≤ 2 ^ 699 := nat_le (Int.le_of_lt hSU) hSUl
  have a3 : e3.natAbs ≤ 2 ^ 699 := by omega
  have aP : PP.natAbs ≤ 2 ^ 672 := nat_le (Int.le_of_lt hPp) hPl
  have aS : SS.natAbs ≤ 2 ^ 672 := by omega
  have ad : dv.natAbs ≤ 2 ^ 672 := by omega
  have aU : U.natAbs ≤ 2 ^ 27 := nat_le (by omega) hU1
  have b1 : (e1 * PP * U).natAbs = (PP * U).natAbs := by rw [Int.mul_assoc]; exact abs_sgn he1
  have b2 : (e2 * SS * U).natAbs = (SS * U).natAbs := by rw [Int.mul_assoc]; exact abs_sgn he2
  have b3 : (e2 * e3).natAbs = e3.natAbs := abs_sgn he2
  have p700 : (2 : Nat) ^ 700 = 2 ^ 699 + 2 ^ 699 := by rw [show 700 = 699 + 1 from rfl, Nat.pow_succ]; omega
  have one : ∀ e : Int, e = 1 ∨ e = -1 → e.natAbs ≤ 2 ^ 0 := fun e h => by rcases h with rfl | rfl <;> decide
  have main := div_both (a := e1 * PP * U + e2 * e3) (b := e2 * SS * U) (q := e1 * e2 * dv) (r := e2 * e3) (by
    rcases he2 with rfl | rfl
    · rw [hP]; simp only [Int.mul_one, Int.one_mul, Int.mul_assoc, Int.mul_comm, Int.mul_left_comm]
    · rw [hP]
      simp only [Int.mul_neg, Int.neg_mul, Int.neg_neg, Int.mul_one, Int.one_mul, Int.mul_assoc, Int.mul_comm, Int.mul_left_comm]) (by
    rcases he2 with rfl | rfl
    · left; rw [Int.one_mul, Int.one_mul]; omega
    · right; rw [show -1 * SS * U = -(SS * U) from by rw [Int.neg_mul, Int.one_mul, Int.neg_mul]]; omega)
  have p701 : (2 : Nat) ^ 701 = 2 ^ 700 + 2 ^ 700 := by rw [show 701 = 700 + 1 from rfl, Nat.pow_succ]; omega
  have p0 : 0 < (2 : Nat) ^ 699 := Nat.pow_pos (by decide)
  have ha : (e1 * PP * U + e2 * e3).natAbs < 2 ^ 701 := by omega
  exact {
    hb := by intro h; rw [h] at b2; omega
    hq := main.1
    hr := main.2
    ba := Nat.le_trans (PyProof.Rows.intBits_le ha) (by decide)
    bb := Nat.le_trans (PyProof.Rows.intBits_le (k := 700) (by omega)) (by decide)
    b25 := bits_ge (by omega)
    m1 := nat_lt (one e1 he1) (by decide)
    m2 := nat_lt aP (by decide)
    m3 := by rw [abs_sgn he1]; exact nat_lt aP (by decide)
    m4 := nat_lt aU (by decide)
    m5 := nat_lt (one e2 he2) (by decide)
    m6 := nat_lt a3 (by decide)
    m7 := nat_lt aS (by decide)
    m8 := by rw [abs_sgn he2]; exact nat_lt aS (by decide)
    m9 := by rw [abs_sgn he1]; exact nat_lt (one e2 he2) (by decide)
    m10 := nat_lt ad (by decide) }
end
section
theorem tup_item {prog : Program} {w : World} {A : Around} {E : Value → Shared → Prop} {s : Shared} {value slice : PySem.Expr} {D : Addr} {its : Array Value} {i : Int} {u : Tok} {x : Value} {Q : Value → Shared → Prop} (ht : IsTup s.heap D its) (h0 : 0 ≤ i) (h1 : i < ((its.size : Nat) : Int)) (hfit : i < 2 ^ 63) (hx : its[i.toNat]? = some x) (h : Q x s)
    (hs : subscripted slice false (.ref D) (.int i u) = operate [.ref D, .int i u] (getItem (.ref D) (.int i u)) := by with_unfolding_all rfl) :
    wpAny (model prog w) A (subscriptTail value slice (.ref D) (.int i u)) Q E s :=
  tail_any ht.typeIs slot_tuple_getitem.lookup (getItem_tuple ht (by omega) hfit (seqIndex_of h0 h1) hx h) hs
theorem tup_mem {h₀ h : Heap} {L : Addr} {news : List (Addr × Obj)} (N : News h₀ L h news) (D : Addr) (a b : Value) (c : Nat) (hm : (D, ({ cls := .type "tuple", data := .seq #[a, b] c } : Obj)) ∈ news) : IsTup h D #[a, b] := ⟨_, (N _ hm).1, rfl, _, rfl⟩
theorem tup2_mem {h₀ h : Heap} {L : Addr} {news : List (Addr × Obj)} (N : News h₀ L h news) (D : Addr) (x : Int) (t : Tok) (y : Int) (u : Tok) (c : Nat) (hm : (D, tup2 x t y u c) ∈ news) : IsTup h D #[.int x t, .int y u] := ⟨_, (N _ hm).1, rfl, _, rfl⟩
theorem eof_same {e2 e3 : Int} (h : e2 = 1 ∨ e2 = -1) : (e2 * e3 == 0) = (e3 == 0) := by
  rcases h with rfl | rfl
  · rw [Int.one_mul]
  · by_cases h0 : e3 = 0
    · subst h0; rfl
    · have h1 : -1 * e3 ≠ 0 := by omega
      rw [beq_eq_false_iff_ne.mpr h1, beq_eq_false_iff_ne.mpr h0]
theorem fr_turn {α : Type} {st : List Str} {x a : Str} {u1 m₀ : Str → α} {v w : α} (hx : st.contains x = true) (ha : st.contains a = true) :
    ∀ z, st.contains z = false → (fun y => if y = a then w else if y = x then v else if st.contains y = true then u1 y else m₀ y) z = m₀ z := by
  intro z hz
  show (if z = a then w else if z = x then v else if st.contains z = true then u1 z else m₀ z) = m₀ z
  rw [if_neg (by rintro rfl; rw [ha] at hz; cases hz), if_neg (by rintro rfl; rw [hx] at hz; cases hz), if_neg (by rw [hz]; exact Bool.false_ne_true)]
theorem sub4 {c : TabC} {p : Addr × Obj} {rest : List (Addr × Obj)} (h : p ∈ tabLed c) : p ∈ (c.1.1, c.1.2.1) :: (30, c.1.2.2) :: (c.2.1, c.2.2.1) :: (37, c.2.2.2) :: rest := by
  have h' : p ∈ [(c.1.1, c.1.2.1), ((30 : Addr), c.1.2.2), (c.2.1, c.2.2.1), ((37 : Addr), c.2.2.2)] := h
  exact List.mem_append_left rest h'
end
section
open PyProof.V
def AllNe (D : Nat) : List (Addr × Obj) → Prop
  | [] => True
  | p :: r => @Ne Nat p.1 D ∧ AllNe D r
theorem allNe {h₀ h : Heap} {L D : Addr} (hD : h.get? D = none) : ∀ {news : List (Addr × Obj)}, News h₀ L h news → AllNe D news
  | [], _ => trivial
  | p :: _, N => ⟨not_in N hD p (.head _), allNe hD fun q hq => N q (.tail _ hq)⟩
theorem sign_of (k : Int) (h0 : 0 ≤ k) (h1 : k < 5) : ∃ c, c ∈ signs5 ∧ Txt.item (Str.ofString "*/<=>") k = ⟨#[c]⟩ := by
  have : k = 0 ∨ k = 1 ∨ k = 2 ∨ k = 3 ∨ k = 4 := by omega
  rcases this with rfl | rfl | rfl | rfl | rfl
  · exact ⟨42, by decide, by kernel_rfl⟩
  · exact ⟨47, by decide, by kernel_rfl⟩
  · exact ⟨60, by decide, by kernel_rfl⟩
  · exact ⟨61, by decide, by kernel_rfl⟩
  · exact ⟨62, by decide, by kernel_rfl⟩
theorem range_keep {prog : Program} {w : World} {A : Around} {E : Value → Shared → Prop} {s : Shared} {h₀ : Heap} {L : Addr} {m : Str → Option Value} {Q : Value → Shared → Prop} {n : Int} {t : Tok} {news : List (Addr × Obj)} (F : Fr h₀ L s.heap m) (N : News h₀ L s.heap news)
    (h : ∀ r h' tk t₁ u₁ v₁, Fr h₀ L h' m → News h₀ L h' ((r, { cls := .type "range", dict := none, data := .fields #[.int 0 t₁, .int n u₁, .int 1 v₁], slots := #[] }) :: news) → (∀ p ∈ news, p.1 < r) → Q (.ref r) { s with heap := h', toks := tk }) :
    wpAny (model prog w) A (call (.type "range") [.int n t]) Q E s :=
  range1_rows F N fun h' tk t₁ u₁ v₁ hr F' N' _ => h _ h' tk t₁ u₁ v₁ F' (fun p hp => by
    rcases List.mem_cons.mp hp with rfl | hp
    · exact ⟨hr, Nat.ne_of_gt F.ns.lt, next_is_new F⟩
    · exact N' p hp) fun p hp => Heap.lt_size (N p hp).1
theorem range_mem {h₀ h : Heap} {L : Addr} {news : List (Addr × Obj)} (N : News h₀ L h news) (r : Addr) (n : Int) (t u v : Tok) (hm : (r, ({ cls := .type "range", dict := none, data := .fields #[.int 0 t, .int n u, .int 1 v], slots := #[] } : Obj)) ∈ news) : IsRange h r 0 n 1 t u v := (N _ hm).1
theorem list_mem {h₀ h : Heap} {L : Addr} {news : List (Addr × Obj)} (N : News h₀ L h news) (D : Addr) (ys : List Value) (hm : (D, LCg.lst ys) ∈ news) : h.IsList D ys.toArray := ⟨_, (N _ hm).1, rfl, _, rfl⟩
section
variable {prog : Program} {w : World} {A : Around} {h₀ : Heap} {L : Addr} {m : Str → Option Value} {env : Env} {elt : PySem.Expr} {x : Str} {scope : Scope} {cl : List (Str × Addr)} {s : Shared} {S : List (Addr × Obj) → Prop} {P : Nat → Value → Prop} {Fin : List Value → List (Addr × Obj) → Prop} {news : List (Addr × Obj)}
/-- a comprehension by what holds of the items made so far -/
theorem comp_inv {n : Nat} (PI : Nat → List Value → Prop) (h0 : PI 0 [])
    (turn : ∀ i v I oI C oC D m₂ ys h tk (E' : Value → Shared → Prop), i < n → P i v → PI i ys → LCg.NsObj oC m₂ → m₂ x = some v → Fr h₀ L h m → News h₀ L h ((I, oI) :: (C, oC) :: (D, LCg.lst ys) :: news) → LCg.Off3 I C D news → ((@Ne Nat I C) ∧ (@Ne Nat I D) ∧ (@Ne Nat C D)) →
      wpAny (model prog w) A (eval elt (compEnvC scope cl C env)) (LCg.CompEnd h₀ L m { s with heap := h, toks := tk } I oI C oC D (LCg.lst ys) S (fun y news' => news' = news ∧ PI (i + 1) (ys ++ [y]))) E' { s with heap := h, toks := tk })
    (fin : ∀ ys, PI n ys → Fin ys news) : LCg.CompRest prog w A h₀ L m env elt x scope cl s S P Fin n 0 [] news := by
  have key : ∀ (j i : Nat) (ys : List Value), i + j = n → PI i ys → LCg.CompRest prog w A h₀ L m env elt x scope cl s S P Fin j i ys news := by
    intro j
    induction j with
    | zero =>
      intro i ys hi hy
      have e : i = n := by omega
      subst e
      exact LCg.CompRest.zero (fin ys hy)
    | succ j ih =>
      intro i ys hi hy
      refine LCg.CompRest.succ ?_
      intro v I oI C oC D m₂ h tk E' hv hC hx F N off ne
      refine wpAny_mono (turn i v I oI C oC D m₂ ys h tk E' (by omega) hv hy hC hx F N off ne) (fun y s₂ hq => ?_) fun _ _ e => e
      obtain ⟨h', tk', nw, e, F', N', off', hS, hn, hy'⟩ := hq
      rw [hn] at N' off' hS
      exact ⟨h', tk', news, e, F', N', off', hS, ih (i + 1) _ (by omega) hy'⟩
  exact key n 0 [] (by omega) h0
end
theorem weight_le (m : Nat) : ∀ l : List Str, (∀ x ∈ l, x.length ≤ m) → (l.map (·.length)).sum ≤ m * l.length
  | [], _ => Nat.zero_le _
  | x :: r, h => by
    rw [List.map_cons, List.sum_cons, List.length_cons, Nat.mul_succ]
    have h1 := weight_le m r fun y hy => h y (.tail _ hy)
    have h2 := h x (.head _)
    omega
theorem weight_range (f : Nat → Str) (n : Nat) (hn : n ≤ 8) (hf : ∀ j, (f j).length ≤ 2) : (((List.range n).map f).map (·.length)).sum + ((List.range n).map f).length ≤ 1048576 := by
  have := weight_le 2 ((List.range n).map f) fun x hx => by obtain ⟨j, _, rfl⟩ := List.mem_map.mp hx; exact hf j
  simp only [List.length_map, List.length_range] at this ⊢
  omega
theorem pieceS_len (c : Nat) (b : Bool) (j : Nat) : (pieceS c b j).length ≤ 2 := by
  cases b
  · exact Nat.le_succ 1
  · exact Nat.le_refl 2
theorem textT_len (c : Nat) (f : Nat → Bool) (n : Nat) : (Txt.join (Str.ofString "") ((List.range n).map fun j => pieceT c (f j))).length ≤ 2 * n := by
  have : ∀ l : List Nat, (((l.map fun j => pieceT c (f j)).map fun t => t.cps.toList).flatten).length ≤ 2 * l.length := by
    intro l
    induction l with
    | nil => exact Nat.le_refl _
    | cons x r ih =>
      rw [List.map_cons, List.map_cons, List.flatten_cons, List.length_append, List.length_cons]
      have h2 : (pieceT c (f x)).cps.toList.length ≤ 2 := by
        cases f x
        · exact Nat.le_succ 1
        · exact Nat.le_refl 2
      omega
  have h := this (List.range n)
  rw [← join0, List.length_range] at h
  show (Txt.join _ _).cps.size ≤ _
  rw [← Array.length_toList, txt_join]
  exact h
theorem tok_pos : ∀ c ∈ signs5, 0 < tok1 c ∧ 0 < tok2 c := by decide
theorem name_more {P : Prop} {g h : Heap} {L lm : Addr} {a b : Int} {ta tb tc : Tok} {k : Nat} {rest : List (Addr × Obj)} (N : News g L h ((lm, listOf #[.int a ta, .int b tb, .int 0 tc] k) :: rest)) (ha : 0 ≤ a ∧ a < 1000) (hb : 0 ≤ b ∧ b < 1000)
    (use : ∀ (lm' : Addr) (ms : List Value) (a' b' : Int), lm' = lm → IntsAre ms [a', b', 0] → (0 ≤ a' ∧ a' < 1000) → (0 ≤ b' ∧ b' < 1000) → News g L h ((lm', listOf ms.toArray k) :: rest) → P) : P :=
  use lm [.int a ta, .int b tb, .int 0 tc] a b rfl (.cons _ _ (.cons _ _ (.cons _ _ .nil))) ha hb N
theorem pieceT_len (c : Nat) (b : Bool) : (pieceT c b).length ≤ 2 := by
  cases b
  · exact Nat.le_succ 1
  · exact Nat.le_refl 2
def markB (c : Int) (j : Nat) : Bool := (c.fdiv (2 ^ j)).fmod 2 == 1
structure NeAll (D : Nat) (news : List (Addr × Obj)) : Prop where
  mem : ∀ p ∈ news, @Ne Nat p.1 D
theorem neAll {h₀ h : Heap} {L D : Addr} {news : List (Addr × Obj)} (hD : h.get? D = none) (N : News h₀ L h news) : NeAll D news := ⟨not_in N hD⟩
local macro_rules | `(tactic| walk_at "CompSrc") => `(tactic| (refine hold ?_))
local macro_rules | `(tactic| walk_at "call builtin:chr") => `(tactic| (k_here; refine hold ?_))
local macro_rules | `(tactic| walk_at "call builtin:str.join") => `(tactic| (k_here; refine hold ?_))
local macro_rules | `(tactic| walk_at "call builtin:str.split") => `(tactic| (k_here; refine hold ?_))
local macro_rules | `(tactic| walk_at "compareOp NotEq ref ref") => `(tactic| (k_here; refine hold ?_))
local macro_rules | `(tactic| walk_at "subscriptTail") => `(tactic| (k_here; (with_reducible show wpAny _ _ (subscriptTail _ (PySem.Expr.Slice _ _ _ _) (Value.ref _) (Value.ref _)) _ _ _); refine hold ?_))
local macro_rules | `(tactic| walk_at "CompEnd") => `(tactic| (refine hold ?_))
local macro_rules | `(tactic| walk_at "binaryOp Mult int int") => `(tactic| (k_here; refine hold ?_))
local macro_rules | `(tactic| walk_at "call type:range") => `(tactic| (k_here; refine hold ?_))
local macro_rules | `(tactic| walk_at "eval ListComp") => `(tactic| (k_here; refine hold ?_))
local macro_rules | `(tactic| walk_at "subscriptTail") => `(tactic| (k_here; (with_reducible show wpAny _ _ (subscriptTail _ _ (Value.str _ _) _) _ _ _); refine hold ?_))
local macro_rules | `(tactic| walk_at "subscriptTail") => `(tactic| (k_here; (with_reducible show wpAny _ _ (subscriptTail _ _ (Value.ref _) (Value.str _ _)) _ _ _); refine hold ?_))
local macro_rules | `(tactic| walk_at "call builtin:len") => `(tactic| (k_here; refine SBL.len (by rw [len_rep]; omega) ?_; rw [len_rep]))
theorem law_holds : RW.Holds := by
  w_on
  refine Mine.head (by rfl) (by rfl) (by rfl) (by w_witness2) ?_
  unfold HookV
  k_fill
  intro w s₀ s₁ mg mb G Y fa o pm cd doc dV kV ho hd hcd hD hmg hg args vals as hpre hlay hrd hwl hlo
  have KX := km_in_of Y
  have hT8 := km_tabs_of Y
  have X := (Ground.X G).1
  have V := (Ground.X G).2
  refine Ground.open G ?_
  intro T B D TE TW
  try (refine guard_noD D (by decide +kernel) ?_; clear D)
  have hT9 : TabsAt ([(41, 37), (34, 30)] : List (Addr × Addr)) _ := List.forall_mem_cons.mpr ⟨⟨codeHd_of_K (c := 41) (P := 37) KX (by kernel_rfl), hT8 37 (by k_mem)⟩, List.forall_mem_cons.mpr ⟨⟨codeHd_of_K (c := 34) (P := 30) KX (by kernel_rfl), hT8 30 (by k_mem)⟩, fun _ h => nomatch h⟩⟩
  clear hmg
  wrow_args hpre hlay hrd hwl hlo
  all_goals (
    first | refine callC_kw (enter_call ?_) | refine enter_call ?_
    w_top on
    kn_posts
    w_call any ho hd hcd hD T F
    clear hd
    kn_ghosts F T
    k_drop
    skip)
  k_steps
  unfold Hold
  (with_reducible rename IntsAre _ _ => hI)
  (with_reducible rename Heap.IsList _ _ _ => hLs)
  (with_reducible rename News _ _ _ _ => N8)
  ((with_unfolding_all refine' useH (c_cells w _ _ _ hI (by omega)) ?x1 ?x2 ?x3 ?x4 ?x5 ?x6 ?x7 ?x8 ?x9 ?_); (case x1 => k_asm); (case x2 => k_asm); (case x3 => k_asm); (case x4 => k_asm); (case x5 => k_asm); (case x6 => first | rfl | assumption); (case x7 => ktr_room); (case x8 => ktr_units))
  case x9 => exact PyProof.Rows.Fr.lst (by assumption) hLs
  rintro r h1 tk1 F1 N1 kp1 ⟨D, ws, nn, c0, c1, c2, c3, c4, rfl, hD, hoD, hws, hcs⟩
  have d8 := allNe hD N8
  simp only [AllNe, and_true] at d8
  have N2 := News.add N1 (by k_asm) hD hoD
  have z0 := hcs c0 (by simp)
  have z1 := hcs c1 (by simp)
  have z2 := hcs c2 (by simp)
  have z3 := hcs c3 (by simp)
  have z4 := hcs c4 (by simp)
  clear hcs N1 kp1
  k_steps
  unfold Hold
  have hs0 : 0 ≤ c0.fmod 5 := Int.fmod_nonneg_of_pos _ (by decide)
  have hs1 : c0.fmod 5 < 5 := Int.fmod_lt_of_pos _ (by decide)
  obtain ⟨c, hc5, hce⟩ := sign_of (c0.fmod 5) hs0 hs1
  rw [show ([c0, c1, c2, c3, c4].getD (Int.toNat 0) 0).fmod 5 = c0.fmod 5 from rfl]
  refine KXi.item (n := 5) (by kernel_rfl) (by omega) (by omega) (by decide) ?_
  rw [hce]
  intro hcl
  k_steps
  unfold Hold
  (with_reducible rename News _ _ _ _ => N7)
  refine name_more N7 ⟨Int.fmod_nonneg_of_pos _ (by decide), Int.fmod_lt_of_pos _ (by decide)⟩ ⟨Int.fmod_nonneg_of_pos _ (by decide), Int.fmod_lt_of_pos _ (by decide)⟩ ?_
  intro lm ms a1 b1 elm hms ha1 hb1 N8
  subst elm
  clear N7
  obtain ⟨al, hal⟩ : ∃ al, al = tok1 c + a1 := ⟨_, rfl⟩
  obtain ⟨be, hbe⟩ : ∃ be, be = tok2 c + b1 := ⟨_, rfl⟩
  obtain ⟨hal0, hbe0, hab⟩ : 0 < al ∧ 0 < be ∧ al + be ≤ 2100 := by
    have h1 := tok_pos c hc5
    have h2 := tok_small c hc5
    omega
  (with_reducible rename Fr _ _ _ _ => F8)
  obtain ⟨n, hn4, hn7, hne⟩ : ∃ n : Nat, 4 ≤ n ∧ n ≤ 7 ∧ ([c0, c1, c2, c3, c4].getD (Int.toNat 3) 0).fmod 4 + 4 = (n : Int) := by
    have h0 : 0 ≤ c3.fmod 4 := Int.fmod_nonneg_of_pos _ (by decide)
    have h1 : c3.fmod 4 < 4 := Int.fmod_lt_of_pos _ (by decide)
    exact ⟨(c3.fmod 4 + 4).toNat, by omega, by omega, by show c3.fmod 4 + 4 = _; omega⟩
  rw [hne]
  refine range_keep F8 N8 ?_
  intro rp hp' tkp tp1 tp2 tp3 Fp Np lp
  k_lt lp
  clear F8 N8
  k_steps
  unfold Hold
  refine LCg.ListComp_U (F₀ := by k_asm) (by with_unfolding_all rfl) (by decide) (by rfl) (by decide) (by rfl) ?_
  k_steps
  unfold Hold
  (with_reducible rename News _ _ _ _ => N8)
  refine LCg.CompSrc.range (by rfl) (by k_asm) N8 (range_mem N8 rp (n : Int) tp1 tp2 tp3 (by k_mem)) (n := n) (small_one (by decide) (by decide) (by omega) (by omega)) (by rw [rangeSize_nat]; omega) (by rw [PySem.sizeLine_eq]; omega) ?_
  intro g9
  refine comp_inv (fun i ys => ys = (List.range i).map fun j => Value.bool (markB c4 j)) rfl ?turn ?fin
  case turn =>
    rintro i v I oI C oC D9 m₂ ys h9 tk9 E' hi ⟨tv, rfl⟩ hP hC hx F9 N9 off9 ne9
    simp only [LCg.Off3, and_true] at off9
    k_steps
    unfold Hold
    ((refine' LCg.CompEnd.intro ?q1 ?q2 _ ?q3 ?q4 ?q5 ⟨rfl, ?_⟩); (case q1 => k_asm); (case q2 => k_asm); (case q3 => kcf_all); (case q4 => (simp only [LCg.Off3, and_true]; exact off9)); (case q5 => first | trivial | assumption | exact Or.inr ⟨_, by k_mem, rfl, _, rfl⟩))
    rw [hP, List.range_succ, List.map_append, Int.zero_add, Int.toNat_natCast]
    rfl
  case fin =>
    intro ys hP Dm h9 tk9 F9 N9 off9
    simp only [LCg.Off1, and_true] at off9
    k_steps
    unfold Hold
    subst hP
    refine LCg.ListComp_U (F₀ := by k_asm) (by with_unfolding_all rfl) (by decide) (by rfl) (by decide) (by rfl) ?_
    k_steps
    unfold Hold
    (with_reducible rename News _ _ _ _ => N8)
    refine LCg.CompSrc.range (by rfl) (by k_asm) N8 (range_mem N8 rp (n : Int) tp1 tp2 tp3 (by k_mem)) (n := n) (small_one (by decide) (by decide) (by omega) (by omega)) (by rw [rangeSize_nat]; omega) (by rw [PySem.sizeLine_eq]; omega) ?_
    intro g9
    refine comp_inv (fun i ys => StrsAre ys ((List.range i).map fun j => pieceS c (markB c4 j) j)) .nil ?turn ?fin
    case turn =>
      rintro i v I oI C oC D9 m₂ ys h9 tk9 E' hi ⟨tv, rfl⟩ hP hC hx F9 N9 off9 ne9
      simp only [LCg.Off3, and_true] at off9
      k_steps
      refine item_listL (l := (List.range n).map fun j => Value.bool (markB c4 j)) (x := Value.bool (markB c4 i)) (list_mem N9 Dm _ (by k_mem)) (by omega) (by omega) (by rw [Int.zero_add, Int.toNat_natCast, List.getElem?_map, List.getElem?_range hi]; rfl) ?_
      generalize hb : markB c4 i = b
      cases b with
      | true =>
        k_steps
        unfold Hold
        refine chr_of_range (by omega) (by omega) ?_
        rw [show (65024 + (0 + (i : Int))).toNat = 65024 + i from by omega]
        k_steps
        unfold Hold
        ((refine' LCg.CompEnd.intro ?q1 ?q2 _ ?q3 ?q4 ?q5 ⟨rfl, ?_⟩); (case q1 => k_asm); (case q2 => k_asm); (case q3 => kcf_all); (case q4 => (simp only [LCg.Off3, and_true]; exact off9)); (case q5 => first | trivial | assumption | exact Or.inr ⟨_, by k_mem, rfl, _, rfl⟩))
        rw [List.range_succ, List.map_append]
        refine StrsAre.append' hP ?_
        show StrsAre _ [pieceS c (markB c4 i) i]
        rw [hb]
        exact .cons _ _ .nil
      | false =>
        k_steps
        unfold Hold
        ((refine' LCg.CompEnd.intro ?q1 ?q2 _ ?q3 ?q4 ?q5 ⟨rfl, ?_⟩); (case q1 => k_asm); (case q2 => k_asm); (case q3 => kcf_all); (case q4 => (simp only [LCg.Off3, and_true]; exact off9)); (case q5 => first | trivial | assumption | exact Or.inr ⟨_, by k_mem, rfl, _, rfl⟩))
        rw [List.range_succ, List.map_append]
        refine StrsAre.append' hP ?_
        show StrsAre _ [pieceS c (markB c4 i) i]
        rw [hb]
        exact .cons _ _ .nil
    case fin =>
      intro ys hP D9 h9 tk9 F9 N9 off9
      simp only [LCg.Off1, and_true] at off9
      k_steps
      unfold Hold
      (with_reducible rename News _ _ _ _ => N8)
      refine join_listW (list_mem N8 D9 ys (by k_mem)) hP (by decide) (weight_range _ n (by omega) fun j => pieceS_len c _ j) ?_
      intro tj kj
      k_steps
      unfold Hold
      (with_reducible rename News _ _ _ _ => N8)
      ((with_unfolding_all refine' useH (c_blocks w _ tj (text_ok c hc5 _ n (by omega)) (by have := text_len c (markB c4) n; omega)) ?x1 ?x2 ?x3 ?x4 ?x5 ?x6 ?x7 ?x8 ?x9 ?_); (case x1 => k_asm); (case x2 => k_asm); (case x3 => k_asm); (case x4 => k_asm); (case x5 => k_asm); (case x6 => first | rfl | assumption); (case x7 => ktr_room); (case x8 => ktr_units))
      case x9 => trivial
      rintro r h1 tk1 F1 N1 kp1 ⟨Db, bvs, nb, rfl, hDb, hoDb, hbvs⟩
      have dDb := neAll hDb N8
      have N2 := News.add N1 (by k_asm) hDb hoDb
      clear N1 kp1 N8
      rw [blocks_are c hc5 (markB c4) n (by omega)] at hbvs
      k_steps
      unfold Hold
      refine LCg.ListComp_U (F₀ := by k_asm) (by with_unfolding_all rfl) (by decide) (by rfl) (by decide) (by rfl) ?_
      k_steps
      unfold Hold
      (with_reducible rename News _ _ _ _ => N8)
      refine LCg.CompSrc.range (by rfl) (by k_asm) N8 (range_mem N8 rp (n : Int) tp1 tp2 tp3 (by k_mem)) (n := n) (small_one (by decide) (by decide) (by omega) (by omega)) (by rw [rangeSize_nat]; omega) (by rw [PySem.sizeLine_eq]; omega) ?_
      intro g9
      clear N8
      refine comp_inv (fun i ys => StrsAre ys ((List.range i).map fun j => pieceT c (markB c4 j))) .nil ?turn ?fin
      case turn =>
        rintro i v I oI C oC D9 m₂ ys h9 tk9 E' hi ⟨tv, rfl⟩ hP hC hx F9 N9 off9 ne9
        simp only [LCg.Off3, and_true] at off9
        k_steps
        refine item_listL (l := (List.range n).map fun j => Value.bool (markB c4 j)) (x := Value.bool (markB c4 i)) (list_mem N9 Dm _ (by k_mem)) (by omega) (by omega) (by rw [Int.zero_add, Int.toNat_natCast, List.getElem?_map, List.getElem?_range hi]; rfl) ?_
        generalize hb : markB c4 i = b
        cases b with
        | true =>
          k_steps
          unfold Hold
          ((refine' LCg.CompEnd.intro ?q1 ?q2 _ ?q3 ?q4 ?q5 ⟨rfl, ?_⟩); (case q1 => k_asm); (case q2 => k_asm); (case q3 => kcf_all); (case q4 => (simp only [LCg.Off3, and_true]; exact off9)); (case q5 => first | trivial | assumption | exact Or.inr ⟨_, by k_mem, rfl, _, rfl⟩))
          rw [List.range_succ, List.map_append]
          refine StrsAre.append' hP ?_
          show StrsAre _ [pieceT c (markB c4 i)]
          rw [hb]
          exact .cons _ _ .nil
        | false =>
          k_steps
          unfold Hold
          ((refine' LCg.CompEnd.intro ?q1 ?q2 _ ?q3 ?q4 ?q5 ⟨rfl, ?_⟩); (case q1 => k_asm); (case q2 => k_asm); (case q3 => kcf_all); (case q4 => (simp only [LCg.Off3, and_true]; exact off9)); (case q5 => first | trivial | assumption | exact Or.inr ⟨_, by k_mem, rfl, _, rfl⟩))
          rw [List.range_succ, List.map_append]
          refine StrsAre.append' hP ?_
          show StrsAre _ [pieceT c (markB c4 i)]
          rw [hb]
          exact .cons _ _ .nil
      case fin =>
        intro ys2 hP2 D2 h9 tk9 F9 N9 off9
        simp only [LCg.Off1, and_true] at off9
        k_steps
        unfold Hold
        (with_reducible rename News _ _ _ _ => N8)
        refine join_listW (list_mem N8 D2 ys2 (by k_mem)) hP2 (by decide) (weight_range _ n (by omega) fun j => pieceT_len c _) ?_
        intro tj2 kj2
        k_steps
        unfold Hold
        refine KSpl.split1 (by k_asm) (by k_asm) (by decide) ?_ (by rw [PySem.sizeLine_eq]; have := textT_len c (markB c4) n; omega)
        intro Ds lsp hsp ksp esp asp Fsp Nsp lsp1
        k_lt lsp1
        have hsa := split_are c (signs_lt c hc5).2 ((List.range n).map (markB c4))
        rw [List.map_map] at hsa
        rw [esp, show (fun j => pieceT c (markB c4 j)) = pieceT c ∘ markB c4 from rfl, hsa] at asp
        clear esp
        obtain ⟨ls, els⟩ : ∃ ls, ls = lens 0 ((List.range n).map (markB c4)) := ⟨_, rfl⟩
        have hlsum : ls.sum = n := by rw [els, lens_sum]; simp
        have hlen : ls.length ≤ n + 1 := by have := lens_length ((List.range n).map (markB c4)) 0; rw [← els] at this; simpa using this
        rw [← els] at asp hbvs
        clear els hsa
        k_steps
        unfold Hold
        (with_reducible rename News _ _ _ _ => N8)
        refine ne_strs (News.isList N8 (a := Db) (by k_mem)) (News.isList N8 (a := Ds) (by k_mem)) hbvs asp (fun x hx => by obtain ⟨l, _, rfl⟩ := List.mem_map.mp hx; exact rep_ok c l (signs_lt c hc5).1) (by ke_room) ?_
        k_steps
        unfold Hold
        (with_reducible rename News _ _ _ _ => N8)
        refine join_listW (News.isList N8 (a := Db) (by k_mem)) hbvs (by decide) (rep_weight c ls (by omega) (by omega)) ?_
        intro tj3 kj3
        rw [join_blocks, hlsum]
        k_steps
        unfold Hold
        (with_reducible rename News _ _ _ _ => N8)
        ((with_unfolding_all refine' useH (c_sums w c n _ hc5 hn7 a1 b1 lm ms hms ha1 hb1 al be hal hbe) ?x1 ?x2 ?x3 ?x4 ?x5 ?x6 ?x7 ?x8 ?x9 ?_); (case x1 => k_asm); (case x2 => k_asm); (case x3 => k_asm); (case x4 => k_asm); (case x5 => k_asm); (case x6 => first | rfl | assumption); (case x7 => ktr_room); (case x8 => ktr_units))
        case x9 => exact News.isList N8 (by k_mem)
        rintro r h1 tk1 F1 N1 kp1 ⟨Dsu, svs, nsu, rfl, hDsu, hoDsu, hsvs⟩
        have dDsu := neAll hDsu N8
        have N2 := News.add N1 (by k_asm) hDsu hoDsu
        clear N1 kp1 N8
        k_steps
        unfold Hold
        (refine' kmk_slice_ints (ns := sumsF al be n) (ms := (sumsF al be n).take ((sumsF al be n).length - (-(-1 : Int)).toNat)) ?ka1 ?ka2 ?ka3 ?ka4 ?ka5 ?ka6 ?ka7 rfl ?_ ?ka8 ?ka9 ?kb1; (case ka1 => k_asm); (case ka2 => k_asm); (case ka3 => exact News.isList (a := Dsu) (by k_asm) (by k_mem)); (case ka4 => kmk_part); (case ka5 => kmk_part); (case ka6 => exact hsvs); (case ka7 => exact kmk_upto_neg hsvs (by decide)); (case ka8 => with_unfolding_all rfl); (case ka9 => kmk_pure); (case kb1 => exact kmk_sz hsvs (by rw [sumsF_len, PySem.sizeLine_eq]; omega)))
        intro Dsl wsl hsl Fsl Nsl lsl hIsl hCsl hLsl
        k_lt lsl
        rw [show (sumsF al be n).length - (-(-1 : Int)).toNat = n from by rw [sumsF_len]; omega, sums_take] at hIsl
        clear hCsl
        k_steps
        unfold Hold
        (with_reducible rename News _ _ _ _ => N8)
        ((with_unfolding_all refine' useH (c_prod w Dsl wsl _ hIsl (sums_prods al be hal0 hbe0 hab n (by omega)) (luc_in al be hal0 hbe0 hab n (by omega))) ?x1 ?x2 ?x3 ?x4 ?x5 ?x6 ?x7 ?x8 ?x9 ?_); (case x1 => k_asm); (case x2 => k_asm); (case x3 => k_asm); (case x4 => k_asm); (case x5 => k_asm); (case x6 => first | rfl | assumption); (case x7 => ktr_room); (case x8 => ktr_units))
        case x9 => exact News.isList N8 (by k_mem)
        rintro r h1 tk1 F1 N1 kp1 ⟨tpr, rfl⟩
        rw [PU_prod]
        clear kp1 N8
        k_steps
        unfold Hold
        refine LCg.ListComp_U (F₀ := by k_asm) (by with_unfolding_all rfl) (by decide) (by rfl) (by decide) (by rfl) ?_
        k_steps
        unfold Hold
        (with_reducible rename News _ _ _ _ => N8)
        have hbl : bvs.length = ls.length := by have := hbvs.length; simpa using this
        refine LCg.CompSrc.ledger (ax := Db) (its := bvs.toArray) (k := nb) (by rfl) (by k_asm) N8 (by k_mem) (by rw [PySem.sizeLine_eq, List.size_toArray]; omega) ?_
        intro g9
        clear N8
        refine comp_inv (fun i ys => IntsAre ys ((ls.take i).map (PU al be))) .nil ?turn ?fin
        case turn =>
          rintro i v I oI C oC D9 m₂ ys h9 tk9 E' hi hv hP hC hx F9 N9 off9 ne9
          simp only [LCg.Off3, and_true] at off9
          have hil : i < ls.length := by rw [← hbl]; simpa using hi
          obtain ⟨l, hl⟩ : ∃ l, ls[i]? = some l := ⟨_, List.getElem?_eq_getElem hil⟩
          obtain ⟨tv, htv⟩ := hbvs.get i (repS c l) (by rw [List.getElem?_map, hl]; rfl)
          have ev : v = Value.str (repS c l) tv := by
            rw [List.getElem?_toArray, htv] at hv
            exact (Option.some.inj hv).symm
          subst ev
          have hl7 : l ≤ 7 := by have := mem_le_sum (List.mem_of_getElem? hl); omega
          k_steps
          unfold Hold
          (with_reducible rename News _ _ _ _ => N8)
          ((with_unfolding_all refine' useH (c_sums w c l tv hc5 hl7 a1 b1 lm ms hms ha1 hb1 al be hal hbe) ?x1 ?x2 ?x3 ?x4 ?x5 ?x6 ?x7 ?x8 ?x9 ?_); (case x1 => k_asm); (case x2 => k_asm); (case x3 => k_asm); (case x4 => k_asm); (case x5 => k_asm); (case x6 => first | rfl | assumption); (case x7 => ktr_room); (case x8 => ktr_units))
          case x9 => exact News.isList N8 (by k_mem)
          rintro r h1 tk1 F1 N1 kp1 ⟨Dbu, bus, nbu, rfl, hDbu, hoDbu, hbus⟩
          have N2 := News.add N1 (by k_asm) hDbu hoDbu
          clear N1 kp1 N8
          k_steps
          unfold Hold
          (refine' slice_intsR (vs := bus) (ms := (sumsF al be l).take ((sumsF al be l).length - (-(-1 : Int)).toNat)) ?ka1 ?ka2 ?ka3 ?ka4 ?ka5 ?ka7 ?_ ?ka8 ?kb1; (case ka1 => k_asm); (case ka2 => k_asm); (case ka3 => exact News.isList (a := Dbu) (by k_asm) (by k_mem)); (case ka4 => kmk_part); (case ka5 => kmk_part); (case ka7 => exact kmk_upto_neg hbus (by decide)); (case ka8 => with_unfolding_all rfl); (case kb1 => exact kmk_sz hbus (by rw [sumsF_len, PySem.sizeLine_eq]; omega)))
          intro Dbl wbl hbl2 Fbl Nbl lbl hIbl
          k_lt lbl
          rw [show (sumsF al be l).length - (-(-1 : Int)).toNat = l from by rw [sumsF_len]; omega, sums_take] at hIbl
          k_steps
          unfold Hold
          (with_reducible rename News _ _ _ _ => N8)
          ((with_unfolding_all refine' useH (c_prod w Dbl wbl _ hIbl (sums_prods al be hal0 hbe0 hab l (by omega)) (luc_in al be hal0 hbe0 hab l (by omega))) ?x1 ?x2 ?x3 ?x4 ?x5 ?x6 ?x7 ?x8 ?x9 ?_); (case x1 => k_asm); (case x2 => k_asm); (case x3 => k_asm); (case x4 => k_asm); (case x5 => k_asm); (case x6 => first | rfl | assumption); (case x7 => ktr_room); (case x8 => ktr_units))
          case x9 => exact News.isList N8 (by k_mem)
          rintro r h1 tk1 F1 N1 kp1 ⟨tpr, rfl⟩
          rw [PU_prod]
          clear kp1 N8
          k_steps
          unfold Hold
          ((refine' LCg.CompEnd.intro ?q1 ?q2 _ ?q3 ?q4 ?q5 ⟨rfl, ?_⟩); (case q1 => k_asm); (case q2 => k_asm); (case q3 => kcf_all); (case q4 => (simp only [LCg.Off3, and_true]; exact off9)); (case q5 => first | trivial | assumption | exact Or.inr ⟨_, by k_mem, rfl, _, rfl⟩))
          rw [List.take_add_one, hl, List.map_append]
          exact IntsAre.append hP (.cons _ _ .nil)
        case fin =>
          intro ys hP D9 h9 tk9 F9 N9 off9
          simp only [LCg.Off1, and_true] at off9
          k_steps
          unfold Hold
          (with_reducible rename News _ _ _ _ => N8)
          rw [List.size_toArray, hbl, List.take_length] at hP
          ((with_unfolding_all refine' useH (c_prod w D9 ys _ hP (seen_take al be hal0 hbe0 hab ls (by omega)) (PU_in al be hal0 hbe0 hab ls (by omega))) ?x1 ?x2 ?x3 ?x4 ?x5 ?x6 ?x7 ?x8 ?x9 ?_); (case x1 => k_asm); (case x2 => k_asm); (case x3 => k_asm); (case x4 => k_asm); (case x5 => k_asm); (case x6 => first | rfl | assumption); (case x7 => ktr_room); (case x8 => ktr_units))
          case x9 => exact News.isList N8 (by k_mem)
          rintro r h1 tk1 F1 N1 kp1 ⟨tse, rfl⟩
          rw [show (ls.map (PU al be)).prod = seenF al be ls from rfl]
          clear kp1 N8
          k_steps
          unfold Hold
          (with_reducible rename News _ _ _ _ => N8)
          refine name_tail N8 ?_
          intro tl etl
          refine loop_list (σ := (Int × Tok) × (Nat × Tok)) (fun _ => (Dsu, listOf svs.toArray nsu) :: tl) (fun c => [(Str.ofString "dealt", .int c.1.1 c.1.2), (Str.ofString "ahead", .int (c.2.1 : Int) c.2.2)]) []
            (fun i c => c.1.1 = dealtAll (sumsF al be n) be 0 (ls.take i) ∧ c.2.1 = (ls.take i).sum) ((1, _), (0, _)) (l := Db) (vs := bvs) (nn := nb) rfl (by k_asm) N8 (by k_mem) ?hnl (by intro p hp; simp only [List.mem_cons, List.not_mem_nil, or_false] at hp; rcases hp with rfl | rfl <;> rfl) ?hp (fun _ => rfl) ?turn ?done
          case hp => exact ⟨by rw [List.take_zero, dealtAll], rfl⟩
          case hnl =>
            subst etl
            intro q hq
            rcases List.mem_cons.mp hq with rfl | hq
            · exact ⟨by k_mem, fun e => dDsu.mem (Db, _) (by k_mem) e.symm⟩
            · exact ⟨.tail _ (.tail _ (.tail _ (.tail _ (.tail _ (.tail _ (.tail _ (.tail _ (.tail _ (.tail _ hq))))))))), dDb.mem q (.tail _ (.tail _ (.tail _ hq)))⟩
          case turn =>
            rintro ⟨⟨dv, td⟩, ⟨av, ta⟩⟩ i v u h tk own QT hi hv ⟨hP1, hP2⟩ hoff F1 N1 hnext hret1
            dsimp only [List.nil_append, List.cons_append] at F1 N1 hP1 hP2 ⊢
            subst etl
            obtain ⟨l, hl⟩ : ∃ l, ls[i]? = some l := ⟨_, List.getElem?_eq_getElem (by omega)⟩
            obtain ⟨tv, htv⟩ := hbvs.get i (repS c l) (by rw [List.getElem?_map, hl]; rfl)
            have ev : v = Value.str (repS c l) tv := by
              rw [htv] at hv
              exact (Option.some.inj hv).symm
            subst ev
            have hsum : (ls.take (i + 1)).sum = av + l := by rw [hP2, List.take_add_one, hl, Option.toList_some, sum_snoc]
            have hsle : av + l ≤ n := by have := take_sum ls (i + 1); omega
            have hdvb : dv.natAbs < 2 ^ 4000 := by rw [hP1]; exact dealtAll_small al be hal0 hbe0 hab n (by omega) _ (by omega)
            have hdlb := dealt_small al be hal0 hbe0 hab n (by omega) av l hsle
            k_steps
            unfold Hold
            obtain ⟨_, ⟨q2, h2q⟩, _⟩ := tok_look w.params c hc5
            rw [show ((⟨#[c]⟩ : Str) ++ (⟨#[c]⟩ : Str)) = repS c 2 from rfl]
            refine topItem_K (by k_asm) (by k_asm) (tok_hl _) (tok_keys _) h2q ?_
            clear h2q
            k_steps
            unfold Hold
            rw [show tok2 c + [a1, b1, 0].getD (Int.toNat 1) 0 = be from hbe.symm]
            (with_reducible rename News _ _ _ _ => N8)
            ((with_unfolding_all refine' useH (c_dealt w Dsu svs (sumsF al be n) hsvs be _ (by rw [sumsF_len]; omega) (abs_lt (k := 12) (Int.le_of_lt hbe0) (by omega) (by decide)) (sums_in al be hal0 hbe0 hab n (by omega)) (fun k l h => dealt_small al be hal0 hbe0 hab n (by omega) k l (by rw [sumsF_len] at h; omega)) (pair_small al be hal0 hbe0 hab n (by omega)) (av + l) av l _ _ rfl (by rw [sumsF_len]; omega)) ?x1 ?x2 ?x3 ?x4 ?x5 ?x6 ?x7 ?x8 ?x9 ?_); (case x1 => k_asm); (case x2 => k_asm); (case x3 => k_asm); (case x4 => k_asm); (case x5 => k_asm); (case x6 => first | rfl | assumption); (case x7 => ktr_room); (case x8 => ktr_units))
            case x9 => exact News.isList N8 (by k_mem)
            rintro r h1 tk1 F2 N2 kp2 ⟨t2, rfl⟩
            clear kp2 N8
            k_steps
            ((rename Fr _ _ _ _ => fE'); (rename News _ _ _ _ => nE'); (try simp only [List.push_toArray] at nE'); (refine hnext ((dv * dealtF (sumsF al be n) be av l, _), (av + l, _)) _ _ _ _ fE' nE' (by first | kst_in | kst_inAny) (by first | (intro p hp; kst_mem) | kst_anyIn) (by kst_all) (by ((try dsimp only [mapT, kstB]); kst_same)) ?_); (try dsimp only))
            refine ⟨?_, hsum.symm⟩
            rw [List.take_add_one, hl, Option.toList_some, dealtAll_snoc, hP1, Nat.zero_add, hP2]
          case done =>
            rintro ⟨⟨dv, td⟩, ⟨av, ta⟩⟩ u h tk ⟨hP1, hP2⟩ F1 N1
            dsimp only at F1 N1 hP1 hP2 ⊢
            subst etl
            rw [List.take_of_length_le (by omega)] at hP1
            repeat ((with_reducible rename (_ ≠ _ ∧ _) => z1); clear z1)
            k_steps
            unfold Hold
            (with_reducible rename News _ _ _ _ => N8)
            (with_reducible rename Fr _ _ _ _ => F8)
            obtain ⟨U, hU⟩ : ∃ U : Int, U = 2 ^ Int.toNat 24 + [c0, c1, c2, c3, c4].getD (Int.toNat 2) 0 := ⟨_, rfl⟩
            rw [← hU] at F8
            have hUe : U = 16777216 + c2 := by rw [hU]; rfl
            clear hU
            have hPS : PU al be n = seenF al be ls * dv := by
              have h := seen_law al be n ls 0 (by omega)
              rw [Nat.zero_add, hlsum, ← hP1] at h
              rw [h, show PU al be 0 = 1 from rfl, Int.one_mul]
            have hSS := seen_pos al be hal0 hbe0 ls
            have hPP := PU_pos al be hal0 hbe0 n
            have hPl : PU al be n ≤ 2 ^ 672 := Int.le_trans (PU_le al be hal0 hbe0 hab n (by omega)) (pow_mono (by omega))
            have hU0 : 16777216 ≤ U := by omega
            have hU1 : U ≤ 2 ^ 27 := by rw [show (2 : Int) ^ 27 = 134217728 from rfl]; omega
            clear hUe
            refine tab_mem N8 ?_
            intro hnl
            refine loopL (σ := TabC) tabLed [Str.ofString "one", Str.ofString "other", Str.ofString "extra", Str.ofString "answer"] TabP tabC0 (vs := [.int 1 _, .int (-1) _]) (nn := 0) rfl F8 N8 (List.mem_cons_self ..) hnl tabP0 (fun c P q hq => .inr (P.no q hq).1) ?turn ?done
            case done =>
              rintro ⟨⟨x, ox, t⟩, ⟨y, oy, uu⟩⟩ u9 h tk ⟨S30, S37⟩ F1 N1
              clear N8 F8 hnl
              dsimp only [tabLed] at F1 N1 S30 S37 ⊢
              obtain ⟨ps3, rfl⟩ := S30.tab
              obtain ⟨ps7, rfl⟩ := S37.tab
              have N9 : News _ _ _ [(37, tabObj ps7), (30, tabObj ps3)] := fun p hp => N1 p (tab_two hp)
              clear N1 S30 S37
              iterate 3 (try walk1)
              refine ⟨?gd, ⟨⟨ps7, (N9 _ (.head _)).1⟩, ⟨ps3, (N9 _ (.tail _ (.head _))).1⟩, trivial⟩⟩
              wrow_close
            case turn =>
              clear N8 F8 hnl
              rintro ⟨⟨x, ox, t⟩, ⟨y, oy, uu⟩⟩ v u9 h tk own QT hv ⟨S30, S37⟩ hown F1 N1 hnext hret1
              obtain ⟨e1, te1, rfl, he1⟩ : ∃ (e : Int) (te : Tok), v = Value.int e te ∧ (e = 1 ∨ e = -1) := by
                simp only [List.mem_cons, List.not_mem_nil, or_false] at hv
                rcases hv with rfl | rfl
                · exact ⟨_, _, rfl, .inl rfl⟩
                · exact ⟨_, _, rfl, .inr rfl⟩
              clear hv
              dsimp only [tabLed, List.cons_append, List.nil_append] at F1 N1 S30 S37
              k_steps
              unfold Hold
              (with_reducible rename News _ _ _ _ => N8)
              (with_reducible rename Fr _ _ _ _ => F8)
              refine loopL (σ := TabC) (fun c => tabLed c ++ own) [Str.ofString "other", Str.ofString "extra", Str.ofString "answer"] TabP ((x, ox, t), (y, oy, uu)) (vs := [.int 1 _, .int (-1) _]) (nn := 0) rfl F8 N8 (List.mem_cons_self ..) (fun q hq => .tail _ hq) ⟨S30, S37⟩ (fun c P q hq => (List.mem_append.mp hq).elim (fun hq => .inr (P.no q hq).1) (fun hq => .inl (List.mem_map_of_mem (List.mem_append_right _ hq)))) ?turn2 ?done2
              case done2 =>
                rintro ⟨⟨x2, ox2, t2⟩, ⟨y2, oy2, uu2⟩⟩ u8 h tk ⟨S30b, S37b⟩ F2 N2
                clear N8 F8
                dsimp only [tabLed] at F2 N2 S30b S37b ⊢
                k_steps
                exact hnext ((x2, ox2, t2), (y2, oy2, uu2)) _ _ _ _ F2 N2 (fun p hp => List.mem_append_left _ hp) (fun p hp => List.mem_append_right _ hp) (fr_back (by decide) (fun z hz => cont_tail hz)) ⟨S30b, S37b⟩
              case turn2 =>
                clear N8 F8 hnext hret1
                rintro ⟨⟨x2, ox2, t2⟩, ⟨y2, oy2, uu2⟩⟩ v u8 h2 tk2 own2 QT2 hv ⟨S30b, S37b⟩ hown2 F2 N2 hnext2 hret2
                obtain ⟨e2, te2, rfl, he2⟩ : ∃ (e : Int) (te : Tok), v = Value.int e te ∧ (e = 1 ∨ e = -1) := by
                  simp only [List.mem_cons, List.not_mem_nil, or_false] at hv
                  rcases hv with rfl | rfl
                  · exact ⟨_, _, rfl, .inl rfl⟩
                  · exact ⟨_, _, rfl, .inr rfl⟩
                clear hv
                dsimp only [tabLed, List.cons_append, List.nil_append] at F2 N2 S30b S37b
                have B0 := body_of hPS hSS hPP hPl hU0 hU1 he1 he2 (.inl rfl)
                k_steps
                unfold Hold
                refine mul_int ?_ (mul_ok B0.m7 B0.m4)
                k_steps
                unfold Hold
                (with_reducible rename News _ _ _ _ => N8)
                (with_reducible rename Fr _ _ _ _ => F8)
                refine loopL (σ := TabC) (fun c => tabLed c ++ (own ++ own2)) [Str.ofString "extra", Str.ofString "answer"] TabP ((x2, ox2, t2), (y2, oy2, uu2)) (vs := [.int 0 _, .int (seenF al be ls * U - 1) _]) (nn := 0) rfl F8 N8 (List.mem_cons_self ..) (fun q hq => .tail _ hq) ⟨S30b, S37b⟩ (fun c P q hq => (List.mem_append.mp hq).elim (fun hq => .inr (P.no q hq).1) (fun hq => .inl (List.mem_map_of_mem (List.mem_append_right _ hq)))) ?turn3 ?done3
                case done3 =>
                  rintro ⟨⟨x3, ox3, t3⟩, ⟨y3, oy3, uu3⟩⟩ u7 h tk ⟨S30c, S37c⟩ F3 N3
                  clear N8 F8
                  dsimp only [tabLed] at F3 N3 S30c S37c ⊢
                  k_steps
                  exact hnext2 ((x3, ox3, t3), (y3, oy3, uu3)) _ _ _ _ F3 N3 (fun p hp => (List.mem_append.mp hp).elim (List.mem_append_left _) fun hp => List.mem_append_right _ (List.mem_append_left _ hp)) (fun p hp => List.mem_append_right _ (List.mem_append_right _ hp)) (fr_back (by decide) (fun z hz => cont_tail hz)) ⟨S30c, S37c⟩
                case turn3 =>
                  clear N8 F8 hnext2 hret2
                  rintro ⟨⟨x3, ox3, t3⟩, ⟨y3, oy3, uu3⟩⟩ v u7 h3 tk3 own3 QT3 hv ⟨S30c, S37c⟩ hown3 F3 N3 hnext3 hret3
                  obtain ⟨e3, te3, rfl, he3⟩ : ∃ (e : Int) (te : Tok), v = Value.int e te ∧ (e = 0 ∨ e = seenF al be ls * U - 1) := by
                    simp only [List.mem_cons, List.not_mem_nil, or_false] at hv
                    rcases hv with rfl | rfl
                    · exact ⟨_, _, rfl, .inl rfl⟩
                    · exact ⟨_, _, rfl, .inr rfl⟩
                  clear hv B0
                  have B := body_of hPS hSS hPP hPl hU0 hU1 he1 he2 he3
                  dsimp only [tabLed, List.cons_append, List.nil_append] at F3 N3 S30c S37c
                  k_steps
                  unfold Hold
                  refine mul_int ?_ (mul_ok B.m1 B.m2)
                  k_steps
                  unfold Hold
                  refine mul_int ?_ (mul_ok B.m3 B.m4)
                  k_steps
                  unfold Hold
                  refine mul_int ?_ (mul_ok B.m5 B.m6)
                  k_steps
                  unfold Hold
                  refine mul_int ?_ (mul_ok B.m5 B.m7)
                  k_steps
                  unfold Hold
                  refine mul_int ?_ (mul_ok B.m8 B.m4)
                  k_steps
                  unfold Hold
                  (with_reducible rename News _ _ _ _ => N8)
                  have n8 : News _ _ _ ([(x3, ox3), (30, t3), (y3, oy3), (37, uu3)] ++ (own ++ own2 ++ own3)) := N8
                  have hoff := own_off (c := ((x3, ox3, t3), (y3, oy3, uu3))) (own := own ++ own2 ++ own3) ⟨S30c, S37c⟩ n8 (fun p hp => List.mem_append_left _ hp) (fun p hp => List.mem_append_right _ hp) (fun p hp => (List.mem_append.mp hp).elim (fun hp => (List.mem_append.mp hp).elim (hown p) (hown2 p)) (hown3 p))
                  ((with_unfolding_all refine' useNXR ((c_im w x3 ox3 t3 y3 oy3 uu3 S30c S37c _ _ _ _ B.hb B.ba B.bb B.b25)) ?x1 ?x2 ?x3 n8 ?xd ?x5 ?x6 ?x7 ?x8 ?_); (case x1 => k_asm); (case x2 => k_asm); (case x3 => k_asm); (case x5 => k_asm); (case x6 => first | rfl | assumption); (case x7 => ktr_room); (case x8 => ktr_units))
                  case xd => exact hoff
                  rintro r h1 tk1 lines1 F1 N1 ⟨D7, t71, t72, c7, x', ox', t', y', oy', u', rfl, hD, rfl, S1, S6, hxx, hyy⟩ kp1
                  rw [B.hq, B.hr] at N1
                  clear kp1 n8 N8 hoff
                  dsimp only [List.cons_append, List.nil_append] at N1
                  k_steps
                  unfold Hold
                  refine mul_int ?_ (mul_ok B.m1 B.m5)
                  k_steps
                  unfold Hold
                  refine mul_int ?_ (mul_ok B.m9 B.m10)
                  k_steps
                  unfold Hold
                  refine mul_int ?_ (mul_ok B.m5 B.m6)
                  k_steps
                  unfold Hold
                  (refine ne_dataH (by ke_read) (by ke_read) (by ke_shaped) (by ke_shaped) (by ke_room) ?_); ke_norm
                  k_steps
                  unfold Hold
                  (with_reducible rename News _ _ _ _ => N8)
                  refine tup_item (x := Value.int (e1 * e2 * dv) t71) (tup2_mem N8 D7 _ _ _ _ _ (by k_mem)) (by decide) (by show (0 : Int) < 2; decide) (by decide) rfl ?_
                  k_steps
                  unfold Hold
                  (with_reducible rename News _ _ _ _ => N8)
                  refine tup_item (x := Value.int (e2 * e3) t72) (tup2_mem N8 D7 _ _ _ _ _ (by k_mem)) (by decide) (by show (1 : Int) < 2; decide) (by decide) rfl ?_
                  k_steps
                  unfold Hold
                  (with_reducible rename News _ _ _ _ => N8)
                  refine tup_item (x := Value.int (e2 * e3) t72) (tup2_mem N8 D7 _ _ _ _ _ (by k_mem)) (by decide) (by show (1 : Int) < 2; decide) (by decide) rfl ?_
                  k_steps
                  unfold Hold
                  ((with_unfolding_all refine' useH (c_eof w (e2 * e3) t72) ?x1 ?x2 ?x3 ?x4 ?x5 ?x6 ?x7 ?x8 ?x9 ?_); (case x1 => k_asm); (case x2 => k_asm); (case x3 => k_asm); (case x4 => k_asm); (case x5 => k_asm); (case x6 => first | rfl | assumption); (case x7 => ktr_room); (case x8 => ktr_units))
                  case x9 => trivial
                  rintro r h1 tk1 F1 N1 kp1 rfl
                  rw [eof_same he2]
                  clear kp1
                  k_steps
                  · rename ((_ != _) = true) => hbad
                    rw [bne_self_eq_false] at hbad
                    cases hbad
                  · (with_reducible rename News _ _ _ _ => N8)
                    (with_reducible rename Fr _ _ _ _ => F8)
                    exact hnext3 ((x', ox', t'), (y', oy', u')) _ _ _ _ F8 N8 (fun p hp => .tail _ (.tail _ ((List.mem_append.mp hp).elim (fun hp => sub4 (c := ((x', ox', t'), (y', oy', u'))) hp) (fun hp => .tail _ (.tail _ (.tail _ (.tail _ (List.mem_append_left _ hp)))))))) (fun p hp => .tail _ (.tail _ (.tail _ (.tail _ (.tail _ (.tail _ (List.mem_append_right _ hp))))))) (fr_turn (by decide) (by decide)) ⟨S1, S6⟩
end
end Mine
theorem PySem.Challenge.cw_re0179_01_holds : PySem.Challenge.rw_re0179_01.Holds :=
  Mine.law_holds
