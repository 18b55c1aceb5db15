/-
  What is proved here: plain laws of the words that the engine names: a product modulo the prime, in Montgomery form. No program in sight.
  Conditions: those of each theorem.
-/
import Derived.Test.YtgdjmgcolipcnaaArM
namespace Go.Proofs.Ytgdjmgcolipcnaa
open Go Go.RowKit
set_option linter.unusedSimpArgs false
set_option linter.unusedVariables false
theorem mul_r0 (q8 q10 q12 q14 x8 x9 x10 x11 x12 x13 x14 x15 x16 x17 x18 x19 x20 x21 x22 x23 x24 x25 x26 x27 x28 x29 x30 x31 x32 x33 x34 x35 x36 x37 x38 x39 x40 x41 : Int) (b32 : 0 ≤ x32 ∧ x32 < 18446744073709551616) (h0 : 18446744073709551616 * x8 + x9 = q8) (h1 : 18446744073709551616 * x10 + x11 = q10) (h2 : 18446744073709551616 * x12 + x13 = q12) (h3 : 18446744073709551616 * x14 + x15 = q14) (h4 : x16 + 18446744073709551616 * x17 = x14 + x13 + 0) (h5 : x18 + 18446744073709551616 * x19 = x12 + x11 + x17) (h6 : x20 + 18446744073709551616 * x21 = x10 + x9 + x19) (h7 : x22 = x21 + x8) (h8 : 18446744073709551616 * x23 + x24 = x15 * 18446744069414584321) (h9 : 18446744073709551616 * x25 + x26 = x15 * 4294967295) (h10 : 18446744073709551616 * x27 + x28 = x15 * 18446744073709551615) (h11 : x29 + 18446744073709551616 * x30 = x27 + x26 + 0) (h12 : x31 = x30 + x25) (h13 : x32 + 18446744073709551616 * x33 = x15 + x28 + 0) (h14 : x34 + 18446744073709551616 * x35 = x16 + x29 + x33) (h15 : x36 + 18446744073709551616 * x37 = x18 + x31 + x35) (h16 : x38 + 18446744073709551616 * x39 = x20 + x24 + x37) (h17 : x40 + 18446744073709551616 * x41 = x22 + x23 + x39) :
    (x34 + 18446744073709551616 * x36 + 340282366920938463463374607431768211456 * x38 + 6277101735386680763835789423207666416102355444464034512896 * x40 + 115792089237316195423570985008687907853269984665640564039457584007913129639936 * x41) * 18446744073709551616 = (q14 + 18446744073709551616 * q12 + 340282366920938463463374607431768211456 * q10 + 6277101735386680763835789423207666416102355444464034512896 * q8) + x15 * 115792089210356248762697446949407573530086143415290314195533631308867097853951 := by omega
theorem mul_r1 (q42 q44 q46 q48 x34 x36 x38 x40 x41 x42 x43 x44 x45 x46 x47 x48 x49 x50 x51 x52 x53 x54 x55 x56 x57 x58 x59 x60 x61 x62 x63 x64 x65 x66 x67 x68 x69 x70 x71 x72 x73 x74 x75 x76 x77 x78 x79 x80 x81 x82 x83 x84 x85 x86 : Int) (b76 : 0 ≤ x76 ∧ x76 < 18446744073709551616) (h0 : 18446744073709551616 * x42 + x43 = q42) (h1 : 18446744073709551616 * x44 + x45 = q44) (h2 : 18446744073709551616 * x46 + x47 = q46) (h3 : 18446744073709551616 * x48 + x49 = q48) (h4 : x50 + 18446744073709551616 * x51 = x48 + x47 + 0) (h5 : x52 + 18446744073709551616 * x53 = x46 + x45 + x51) (h6 : x54 + 18446744073709551616 * x55 = x44 + x43 + x53) (h7 : x56 = x55 + x42) (h8 : x57 + 18446744073709551616 * x58 = x34 + x49 + 0) (h9 : x59 + 18446744073709551616 * x60 = x36 + x50 + x58) (h10 : x61 + 18446744073709551616 * x62 = x38 + x52 + x60) (h11 : x63 + 18446744073709551616 * x64 = x40 + x54 + x62) (h12 : x65 + 18446744073709551616 * x66 = x41 + x56 + x64) (h13 : 18446744073709551616 * x67 + x68 = x57 * 18446744069414584321) (h14 : 18446744073709551616 * x69 + x70 = x57 * 4294967295) (h15 : 18446744073709551616 * x71 + x72 = x57 * 18446744073709551615) (h16 : x73 + 18446744073709551616 * x74 = x71 + x70 + 0) (h17 : x75 = x74 + x69) (h18 : x76 + 18446744073709551616 * x77 = x57 + x72 + 0) (h19 : x78 + 18446744073709551616 * x79 = x59 + x73 + x77) (h20 : x80 + 18446744073709551616 * x81 = x61 + x75 + x79) (h21 : x82 + 18446744073709551616 * x83 = x63 + x68 + x81) (h22 : x84 + 18446744073709551616 * x85 = x65 + x67 + x83) (h23 : x86 = x85 + x66) :
    (x78 + 18446744073709551616 * x80 + 340282366920938463463374607431768211456 * x82 + 6277101735386680763835789423207666416102355444464034512896 * x84 + 115792089237316195423570985008687907853269984665640564039457584007913129639936 * x86) * 18446744073709551616 = (x34 + 18446744073709551616 * x36 + 340282366920938463463374607431768211456 * x38 + 6277101735386680763835789423207666416102355444464034512896 * x40 + 115792089237316195423570985008687907853269984665640564039457584007913129639936 * x41) + (q48 + 18446744073709551616 * q46 + 340282366920938463463374607431768211456 * q44 + 6277101735386680763835789423207666416102355444464034512896 * q42) + x57 * 115792089210356248762697446949407573530086143415290314195533631308867097853951 := by omega
theorem mul_r2 (q87 q89 q91 q93 x78 x80 x82 x84 x86 x87 x88 x89 x90 x91 x92 x93 x94 x95 x96 x97 x98 x99 x100 x101 x102 x103 x104 x105 x106 x107 x108 x109 x110 x111 x112 x113 x114 x115 x116 x117 x118 x119 x120 x121 x122 x123 x124 x125 x126 x127 x128 x129 x130 x131 : Int) (b121 : 0 ≤ x121 ∧ x121 < 18446744073709551616) (h0 : 18446744073709551616 * x87 + x88 = q87) (h1 : 18446744073709551616 * x89 + x90 = q89) (h2 : 18446744073709551616 * x91 + x92 = q91) (h3 : 18446744073709551616 * x93 + x94 = q93) (h4 : x95 + 18446744073709551616 * x96 = x93 + x92 + 0) (h5 : x97 + 18446744073709551616 * x98 = x91 + x90 + x96) (h6 : x99 + 18446744073709551616 * x100 = x89 + x88 + x98) (h7 : x101 = x100 + x87) (h8 : x102 + 18446744073709551616 * x103 = x78 + x94 + 0) (h9 : x104 + 18446744073709551616 * x105 = x80 + x95 + x103) (h10 : x106 + 18446744073709551616 * x107 = x82 + x97 + x105) (h11 : x108 + 18446744073709551616 * x109 = x84 + x99 + x107) (h12 : x110 + 18446744073709551616 * x111 = x86 + x101 + x109) (h13 : 18446744073709551616 * x112 + x113 = x102 * 18446744069414584321) (h14 : 18446744073709551616 * x114 + x115 = x102 * 4294967295) (h15 : 18446744073709551616 * x116 + x117 = x102 * 18446744073709551615) (h16 : x118 + 18446744073709551616 * x119 = x116 + x115 + 0) (h17 : x120 = x119 + x114) (h18 : x121 + 18446744073709551616 * x122 = x102 + x117 + 0) (h19 : x123 + 18446744073709551616 * x124 = x104 + x118 + x122) (h20 : x125 + 18446744073709551616 * x126 = x106 + x120 + x124) (h21 : x127 + 18446744073709551616 * x128 = x108 + x113 + x126) (h22 : x129 + 18446744073709551616 * x130 = x110 + x112 + x128) (h23 : x131 = x130 + x111) :
    (x123 + 18446744073709551616 * x125 + 340282366920938463463374607431768211456 * x127 + 6277101735386680763835789423207666416102355444464034512896 * x129 + 115792089237316195423570985008687907853269984665640564039457584007913129639936 * x131) * 18446744073709551616 = (x78 + 18446744073709551616 * x80 + 340282366920938463463374607431768211456 * x82 + 6277101735386680763835789423207666416102355444464034512896 * x84 + 115792089237316195423570985008687907853269984665640564039457584007913129639936 * x86) + (q93 + 18446744073709551616 * q91 + 340282366920938463463374607431768211456 * q89 + 6277101735386680763835789423207666416102355444464034512896 * q87) + x102 * 115792089210356248762697446949407573530086143415290314195533631308867097853951 := by omega
theorem mul_r3 (q132 q134 q136 q138 x123 x125 x127 x129 x131 x132 x133 x134 x135 x136 x137 x138 x139 x140 x141 x142 x143 x144 x145 x146 x147 x148 x149 x150 x151 x152 x153 x154 x155 x156 x157 x158 x159 x160 x161 x162 x163 x164 x165 x166 x167 x168 x169 x170 x171 x172 x173 x174 x175 x176 : Int) (b166 : 0 ≤ x166 ∧ x166 < 18446744073709551616) (h0 : 18446744073709551616 * x132 + x133 = q132) (h1 : 18446744073709551616 * x134 + x135 = q134) (h2 : 18446744073709551616 * x136 + x137 = q136) (h3 : 18446744073709551616 * x138 + x139 = q138) (h4 : x140 + 18446744073709551616 * x141 = x138 + x137 + 0) (h5 : x142 + 18446744073709551616 * x143 = x136 + x135 + x141) (h6 : x144 + 18446744073709551616 * x145 = x134 + x133 + x143) (h7 : x146 = x145 + x132) (h8 : x147 + 18446744073709551616 * x148 = x123 + x139 + 0) (h9 : x149 + 18446744073709551616 * x150 = x125 + x140 + x148) (h10 : x151 + 18446744073709551616 * x152 = x127 + x142 + x150) (h11 : x153 + 18446744073709551616 * x154 = x129 + x144 + x152) (h12 : x155 + 18446744073709551616 * x156 = x131 + x146 + x154) (h13 : 18446744073709551616 * x157 + x158 = x147 * 18446744069414584321) (h14 : 18446744073709551616 * x159 + x160 = x147 * 4294967295) (h15 : 18446744073709551616 * x161 + x162 = x147 * 18446744073709551615) (h16 : x163 + 18446744073709551616 * x164 = x161 + x160 + 0) (h17 : x165 = x164 + x159) (h18 : x166 + 18446744073709551616 * x167 = x147 + x162 + 0) (h19 : x168 + 18446744073709551616 * x169 = x149 + x163 + x167) (h20 : x170 + 18446744073709551616 * x171 = x151 + x165 + x169) (h21 : x172 + 18446744073709551616 * x173 = x153 + x158 + x171) (h22 : x174 + 18446744073709551616 * x175 = x155 + x157 + x173) (h23 : x176 = x175 + x156) :
    (x168 + 18446744073709551616 * x170 + 340282366920938463463374607431768211456 * x172 + 6277101735386680763835789423207666416102355444464034512896 * x174 + 115792089237316195423570985008687907853269984665640564039457584007913129639936 * x176) * 18446744073709551616 = (x123 + 18446744073709551616 * x125 + 340282366920938463463374607431768211456 * x127 + 6277101735386680763835789423207666416102355444464034512896 * x129 + 115792089237316195423570985008687907853269984665640564039457584007913129639936 * x131) + (q138 + 18446744073709551616 * q136 + 340282366920938463463374607431768211456 * q134 + 6277101735386680763835789423207666416102355444464034512896 * q132) + x147 * 115792089210356248762697446949407573530086143415290314195533631308867097853951 := by omega
theorem mul_s (x168 x170 x172 x174 x176 x177 x178 x179 x180 x181 x182 x183 x184 x185 x186 : Int)  (h0 : x177 - 18446744073709551616 * x178 = x168 - 18446744073709551615 - 0) (h1 : x179 - 18446744073709551616 * x180 = x170 - 4294967295 - x178) (h2 : x181 - 18446744073709551616 * x182 = x172 - 0 - x180) (h3 : x183 - 18446744073709551616 * x184 = x174 - 18446744069414584321 - x182) (h4 : x185 - 18446744073709551616 * x186 = x176 - 0 - x184) :
    (x177 + 18446744073709551616 * x179 + 340282366920938463463374607431768211456 * x181 + 6277101735386680763835789423207666416102355444464034512896 * x183) = (x168 + 18446744073709551616 * x170 + 340282366920938463463374607431768211456 * x172 + 6277101735386680763835789423207666416102355444464034512896 * x174) - 115792089210356248762697446949407573530086143415290314195533631308867097853951 + 115792089237316195423570985008687907853269984665640564039457584007913129639936 * x184 ∧ x185 - 18446744073709551616 * x186 = x176 - x184 := by omega

noncomputable def defs_mul : List Ex := [.cmov (.v 186) (.v 183) (.v 174), .cmov (.v 186) (.v 181) (.v 172), .cmov (.v 186) (.v 179) (.v 170), .cmov (.v 186) (.v 177) (.v 168), .subHi (.v 176) (.c 0) (.v 184), .subLo (.v 176) (.c 0) (.v 184), .subHi (.v 174) (.c 18446744069414584321) (.v 182), .subLo (.v 174) (.c 18446744069414584321) (.v 182), .subHi (.v 172) (.c 0) (.v 180), .subLo (.v 172) (.c 0) (.v 180), .subHi (.v 170) (.c 4294967295) (.v 178), .subLo (.v 170) (.c 4294967295) (.v 178), .subHi (.v 168) (.c 18446744073709551615) (.c 0), .subLo (.v 168) (.c 18446744073709551615) (.c 0), .bin .add .u64 (.v 175) (.v 156), .addHi (.v 155) (.v 157) (.v 173), .addLo (.v 155) (.v 157) (.v 173), .addHi (.v 153) (.v 158) (.v 171), .addLo (.v 153) (.v 158) (.v 171), .addHi (.v 151) (.v 165) (.v 169), .addLo (.v 151) (.v 165) (.v 169), .addHi (.v 149) (.v 163) (.v 167), .addLo (.v 149) (.v 163) (.v 167), .addHi (.v 147) (.v 162) (.c 0), .addLo (.v 147) (.v 162) (.c 0), .bin .add .u64 (.v 164) (.v 159), .addHi (.v 161) (.v 160) (.c 0), .addLo (.v 161) (.v 160) (.c 0), .mulLo (.v 147) (.c 18446744073709551615), .mulHi (.v 147) (.c 18446744073709551615), .mulLo (.v 147) (.c 4294967295), .mulHi (.v 147) (.c 4294967295), .mulLo (.v 147) (.c 18446744069414584321), .mulHi (.v 147) (.c 18446744069414584321), .addHi (.v 131) (.v 146) (.v 154), .addLo (.v 131) (.v 146) (.v 154), .addHi (.v 129) (.v 144) (.v 152), .addLo (.v 129) (.v 144) (.v 152), .addHi (.v 127) (.v 142) (.v 150), .addLo (.v 127) (.v 142) (.v 150), .addHi (.v 125) (.v 140) (.v 148), .addLo (.v 125) (.v 140) (.v 148), .addHi (.v 123) (.v 139) (.c 0), .addLo (.v 123) (.v 139) (.c 0), .bin .add .u64 (.v 145) (.v 132), .addHi (.v 134) (.v 133) (.v 143), .addLo (.v 134) (.v 133) (.v 143), .addHi (.v 136) (.v 135) (.v 141), .addLo (.v 136) (.v 135) (.v 141), .addHi (.v 138) (.v 137) (.c 0), .addLo (.v 138) (.v 137) (.c 0), .mulLo (.v 3) (.v 4), .mulHi (.v 3) (.v 4), .mulLo (.v 3) (.v 5), .mulHi (.v 3) (.v 5), .mulLo (.v 3) (.v 6), .mulHi (.v 3) (.v 6), .mulLo (.v 3) (.v 7), .mulHi (.v 3) (.v 7), .bin .add .u64 (.v 130) (.v 111), .addHi (.v 110) (.v 112) (.v 128), .addLo (.v 110) (.v 112) (.v 128), .addHi (.v 108) (.v 113) (.v 126), .addLo (.v 108) (.v 113) (.v 126), .addHi (.v 106) (.v 120) (.v 124), .addLo (.v 106) (.v 120) (.v 124), .addHi (.v 104) (.v 118) (.v 122), .addLo (.v 104) (.v 118) (.v 122), .addHi (.v 102) (.v 117) (.c 0), .addLo (.v 102) (.v 117) (.c 0), .bin .add .u64 (.v 119) (.v 114), .addHi (.v 116) (.v 115) (.c 0), .addLo (.v 116) (.v 115) (.c 0), .mulLo (.v 102) (.c 18446744073709551615), .mulHi (.v 102) (.c 18446744073709551615), .mulLo (.v 102) (.c 4294967295), .mulHi (.v 102) (.c 4294967295), .mulLo (.v 102) (.c 18446744069414584321), .mulHi (.v 102) (.c 18446744069414584321), .addHi (.v 86) (.v 101) (.v 109), .addLo (.v 86) (.v 101) (.v 109), .addHi (.v 84) (.v 99) (.v 107), .addLo (.v 84) (.v 99) (.v 107), .addHi (.v 82) (.v 97) (.v 105), .addLo (.v 82) (.v 97) (.v 105), .addHi (.v 80) (.v 95) (.v 103), .addLo (.v 80) (.v 95) (.v 103), .addHi (.v 78) (.v 94) (.c 0), .addLo (.v 78) (.v 94) (.c 0), .bin .add .u64 (.v 100) (.v 87), .addHi (.v 89) (.v 88) (.v 98), .addLo (.v 89) (.v 88) (.v 98), .addHi (.v 91) (.v 90) (.v 96), .addLo (.v 91) (.v 90) (.v 96), .addHi (.v 93) (.v 92) (.c 0), .addLo (.v 93) (.v 92) (.c 0), .mulLo (.v 2) (.v 4), .mulHi (.v 2) (.v 4), .mulLo (.v 2) (.v 5), .mulHi (.v 2) (.v 5), .mulLo (.v 2) (.v 6), .mulHi (.v 2) (.v 6), .mulLo (.v 2) (.v 7), .mulHi (.v 2) (.v 7), .bin .add .u64 (.v 85) (.v 66), .addHi (.v 65) (.v 67) (.v 83), .addLo (.v 65) (.v 67) (.v 83), .addHi (.v 63) (.v 68) (.v 81), .addLo (.v 63) (.v 68) (.v 81), .addHi (.v 61) (.v 75) (.v 79), .addLo (.v 61) (.v 75) (.v 79), .addHi (.v 59) (.v 73) (.v 77), .addLo (.v 59) (.v 73) (.v 77), .addHi (.v 57) (.v 72) (.c 0), .addLo (.v 57) (.v 72) (.c 0), .bin .add .u64 (.v 74) (.v 69), .addHi (.v 71) (.v 70) (.c 0), .addLo (.v 71) (.v 70) (.c 0), .mulLo (.v 57) (.c 18446744073709551615), .mulHi (.v 57) (.c 18446744073709551615), .mulLo (.v 57) (.c 4294967295), .mulHi (.v 57) (.c 4294967295), .mulLo (.v 57) (.c 18446744069414584321), .mulHi (.v 57) (.c 18446744069414584321), .addHi (.v 41) (.v 56) (.v 64), .addLo (.v 41) (.v 56) (.v 64), .addHi (.v 40) (.v 54) (.v 62), .addLo (.v 40) (.v 54) (.v 62), .addHi (.v 38) (.v 52) (.v 60), .addLo (.v 38) (.v 52) (.v 60), .addHi (.v 36) (.v 50) (.v 58), .addLo (.v 36) (.v 50) (.v 58), .addHi (.v 34) (.v 49) (.c 0), .addLo (.v 34) (.v 49) (.c 0), .bin .add .u64 (.v 55) (.v 42), .addHi (.v 44) (.v 43) (.v 53), .addLo (.v 44) (.v 43) (.v 53), .addHi (.v 46) (.v 45) (.v 51), .addLo (.v 46) (.v 45) (.v 51), .addHi (.v 48) (.v 47) (.c 0), .addLo (.v 48) (.v 47) (.c 0), .mulLo (.v 1) (.v 4), .mulHi (.v 1) (.v 4), .mulLo (.v 1) (.v 5), .mulHi (.v 1) (.v 5), .mulLo (.v 1) (.v 6), .mulHi (.v 1) (.v 6), .mulLo (.v 1) (.v 7), .mulHi (.v 1) (.v 7), .addHi (.v 22) (.v 23) (.v 39), .addLo (.v 22) (.v 23) (.v 39), .addHi (.v 20) (.v 24) (.v 37), .addLo (.v 20) (.v 24) (.v 37), .addHi (.v 18) (.v 31) (.v 35), .addLo (.v 18) (.v 31) (.v 35), .addHi (.v 16) (.v 29) (.v 33), .addLo (.v 16) (.v 29) (.v 33), .addHi (.v 15) (.v 28) (.c 0), .addLo (.v 15) (.v 28) (.c 0), .bin .add .u64 (.v 30) (.v 25), .addHi (.v 27) (.v 26) (.c 0), .addLo (.v 27) (.v 26) (.c 0), .mulLo (.v 15) (.c 18446744073709551615), .mulHi (.v 15) (.c 18446744073709551615), .mulLo (.v 15) (.c 4294967295), .mulHi (.v 15) (.c 4294967295), .mulLo (.v 15) (.c 18446744069414584321), .mulHi (.v 15) (.c 18446744069414584321), .bin .add .u64 (.v 21) (.v 8), .addHi (.v 10) (.v 9) (.v 19), .addLo (.v 10) (.v 9) (.v 19), .addHi (.v 12) (.v 11) (.v 17), .addLo (.v 12) (.v 11) (.v 17), .addHi (.v 14) (.v 13) (.c 0), .addLo (.v 14) (.v 13) (.c 0), .mulLo (.v 0) (.v 4), .mulHi (.v 0) (.v 4), .mulLo (.v 0) (.v 5), .mulHi (.v 0) (.v 5), .mulLo (.v 0) (.v 6), .mulHi (.v 0) (.v 6), .mulLo (.v 0) (.v 7), .mulHi (.v 0) (.v 7)]

set_option maxRecDepth 100000 in
set_option maxHeartbeats 4000000 in
theorem arith_mul (ρ : Nat → Int) (hb : ∀ i, i < 191 → 0 ≤ ρ i ∧ ρ i < 18446744073709551616) (hd : ∀ i x, i < 191 → defs_mul[191 - 1 - i]? = some x → ρ i = ev ρ x) (hV : 0 ≤ (ρ 0 + 18446744073709551616 * ρ 1 + 340282366920938463463374607431768211456 * ρ 2 + 6277101735386680763835789423207666416102355444464034512896 * ρ 3) * (ρ 4 + 18446744073709551616 * ρ 5 + 340282366920938463463374607431768211456 * ρ 6 + 6277101735386680763835789423207666416102355444464034512896 * ρ 7) ∧ (ρ 0 + 18446744073709551616 * ρ 1 + 340282366920938463463374607431768211456 * ρ 2 + 6277101735386680763835789423207666416102355444464034512896 * ρ 3) * (ρ 4 + 18446744073709551616 * ρ 5 + 340282366920938463463374607431768211456 * ρ 6 + 6277101735386680763835789423207666416102355444464034512896 * ρ 7) < 13407807926820848549984871491119855788235523322740973763876191939596368414310757992836696909921244801462672605190117106812798080191005388829112554944987136) :
    ∃ q : Int, (ρ 187 + 18446744073709551616 * ρ 188 + 340282366920938463463374607431768211456 * ρ 189 + 6277101735386680763835789423207666416102355444464034512896 * ρ 190) * 115792089237316195423570985008687907853269984665640564039457584007913129639936 = (ρ 0 + 18446744073709551616 * ρ 1 + 340282366920938463463374607431768211456 * ρ 2 + 6277101735386680763835789423207666416102355444464034512896 * ρ 3) * (ρ 4 + 18446744073709551616 * ρ 5 + 340282366920938463463374607431768211456 * ρ 6 + 6277101735386680763835789423207666416102355444464034512896 * ρ 7) + q * 115792089210356248762697446949407573530086143415290314195533631308867097853951 ∧ 0 ≤ (ρ 187 + 18446744073709551616 * ρ 188 + 340282366920938463463374607431768211456 * ρ 189 + 6277101735386680763835789423207666416102355444464034512896 * ρ 190) ∧ (ρ 187 + 18446744073709551616 * ρ 188 + 340282366920938463463374607431768211456 * ρ 189 + 6277101735386680763835789423207666416102355444464034512896 * ρ 190) < 115792089210356248762697446949407573530086143415290314195533631308867097853951 := by
  have d8 : ρ 8 = ρ 0 * ρ 7 / 18446744073709551616 := by have h := hd 8 _ (by decide) rfl; exact h
  have d9 : ρ 9 = ρ 0 * ρ 7 % 18446744073709551616 := by have h := hd 9 _ (by decide) rfl; exact h
  have p8 := mulp _ _ _ _ d8 d9
  have v8 := mulub2 _ _ _ _ (hb 0 (by decide)) (hb 7 (by decide)) (hb 9 (by decide)) p8
  have d10 : ρ 10 = ρ 0 * ρ 6 / 18446744073709551616 := by have h := hd 10 _ (by decide) rfl; exact h
  have d11 : ρ 11 = ρ 0 * ρ 6 % 18446744073709551616 := by have h := hd 11 _ (by decide) rfl; exact h
  have p10 := mulp _ _ _ _ d10 d11
  have v10 := mulub2 _ _ _ _ (hb 0 (by decide)) (hb 6 (by decide)) (hb 11 (by decide)) p10
  have d12 : ρ 12 = ρ 0 * ρ 5 / 18446744073709551616 := by have h := hd 12 _ (by decide) rfl; exact h
  have d13 : ρ 13 = ρ 0 * ρ 5 % 18446744073709551616 := by have h := hd 13 _ (by decide) rfl; exact h
  have p12 := mulp _ _ _ _ d12 d13
  have v12 := mulub2 _ _ _ _ (hb 0 (by decide)) (hb 5 (by decide)) (hb 13 (by decide)) p12
  have d14 : ρ 14 = ρ 0 * ρ 4 / 18446744073709551616 := by have h := hd 14 _ (by decide) rfl; exact h
  have d15 : ρ 15 = ρ 0 * ρ 4 % 18446744073709551616 := by have h := hd 15 _ (by decide) rfl; exact h
  have p14 := mulp _ _ _ _ d14 d15
  have v14 := mulub2 _ _ _ _ (hb 0 (by decide)) (hb 4 (by decide)) (hb 15 (by decide)) p14
  have d16 : ρ 16 = (ρ 14 + ρ 13 + 0) % 18446744073709551616 := by have h := hd 16 _ (by decide) rfl; exact h
  have d17 : ρ 17 = (ρ 14 + ρ 13 + 0) / 18446744073709551616 := by have h := hd 17 _ (by decide) rfl; exact h
  have p16 := addp _ _ _ _ _ d16 d17
  have v17 := addub _ _ _ _ _ (hb 14 (by decide)) (hb 13 (by decide)) (by decide) (hb 16 (by decide)) p16
  have d18 : ρ 18 = (ρ 12 + ρ 11 + ρ 17) % 18446744073709551616 := by have h := hd 18 _ (by decide) rfl; exact h
  have d19 : ρ 19 = (ρ 12 + ρ 11 + ρ 17) / 18446744073709551616 := by have h := hd 19 _ (by decide) rfl; exact h
  have p18 := addp _ _ _ _ _ d18 d19
  have v19 := addub _ _ _ _ _ (hb 12 (by decide)) (hb 11 (by decide)) v17 (hb 18 (by decide)) p18
  have d20 : ρ 20 = (ρ 10 + ρ 9 + ρ 19) % 18446744073709551616 := by have h := hd 20 _ (by decide) rfl; exact h
  have d21 : ρ 21 = (ρ 10 + ρ 9 + ρ 19) / 18446744073709551616 := by have h := hd 21 _ (by decide) rfl; exact h
  have p20 := addp _ _ _ _ _ d20 d21
  have v21 := addub _ _ _ _ _ (hb 10 (by decide)) (hb 9 (by decide)) v19 (hb 20 (by decide)) p20
  have d22 : ρ 22 = (ρ 21 + ρ 8) % 18446744073709551616 := by have h := hd 22 _ (by decide) rfl; exact h.trans (IntKind.wrap_u64 _)
  obtain ⟨g22, v22⟩ := baddp _ _ _ 1 18446744073709551614 (hb 21 (by decide)).1 (hb 8 (by decide)).1 v21 v8 (by decide) d22
  have d23 : ρ 23 = ρ 15 * 18446744069414584321 / 18446744073709551616 := by have h := hd 23 _ (by decide) rfl; exact h
  have d24 : ρ 24 = ρ 15 * 18446744069414584321 % 18446744073709551616 := by have h := hd 24 _ (by decide) rfl; exact h
  have p23 := mulp _ _ _ _ d23 d24
  have v23 := mulub _ 18446744069414584321 _ _ (hb 15 (by decide)) (hb 24 (by decide)) (by decide) p23
  have d25 : ρ 25 = ρ 15 * 4294967295 / 18446744073709551616 := by have h := hd 25 _ (by decide) rfl; exact h
  have d26 : ρ 26 = ρ 15 * 4294967295 % 18446744073709551616 := by have h := hd 26 _ (by decide) rfl; exact h
  have p25 := mulp _ _ _ _ d25 d26
  have v25 := mulub _ 4294967295 _ _ (hb 15 (by decide)) (hb 26 (by decide)) (by decide) p25
  have d27 : ρ 27 = ρ 15 * 18446744073709551615 / 18446744073709551616 := by have h := hd 27 _ (by decide) rfl; exact h
  have d28 : ρ 28 = ρ 15 * 18446744073709551615 % 18446744073709551616 := by have h := hd 28 _ (by decide) rfl; exact h
  have p27 := mulp _ _ _ _ d27 d28
  have v27 := mulub _ 18446744073709551615 _ _ (hb 15 (by decide)) (hb 28 (by decide)) (by decide) p27
  have d29 : ρ 29 = (ρ 27 + ρ 26 + 0) % 18446744073709551616 := by have h := hd 29 _ (by decide) rfl; exact h
  have d30 : ρ 30 = (ρ 27 + ρ 26 + 0) / 18446744073709551616 := by have h := hd 30 _ (by decide) rfl; exact h
  have p29 := addp _ _ _ _ _ d29 d30
  have v30 := addub _ _ _ _ _ (hb 27 (by decide)) (hb 26 (by decide)) (by decide) (hb 29 (by decide)) p29
  have d31 : ρ 31 = (ρ 30 + ρ 25) % 18446744073709551616 := by have h := hd 31 _ (by decide) rfl; exact h.trans (IntKind.wrap_u64 _)
  obtain ⟨g31, v31⟩ := baddp _ _ _ 1 4294967294 (hb 30 (by decide)).1 (hb 25 (by decide)).1 v30 v25 (by decide) d31
  have d32 : ρ 32 = (ρ 15 + ρ 28 + 0) % 18446744073709551616 := by have h := hd 32 _ (by decide) rfl; exact h
  have d33 : ρ 33 = (ρ 15 + ρ 28 + 0) / 18446744073709551616 := by have h := hd 33 _ (by decide) rfl; exact h
  have p32 := addp _ _ _ _ _ d32 d33
  have v33 := addub _ _ _ _ _ (hb 15 (by decide)) (hb 28 (by decide)) (by decide) (hb 32 (by decide)) p32
  have d34 : ρ 34 = (ρ 16 + ρ 29 + ρ 33) % 18446744073709551616 := by have h := hd 34 _ (by decide) rfl; exact h
  have d35 : ρ 35 = (ρ 16 + ρ 29 + ρ 33) / 18446744073709551616 := by have h := hd 35 _ (by decide) rfl; exact h
  have p34 := addp _ _ _ _ _ d34 d35
  have v35 := addub _ _ _ _ _ (hb 16 (by decide)) (hb 29 (by decide)) v33 (hb 34 (by decide)) p34
  have d36 : ρ 36 = (ρ 18 + ρ 31 + ρ 35) % 18446744073709551616 := by have h := hd 36 _ (by decide) rfl; exact h
  have d37 : ρ 37 = (ρ 18 + ρ 31 + ρ 35) / 18446744073709551616 := by have h := hd 37 _ (by decide) rfl; exact h
  have p36 := addp _ _ _ _ _ d36 d37
  have v37 := addub _ _ _ _ _ (hb 18 (by decide)) (hb 31 (by decide)) v35 (hb 36 (by decide)) p36
  have d38 : ρ 38 = (ρ 20 + ρ 24 + ρ 37) % 18446744073709551616 := by have h := hd 38 _ (by decide) rfl; exact h
  have d39 : ρ 39 = (ρ 20 + ρ 24 + ρ 37) / 18446744073709551616 := by have h := hd 39 _ (by decide) rfl; exact h
  have p38 := addp _ _ _ _ _ d38 d39
  have v39 := addub _ _ _ _ _ (hb 20 (by decide)) (hb 24 (by decide)) v37 (hb 38 (by decide)) p38
  have d40 : ρ 40 = (ρ 22 + ρ 23 + ρ 39) % 18446744073709551616 := by have h := hd 40 _ (by decide) rfl; exact h
  have d41 : ρ 41 = (ρ 22 + ρ 23 + ρ 39) / 18446744073709551616 := by have h := hd 41 _ (by decide) rfl; exact h
  have p40 := addp _ _ _ _ _ d40 d41
  have v41 := addub _ _ _ _ _ (hb 22 (by decide)) (hb 23 (by decide)) v39 (hb 40 (by decide)) p40
  have d42 : ρ 42 = ρ 1 * ρ 7 / 18446744073709551616 := by have h := hd 42 _ (by decide) rfl; exact h
  have d43 : ρ 43 = ρ 1 * ρ 7 % 18446744073709551616 := by have h := hd 43 _ (by decide) rfl; exact h
  have p42 := mulp _ _ _ _ d42 d43
  have v42 := mulub2 _ _ _ _ (hb 1 (by decide)) (hb 7 (by decide)) (hb 43 (by decide)) p42
  have d44 : ρ 44 = ρ 1 * ρ 6 / 18446744073709551616 := by have h := hd 44 _ (by decide) rfl; exact h
  have d45 : ρ 45 = ρ 1 * ρ 6 % 18446744073709551616 := by have h := hd 45 _ (by decide) rfl; exact h
  have p44 := mulp _ _ _ _ d44 d45
  have v44 := mulub2 _ _ _ _ (hb 1 (by decide)) (hb 6 (by decide)) (hb 45 (by decide)) p44
  have d46 : ρ 46 = ρ 1 * ρ 5 / 18446744073709551616 := by have h := hd 46 _ (by decide) rfl; exact h
  have d47 : ρ 47 = ρ 1 * ρ 5 % 18446744073709551616 := by have h := hd 47 _ (by decide) rfl; exact h
  have p46 := mulp _ _ _ _ d46 d47
  have v46 := mulub2 _ _ _ _ (hb 1 (by decide)) (hb 5 (by decide)) (hb 47 (by decide)) p46
  have d48 : ρ 48 = ρ 1 * ρ 4 / 18446744073709551616 := by have h := hd 48 _ (by decide) rfl; exact h
  have d49 : ρ 49 = ρ 1 * ρ 4 % 18446744073709551616 := by have h := hd 49 _ (by decide) rfl; exact h
  have p48 := mulp _ _ _ _ d48 d49
  have v48 := mulub2 _ _ _ _ (hb 1 (by decide)) (hb 4 (by decide)) (hb 49 (by decide)) p48
  have d50 : ρ 50 = (ρ 48 + ρ 47 + 0) % 18446744073709551616 := by have h := hd 50 _ (by decide) rfl; exact h
  have d51 : ρ 51 = (ρ 48 + ρ 47 + 0) / 18446744073709551616 := by have h := hd 51 _ (by decide) rfl; exact h
  have p50 := addp _ _ _ _ _ d50 d51
  have v51 := addub _ _ _ _ _ (hb 48 (by decide)) (hb 47 (by decide)) (by decide) (hb 50 (by decide)) p50
  have d52 : ρ 52 = (ρ 46 + ρ 45 + ρ 51) % 18446744073709551616 := by have h := hd 52 _ (by decide) rfl; exact h
  have d53 : ρ 53 = (ρ 46 + ρ 45 + ρ 51) / 18446744073709551616 := by have h := hd 53 _ (by decide) rfl; exact h
  have p52 := addp _ _ _ _ _ d52 d53
  have v53 := addub _ _ _ _ _ (hb 46 (by decide)) (hb 45 (by decide)) v51 (hb 52 (by decide)) p52
  have d54 : ρ 54 = (ρ 44 + ρ 43 + ρ 53) % 18446744073709551616 := by have h := hd 54 _ (by decide) rfl; exact h
  have d55 : ρ 55 = (ρ 44 + ρ 43 + ρ 53) / 18446744073709551616 := by have h := hd 55 _ (by decide) rfl; exact h
  have p54 := addp _ _ _ _ _ d54 d55
  have v55 := addub _ _ _ _ _ (hb 44 (by decide)) (hb 43 (by decide)) v53 (hb 54 (by decide)) p54
  have d56 : ρ 56 = (ρ 55 + ρ 42) % 18446744073709551616 := by have h := hd 56 _ (by decide) rfl; exact h.trans (IntKind.wrap_u64 _)
  obtain ⟨g56, v56⟩ := baddp _ _ _ 1 18446744073709551614 (hb 55 (by decide)).1 (hb 42 (by decide)).1 v55 v42 (by decide) d56
  have d57 : ρ 57 = (ρ 34 + ρ 49 + 0) % 18446744073709551616 := by have h := hd 57 _ (by decide) rfl; exact h
  have d58 : ρ 58 = (ρ 34 + ρ 49 + 0) / 18446744073709551616 := by have h := hd 58 _ (by decide) rfl; exact h
  have p57 := addp _ _ _ _ _ d57 d58
  have v58 := addub _ _ _ _ _ (hb 34 (by decide)) (hb 49 (by decide)) (by decide) (hb 57 (by decide)) p57
  have d59 : ρ 59 = (ρ 36 + ρ 50 + ρ 58) % 18446744073709551616 := by have h := hd 59 _ (by decide) rfl; exact h
  have d60 : ρ 60 = (ρ 36 + ρ 50 + ρ 58) / 18446744073709551616 := by have h := hd 60 _ (by decide) rfl; exact h
  have p59 := addp _ _ _ _ _ d59 d60
  have v60 := addub _ _ _ _ _ (hb 36 (by decide)) (hb 50 (by decide)) v58 (hb 59 (by decide)) p59
  have d61 : ρ 61 = (ρ 38 + ρ 52 + ρ 60) % 18446744073709551616 := by have h := hd 61 _ (by decide) rfl; exact h
  have d62 : ρ 62 = (ρ 38 + ρ 52 + ρ 60) / 18446744073709551616 := by have h := hd 62 _ (by decide) rfl; exact h
  have p61 := addp _ _ _ _ _ d61 d62
  have v62 := addub _ _ _ _ _ (hb 38 (by decide)) (hb 52 (by decide)) v60 (hb 61 (by decide)) p61
  have d63 : ρ 63 = (ρ 40 + ρ 54 + ρ 62) % 18446744073709551616 := by have h := hd 63 _ (by decide) rfl; exact h
  have d64 : ρ 64 = (ρ 40 + ρ 54 + ρ 62) / 18446744073709551616 := by have h := hd 64 _ (by decide) rfl; exact h
  have p63 := addp _ _ _ _ _ d63 d64
  have v64 := addub _ _ _ _ _ (hb 40 (by decide)) (hb 54 (by decide)) v62 (hb 63 (by decide)) p63
  have d65 : ρ 65 = (ρ 41 + ρ 56 + ρ 64) % 18446744073709551616 := by have h := hd 65 _ (by decide) rfl; exact h
  have d66 : ρ 66 = (ρ 41 + ρ 56 + ρ 64) / 18446744073709551616 := by have h := hd 66 _ (by decide) rfl; exact h
  have p65 := addp _ _ _ _ _ d65 d66
  have v66 := addub _ _ _ _ _ (hb 41 (by decide)) (hb 56 (by decide)) v64 (hb 65 (by decide)) p65
  have d67 : ρ 67 = ρ 57 * 18446744069414584321 / 18446744073709551616 := by have h := hd 67 _ (by decide) rfl; exact h
  have d68 : ρ 68 = ρ 57 * 18446744069414584321 % 18446744073709551616 := by have h := hd 68 _ (by decide) rfl; exact h
  have p67 := mulp _ _ _ _ d67 d68
  have v67 := mulub _ 18446744069414584321 _ _ (hb 57 (by decide)) (hb 68 (by decide)) (by decide) p67
  have d69 : ρ 69 = ρ 57 * 4294967295 / 18446744073709551616 := by have h := hd 69 _ (by decide) rfl; exact h
  have d70 : ρ 70 = ρ 57 * 4294967295 % 18446744073709551616 := by have h := hd 70 _ (by decide) rfl; exact h
  have p69 := mulp _ _ _ _ d69 d70
  have v69 := mulub _ 4294967295 _ _ (hb 57 (by decide)) (hb 70 (by decide)) (by decide) p69
  have d71 : ρ 71 = ρ 57 * 18446744073709551615 / 18446744073709551616 := by have h := hd 71 _ (by decide) rfl; exact h
  have d72 : ρ 72 = ρ 57 * 18446744073709551615 % 18446744073709551616 := by have h := hd 72 _ (by decide) rfl; exact h
  have p71 := mulp _ _ _ _ d71 d72
  have v71 := mulub _ 18446744073709551615 _ _ (hb 57 (by decide)) (hb 72 (by decide)) (by decide) p71
  have d73 : ρ 73 = (ρ 71 + ρ 70 + 0) % 18446744073709551616 := by have h := hd 73 _ (by decide) rfl; exact h
  have d74 : ρ 74 = (ρ 71 + ρ 70 + 0) / 18446744073709551616 := by have h := hd 74 _ (by decide) rfl; exact h
  have p73 := addp _ _ _ _ _ d73 d74
  have v74 := addub _ _ _ _ _ (hb 71 (by decide)) (hb 70 (by decide)) (by decide) (hb 73 (by decide)) p73
  have d75 : ρ 75 = (ρ 74 + ρ 69) % 18446744073709551616 := by have h := hd 75 _ (by decide) rfl; exact h.trans (IntKind.wrap_u64 _)
  obtain ⟨g75, v75⟩ := baddp _ _ _ 1 4294967294 (hb 74 (by decide)).1 (hb 69 (by decide)).1 v74 v69 (by decide) d75
  have d76 : ρ 76 = (ρ 57 + ρ 72 + 0) % 18446744073709551616 := by have h := hd 76 _ (by decide) rfl; exact h
  have d77 : ρ 77 = (ρ 57 + ρ 72 + 0) / 18446744073709551616 := by have h := hd 77 _ (by decide) rfl; exact h
  have p76 := addp _ _ _ _ _ d76 d77
  have v77 := addub _ _ _ _ _ (hb 57 (by decide)) (hb 72 (by decide)) (by decide) (hb 76 (by decide)) p76
  have d78 : ρ 78 = (ρ 59 + ρ 73 + ρ 77) % 18446744073709551616 := by have h := hd 78 _ (by decide) rfl; exact h
  have d79 : ρ 79 = (ρ 59 + ρ 73 + ρ 77) / 18446744073709551616 := by have h := hd 79 _ (by decide) rfl; exact h
  have p78 := addp _ _ _ _ _ d78 d79
  have v79 := addub _ _ _ _ _ (hb 59 (by decide)) (hb 73 (by decide)) v77 (hb 78 (by decide)) p78
  have d80 : ρ 80 = (ρ 61 + ρ 75 + ρ 79) % 18446744073709551616 := by have h := hd 80 _ (by decide) rfl; exact h
  have d81 : ρ 81 = (ρ 61 + ρ 75 + ρ 79) / 18446744073709551616 := by have h := hd 81 _ (by decide) rfl; exact h
  have p80 := addp _ _ _ _ _ d80 d81
  have v81 := addub _ _ _ _ _ (hb 61 (by decide)) (hb 75 (by decide)) v79 (hb 80 (by decide)) p80
  have d82 : ρ 82 = (ρ 63 + ρ 68 + ρ 81) % 18446744073709551616 := by have h := hd 82 _ (by decide) rfl; exact h
  have d83 : ρ 83 = (ρ 63 + ρ 68 + ρ 81) / 18446744073709551616 := by have h := hd 83 _ (by decide) rfl; exact h
  have p82 := addp _ _ _ _ _ d82 d83
  have v83 := addub _ _ _ _ _ (hb 63 (by decide)) (hb 68 (by decide)) v81 (hb 82 (by decide)) p82
  have d84 : ρ 84 = (ρ 65 + ρ 67 + ρ 83) % 18446744073709551616 := by have h := hd 84 _ (by decide) rfl; exact h
  have d85 : ρ 85 = (ρ 65 + ρ 67 + ρ 83) / 18446744073709551616 := by have h := hd 85 _ (by decide) rfl; exact h
  have p84 := addp _ _ _ _ _ d84 d85
  have v85 := addub _ _ _ _ _ (hb 65 (by decide)) (hb 67 (by decide)) v83 (hb 84 (by decide)) p84
  have d86 : ρ 86 = (ρ 85 + ρ 66) % 18446744073709551616 := by have h := hd 86 _ (by decide) rfl; exact h.trans (IntKind.wrap_u64 _)
  obtain ⟨g86, v86⟩ := baddp _ _ _ 1 1 (hb 85 (by decide)).1 (hb 66 (by decide)).1 v85 v66 (by decide) d86
  have d87 : ρ 87 = ρ 2 * ρ 7 / 18446744073709551616 := by have h := hd 87 _ (by decide) rfl; exact h
  have d88 : ρ 88 = ρ 2 * ρ 7 % 18446744073709551616 := by have h := hd 88 _ (by decide) rfl; exact h
  have p87 := mulp _ _ _ _ d87 d88
  have v87 := mulub2 _ _ _ _ (hb 2 (by decide)) (hb 7 (by decide)) (hb 88 (by decide)) p87
  have d89 : ρ 89 = ρ 2 * ρ 6 / 18446744073709551616 := by have h := hd 89 _ (by decide) rfl; exact h
  have d90 : ρ 90 = ρ 2 * ρ 6 % 18446744073709551616 := by have h := hd 90 _ (by decide) rfl; exact h
  have p89 := mulp _ _ _ _ d89 d90
  have v89 := mulub2 _ _ _ _ (hb 2 (by decide)) (hb 6 (by decide)) (hb 90 (by decide)) p89
  have d91 : ρ 91 = ρ 2 * ρ 5 / 18446744073709551616 := by have h := hd 91 _ (by decide) rfl; exact h
  have d92 : ρ 92 = ρ 2 * ρ 5 % 18446744073709551616 := by have h := hd 92 _ (by decide) rfl; exact h
  have p91 := mulp _ _ _ _ d91 d92
  have v91 := mulub2 _ _ _ _ (hb 2 (by decide)) (hb 5 (by decide)) (hb 92 (by decide)) p91
  have d93 : ρ 93 = ρ 2 * ρ 4 / 18446744073709551616 := by have h := hd 93 _ (by decide) rfl; exact h
  have d94 : ρ 94 = ρ 2 * ρ 4 % 18446744073709551616 := by have h := hd 94 _ (by decide) rfl; exact h
  have p93 := mulp _ _ _ _ d93 d94
  have v93 := mulub2 _ _ _ _ (hb 2 (by decide)) (hb 4 (by decide)) (hb 94 (by decide)) p93
  have d95 : ρ 95 = (ρ 93 + ρ 92 + 0) % 18446744073709551616 := by have h := hd 95 _ (by decide) rfl; exact h
  have d96 : ρ 96 = (ρ 93 + ρ 92 + 0) / 18446744073709551616 := by have h := hd 96 _ (by decide) rfl; exact h
  have p95 := addp _ _ _ _ _ d95 d96
  have v96 := addub _ _ _ _ _ (hb 93 (by decide)) (hb 92 (by decide)) (by decide) (hb 95 (by decide)) p95
  have d97 : ρ 97 = (ρ 91 + ρ 90 + ρ 96) % 18446744073709551616 := by have h := hd 97 _ (by decide) rfl; exact h
  have d98 : ρ 98 = (ρ 91 + ρ 90 + ρ 96) / 18446744073709551616 := by have h := hd 98 _ (by decide) rfl; exact h
  have p97 := addp _ _ _ _ _ d97 d98
  have v98 := addub _ _ _ _ _ (hb 91 (by decide)) (hb 90 (by decide)) v96 (hb 97 (by decide)) p97
  have d99 : ρ 99 = (ρ 89 + ρ 88 + ρ 98) % 18446744073709551616 := by have h := hd 99 _ (by decide) rfl; exact h
  have d100 : ρ 100 = (ρ 89 + ρ 88 + ρ 98) / 18446744073709551616 := by have h := hd 100 _ (by decide) rfl; exact h
  have p99 := addp _ _ _ _ _ d99 d100
  have v100 := addub _ _ _ _ _ (hb 89 (by decide)) (hb 88 (by decide)) v98 (hb 99 (by decide)) p99
  have d101 : ρ 101 = (ρ 100 + ρ 87) % 18446744073709551616 := by have h := hd 101 _ (by decide) rfl; exact h.trans (IntKind.wrap_u64 _)
  obtain ⟨g101, v101⟩ := baddp _ _ _ 1 18446744073709551614 (hb 100 (by decide)).1 (hb 87 (by decide)).1 v100 v87 (by decide) d101
  have d102 : ρ 102 = (ρ 78 + ρ 94 + 0) % 18446744073709551616 := by have h := hd 102 _ (by decide) rfl; exact h
  have d103 : ρ 103 = (ρ 78 + ρ 94 + 0) / 18446744073709551616 := by have h := hd 103 _ (by decide) rfl; exact h
  have p102 := addp _ _ _ _ _ d102 d103
  have v103 := addub _ _ _ _ _ (hb 78 (by decide)) (hb 94 (by decide)) (by decide) (hb 102 (by decide)) p102
  have d104 : ρ 104 = (ρ 80 + ρ 95 + ρ 103) % 18446744073709551616 := by have h := hd 104 _ (by decide) rfl; exact h
  have d105 : ρ 105 = (ρ 80 + ρ 95 + ρ 103) / 18446744073709551616 := by have h := hd 105 _ (by decide) rfl; exact h
  have p104 := addp _ _ _ _ _ d104 d105
  have v105 := addub _ _ _ _ _ (hb 80 (by decide)) (hb 95 (by decide)) v103 (hb 104 (by decide)) p104
  have d106 : ρ 106 = (ρ 82 + ρ 97 + ρ 105) % 18446744073709551616 := by have h := hd 106 _ (by decide) rfl; exact h
  have d107 : ρ 107 = (ρ 82 + ρ 97 + ρ 105) / 18446744073709551616 := by have h := hd 107 _ (by decide) rfl; exact h
  have p106 := addp _ _ _ _ _ d106 d107
  have v107 := addub _ _ _ _ _ (hb 82 (by decide)) (hb 97 (by decide)) v105 (hb 106 (by decide)) p106
  have d108 : ρ 108 = (ρ 84 + ρ 99 + ρ 107) % 18446744073709551616 := by have h := hd 108 _ (by decide) rfl; exact h
  have d109 : ρ 109 = (ρ 84 + ρ 99 + ρ 107) / 18446744073709551616 := by have h := hd 109 _ (by decide) rfl; exact h
  have p108 := addp _ _ _ _ _ d108 d109
  have v109 := addub _ _ _ _ _ (hb 84 (by decide)) (hb 99 (by decide)) v107 (hb 108 (by decide)) p108
  have d110 : ρ 110 = (ρ 86 + ρ 101 + ρ 109) % 18446744073709551616 := by have h := hd 110 _ (by decide) rfl; exact h
  have d111 : ρ 111 = (ρ 86 + ρ 101 + ρ 109) / 18446744073709551616 := by have h := hd 111 _ (by decide) rfl; exact h
  have p110 := addp _ _ _ _ _ d110 d111
  have v111 := addub _ _ _ _ _ (hb 86 (by decide)) (hb 101 (by decide)) v109 (hb 110 (by decide)) p110
  have d112 : ρ 112 = ρ 102 * 18446744069414584321 / 18446744073709551616 := by have h := hd 112 _ (by decide) rfl; exact h
  have d113 : ρ 113 = ρ 102 * 18446744069414584321 % 18446744073709551616 := by have h := hd 113 _ (by decide) rfl; exact h
  have p112 := mulp _ _ _ _ d112 d113
  have v112 := mulub _ 18446744069414584321 _ _ (hb 102 (by decide)) (hb 113 (by decide)) (by decide) p112
  have d114 : ρ 114 = ρ 102 * 4294967295 / 18446744073709551616 := by have h := hd 114 _ (by decide) rfl; exact h
  have d115 : ρ 115 = ρ 102 * 4294967295 % 18446744073709551616 := by have h := hd 115 _ (by decide) rfl; exact h
  have p114 := mulp _ _ _ _ d114 d115
  have v114 := mulub _ 4294967295 _ _ (hb 102 (by decide)) (hb 115 (by decide)) (by decide) p114
  have d116 : ρ 116 = ρ 102 * 18446744073709551615 / 18446744073709551616 := by have h := hd 116 _ (by decide) rfl; exact h
  have d117 : ρ 117 = ρ 102 * 18446744073709551615 % 18446744073709551616 := by have h := hd 117 _ (by decide) rfl; exact h
  have p116 := mulp _ _ _ _ d116 d117
  have v116 := mulub _ 18446744073709551615 _ _ (hb 102 (by decide)) (hb 117 (by decide)) (by decide) p116
  have d118 : ρ 118 = (ρ 116 + ρ 115 + 0) % 18446744073709551616 := by have h := hd 118 _ (by decide) rfl; exact h
  have d119 : ρ 119 = (ρ 116 + ρ 115 + 0) / 18446744073709551616 := by have h := hd 119 _ (by decide) rfl; exact h
  have p118 := addp _ _ _ _ _ d118 d119
  have v119 := addub _ _ _ _ _ (hb 116 (by decide)) (hb 115 (by decide)) (by decide) (hb 118 (by decide)) p118
  have d120 : ρ 120 = (ρ 119 + ρ 114) % 18446744073709551616 := by have h := hd 120 _ (by decide) rfl; exact h.trans (IntKind.wrap_u64 _)
  obtain ⟨g120, v120⟩ := baddp _ _ _ 1 4294967294 (hb 119 (by decide)).1 (hb 114 (by decide)).1 v119 v114 (by decide) d120
  have d121 : ρ 121 = (ρ 102 + ρ 117 + 0) % 18446744073709551616 := by have h := hd 121 _ (by decide) rfl; exact h
  have d122 : ρ 122 = (ρ 102 + ρ 117 + 0) / 18446744073709551616 := by have h := hd 122 _ (by decide) rfl; exact h
  have p121 := addp _ _ _ _ _ d121 d122
  have v122 := addub _ _ _ _ _ (hb 102 (by decide)) (hb 117 (by decide)) (by decide) (hb 121 (by decide)) p121
  have d123 : ρ 123 = (ρ 104 + ρ 118 + ρ 122) % 18446744073709551616 := by have h := hd 123 _ (by decide) rfl; exact h
  have d124 : ρ 124 = (ρ 104 + ρ 118 + ρ 122) / 18446744073709551616 := by have h := hd 124 _ (by decide) rfl; exact h
  have p123 := addp _ _ _ _ _ d123 d124
  have v124 := addub _ _ _ _ _ (hb 104 (by decide)) (hb 118 (by decide)) v122 (hb 123 (by decide)) p123
  have d125 : ρ 125 = (ρ 106 + ρ 120 + ρ 124) % 18446744073709551616 := by have h := hd 125 _ (by decide) rfl; exact h
  have d126 : ρ 126 = (ρ 106 + ρ 120 + ρ 124) / 18446744073709551616 := by have h := hd 126 _ (by decide) rfl; exact h
  have p125 := addp _ _ _ _ _ d125 d126
  have v126 := addub _ _ _ _ _ (hb 106 (by decide)) (hb 120 (by decide)) v124 (hb 125 (by decide)) p125
  have d127 : ρ 127 = (ρ 108 + ρ 113 + ρ 126) % 18446744073709551616 := by have h := hd 127 _ (by decide) rfl; exact h
  have d128 : ρ 128 = (ρ 108 + ρ 113 + ρ 126) / 18446744073709551616 := by have h := hd 128 _ (by decide) rfl; exact h
  have p127 := addp _ _ _ _ _ d127 d128
  have v128 := addub _ _ _ _ _ (hb 108 (by decide)) (hb 113 (by decide)) v126 (hb 127 (by decide)) p127
  have d129 : ρ 129 = (ρ 110 + ρ 112 + ρ 128) % 18446744073709551616 := by have h := hd 129 _ (by decide) rfl; exact h
  have d130 : ρ 130 = (ρ 110 + ρ 112 + ρ 128) / 18446744073709551616 := by have h := hd 130 _ (by decide) rfl; exact h
  have p129 := addp _ _ _ _ _ d129 d130
  have v130 := addub _ _ _ _ _ (hb 110 (by decide)) (hb 112 (by decide)) v128 (hb 129 (by decide)) p129
  have d131 : ρ 131 = (ρ 130 + ρ 111) % 18446744073709551616 := by have h := hd 131 _ (by decide) rfl; exact h.trans (IntKind.wrap_u64 _)
  obtain ⟨g131, v131⟩ := baddp _ _ _ 1 1 (hb 130 (by decide)).1 (hb 111 (by decide)).1 v130 v111 (by decide) d131
  have d132 : ρ 132 = ρ 3 * ρ 7 / 18446744073709551616 := by have h := hd 132 _ (by decide) rfl; exact h
  have d133 : ρ 133 = ρ 3 * ρ 7 % 18446744073709551616 := by have h := hd 133 _ (by decide) rfl; exact h
  have p132 := mulp _ _ _ _ d132 d133
  have v132 := mulub2 _ _ _ _ (hb 3 (by decide)) (hb 7 (by decide)) (hb 133 (by decide)) p132
  have d134 : ρ 134 = ρ 3 * ρ 6 / 18446744073709551616 := by have h := hd 134 _ (by decide) rfl; exact h
  have d135 : ρ 135 = ρ 3 * ρ 6 % 18446744073709551616 := by have h := hd 135 _ (by decide) rfl; exact h
  have p134 := mulp _ _ _ _ d134 d135
  have v134 := mulub2 _ _ _ _ (hb 3 (by decide)) (hb 6 (by decide)) (hb 135 (by decide)) p134
  have d136 : ρ 136 = ρ 3 * ρ 5 / 18446744073709551616 := by have h := hd 136 _ (by decide) rfl; exact h
  have d137 : ρ 137 = ρ 3 * ρ 5 % 18446744073709551616 := by have h := hd 137 _ (by decide) rfl; exact h
  have p136 := mulp _ _ _ _ d136 d137
  have v136 := mulub2 _ _ _ _ (hb 3 (by decide)) (hb 5 (by decide)) (hb 137 (by decide)) p136
  have d138 : ρ 138 = ρ 3 * ρ 4 / 18446744073709551616 := by have h := hd 138 _ (by decide) rfl; exact h
  have d139 : ρ 139 = ρ 3 * ρ 4 % 18446744073709551616 := by have h := hd 139 _ (by decide) rfl; exact h
  have p138 := mulp _ _ _ _ d138 d139
  have v138 := mulub2 _ _ _ _ (hb 3 (by decide)) (hb 4 (by decide)) (hb 139 (by decide)) p138
  have d140 : ρ 140 = (ρ 138 + ρ 137 + 0) % 18446744073709551616 := by have h := hd 140 _ (by decide) rfl; exact h
  have d141 : ρ 141 = (ρ 138 + ρ 137 + 0) / 18446744073709551616 := by have h := hd 141 _ (by decide) rfl; exact h
  have p140 := addp _ _ _ _ _ d140 d141
  have v141 := addub _ _ _ _ _ (hb 138 (by decide)) (hb 137 (by decide)) (by decide) (hb 140 (by decide)) p140
  have d142 : ρ 142 = (ρ 136 + ρ 135 + ρ 141) % 18446744073709551616 := by have h := hd 142 _ (by decide) rfl; exact h
  have d143 : ρ 143 = (ρ 136 + ρ 135 + ρ 141) / 18446744073709551616 := by have h := hd 143 _ (by decide) rfl; exact h
  have p142 := addp _ _ _ _ _ d142 d143
  have v143 := addub _ _ _ _ _ (hb 136 (by decide)) (hb 135 (by decide)) v141 (hb 142 (by decide)) p142
  have d144 : ρ 144 = (ρ 134 + ρ 133 + ρ 143) % 18446744073709551616 := by have h := hd 144 _ (by decide) rfl; exact h
  have d145 : ρ 145 = (ρ 134 + ρ 133 + ρ 143) / 18446744073709551616 := by have h := hd 145 _ (by decide) rfl; exact h
  have p144 := addp _ _ _ _ _ d144 d145
  have v145 := addub _ _ _ _ _ (hb 134 (by decide)) (hb 133 (by decide)) v143 (hb 144 (by decide)) p144
  have d146 : ρ 146 = (ρ 145 + ρ 132) % 18446744073709551616 := by have h := hd 146 _ (by decide) rfl; exact h.trans (IntKind.wrap_u64 _)
  obtain ⟨g146, v146⟩ := baddp _ _ _ 1 18446744073709551614 (hb 145 (by decide)).1 (hb 132 (by decide)).1 v145 v132 (by decide) d146
  have d147 : ρ 147 = (ρ 123 + ρ 139 + 0) % 18446744073709551616 := by have h := hd 147 _ (by decide) rfl; exact h
  have d148 : ρ 148 = (ρ 123 + ρ 139 + 0) / 18446744073709551616 := by have h := hd 148 _ (by decide) rfl; exact h
  have p147 := addp _ _ _ _ _ d147 d148
  have v148 := addub _ _ _ _ _ (hb 123 (by decide)) (hb 139 (by decide)) (by decide) (hb 147 (by decide)) p147
  have d149 : ρ 149 = (ρ 125 + ρ 140 + ρ 148) % 18446744073709551616 := by have h := hd 149 _ (by decide) rfl; exact h
  have d150 : ρ 150 = (ρ 125 + ρ 140 + ρ 148) / 18446744073709551616 := by have h := hd 150 _ (by decide) rfl; exact h
  have p149 := addp _ _ _ _ _ d149 d150
  have v150 := addub _ _ _ _ _ (hb 125 (by decide)) (hb 140 (by decide)) v148 (hb 149 (by decide)) p149
  have d151 : ρ 151 = (ρ 127 + ρ 142 + ρ 150) % 18446744073709551616 := by have h := hd 151 _ (by decide) rfl; exact h
  have d152 : ρ 152 = (ρ 127 + ρ 142 + ρ 150) / 18446744073709551616 := by have h := hd 152 _ (by decide) rfl; exact h
  have p151 := addp _ _ _ _ _ d151 d152
  have v152 := addub _ _ _ _ _ (hb 127 (by decide)) (hb 142 (by decide)) v150 (hb 151 (by decide)) p151
  have d153 : ρ 153 = (ρ 129 + ρ 144 + ρ 152) % 18446744073709551616 := by have h := hd 153 _ (by decide) rfl; exact h
  have d154 : ρ 154 = (ρ 129 + ρ 144 + ρ 152) / 18446744073709551616 := by have h := hd 154 _ (by decide) rfl; exact h
  have p153 := addp _ _ _ _ _ d153 d154
  have v154 := addub _ _ _ _ _ (hb 129 (by decide)) (hb 144 (by decide)) v152 (hb 153 (by decide)) p153
  have d155 : ρ 155 = (ρ 131 + ρ 146 + ρ 154) % 18446744073709551616 := by have h := hd 155 _ (by decide) rfl; exact h
  have d156 : ρ 156 = (ρ 131 + ρ 146 + ρ 154) / 18446744073709551616 := by have h := hd 156 _ (by decide) rfl; exact h
  have p155 := addp _ _ _ _ _ d155 d156
  have v156 := addub _ _ _ _ _ (hb 131 (by decide)) (hb 146 (by decide)) v154 (hb 155 (by decide)) p155
  have d157 : ρ 157 = ρ 147 * 18446744069414584321 / 18446744073709551616 := by have h := hd 157 _ (by decide) rfl; exact h
  have d158 : ρ 158 = ρ 147 * 18446744069414584321 % 18446744073709551616 := by have h := hd 158 _ (by decide) rfl; exact h
  have p157 := mulp _ _ _ _ d157 d158
  have v157 := mulub _ 18446744069414584321 _ _ (hb 147 (by decide)) (hb 158 (by decide)) (by decide) p157
  have d159 : ρ 159 = ρ 147 * 4294967295 / 18446744073709551616 := by have h := hd 159 _ (by decide) rfl; exact h
  have d160 : ρ 160 = ρ 147 * 4294967295 % 18446744073709551616 := by have h := hd 160 _ (by decide) rfl; exact h
  have p159 := mulp _ _ _ _ d159 d160
  have v159 := mulub _ 4294967295 _ _ (hb 147 (by decide)) (hb 160 (by decide)) (by decide) p159
  have d161 : ρ 161 = ρ 147 * 18446744073709551615 / 18446744073709551616 := by have h := hd 161 _ (by decide) rfl; exact h
  have d162 : ρ 162 = ρ 147 * 18446744073709551615 % 18446744073709551616 := by have h := hd 162 _ (by decide) rfl; exact h
  have p161 := mulp _ _ _ _ d161 d162
  have v161 := mulub _ 18446744073709551615 _ _ (hb 147 (by decide)) (hb 162 (by decide)) (by decide) p161
  have d163 : ρ 163 = (ρ 161 + ρ 160 + 0) % 18446744073709551616 := by have h := hd 163 _ (by decide) rfl; exact h
  have d164 : ρ 164 = (ρ 161 + ρ 160 + 0) / 18446744073709551616 := by have h := hd 164 _ (by decide) rfl; exact h
  have p163 := addp _ _ _ _ _ d163 d164
  have v164 := addub _ _ _ _ _ (hb 161 (by decide)) (hb 160 (by decide)) (by decide) (hb 163 (by decide)) p163
  have d165 : ρ 165 = (ρ 164 + ρ 159) % 18446744073709551616 := by have h := hd 165 _ (by decide) rfl; exact h.trans (IntKind.wrap_u64 _)
  obtain ⟨g165, v165⟩ := baddp _ _ _ 1 4294967294 (hb 164 (by decide)).1 (hb 159 (by decide)).1 v164 v159 (by decide) d165
  have d166 : ρ 166 = (ρ 147 + ρ 162 + 0) % 18446744073709551616 := by have h := hd 166 _ (by decide) rfl; exact h
  have d167 : ρ 167 = (ρ 147 + ρ 162 + 0) / 18446744073709551616 := by have h := hd 167 _ (by decide) rfl; exact h
  have p166 := addp _ _ _ _ _ d166 d167
  have v167 := addub _ _ _ _ _ (hb 147 (by decide)) (hb 162 (by decide)) (by decide) (hb 166 (by decide)) p166
  have d168 : ρ 168 = (ρ 149 + ρ 163 + ρ 167) % 18446744073709551616 := by have h := hd 168 _ (by decide) rfl; exact h
  have d169 : ρ 169 = (ρ 149 + ρ 163 + ρ 167) / 18446744073709551616 := by have h := hd 169 _ (by decide) rfl; exact h
  have p168 := addp _ _ _ _ _ d168 d169
  have v169 := addub _ _ _ _ _ (hb 149 (by decide)) (hb 163 (by decide)) v167 (hb 168 (by decide)) p168
  have d170 : ρ 170 = (ρ 151 + ρ 165 + ρ 169) % 18446744073709551616 := by have h := hd 170 _ (by decide) rfl; exact h
  have d171 : ρ 171 = (ρ 151 + ρ 165 + ρ 169) / 18446744073709551616 := by have h := hd 171 _ (by decide) rfl; exact h
  have p170 := addp _ _ _ _ _ d170 d171
  have v171 := addub _ _ _ _ _ (hb 151 (by decide)) (hb 165 (by decide)) v169 (hb 170 (by decide)) p170
  have d172 : ρ 172 = (ρ 153 + ρ 158 + ρ 171) % 18446744073709551616 := by have h := hd 172 _ (by decide) rfl; exact h
  have d173 : ρ 173 = (ρ 153 + ρ 158 + ρ 171) / 18446744073709551616 := by have h := hd 173 _ (by decide) rfl; exact h
  have p172 := addp _ _ _ _ _ d172 d173
  have v173 := addub _ _ _ _ _ (hb 153 (by decide)) (hb 158 (by decide)) v171 (hb 172 (by decide)) p172
  have d174 : ρ 174 = (ρ 155 + ρ 157 + ρ 173) % 18446744073709551616 := by have h := hd 174 _ (by decide) rfl; exact h
  have d175 : ρ 175 = (ρ 155 + ρ 157 + ρ 173) / 18446744073709551616 := by have h := hd 175 _ (by decide) rfl; exact h
  have p174 := addp _ _ _ _ _ d174 d175
  have v175 := addub _ _ _ _ _ (hb 155 (by decide)) (hb 157 (by decide)) v173 (hb 174 (by decide)) p174
  have d176 : ρ 176 = (ρ 175 + ρ 156) % 18446744073709551616 := by have h := hd 176 _ (by decide) rfl; exact h.trans (IntKind.wrap_u64 _)
  obtain ⟨g176, v176⟩ := baddp _ _ _ 1 1 (hb 175 (by decide)).1 (hb 156 (by decide)).1 v175 v156 (by decide) d176
  have d177 : ρ 177 = (ρ 168 - 18446744073709551615 - 0) % 18446744073709551616 := by have h := hd 177 _ (by decide) rfl; exact h
  have d178 : ρ 178 = if ρ 168 < 18446744073709551615 + 0 then 1 else 0 := by have h := hd 178 _ (by decide) rfl; exact h
  have t178 := bitp _ _ _ _ d178
  have p177 := subp _ _ _ _ _ (hb 168 (by decide)) (by decide) (.inl rfl) d177 d178
  have d179 : ρ 179 = (ρ 170 - 4294967295 - ρ 178) % 18446744073709551616 := by have h := hd 179 _ (by decide) rfl; exact h
  have d180 : ρ 180 = if ρ 170 < 4294967295 + ρ 178 then 1 else 0 := by have h := hd 180 _ (by decide) rfl; exact h
  have t180 := bitp _ _ _ _ d180
  have p179 := subp _ _ _ _ _ (hb 170 (by decide)) (by decide) t178 d179 d180
  have d181 : ρ 181 = (ρ 172 - 0 - ρ 180) % 18446744073709551616 := by have h := hd 181 _ (by decide) rfl; exact h
  have d182 : ρ 182 = if ρ 172 < 0 + ρ 180 then 1 else 0 := by have h := hd 182 _ (by decide) rfl; exact h
  have t182 := bitp _ _ _ _ d182
  have p181 := subp _ _ _ _ _ (hb 172 (by decide)) (by decide) t180 d181 d182
  have d183 : ρ 183 = (ρ 174 - 18446744069414584321 - ρ 182) % 18446744073709551616 := by have h := hd 183 _ (by decide) rfl; exact h
  have d184 : ρ 184 = if ρ 174 < 18446744069414584321 + ρ 182 then 1 else 0 := by have h := hd 184 _ (by decide) rfl; exact h
  have t184 := bitp _ _ _ _ d184
  have p183 := subp _ _ _ _ _ (hb 174 (by decide)) (by decide) t182 d183 d184
  have d185 : ρ 185 = (ρ 176 - 0 - ρ 184) % 18446744073709551616 := by have h := hd 185 _ (by decide) rfl; exact h
  have d186 : ρ 186 = if ρ 176 < 0 + ρ 184 then 1 else 0 := by have h := hd 186 _ (by decide) rfl; exact h
  have t186 := bitp _ _ _ _ d186
  have p185 := subp _ _ _ _ _ (hb 176 (by decide)) (by decide) t184 d185 d186
  have d187 : ρ 187 = if ρ 186 = 0 then ρ 177 else ρ 168 := by have h := hd 187 _ (by decide) rfl; exact h
  have d188 : ρ 188 = if ρ 186 = 0 then ρ 179 else ρ 170 := by have h := hd 188 _ (by decide) rfl; exact h
  have d189 : ρ 189 = if ρ 186 = 0 then ρ 181 else ρ 172 := by have h := hd 189 _ (by decide) rfl; exact h
  have d190 : ρ 190 = if ρ 186 = 0 then ρ 183 else ρ 174 := by have h := hd 190 _ (by decide) rfl; exact h
  have u0 := mul_r0 (ρ 0 * ρ 7) (ρ 0 * ρ 6) (ρ 0 * ρ 5) (ρ 0 * ρ 4) (ρ 8) (ρ 9) (ρ 10) (ρ 11) (ρ 12) (ρ 13) (ρ 14) (ρ 15) (ρ 16) (ρ 17) (ρ 18) (ρ 19) (ρ 20) (ρ 21) (ρ 22) (ρ 23) (ρ 24) (ρ 25) (ρ 26) (ρ 27) (ρ 28) (ρ 29) (ρ 30) (ρ 31) (ρ 32) (ρ 33) (ρ 34) (ρ 35) (ρ 36) (ρ 37) (ρ 38) (ρ 39) (ρ 40) (ρ 41) (hb 32 (by decide)) p8 p10 p12 p14 p16 p18 p20 g22 p23 p25 p27 p29 g31 p32 p34 p36 p38 p40
  have u1 := mul_r1 (ρ 1 * ρ 7) (ρ 1 * ρ 6) (ρ 1 * ρ 5) (ρ 1 * ρ 4) (ρ 34) (ρ 36) (ρ 38) (ρ 40) (ρ 41) (ρ 42) (ρ 43) (ρ 44) (ρ 45) (ρ 46) (ρ 47) (ρ 48) (ρ 49) (ρ 50) (ρ 51) (ρ 52) (ρ 53) (ρ 54) (ρ 55) (ρ 56) (ρ 57) (ρ 58) (ρ 59) (ρ 60) (ρ 61) (ρ 62) (ρ 63) (ρ 64) (ρ 65) (ρ 66) (ρ 67) (ρ 68) (ρ 69) (ρ 70) (ρ 71) (ρ 72) (ρ 73) (ρ 74) (ρ 75) (ρ 76) (ρ 77) (ρ 78) (ρ 79) (ρ 80) (ρ 81) (ρ 82) (ρ 83) (ρ 84) (ρ 85) (ρ 86) (hb 76 (by decide)) p42 p44 p46 p48 p50 p52 p54 g56 p57 p59 p61 p63 p65 p67 p69 p71 p73 g75 p76 p78 p80 p82 p84 g86
  have u2 := mul_r2 (ρ 2 * ρ 7) (ρ 2 * ρ 6) (ρ 2 * ρ 5) (ρ 2 * ρ 4) (ρ 78) (ρ 80) (ρ 82) (ρ 84) (ρ 86) (ρ 87) (ρ 88) (ρ 89) (ρ 90) (ρ 91) (ρ 92) (ρ 93) (ρ 94) (ρ 95) (ρ 96) (ρ 97) (ρ 98) (ρ 99) (ρ 100) (ρ 101) (ρ 102) (ρ 103) (ρ 104) (ρ 105) (ρ 106) (ρ 107) (ρ 108) (ρ 109) (ρ 110) (ρ 111) (ρ 112) (ρ 113) (ρ 114) (ρ 115) (ρ 116) (ρ 117) (ρ 118) (ρ 119) (ρ 120) (ρ 121) (ρ 122) (ρ 123) (ρ 124) (ρ 125) (ρ 126) (ρ 127) (ρ 128) (ρ 129) (ρ 130) (ρ 131) (hb 121 (by decide)) p87 p89 p91 p93 p95 p97 p99 g101 p102 p104 p106 p108 p110 p112 p114 p116 p118 g120 p121 p123 p125 p127 p129 g131
  have u3 := mul_r3 (ρ 3 * ρ 7) (ρ 3 * ρ 6) (ρ 3 * ρ 5) (ρ 3 * ρ 4) (ρ 123) (ρ 125) (ρ 127) (ρ 129) (ρ 131) (ρ 132) (ρ 133) (ρ 134) (ρ 135) (ρ 136) (ρ 137) (ρ 138) (ρ 139) (ρ 140) (ρ 141) (ρ 142) (ρ 143) (ρ 144) (ρ 145) (ρ 146) (ρ 147) (ρ 148) (ρ 149) (ρ 150) (ρ 151) (ρ 152) (ρ 153) (ρ 154) (ρ 155) (ρ 156) (ρ 157) (ρ 158) (ρ 159) (ρ 160) (ρ 161) (ρ 162) (ρ 163) (ρ 164) (ρ 165) (ρ 166) (ρ 167) (ρ 168) (ρ 169) (ρ 170) (ρ 171) (ρ 172) (ρ 173) (ρ 174) (ρ 175) (ρ 176) (hb 166 (by decide)) p132 p134 p136 p138 p140 p142 p144 g146 p147 p149 p151 p153 p155 p157 p159 p161 p163 g165 p166 p168 p170 p172 p174 g176
  have us := mul_s (ρ 168) (ρ 170) (ρ 172) (ρ 174) (ρ 176) (ρ 177) (ρ 178) (ρ 179) (ρ 180) (ρ 181) (ρ 182) (ρ 183) (ρ 184) (ρ 185) (ρ 186) p177 p179 p181 p183 p185
  have T := mont_T _ _ _ _ _ _ _ _ _ _ _ _ u0 u1 u2 u3
  have hV' : 0 ≤ (((ρ 0 * ρ 4) + 18446744073709551616 * (ρ 0 * ρ 5) + 340282366920938463463374607431768211456 * (ρ 0 * ρ 6) + 6277101735386680763835789423207666416102355444464034512896 * (ρ 0 * ρ 7)) + 18446744073709551616 * ((ρ 1 * ρ 4) + 18446744073709551616 * (ρ 1 * ρ 5) + 340282366920938463463374607431768211456 * (ρ 1 * ρ 6) + 6277101735386680763835789423207666416102355444464034512896 * (ρ 1 * ρ 7)) + 340282366920938463463374607431768211456 * ((ρ 2 * ρ 4) + 18446744073709551616 * (ρ 2 * ρ 5) + 340282366920938463463374607431768211456 * (ρ 2 * ρ 6) + 6277101735386680763835789423207666416102355444464034512896 * (ρ 2 * ρ 7)) + 6277101735386680763835789423207666416102355444464034512896 * ((ρ 3 * ρ 4) + 18446744073709551616 * (ρ 3 * ρ 5) + 340282366920938463463374607431768211456 * (ρ 3 * ρ 6) + 6277101735386680763835789423207666416102355444464034512896 * (ρ 3 * ρ 7))) ∧ (((ρ 0 * ρ 4) + 18446744073709551616 * (ρ 0 * ρ 5) + 340282366920938463463374607431768211456 * (ρ 0 * ρ 6) + 6277101735386680763835789423207666416102355444464034512896 * (ρ 0 * ρ 7)) + 18446744073709551616 * ((ρ 1 * ρ 4) + 18446744073709551616 * (ρ 1 * ρ 5) + 340282366920938463463374607431768211456 * (ρ 1 * ρ 6) + 6277101735386680763835789423207666416102355444464034512896 * (ρ 1 * ρ 7)) + 340282366920938463463374607431768211456 * ((ρ 2 * ρ 4) + 18446744073709551616 * (ρ 2 * ρ 5) + 340282366920938463463374607431768211456 * (ρ 2 * ρ 6) + 6277101735386680763835789423207666416102355444464034512896 * (ρ 2 * ρ 7)) + 6277101735386680763835789423207666416102355444464034512896 * ((ρ 3 * ρ 4) + 18446744073709551616 * (ρ 3 * ρ 5) + 340282366920938463463374607431768211456 * (ρ 3 * ρ 6) + 6277101735386680763835789423207666416102355444464034512896 * (ρ 3 * ρ 7))) < 13407807926820848549984871491119855788235523322740973763876191939596368414310757992836696909921244801462672605190117106812798080191005388829112554944987136 := by
    have e : (((ρ 0 * ρ 4) + 18446744073709551616 * (ρ 0 * ρ 5) + 340282366920938463463374607431768211456 * (ρ 0 * ρ 6) + 6277101735386680763835789423207666416102355444464034512896 * (ρ 0 * ρ 7)) + 18446744073709551616 * ((ρ 1 * ρ 4) + 18446744073709551616 * (ρ 1 * ρ 5) + 340282366920938463463374607431768211456 * (ρ 1 * ρ 6) + 6277101735386680763835789423207666416102355444464034512896 * (ρ 1 * ρ 7)) + 340282366920938463463374607431768211456 * ((ρ 2 * ρ 4) + 18446744073709551616 * (ρ 2 * ρ 5) + 340282366920938463463374607431768211456 * (ρ 2 * ρ 6) + 6277101735386680763835789423207666416102355444464034512896 * (ρ 2 * ρ 7)) + 6277101735386680763835789423207666416102355444464034512896 * ((ρ 3 * ρ 4) + 18446744073709551616 * (ρ 3 * ρ 5) + 340282366920938463463374607431768211456 * (ρ 3 * ρ 6) + 6277101735386680763835789423207666416102355444464034512896 * (ρ 3 * ρ 7))) = (ρ 0 + 18446744073709551616 * ρ 1 + 340282366920938463463374607431768211456 * ρ 2 + 6277101735386680763835789423207666416102355444464034512896 * ρ 3) * (ρ 4 + 18446744073709551616 * ρ 5 + 340282366920938463463374607431768211456 * ρ 6 + 6277101735386680763835789423207666416102355444464034512896 * ρ 7) := by exact mul_V _ _ _ _ _ _ _ _
    rw [e]; exact hV
  have hM := four_bd _ _ _ _ (hb 15 (by decide)) (hb 57 (by decide)) (hb 102 (by decide)) (hb 147 (by decide))
  have hS := four_bd _ _ _ _ (hb 177 (by decide)) (hb 179 (by decide)) (hb 181 (by decide)) (hb 183 (by decide))
  have hL := four_bd _ _ _ _ (hb 168 (by decide)) (hb 170 (by decide)) (hb 172 (by decide)) (hb 174 (by decide))
  have hT := mont_lt _ _ _ hV'.1 hV'.2 hM.1 hM.2 T
  have eV : (((ρ 0 * ρ 4) + 18446744073709551616 * (ρ 0 * ρ 5) + 340282366920938463463374607431768211456 * (ρ 0 * ρ 6) + 6277101735386680763835789423207666416102355444464034512896 * (ρ 0 * ρ 7)) + 18446744073709551616 * ((ρ 1 * ρ 4) + 18446744073709551616 * (ρ 1 * ρ 5) + 340282366920938463463374607431768211456 * (ρ 1 * ρ 6) + 6277101735386680763835789423207666416102355444464034512896 * (ρ 1 * ρ 7)) + 340282366920938463463374607431768211456 * ((ρ 2 * ρ 4) + 18446744073709551616 * (ρ 2 * ρ 5) + 340282366920938463463374607431768211456 * (ρ 2 * ρ 6) + 6277101735386680763835789423207666416102355444464034512896 * (ρ 2 * ρ 7)) + 6277101735386680763835789423207666416102355444464034512896 * ((ρ 3 * ρ 4) + 18446744073709551616 * (ρ 3 * ρ 5) + 340282366920938463463374607431768211456 * (ρ 3 * ρ 6) + 6277101735386680763835789423207666416102355444464034512896 * (ρ 3 * ρ 7))) = (ρ 0 + 18446744073709551616 * ρ 1 + 340282366920938463463374607431768211456 * ρ 2 + 6277101735386680763835789423207666416102355444464034512896 * ρ 3) * (ρ 4 + 18446744073709551616 * ρ 5 + 340282366920938463463374607431768211456 * ρ 6 + 6277101735386680763835789423207666416102355444464034512896 * ρ 7) := by exact mul_V _ _ _ _ _ _ _ _
  have hc : ρ 184 ≤ 1 := by rcases t184 with g | g <;> rw [g] <;> decide
  rcases t186 with e | e
  · have z : ∀ a b : Int, (if ρ 186 = 0 then a else b) = a := fun a b => by rw [e]; rfl
    rw [z] at d187 d188 d189 d190
    have F := mont_f0 _ _ _ (ρ 176) _ _ _ hT rfl us.1 hS us.2 (hb 185 (by decide)) e
    rw [d187, d188, d189, d190]
    exact ⟨(ρ 15 + 18446744073709551616 * ρ 57 + 340282366920938463463374607431768211456 * ρ 102 + 6277101735386680763835789423207666416102355444464034512896 * ρ 147) - 115792089237316195423570985008687907853269984665640564039457584007913129639936, by rw [mont_sub _ _ _ _ F.1 T, eV], hS.1, F.2⟩
  · have z : ∀ a b : Int, (if ρ 186 = 0 then a else b) = b := fun a b => by rw [e]; rfl
    rw [z] at d187 d188 d189 d190
    have F := mont_f1 _ _ (ρ 176) _ _ _ _ hT rfl us.1 hS (hb 176 (by decide)).1 hc us.2 (hb 185 (by decide)) e
    rw [d187, d188, d189, d190]
    exact ⟨(ρ 15 + 18446744073709551616 * ρ 57 + 340282366920938463463374607431768211456 * ρ 102 + 6277101735386680763835789423207666416102355444464034512896 * ρ 147), by rw [F.1, T, eV], hL.1, F.2⟩
end Go.Proofs.Ytgdjmgcolipcnaa
